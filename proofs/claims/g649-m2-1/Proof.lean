import JvmDerived
import JvmDerived.Pilot.@@N@@Statement
import JvmDerived.Pilot.@@N@@Code
set_option linter.unusedVariables false
set_option linter.unusedSimpArgs false
namespace Jvm.Pilot.@@N@@
open Jvm Jvm.ClassFile Sem Op Lib Jvm.Free Jvm.Stand Jvm.LawKit Jvm.RoadKit Bundle Jvm.Pilot.@@N@@.Jvm.D

theorem d1_0 : decode prog_3_method_1_code 0 = .ok (.aload_n 0, 1) := by decide +kernel
theorem d1_1 : decode prog_3_method_1_code 1 = .ok (.invokespecial 1, 3) := by decide +kernel
theorem d1_4 : decode prog_3_method_1_code 4 = .ok (.aload_n 0, 1) := by decide +kernel
theorem d1_5 : decode prog_3_method_1_code 5 = .ok (.lload_n 1, 1) := by decide +kernel
theorem d1_6 : decode prog_3_method_1_code 6 = .ok (.putfield 7, 3) := by decide +kernel
theorem d1_9 : decode prog_3_method_1_code 9 = .ok (.aload_n 0, 1) := by decide +kernel
theorem d1_10 : decode prog_3_method_1_code 10 = .ok (.lload_n 3, 1) := by decide +kernel
theorem d1_11 : decode prog_3_method_1_code 11 = .ok (.putfield 13, 3) := by decide +kernel
theorem d1_14 : decode prog_3_method_1_code 14 = .ok (.aload_n 0, 1) := by decide +kernel
theorem d1_15 : decode prog_3_method_1_code 15 = .ok (.lload 5, 2) := by decide +kernel
theorem d1_17 : decode prog_3_method_1_code 17 = .ok (.putfield 16, 3) := by decide +kernel
theorem d1_20 : decode prog_3_method_1_code 20 = .ok (.aload_n 0, 1) := by decide +kernel
theorem d1_21 : decode prog_3_method_1_code 21 = .ok (.lload 7, 2) := by decide +kernel
theorem d1_23 : decode prog_3_method_1_code 23 = .ok (.putfield 19, 3) := by decide +kernel
theorem d1_26 : decode prog_3_method_1_code 26 = .ok (.return_, 1) := by decide +kernel
theorem pn_com_example_tidewheel_tidewheel_billing_Processed : plainName "com/example/tidewheel/tidewheel/billing/Processed" = true := by first | (simp [plainName, overriddenIn]; done) | decide +kernel
theorem ef_1_RJJJJ (m : MethodId) (x0 : Addr) (x1 : Int64) (x2 : Int64) (x3 : Int64) (x4 : Int64) : entryFrame m #[(.ref x0), (.long x1), (.long x2), (.long x3), (.long x4)] 9 = mkF m 0 #[.val (.ref x0), .val (.long x1), .second, .val (.long x2), .second, .val (.long x3), .second, .val (.long x4), .second] [] := by first | (simp [entryFrame, mkF, argsToLocals, Value.category]; done) | rfl
def Q1 (Z : State) (a_ : Addr) (q1 : Int64) (q2 : Int64) (q3 : Int64) (q4 : Int64) (h0 : Heap) (n0 : Nat) (v : Option Value) (h : Heap) (L : List Loc) : Prop := v = none ∧ Fr n0 L ∧ Keep h0 h [a_] ∧ Exa Z h a_ "com/example/tidewheel/tidewheel/billing/Processed" ∧ Fld Z h a_ "com/example/tidewheel/tidewheel/billing/Processed" "chargesAttempted" "J" (.long q1) ∧ Fld Z h a_ "com/example/tidewheel/tidewheel/billing/Processed" "chargesPaid" "J" (.long q2) ∧ Fld Z h a_ "com/example/tidewheel/tidewheel/billing/Processed" "chargesFailed" "J" (.long q3) ∧ Fld Z h a_ "com/example/tidewheel/tidewheel/billing/Processed" "events" "J" (.long q4)
set_option maxRecDepth 65536 in
set_option maxHeartbeats 40000000 in
theorem rm1 (l : Launch) (Z : State) (a0 : Array Value) (hw : ∀ d ∈ tables_1, d.before a0 Z = true) (ws : List Jvm.Cond) (a_ : Addr) (q1 : Int64) (q2 : Int64) (q3 : Int64) (q4 : Int64) (h0 : Heap) (n0 : Nat) (Z0 : n0 ≤ h0.size) (E_a : Exa Z h0 a_ "com/example/tidewheel/tidewheel/billing/Processed") (g_a_ : n0 ≤ a_) (F_chargesAttempted : Fld Z h0 a_ "com/example/tidewheel/tidewheel/billing/Processed" "chargesAttempted" "J" (.long (0 : Int64))) (F_chargesPaid : Fld Z h0 a_ "com/example/tidewheel/tidewheel/billing/Processed" "chargesPaid" "J" (.long (0 : Int64))) (F_chargesFailed : Fld Z h0 a_ "com/example/tidewheel/tidewheel/billing/Processed" "chargesFailed" "J" (.long (0 : Int64))) (F_events : Fld Z h0 a_ "com/example/tidewheel/tidewheel/billing/Processed" "events" "J" (.long (0 : Int64))) :
    MetFree l (⟨"com/example/tidewheel/tidewheel/billing/Processed", "<init>", "(JJJJ)V"⟩ : MethodName) (head1 (Jvm.Cond.code (⟨"com/example/tidewheel/tidewheel/billing/Processed", "<init>", "(JJJJ)V"⟩ : MethodName) prog_3_method_1_code 9 none :: ws) ({ frames := 1, cells := 0, slots := 0, locals := 12 } : Room)) (fun a U => a = #[(.ref a_), (.long q1), (.long q2), (.long q3), (.long q4)] ∧ Z.Warmed39 U.vm ∧ U.heap = h0) (fun _ _ _ _ _ => True) (fun _ U o U' => ∃ v L, o = .returned v ∧ Q1 Z a_ q1 q2 q3 q4 h0 n0 v U'.heap L ∧ FrameEnd U o U' L ({ frames := 1, cells := 0, slots := 0, locals := 12 } : Room).cells ({ frames := 1, cells := 0, slots := 0, locals := 12 } : Room).slots) := by
  refine MetFree.of_bodySF (plainFor_of_name pn_com_example_tidewheel_tidewheel_billing_Processed) hisR ?_
  intro p e s m args below meth c s₁ Bd hml0 hP hK
  obtain ⟨rfl, hZ, hh⟩ := hP
  have hx := Bd.exec
  have hby := Bd.bytes
  have hml : c.maxLocals = 9 := hml0
  have hown : s.vm.findClass "com/example/tidewheel/tidewheel/billing/Processed" = some m.cls := findClass_of_methodNamed Bd.named
  have hnm := (name_of_methodNamed Bd.named Bd.method).1
  have X0 : Stand p l e ({ frames := 1, cells := 0, slots := 0, locals := 12 } : Room) s m #[(.ref a_), (.long q1), (.long q2), (.long q3), (.long q4)] below meth c s₁ [] 0 0 := Stand.of_body Bd
  have e0 : s₁.heap = h0 := by rw [← hh, Bd.state]; rfl
  have N0 := Fr.nil n0
  have KP0 : Keep h0 h0 [a_] := Keep.refl h0 _
  have pre0 : ∀ t, Steps p.tables e below (s₁.setTop (mkF m 0 #[.val (.ref a_), .val (.long q1), .second, .val (.long q2), .second, .val (.long q3), .second, .val (.long q4), .second] [])) t → Steps p.tables e below (s₁.setTop (entryFrame m #[(.ref a_), (.long q1), (.long q2), (.long q3), (.long q4)] 9)) t := fun t k => castTop (ef_1_RJJJJ m a_ q1 q2 q3 q4) k
  obtain ⟨T1, X1, e1, st1⟩ := initO X0 hx hZ hown (hw _ (List.mem_of_getElem? (i := 7) rfl)) (hw _ (List.mem_of_getElem? (i := 8) rfl)) (hw _ (List.mem_of_getElem? (i := 9) rfl)) e0 (g := (mkF m 1 #[.val (.ref a_), .val (.long q1), .second, .val (.long q2), .second, .val (.long q3), .second, .val (.long q4), .second] [(.ref a_)])) rfl (by rw [hml]; rfl) rfl (hb hby d1_1) (by decide) (W := 0) (by show 2 * 0 + _ ≤ _; exact Nat.le_of_eq rfl) (by decide)
  obtain ⟨T2, h2, X2, e2, W2, st2⟩ := putF X1 hx hZ hown (host := "") (Or.inl (hw _ (List.mem_of_getElem? (i := 10) rfl))) Via.refl e1 F_chargesAttempted E_a (Or.inr ⟨(hw _ (List.mem_of_getElem? (i := 11) rfl)), rfl, hnm⟩) (hw _ (List.mem_of_getElem? (i := 2) rfl)) (ty := .long) (by decide) rfl rfl (g := (mkF m 6 #[.val (.ref a_), .val (.long q1), .second, .val (.long q2), .second, .val (.long q3), .second, .val (.long q4), .second] [(.long q1), (.ref a_)])) rfl rfl (hb hby d1_6)
  have Fw2 := F_chargesAttempted.same W2
  have KP2 : Keep h0 h2 [a_] := KP0.wr W2 (Or.inl (List.mem_of_getElem? (i := 0) rfl))
  have Z2 : n0 ≤ h2.size := Nat.le_trans Z0 (Nat.le_of_eq W2.size.symm)
  have N2 := Fr.snoc X2 N0 g_a_
  have E_a__3 : Exa Z h2 a_ "com/example/tidewheel/tidewheel/billing/Processed" := E_a.wr W2
  have F_a__chargesPaid_4 : Fld Z h2 a_ "com/example/tidewheel/tidewheel/billing/Processed" "chargesPaid" "J" (.long (0 : Int64)) := F_chargesPaid.other W2 (Or.inr (slot_ne (Or.inr (hw _ (List.mem_of_getElem? (i := 13) rfl))) (Or.inr (hw _ (List.mem_of_getElem? (i := 11) rfl))) (by decide) (t := .long) (t' := .long) (by decide) (by decide)))
  have F_a__chargesFailed_5 : Fld Z h2 a_ "com/example/tidewheel/tidewheel/billing/Processed" "chargesFailed" "J" (.long (0 : Int64)) := F_chargesFailed.other W2 (Or.inr (slot_ne (Or.inr (hw _ (List.mem_of_getElem? (i := 15) rfl))) (Or.inr (hw _ (List.mem_of_getElem? (i := 11) rfl))) (by decide) (t := .long) (t' := .long) (by decide) (by decide)))
  have F_a__events_6 : Fld Z h2 a_ "com/example/tidewheel/tidewheel/billing/Processed" "events" "J" (.long (0 : Int64)) := F_events.other W2 (Or.inr (slot_ne (Or.inr (hw _ (List.mem_of_getElem? (i := 17) rfl))) (Or.inr (hw _ (List.mem_of_getElem? (i := 11) rfl))) (by decide) (t := .long) (t' := .long) (by decide) (by decide)))
  obtain ⟨T7, h7, X7, e7, W7, st7⟩ := putF X2 hx hZ hown (host := "") (Or.inl (hw _ (List.mem_of_getElem? (i := 12) rfl))) Via.refl e2 F_a__chargesPaid_4 E_a__3 (Or.inr ⟨(hw _ (List.mem_of_getElem? (i := 13) rfl)), rfl, hnm⟩) (hw _ (List.mem_of_getElem? (i := 2) rfl)) (ty := .long) (by decide) rfl rfl (g := (mkF m 11 #[.val (.ref a_), .val (.long q1), .second, .val (.long q2), .second, .val (.long q3), .second, .val (.long q4), .second] [(.long q2), (.ref a_)])) rfl rfl (hb hby d1_11)
  have Fw7 := F_a__chargesPaid_4.same W7
  have KP7 : Keep h0 h7 [a_] := KP2.wr W7 (Or.inl (List.mem_of_getElem? (i := 0) rfl))
  have Z7 : n0 ≤ h7.size := Nat.le_trans Z2 (Nat.le_of_eq W7.size.symm)
  have N7 := Fr.snoc X7 N2 g_a_
  have E_a__8 : Exa Z h7 a_ "com/example/tidewheel/tidewheel/billing/Processed" := E_a__3.wr W7
  have F_a__chargesFailed_9 : Fld Z h7 a_ "com/example/tidewheel/tidewheel/billing/Processed" "chargesFailed" "J" (.long (0 : Int64)) := F_a__chargesFailed_5.other W7 (Or.inr (slot_ne (Or.inr (hw _ (List.mem_of_getElem? (i := 15) rfl))) (Or.inr (hw _ (List.mem_of_getElem? (i := 13) rfl))) (by decide) (t := .long) (t' := .long) (by decide) (by decide)))
  have F_a__events_10 : Fld Z h7 a_ "com/example/tidewheel/tidewheel/billing/Processed" "events" "J" (.long (0 : Int64)) := F_a__events_6.other W7 (Or.inr (slot_ne (Or.inr (hw _ (List.mem_of_getElem? (i := 17) rfl))) (Or.inr (hw _ (List.mem_of_getElem? (i := 13) rfl))) (by decide) (t := .long) (t' := .long) (by decide) (by decide)))
  have F_a__chargesAttempted_11 : Fld Z h7 a_ "com/example/tidewheel/tidewheel/billing/Processed" "chargesAttempted" "J" (.long q1) := Fw2.other W7 (Or.inr (slot_ne (Or.inr (hw _ (List.mem_of_getElem? (i := 11) rfl))) (Or.inr (hw _ (List.mem_of_getElem? (i := 13) rfl))) (by decide) (t := .long) (t' := .long) (by decide) (by decide)))
  obtain ⟨T12, h12, X12, e12, W12, st12⟩ := putF X7 hx hZ hown (host := "") (Or.inl (hw _ (List.mem_of_getElem? (i := 14) rfl))) Via.refl e7 F_a__chargesFailed_9 E_a__8 (Or.inr ⟨(hw _ (List.mem_of_getElem? (i := 15) rfl)), rfl, hnm⟩) (hw _ (List.mem_of_getElem? (i := 2) rfl)) (ty := .long) (by decide) rfl rfl (g := (mkF m 17 #[.val (.ref a_), .val (.long q1), .second, .val (.long q2), .second, .val (.long q3), .second, .val (.long q4), .second] [(.long q3), (.ref a_)])) rfl rfl (hb hby d1_17)
  have Fw12 := F_a__chargesFailed_9.same W12
  have KP12 : Keep h0 h12 [a_] := KP7.wr W12 (Or.inl (List.mem_of_getElem? (i := 0) rfl))
  have Z12 : n0 ≤ h12.size := Nat.le_trans Z7 (Nat.le_of_eq W12.size.symm)
  have N12 := Fr.snoc X12 N7 g_a_
  have E_a__13 : Exa Z h12 a_ "com/example/tidewheel/tidewheel/billing/Processed" := E_a__8.wr W12
  have F_a__events_14 : Fld Z h12 a_ "com/example/tidewheel/tidewheel/billing/Processed" "events" "J" (.long (0 : Int64)) := F_a__events_10.other W12 (Or.inr (slot_ne (Or.inr (hw _ (List.mem_of_getElem? (i := 17) rfl))) (Or.inr (hw _ (List.mem_of_getElem? (i := 15) rfl))) (by decide) (t := .long) (t' := .long) (by decide) (by decide)))
  have F_a__chargesAttempted_15 : Fld Z h12 a_ "com/example/tidewheel/tidewheel/billing/Processed" "chargesAttempted" "J" (.long q1) := F_a__chargesAttempted_11.other W12 (Or.inr (slot_ne (Or.inr (hw _ (List.mem_of_getElem? (i := 11) rfl))) (Or.inr (hw _ (List.mem_of_getElem? (i := 15) rfl))) (by decide) (t := .long) (t' := .long) (by decide) (by decide)))
  have F_a__chargesPaid_16 : Fld Z h12 a_ "com/example/tidewheel/tidewheel/billing/Processed" "chargesPaid" "J" (.long q2) := Fw7.other W12 (Or.inr (slot_ne (Or.inr (hw _ (List.mem_of_getElem? (i := 13) rfl))) (Or.inr (hw _ (List.mem_of_getElem? (i := 15) rfl))) (by decide) (t := .long) (t' := .long) (by decide) (by decide)))
  obtain ⟨T17, h17, X17, e17, W17, st17⟩ := putF X12 hx hZ hown (host := "") (Or.inl (hw _ (List.mem_of_getElem? (i := 16) rfl))) Via.refl e12 F_a__events_14 E_a__13 (Or.inr ⟨(hw _ (List.mem_of_getElem? (i := 17) rfl)), rfl, hnm⟩) (hw _ (List.mem_of_getElem? (i := 2) rfl)) (ty := .long) (by decide) rfl rfl (g := (mkF m 23 #[.val (.ref a_), .val (.long q1), .second, .val (.long q2), .second, .val (.long q3), .second, .val (.long q4), .second] [(.long q4), (.ref a_)])) rfl rfl (hb hby d1_23)
  have Fw17 := F_a__events_14.same W17
  have KP17 : Keep h0 h17 [a_] := KP12.wr W17 (Or.inl (List.mem_of_getElem? (i := 0) rfl))
  have Z17 : n0 ≤ h17.size := Nat.le_trans Z12 (Nat.le_of_eq W17.size.symm)
  have N17 := Fr.snoc X17 N12 g_a_
  have E_a__18 : Exa Z h17 a_ "com/example/tidewheel/tidewheel/billing/Processed" := E_a__13.wr W17
  have F_a__chargesAttempted_19 : Fld Z h17 a_ "com/example/tidewheel/tidewheel/billing/Processed" "chargesAttempted" "J" (.long q1) := F_a__chargesAttempted_15.other W17 (Or.inr (slot_ne (Or.inr (hw _ (List.mem_of_getElem? (i := 11) rfl))) (Or.inr (hw _ (List.mem_of_getElem? (i := 17) rfl))) (by decide) (t := .long) (t' := .long) (by decide) (by decide)))
  have F_a__chargesPaid_20 : Fld Z h17 a_ "com/example/tidewheel/tidewheel/billing/Processed" "chargesPaid" "J" (.long q2) := F_a__chargesPaid_16.other W17 (Or.inr (slot_ne (Or.inr (hw _ (List.mem_of_getElem? (i := 13) rfl))) (Or.inr (hw _ (List.mem_of_getElem? (i := 17) rfl))) (by decide) (t := .long) (t' := .long) (by decide) (by decide)))
  have F_a__chargesFailed_21 : Fld Z h17 a_ "com/example/tidewheel/tidewheel/billing/Processed" "chargesFailed" "J" (.long q3) := Fw12.other W17 (Or.inr (slot_ne (Or.inr (hw _ (List.mem_of_getElem? (i := 15) rfl))) (Or.inr (hw _ (List.mem_of_getElem? (i := 17) rfl))) (by decide) (t := .long) (t' := .long) (by decide) (by decide)))
  have pre22 : ∀ t, Steps p.tables e below (T17.setTop (mkF m 26 #[.val (.ref a_), .val (.long q1), .second, .val (.long q2), .second, .val (.long q3), .second, .val (.long q4), .second] [])) t → Steps p.tables e below (s₁.setTop (entryFrame m #[(.ref a_), (.long q1), (.long q2), (.long q3), (.long q4)] 9)) t := by
    intro t kk
    refine pre0 t ?_
    show Steps p.tables e below (s₁.setTop (mkF m 0 #[.val (.ref a_), .val (.long q1), .second, .val (.long q2), .second, .val (.long q3), .second, .val (.long q4), .second] [])) _
    refine XS.aloadN X0.here hx rfl (hb hby d1_0) rfl rfl ?_
    show Steps p.tables e below (s₁.setTop (mkF m 1 #[.val (.ref a_), .val (.long q1), .second, .val (.long q2), .second, .val (.long q3), .second, .val (.long q4), .second] [(.ref a_)])) _
    refine st1 _ ?_
    show Steps p.tables e below (T1.setTop (mkF m 4 #[.val (.ref a_), .val (.long q1), .second, .val (.long q2), .second, .val (.long q3), .second, .val (.long q4), .second] [])) _
    refine XS.aloadN X1.here hx rfl (hb hby d1_4) rfl rfl ?_
    show Steps p.tables e below (T1.setTop (mkF m 5 #[.val (.ref a_), .val (.long q1), .second, .val (.long q2), .second, .val (.long q3), .second, .val (.long q4), .second] [(.ref a_)])) _
    refine XS.lloadN X1.here hx rfl (hb hby d1_5) rfl ?_
    show Steps p.tables e below (T1.setTop (mkF m 6 #[.val (.ref a_), .val (.long q1), .second, .val (.long q2), .second, .val (.long q3), .second, .val (.long q4), .second] [(.long q1), (.ref a_)])) _
    refine st2 _ ?_
    show Steps p.tables e below (T2.setTop (mkF m 9 #[.val (.ref a_), .val (.long q1), .second, .val (.long q2), .second, .val (.long q3), .second, .val (.long q4), .second] [])) _
    refine XS.aloadN X2.here hx rfl (hb hby d1_9) rfl rfl ?_
    show Steps p.tables e below (T2.setTop (mkF m 10 #[.val (.ref a_), .val (.long q1), .second, .val (.long q2), .second, .val (.long q3), .second, .val (.long q4), .second] [(.ref a_)])) _
    refine XS.lloadN X2.here hx rfl (hb hby d1_10) rfl ?_
    show Steps p.tables e below (T2.setTop (mkF m 11 #[.val (.ref a_), .val (.long q1), .second, .val (.long q2), .second, .val (.long q3), .second, .val (.long q4), .second] [(.long q2), (.ref a_)])) _
    refine st7 _ ?_
    show Steps p.tables e below (T7.setTop (mkF m 14 #[.val (.ref a_), .val (.long q1), .second, .val (.long q2), .second, .val (.long q3), .second, .val (.long q4), .second] [])) _
    refine XS.aloadN X7.here hx rfl (hb hby d1_14) rfl rfl ?_
    show Steps p.tables e below (T7.setTop (mkF m 15 #[.val (.ref a_), .val (.long q1), .second, .val (.long q2), .second, .val (.long q3), .second, .val (.long q4), .second] [(.ref a_)])) _
    refine XS.lload X7.here hx rfl (hb hby d1_15) rfl ?_
    show Steps p.tables e below (T7.setTop (mkF m 17 #[.val (.ref a_), .val (.long q1), .second, .val (.long q2), .second, .val (.long q3), .second, .val (.long q4), .second] [(.long q3), (.ref a_)])) _
    refine st12 _ ?_
    show Steps p.tables e below (T12.setTop (mkF m 20 #[.val (.ref a_), .val (.long q1), .second, .val (.long q2), .second, .val (.long q3), .second, .val (.long q4), .second] [])) _
    refine XS.aloadN X12.here hx rfl (hb hby d1_20) rfl rfl ?_
    show Steps p.tables e below (T12.setTop (mkF m 21 #[.val (.ref a_), .val (.long q1), .second, .val (.long q2), .second, .val (.long q3), .second, .val (.long q4), .second] [(.ref a_)])) _
    refine XS.lload X12.here hx rfl (hb hby d1_21) rfl ?_
    show Steps p.tables e below (T12.setTop (mkF m 23 #[.val (.ref a_), .val (.long q1), .second, .val (.long q2), .second, .val (.long q3), .second, .val (.long q4), .second] [(.long q4), (.ref a_)])) _
    refine st17 _ ?_
    exact kk
  obtain ⟨fs, hr, hrun, hended, hW, hsame⟩ := X17.leave (v := none) (fun _ => rfl)
  refine ⟨_, _, pre22 _ ?_, hrun, hended, _, _, rfl, ?_, ⟨_, rfl⟩, hW, hsame.mono (by decide) (by decide)⟩
  · show Steps p.tables e below (T17.setTop (mkF m 26 #[.val (.ref a_), .val (.long q1), .second, .val (.long q2), .second, .val (.long q3), .second, .val (.long q4), .second] [])) _
    exact X17.returnOut hx Bd.returns (hb hby d1_26) hr
  · show Q1 Z a_ q1 q2 q3 q4 h0 n0 _ T17.heap _
    rw [e17]
    exact ⟨rfl, N17, KP17, E_a__18, F_a__chargesAttempted_19, F_a__chargesPaid_20, F_a__chargesFailed_21, Fw17⟩
theorem d4_0 : decode prog_3_method_3_code 0 = .ok (.aload_n 0, 1) := by decide +kernel
theorem d4_1 : decode prog_3_method_3_code 1 = .ok (.getfield 7, 3) := by decide +kernel
theorem d4_4 : decode prog_3_method_3_code 4 = .ok (.lreturn, 1) := by decide +kernel
theorem ef_4_R (m : MethodId) (x0 : Addr) : entryFrame m #[(.ref x0)] 1 = mkF m 0 #[.val (.ref x0)] [] := by first | (simp [entryFrame, mkF, argsToLocals, Value.category]; done) | rfl
def Q4 (Z : State) (a_ : Addr) (w_ : Int64) (h0 : Heap) (n0 : Nat) (v : Option Value) (h : Heap) (L : List Loc) : Prop := v = some (.long w_) ∧ Fr n0 L ∧ h = h0
set_option maxRecDepth 65536 in
set_option maxHeartbeats 40000000 in
theorem rm4 (l : Launch) (Z : State) (a0 : Array Value) (hw : ∀ d ∈ tables_1, d.before a0 Z = true) (ws : List Jvm.Cond) (a_ : Addr) (w_ : Int64) (h0 : Heap) (n0 : Nat) (Z0 : n0 ≤ h0.size) (F_ : Fld Z h0 a_ "com/example/tidewheel/tidewheel/billing/Processed" "chargesAttempted" "J" (.long w_)) :
    MetFree l (⟨"com/example/tidewheel/tidewheel/billing/Processed", "chargesAttempted", "()J"⟩ : MethodName) (head1 (Jvm.Cond.code (⟨"com/example/tidewheel/tidewheel/billing/Processed", "chargesAttempted", "()J"⟩ : MethodName) prog_3_method_3_code 1 (some .long) :: ws) ({ frames := 0, cells := 0, slots := 0, locals := 0 } : Room)) (fun a U => a = #[(.ref a_)] ∧ Z.Warmed39 U.vm ∧ U.heap = h0) (fun _ _ _ _ _ => True) (fun _ U o U' => ∃ v L, o = .returned v ∧ Q4 Z a_ w_ h0 n0 v U'.heap L ∧ FrameEnd U o U' L ({ frames := 0, cells := 0, slots := 0, locals := 0 } : Room).cells ({ frames := 0, cells := 0, slots := 0, locals := 0 } : Room).slots) := by
  refine MetFree.of_bodySF (plainFor_of_name pn_com_example_tidewheel_tidewheel_billing_Processed) hisR ?_
  intro p e s m args below meth c s₁ Bd hml0 hP hK
  obtain ⟨rfl, hZ, hh⟩ := hP
  have hx := Bd.exec
  have hby := Bd.bytes
  have hml : c.maxLocals = 1 := hml0
  have hown : s.vm.findClass "com/example/tidewheel/tidewheel/billing/Processed" = some m.cls := findClass_of_methodNamed Bd.named
  have hnm := (name_of_methodNamed Bd.named Bd.method).1
  have X0 : Stand p l e ({ frames := 0, cells := 0, slots := 0, locals := 0 } : Room) s m #[(.ref a_)] below meth c s₁ [] 0 0 := Stand.of_body Bd
  have e0 : s₁.heap = h0 := by rw [← hh, Bd.state]; rfl
  have N0 := Fr.nil n0
  have KP0 : Keep h0 h0 [] := Keep.refl h0 _
  have pre0 : ∀ t, Steps p.tables e below (s₁.setTop (mkF m 0 #[.val (.ref a_)] [])) t → Steps p.tables e below (s₁.setTop (entryFrame m #[(.ref a_)] 1)) t := fun t k => castTop (ef_4_R m a_) k
  obtain ⟨T23, X23, e23, st23⟩ := getF X0 hx hZ hown (host := "") (Or.inl (hw _ (List.mem_of_getElem? (i := 10) rfl))) Via.refl e0 F_ (g := (mkF m 1 #[.val (.ref a_)] [(.ref a_)])) rfl rfl (hb hby d4_1)
  have pre24 : ∀ t, Steps p.tables e below (T23.setTop (mkF m 4 #[.val (.ref a_)] [(.long w_)])) t → Steps p.tables e below (s₁.setTop (entryFrame m #[(.ref a_)] 1)) t := by
    intro t kk
    refine pre0 t ?_
    show Steps p.tables e below (s₁.setTop (mkF m 0 #[.val (.ref a_)] [])) _
    refine XS.aloadN X0.here hx rfl (hb hby d4_0) rfl rfl ?_
    show Steps p.tables e below (s₁.setTop (mkF m 1 #[.val (.ref a_)] [(.ref a_)])) _
    refine st23 _ ?_
    exact kk
  obtain ⟨fs, hr, hrun, hended, hW, hsame⟩ := X23.leave (v := some (.long w_)) (fun h => by rw [Bd.returns] at h; cases h)
  refine ⟨_, _, pre24 _ ?_, hrun, hended, _, _, rfl, ?_, ⟨_, rfl⟩, hW, hsame.mono (by decide) (by decide)⟩
  · show Steps p.tables e below (T23.setTop (mkF m 4 #[.val (.ref a_)] [(.long w_)])) _
    exact retOut X23 hx Bd.returns rfl (Or.inr (Or.inl ⟨rfl, rfl, _, rfl⟩)) (hb hby d4_4) hr
  · show Q4 Z a_ w_ h0 n0 _ T23.heap _
    rw [e23]
    exact ⟨rfl, N0, rfl⟩
theorem d5_0 : decode prog_3_method_4_code 0 = .ok (.aload_n 0, 1) := by decide +kernel
theorem d5_1 : decode prog_3_method_4_code 1 = .ok (.getfield 13, 3) := by decide +kernel
theorem d5_4 : decode prog_3_method_4_code 4 = .ok (.lreturn, 1) := by decide +kernel
theorem ef_5_R (m : MethodId) (x0 : Addr) : entryFrame m #[(.ref x0)] 1 = mkF m 0 #[.val (.ref x0)] [] := by first | (simp [entryFrame, mkF, argsToLocals, Value.category]; done) | rfl
def Q5 (Z : State) (a_ : Addr) (w_ : Int64) (h0 : Heap) (n0 : Nat) (v : Option Value) (h : Heap) (L : List Loc) : Prop := v = some (.long w_) ∧ Fr n0 L ∧ h = h0
set_option maxRecDepth 65536 in
set_option maxHeartbeats 40000000 in
theorem rm5 (l : Launch) (Z : State) (a0 : Array Value) (hw : ∀ d ∈ tables_1, d.before a0 Z = true) (ws : List Jvm.Cond) (a_ : Addr) (w_ : Int64) (h0 : Heap) (n0 : Nat) (Z0 : n0 ≤ h0.size) (F_ : Fld Z h0 a_ "com/example/tidewheel/tidewheel/billing/Processed" "chargesPaid" "J" (.long w_)) :
    MetFree l (⟨"com/example/tidewheel/tidewheel/billing/Processed", "chargesPaid", "()J"⟩ : MethodName) (head1 (Jvm.Cond.code (⟨"com/example/tidewheel/tidewheel/billing/Processed", "chargesPaid", "()J"⟩ : MethodName) prog_3_method_4_code 1 (some .long) :: ws) ({ frames := 0, cells := 0, slots := 0, locals := 0 } : Room)) (fun a U => a = #[(.ref a_)] ∧ Z.Warmed39 U.vm ∧ U.heap = h0) (fun _ _ _ _ _ => True) (fun _ U o U' => ∃ v L, o = .returned v ∧ Q5 Z a_ w_ h0 n0 v U'.heap L ∧ FrameEnd U o U' L ({ frames := 0, cells := 0, slots := 0, locals := 0 } : Room).cells ({ frames := 0, cells := 0, slots := 0, locals := 0 } : Room).slots) := by
  refine MetFree.of_bodySF (plainFor_of_name pn_com_example_tidewheel_tidewheel_billing_Processed) hisR ?_
  intro p e s m args below meth c s₁ Bd hml0 hP hK
  obtain ⟨rfl, hZ, hh⟩ := hP
  have hx := Bd.exec
  have hby := Bd.bytes
  have hml : c.maxLocals = 1 := hml0
  have hown : s.vm.findClass "com/example/tidewheel/tidewheel/billing/Processed" = some m.cls := findClass_of_methodNamed Bd.named
  have hnm := (name_of_methodNamed Bd.named Bd.method).1
  have X0 : Stand p l e ({ frames := 0, cells := 0, slots := 0, locals := 0 } : Room) s m #[(.ref a_)] below meth c s₁ [] 0 0 := Stand.of_body Bd
  have e0 : s₁.heap = h0 := by rw [← hh, Bd.state]; rfl
  have N0 := Fr.nil n0
  have KP0 : Keep h0 h0 [] := Keep.refl h0 _
  have pre0 : ∀ t, Steps p.tables e below (s₁.setTop (mkF m 0 #[.val (.ref a_)] [])) t → Steps p.tables e below (s₁.setTop (entryFrame m #[(.ref a_)] 1)) t := fun t k => castTop (ef_5_R m a_) k
  obtain ⟨T25, X25, e25, st25⟩ := getF X0 hx hZ hown (host := "") (Or.inl (hw _ (List.mem_of_getElem? (i := 12) rfl))) Via.refl e0 F_ (g := (mkF m 1 #[.val (.ref a_)] [(.ref a_)])) rfl rfl (hb hby d5_1)
  have pre26 : ∀ t, Steps p.tables e below (T25.setTop (mkF m 4 #[.val (.ref a_)] [(.long w_)])) t → Steps p.tables e below (s₁.setTop (entryFrame m #[(.ref a_)] 1)) t := by
    intro t kk
    refine pre0 t ?_
    show Steps p.tables e below (s₁.setTop (mkF m 0 #[.val (.ref a_)] [])) _
    refine XS.aloadN X0.here hx rfl (hb hby d5_0) rfl rfl ?_
    show Steps p.tables e below (s₁.setTop (mkF m 1 #[.val (.ref a_)] [(.ref a_)])) _
    refine st25 _ ?_
    exact kk
  obtain ⟨fs, hr, hrun, hended, hW, hsame⟩ := X25.leave (v := some (.long w_)) (fun h => by rw [Bd.returns] at h; cases h)
  refine ⟨_, _, pre26 _ ?_, hrun, hended, _, _, rfl, ?_, ⟨_, rfl⟩, hW, hsame.mono (by decide) (by decide)⟩
  · show Steps p.tables e below (T25.setTop (mkF m 4 #[.val (.ref a_)] [(.long w_)])) _
    exact retOut X25 hx Bd.returns rfl (Or.inr (Or.inl ⟨rfl, rfl, _, rfl⟩)) (hb hby d5_4) hr
  · show Q5 Z a_ w_ h0 n0 _ T25.heap _
    rw [e25]
    exact ⟨rfl, N0, rfl⟩
theorem d6_0 : decode prog_3_method_5_code 0 = .ok (.aload_n 0, 1) := by decide +kernel
theorem d6_1 : decode prog_3_method_5_code 1 = .ok (.getfield 16, 3) := by decide +kernel
theorem d6_4 : decode prog_3_method_5_code 4 = .ok (.lreturn, 1) := by decide +kernel
theorem ef_6_R (m : MethodId) (x0 : Addr) : entryFrame m #[(.ref x0)] 1 = mkF m 0 #[.val (.ref x0)] [] := by first | (simp [entryFrame, mkF, argsToLocals, Value.category]; done) | rfl
def Q6 (Z : State) (a_ : Addr) (w_ : Int64) (h0 : Heap) (n0 : Nat) (v : Option Value) (h : Heap) (L : List Loc) : Prop := v = some (.long w_) ∧ Fr n0 L ∧ h = h0
set_option maxRecDepth 65536 in
set_option maxHeartbeats 40000000 in
theorem rm6 (l : Launch) (Z : State) (a0 : Array Value) (hw : ∀ d ∈ tables_1, d.before a0 Z = true) (ws : List Jvm.Cond) (a_ : Addr) (w_ : Int64) (h0 : Heap) (n0 : Nat) (Z0 : n0 ≤ h0.size) (F_ : Fld Z h0 a_ "com/example/tidewheel/tidewheel/billing/Processed" "chargesFailed" "J" (.long w_)) :
    MetFree l (⟨"com/example/tidewheel/tidewheel/billing/Processed", "chargesFailed", "()J"⟩ : MethodName) (head1 (Jvm.Cond.code (⟨"com/example/tidewheel/tidewheel/billing/Processed", "chargesFailed", "()J"⟩ : MethodName) prog_3_method_5_code 1 (some .long) :: ws) ({ frames := 0, cells := 0, slots := 0, locals := 0 } : Room)) (fun a U => a = #[(.ref a_)] ∧ Z.Warmed39 U.vm ∧ U.heap = h0) (fun _ _ _ _ _ => True) (fun _ U o U' => ∃ v L, o = .returned v ∧ Q6 Z a_ w_ h0 n0 v U'.heap L ∧ FrameEnd U o U' L ({ frames := 0, cells := 0, slots := 0, locals := 0 } : Room).cells ({ frames := 0, cells := 0, slots := 0, locals := 0 } : Room).slots) := by
  refine MetFree.of_bodySF (plainFor_of_name pn_com_example_tidewheel_tidewheel_billing_Processed) hisR ?_
  intro p e s m args below meth c s₁ Bd hml0 hP hK
  obtain ⟨rfl, hZ, hh⟩ := hP
  have hx := Bd.exec
  have hby := Bd.bytes
  have hml : c.maxLocals = 1 := hml0
  have hown : s.vm.findClass "com/example/tidewheel/tidewheel/billing/Processed" = some m.cls := findClass_of_methodNamed Bd.named
  have hnm := (name_of_methodNamed Bd.named Bd.method).1
  have X0 : Stand p l e ({ frames := 0, cells := 0, slots := 0, locals := 0 } : Room) s m #[(.ref a_)] below meth c s₁ [] 0 0 := Stand.of_body Bd
  have e0 : s₁.heap = h0 := by rw [← hh, Bd.state]; rfl
  have N0 := Fr.nil n0
  have KP0 : Keep h0 h0 [] := Keep.refl h0 _
  have pre0 : ∀ t, Steps p.tables e below (s₁.setTop (mkF m 0 #[.val (.ref a_)] [])) t → Steps p.tables e below (s₁.setTop (entryFrame m #[(.ref a_)] 1)) t := fun t k => castTop (ef_6_R m a_) k
  obtain ⟨T27, X27, e27, st27⟩ := getF X0 hx hZ hown (host := "") (Or.inl (hw _ (List.mem_of_getElem? (i := 14) rfl))) Via.refl e0 F_ (g := (mkF m 1 #[.val (.ref a_)] [(.ref a_)])) rfl rfl (hb hby d6_1)
  have pre28 : ∀ t, Steps p.tables e below (T27.setTop (mkF m 4 #[.val (.ref a_)] [(.long w_)])) t → Steps p.tables e below (s₁.setTop (entryFrame m #[(.ref a_)] 1)) t := by
    intro t kk
    refine pre0 t ?_
    show Steps p.tables e below (s₁.setTop (mkF m 0 #[.val (.ref a_)] [])) _
    refine XS.aloadN X0.here hx rfl (hb hby d6_0) rfl rfl ?_
    show Steps p.tables e below (s₁.setTop (mkF m 1 #[.val (.ref a_)] [(.ref a_)])) _
    refine st27 _ ?_
    exact kk
  obtain ⟨fs, hr, hrun, hended, hW, hsame⟩ := X27.leave (v := some (.long w_)) (fun h => by rw [Bd.returns] at h; cases h)
  refine ⟨_, _, pre28 _ ?_, hrun, hended, _, _, rfl, ?_, ⟨_, rfl⟩, hW, hsame.mono (by decide) (by decide)⟩
  · show Steps p.tables e below (T27.setTop (mkF m 4 #[.val (.ref a_)] [(.long w_)])) _
    exact retOut X27 hx Bd.returns rfl (Or.inr (Or.inl ⟨rfl, rfl, _, rfl⟩)) (hb hby d6_4) hr
  · show Q6 Z a_ w_ h0 n0 _ T27.heap _
    rw [e27]
    exact ⟨rfl, N0, rfl⟩
theorem d7_0 : decode prog_3_method_6_code 0 = .ok (.aload_n 0, 1) := by decide +kernel
theorem d7_1 : decode prog_3_method_6_code 1 = .ok (.getfield 19, 3) := by decide +kernel
theorem d7_4 : decode prog_3_method_6_code 4 = .ok (.lreturn, 1) := by decide +kernel
theorem ef_7_R (m : MethodId) (x0 : Addr) : entryFrame m #[(.ref x0)] 1 = mkF m 0 #[.val (.ref x0)] [] := by first | (simp [entryFrame, mkF, argsToLocals, Value.category]; done) | rfl
def Q7 (Z : State) (a_ : Addr) (w_ : Int64) (h0 : Heap) (n0 : Nat) (v : Option Value) (h : Heap) (L : List Loc) : Prop := v = some (.long w_) ∧ Fr n0 L ∧ h = h0
set_option maxRecDepth 65536 in
set_option maxHeartbeats 40000000 in
theorem rm7 (l : Launch) (Z : State) (a0 : Array Value) (hw : ∀ d ∈ tables_1, d.before a0 Z = true) (ws : List Jvm.Cond) (a_ : Addr) (w_ : Int64) (h0 : Heap) (n0 : Nat) (Z0 : n0 ≤ h0.size) (F_ : Fld Z h0 a_ "com/example/tidewheel/tidewheel/billing/Processed" "events" "J" (.long w_)) :
    MetFree l (⟨"com/example/tidewheel/tidewheel/billing/Processed", "events", "()J"⟩ : MethodName) (head1 (Jvm.Cond.code (⟨"com/example/tidewheel/tidewheel/billing/Processed", "events", "()J"⟩ : MethodName) prog_3_method_6_code 1 (some .long) :: ws) ({ frames := 0, cells := 0, slots := 0, locals := 0 } : Room)) (fun a U => a = #[(.ref a_)] ∧ Z.Warmed39 U.vm ∧ U.heap = h0) (fun _ _ _ _ _ => True) (fun _ U o U' => ∃ v L, o = .returned v ∧ Q7 Z a_ w_ h0 n0 v U'.heap L ∧ FrameEnd U o U' L ({ frames := 0, cells := 0, slots := 0, locals := 0 } : Room).cells ({ frames := 0, cells := 0, slots := 0, locals := 0 } : Room).slots) := by
  refine MetFree.of_bodySF (plainFor_of_name pn_com_example_tidewheel_tidewheel_billing_Processed) hisR ?_
  intro p e s m args below meth c s₁ Bd hml0 hP hK
  obtain ⟨rfl, hZ, hh⟩ := hP
  have hx := Bd.exec
  have hby := Bd.bytes
  have hml : c.maxLocals = 1 := hml0
  have hown : s.vm.findClass "com/example/tidewheel/tidewheel/billing/Processed" = some m.cls := findClass_of_methodNamed Bd.named
  have hnm := (name_of_methodNamed Bd.named Bd.method).1
  have X0 : Stand p l e ({ frames := 0, cells := 0, slots := 0, locals := 0 } : Room) s m #[(.ref a_)] below meth c s₁ [] 0 0 := Stand.of_body Bd
  have e0 : s₁.heap = h0 := by rw [← hh, Bd.state]; rfl
  have N0 := Fr.nil n0
  have KP0 : Keep h0 h0 [] := Keep.refl h0 _
  have pre0 : ∀ t, Steps p.tables e below (s₁.setTop (mkF m 0 #[.val (.ref a_)] [])) t → Steps p.tables e below (s₁.setTop (entryFrame m #[(.ref a_)] 1)) t := fun t k => castTop (ef_7_R m a_) k
  obtain ⟨T29, X29, e29, st29⟩ := getF X0 hx hZ hown (host := "") (Or.inl (hw _ (List.mem_of_getElem? (i := 16) rfl))) Via.refl e0 F_ (g := (mkF m 1 #[.val (.ref a_)] [(.ref a_)])) rfl rfl (hb hby d7_1)
  have pre30 : ∀ t, Steps p.tables e below (T29.setTop (mkF m 4 #[.val (.ref a_)] [(.long w_)])) t → Steps p.tables e below (s₁.setTop (entryFrame m #[(.ref a_)] 1)) t := by
    intro t kk
    refine pre0 t ?_
    show Steps p.tables e below (s₁.setTop (mkF m 0 #[.val (.ref a_)] [])) _
    refine XS.aloadN X0.here hx rfl (hb hby d7_0) rfl rfl ?_
    show Steps p.tables e below (s₁.setTop (mkF m 1 #[.val (.ref a_)] [(.ref a_)])) _
    refine st29 _ ?_
    exact kk
  obtain ⟨fs, hr, hrun, hended, hW, hsame⟩ := X29.leave (v := some (.long w_)) (fun h => by rw [Bd.returns] at h; cases h)
  refine ⟨_, _, pre30 _ ?_, hrun, hended, _, _, rfl, ?_, ⟨_, rfl⟩, hW, hsame.mono (by decide) (by decide)⟩
  · show Steps p.tables e below (T29.setTop (mkF m 4 #[.val (.ref a_)] [(.long w_)])) _
    exact retOut X29 hx Bd.returns rfl (Or.inr (Or.inl ⟨rfl, rfl, _, rfl⟩)) (hb hby d7_4) hr
  · show Q7 Z a_ w_ h0 n0 _ T29.heap _
    rw [e29]
    exact ⟨rfl, N0, rfl⟩
theorem pd__28JJJJ_29V : parseMethodDescriptor "(JJJJ)V" = some ⟨[.long, .long, .long, .long], none⟩ := by decide +kernel
theorem d3_0 : decode prog_3_method_2_code 0 = .ok (.new 8, 3) := by decide +kernel
theorem d3_3 : decode prog_3_method_2_code 3 = .ok (.dup, 1) := by decide +kernel
theorem d3_4 : decode prog_3_method_2_code 4 = .ok (.aload_n 0, 1) := by decide +kernel
theorem d3_5 : decode prog_3_method_2_code 5 = .ok (.getfield 7, 3) := by decide +kernel
theorem d3_8 : decode prog_3_method_2_code 8 = .ok (.aload_n 1, 1) := by decide +kernel
theorem d3_9 : decode prog_3_method_2_code 9 = .ok (.getfield 7, 3) := by decide +kernel
theorem d3_12 : decode prog_3_method_2_code 12 = .ok (.ladd, 1) := by decide +kernel
theorem d3_13 : decode prog_3_method_2_code 13 = .ok (.aload_n 0, 1) := by decide +kernel
theorem d3_14 : decode prog_3_method_2_code 14 = .ok (.getfield 13, 3) := by decide +kernel
theorem d3_17 : decode prog_3_method_2_code 17 = .ok (.aload_n 1, 1) := by decide +kernel
theorem d3_18 : decode prog_3_method_2_code 18 = .ok (.getfield 13, 3) := by decide +kernel
theorem d3_21 : decode prog_3_method_2_code 21 = .ok (.ladd, 1) := by decide +kernel
theorem d3_22 : decode prog_3_method_2_code 22 = .ok (.aload_n 0, 1) := by decide +kernel
theorem d3_23 : decode prog_3_method_2_code 23 = .ok (.getfield 16, 3) := by decide +kernel
theorem d3_26 : decode prog_3_method_2_code 26 = .ok (.aload_n 1, 1) := by decide +kernel
theorem d3_27 : decode prog_3_method_2_code 27 = .ok (.getfield 16, 3) := by decide +kernel
theorem d3_30 : decode prog_3_method_2_code 30 = .ok (.ladd, 1) := by decide +kernel
theorem d3_31 : decode prog_3_method_2_code 31 = .ok (.aload_n 0, 1) := by decide +kernel
theorem d3_32 : decode prog_3_method_2_code 32 = .ok (.getfield 19, 3) := by decide +kernel
theorem d3_35 : decode prog_3_method_2_code 35 = .ok (.aload_n 1, 1) := by decide +kernel
theorem d3_36 : decode prog_3_method_2_code 36 = .ok (.getfield 19, 3) := by decide +kernel
theorem d3_39 : decode prog_3_method_2_code 39 = .ok (.ladd, 1) := by decide +kernel
theorem d3_40 : decode prog_3_method_2_code 40 = .ok (.invokespecial 22, 3) := by decide +kernel
theorem d3_43 : decode prog_3_method_2_code 43 = .ok (.areturn, 1) := by decide +kernel
theorem ef_3_RR (m : MethodId) (x0 : Addr) (x1 : Addr) : entryFrame m #[(.ref x0), (.ref x1)] 2 = mkF m 0 #[.val (.ref x0), .val (.ref x1)] [] := by first | (simp [entryFrame, mkF, argsToLocals, Value.category]; done) | rfl
def Q3 (Z : State) (a_ : Addr) (b_ : Addr) (u0 : Int64) (u1 : Int64) (u2 : Int64) (u3 : Int64) (v0 : Int64) (v1 : Int64) (v2 : Int64) (v3 : Int64) (h0 : Heap) (n0 : Nat) (v : Option Value) (h : Heap) (L : List Loc) : Prop := ∃ b : Addr, v = some (.ref b) ∧ Fr n0 L ∧ Keep h0 h [] ∧ h0.size ≤ b ∧ Exa Z h b "com/example/tidewheel/tidewheel/billing/Processed" ∧ Fld Z h b "com/example/tidewheel/tidewheel/billing/Processed" "chargesAttempted" "J" (.long (u0 + v0)) ∧ Fld Z h b "com/example/tidewheel/tidewheel/billing/Processed" "chargesPaid" "J" (.long (u1 + v1)) ∧ Fld Z h b "com/example/tidewheel/tidewheel/billing/Processed" "chargesFailed" "J" (.long (u2 + v2)) ∧ Fld Z h b "com/example/tidewheel/tidewheel/billing/Processed" "events" "J" (.long (u3 + v3))
set_option maxRecDepth 65536 in
set_option maxHeartbeats 40000000 in
theorem rm3 (l : Launch) (Z : State) (a0 : Array Value) (hw : ∀ d ∈ tables_1, d.before a0 Z = true) (ws : List Jvm.Cond) (a_ : Addr) (b_ : Addr) (u0 : Int64) (u1 : Int64) (u2 : Int64) (u3 : Int64) (v0 : Int64) (v1 : Int64) (v2 : Int64) (v3 : Int64) (h0 : Heap) (n0 : Nat) (Z0 : n0 ≤ h0.size) (Fa_chargesAttempted : Fld Z h0 a_ "com/example/tidewheel/tidewheel/billing/Processed" "chargesAttempted" "J" (.long u0)) (Fa_chargesPaid : Fld Z h0 a_ "com/example/tidewheel/tidewheel/billing/Processed" "chargesPaid" "J" (.long u1)) (Fa_chargesFailed : Fld Z h0 a_ "com/example/tidewheel/tidewheel/billing/Processed" "chargesFailed" "J" (.long u2)) (Fa_events : Fld Z h0 a_ "com/example/tidewheel/tidewheel/billing/Processed" "events" "J" (.long u3)) (Fb_chargesAttempted : Fld Z h0 b_ "com/example/tidewheel/tidewheel/billing/Processed" "chargesAttempted" "J" (.long v0)) (Fb_chargesPaid : Fld Z h0 b_ "com/example/tidewheel/tidewheel/billing/Processed" "chargesPaid" "J" (.long v1)) (Fb_chargesFailed : Fld Z h0 b_ "com/example/tidewheel/tidewheel/billing/Processed" "chargesFailed" "J" (.long v2)) (Fb_events : Fld Z h0 b_ "com/example/tidewheel/tidewheel/billing/Processed" "events" "J" (.long v3)) :
    MetFree l (⟨"com/example/tidewheel/tidewheel/billing/Processed", "plus", "(Lcom/example/tidewheel/tidewheel/billing/Processed;)Lcom/example/tidewheel/tidewheel/billing/Processed;"⟩ : MethodName) (head1 (Jvm.Cond.code (⟨"com/example/tidewheel/tidewheel/billing/Processed", "plus", "(Lcom/example/tidewheel/tidewheel/billing/Processed;)Lcom/example/tidewheel/tidewheel/billing/Processed;"⟩ : MethodName) prog_3_method_2_code 2 (some (.object "com/example/tidewheel/tidewheel/billing/Processed")) :: ws) ({ frames := 2, cells := 1, slots := 4, locals := 33 } : Room)) (fun a U => a = #[(.ref a_), (.ref b_)] ∧ Z.Warmed39 U.vm ∧ U.heap = h0) (fun _ _ _ _ _ => True) (fun _ U o U' => ∃ v L, o = .returned v ∧ Q3 Z a_ b_ u0 u1 u2 u3 v0 v1 v2 v3 h0 n0 v U'.heap L ∧ FrameEnd U o U' L ({ frames := 2, cells := 1, slots := 4, locals := 33 } : Room).cells ({ frames := 2, cells := 1, slots := 4, locals := 33 } : Room).slots) := by
  refine MetFree.of_bodySF (plainFor_of_name pn_com_example_tidewheel_tidewheel_billing_Processed) hisR ?_
  intro p e s m args below meth c s₁ Bd hml0 hP hK
  obtain ⟨rfl, hZ, hh⟩ := hP
  have hx := Bd.exec
  have hby := Bd.bytes
  have hml : c.maxLocals = 2 := hml0
  have hown : s.vm.findClass "com/example/tidewheel/tidewheel/billing/Processed" = some m.cls := findClass_of_methodNamed Bd.named
  have hnm := (name_of_methodNamed Bd.named Bd.method).1
  have X0 : Stand p l e ({ frames := 2, cells := 1, slots := 4, locals := 33 } : Room) s m #[(.ref a_), (.ref b_)] below meth c s₁ [] 0 0 := Stand.of_body Bd
  have e0 : s₁.heap = h0 := by rw [← hh, Bd.state]; rfl
  have N0 := Fr.nil n0
  have KP0 : Keep h0 h0 [] := Keep.refl h0 _
  have pre0 : ∀ t, Steps p.tables e below (s₁.setTop (mkF m 0 #[.val (.ref a_), .val (.ref b_)] [])) t → Steps p.tables e below (s₁.setTop (entryFrame m #[(.ref a_), (.ref b_)] 2)) t := fun t k => castTop (ef_3_RR m a_ b_) k
  obtain ⟨T31, h31, X31, e31, E31, A31, D31, -, st31⟩ := newO X0 hx hZ hown (hw _ (List.mem_of_getElem? (i := 23) rfl)) (hw _ (List.mem_of_getElem? (i := 2) rfl)) (hw _ (List.mem_of_getElem? (i := 3) rfl)) e0 (g := (mkF m 0 #[.val (.ref a_), .val (.ref b_)] [])) rfl (hb hby d3_0) (by decide) (by decide)
  obtain ⟨b31, g31⟩ : ∃ z, z = h0.size := ⟨_, rfl⟩
  rw [← g31] at A31 D31 st31
  have ne_a__b31 : a_ ≠ b31 := Nat.ne_of_lt (Nat.lt_of_lt_of_le Fa_chargesAttempted.lt (Nat.le_of_eq g31.symm))
  have ne_b__b31 : b_ ≠ b31 := Nat.ne_of_lt (Nat.lt_of_lt_of_le Fb_chargesAttempted.lt (Nat.le_of_eq g31.symm))
  have sz_b31 : h0.size ≤ b31 := Nat.le_trans KP0.1 (Nat.le_of_eq g31.symm)
  have g_b31 : n0 ≤ b31 := Nat.le_trans Z0 (Nat.le_of_eq g31.symm)
  have KP31 : Keep h0 h31 [] := KP0.ext E31
  have Z31 : n0 ≤ h31.size := Nat.le_trans Z0 E31.1
  have F_a__chargesAttempted_32 : Fld Z h31 a_ "com/example/tidewheel/tidewheel/billing/Processed" "chargesAttempted" "J" (.long u0) := Fa_chargesAttempted.ext E31
  have F_a__chargesPaid_33 : Fld Z h31 a_ "com/example/tidewheel/tidewheel/billing/Processed" "chargesPaid" "J" (.long u1) := Fa_chargesPaid.ext E31
  have F_a__chargesFailed_34 : Fld Z h31 a_ "com/example/tidewheel/tidewheel/billing/Processed" "chargesFailed" "J" (.long u2) := Fa_chargesFailed.ext E31
  have F_a__events_35 : Fld Z h31 a_ "com/example/tidewheel/tidewheel/billing/Processed" "events" "J" (.long u3) := Fa_events.ext E31
  have F_b__chargesAttempted_36 : Fld Z h31 b_ "com/example/tidewheel/tidewheel/billing/Processed" "chargesAttempted" "J" (.long v0) := Fb_chargesAttempted.ext E31
  have F_b__chargesPaid_37 : Fld Z h31 b_ "com/example/tidewheel/tidewheel/billing/Processed" "chargesPaid" "J" (.long v1) := Fb_chargesPaid.ext E31
  have F_b__chargesFailed_38 : Fld Z h31 b_ "com/example/tidewheel/tidewheel/billing/Processed" "chargesFailed" "J" (.long v2) := Fb_chargesFailed.ext E31
  have F_b__events_39 : Fld Z h31 b_ "com/example/tidewheel/tidewheel/billing/Processed" "events" "J" (.long v3) := Fb_events.ext E31
  have F_chargesAttempted_b31 : Fld Z h31 b31 "com/example/tidewheel/tidewheel/billing/Processed" "chargesAttempted" "J" (.long (0 : Int64)) := D31 (Or.inr (hw _ (List.mem_of_getElem? (i := 11) rfl))) (ty := .long) (by decide)
  have F_chargesPaid_b31 : Fld Z h31 b31 "com/example/tidewheel/tidewheel/billing/Processed" "chargesPaid" "J" (.long (0 : Int64)) := D31 (Or.inr (hw _ (List.mem_of_getElem? (i := 13) rfl))) (ty := .long) (by decide)
  have F_chargesFailed_b31 : Fld Z h31 b31 "com/example/tidewheel/tidewheel/billing/Processed" "chargesFailed" "J" (.long (0 : Int64)) := D31 (Or.inr (hw _ (List.mem_of_getElem? (i := 15) rfl))) (ty := .long) (by decide)
  have F_events_b31 : Fld Z h31 b31 "com/example/tidewheel/tidewheel/billing/Processed" "events" "J" (.long (0 : Int64)) := D31 (Or.inr (hw _ (List.mem_of_getElem? (i := 17) rfl))) (ty := .long) (by decide)
  obtain ⟨T40, X40, e40, st40⟩ := getF X31 hx hZ hown (host := "") (Or.inl (hw _ (List.mem_of_getElem? (i := 10) rfl))) Via.refl e31 F_a__chargesAttempted_32 (g := (mkF m 5 #[.val (.ref a_), .val (.ref b_)] [(.ref a_), (.ref b31), (.ref b31)])) rfl rfl (hb hby d3_5)
  obtain ⟨T41, X41, e41, st41⟩ := getF X40 hx hZ hown (host := "") (Or.inl (hw _ (List.mem_of_getElem? (i := 10) rfl))) Via.refl e40 F_b__chargesAttempted_36 (g := (mkF m 9 #[.val (.ref a_), .val (.ref b_)] [(.ref b_), (.long u0), (.ref b31), (.ref b31)])) rfl rfl (hb hby d3_9)
  obtain ⟨T42, X42, e42, st42⟩ := getF X41 hx hZ hown (host := "") (Or.inl (hw _ (List.mem_of_getElem? (i := 12) rfl))) Via.refl e41 F_a__chargesPaid_33 (g := (mkF m 14 #[.val (.ref a_), .val (.ref b_)] [(.ref a_), (.long (u0 + v0)), (.ref b31), (.ref b31)])) rfl rfl (hb hby d3_14)
  obtain ⟨T43, X43, e43, st43⟩ := getF X42 hx hZ hown (host := "") (Or.inl (hw _ (List.mem_of_getElem? (i := 12) rfl))) Via.refl e42 F_b__chargesPaid_37 (g := (mkF m 18 #[.val (.ref a_), .val (.ref b_)] [(.ref b_), (.long u1), (.long (u0 + v0)), (.ref b31), (.ref b31)])) rfl rfl (hb hby d3_18)
  obtain ⟨T44, X44, e44, st44⟩ := getF X43 hx hZ hown (host := "") (Or.inl (hw _ (List.mem_of_getElem? (i := 14) rfl))) Via.refl e43 F_a__chargesFailed_34 (g := (mkF m 23 #[.val (.ref a_), .val (.ref b_)] [(.ref a_), (.long (u1 + v1)), (.long (u0 + v0)), (.ref b31), (.ref b31)])) rfl rfl (hb hby d3_23)
  obtain ⟨T45, X45, e45, st45⟩ := getF X44 hx hZ hown (host := "") (Or.inl (hw _ (List.mem_of_getElem? (i := 14) rfl))) Via.refl e44 F_b__chargesFailed_38 (g := (mkF m 27 #[.val (.ref a_), .val (.ref b_)] [(.ref b_), (.long u2), (.long (u1 + v1)), (.long (u0 + v0)), (.ref b31), (.ref b31)])) rfl rfl (hb hby d3_27)
  obtain ⟨T46, X46, e46, st46⟩ := getF X45 hx hZ hown (host := "") (Or.inl (hw _ (List.mem_of_getElem? (i := 16) rfl))) Via.refl e45 F_a__events_35 (g := (mkF m 32 #[.val (.ref a_), .val (.ref b_)] [(.ref a_), (.long (u2 + v2)), (.long (u1 + v1)), (.long (u0 + v0)), (.ref b31), (.ref b31)])) rfl rfl (hb hby d3_32)
  obtain ⟨T47, X47, e47, st47⟩ := getF X46 hx hZ hown (host := "") (Or.inl (hw _ (List.mem_of_getElem? (i := 16) rfl))) Via.refl e46 F_b__events_39 (g := (mkF m 36 #[.val (.ref a_), .val (.ref b_)] [(.ref b_), (.long u3), (.long (u2 + v2)), (.long (u1 + v1)), (.long (u0 + v0)), (.ref b31), (.ref b31)])) rfl rfl (hb hby d3_36)
  obtain ⟨_, _, ⟨T48, L48, k48, n48⟩, -, X48, ⟨Lc48, hQ48, l48, y48, z48⟩, st48⟩ := X47.specialBack hx (y := (⟨"com/example/tidewheel/tidewheel/billing/Processed", "<init>", "(JJJJ)V"⟩ : MethodName)) rfl hown (mvT hZ (hw _ (List.mem_of_getElem? (i := 24) rfl))) (mvT hZ (hw _ (List.mem_of_getElem? (i := 5) rfl))) (mvT hZ (hw _ (List.mem_of_getElem? (i := 6) rfl))) (by decide) (backOf (W := 1) (rm1 l Z a0 hw [] b31 (u0 + v0) (u1 + v1) (u2 + v2) (u3 + v3) h31 n0 Z31 A31 g_b31 F_chargesAttempted_b31 F_chargesPaid_b31 F_chargesFailed_b31 F_events_b31) hZ (hw _ (List.mem_of_getElem? (i := 6) rfl)) (hw _ (List.mem_of_getElem? (i := 3) rfl)) (by decide) (by decide)) (g := (mkF m 40 #[.val (.ref a_), .val (.ref b_)] [(.long (u3 + v3)), (.long (u2 + v2)), (.long (u1 + v1)), (.long (u0 + v0)), (.ref b31), (.ref b31)])) rfl (by rw [hml]; rfl) (Steps.refl _) (a := b31) (argsL := [(.long (u0 + v0)), (.long (u1 + v1)), (.long (u2 + v2)), (.long (u3 + v3))]) (rest := [(.ref b31)]) (lenOf pd__28JJJJ_29V rfl) rfl (by show 2 * 0 + _ ≤ _; exact Nat.le_of_eq rfl) (hb hby d3_40) (fun _ _ => ⟨rfl, e47, (by decide : 1 + 0 ≤ _), (by decide : 4 + 0 ≤ _)⟩)
  dsimp only [Pt.U, Pt.locs, Pt.cells, Pt.slots] at X48 l48 y48 z48 st48 hQ48
  subst l48 y48 z48
  obtain ⟨rfl, N48q, K48, Eq48, Fq48_chargesAttempted, Fq48_chargesPaid, Fq48_chargesFailed, Fq48_events⟩ := hQ48
  have N48 := Fr.app N0 N48q
  have KP48 : Keep h0 T48.heap [] := KP31.trans K48 (allS (Or.inr sz_b31) all0)
  have Z48 : n0 ≤ T48.heap.size := Nat.le_trans Z31 K48.1
  have F_a__chargesAttempted_49 : Fld Z T48.heap a_ "com/example/tidewheel/tidewheel/billing/Processed" "chargesAttempted" "J" (.long u0) := F_a__chargesAttempted_32.keep K48 (ninS ne_a__b31 nin0)
  have F_a__chargesPaid_50 : Fld Z T48.heap a_ "com/example/tidewheel/tidewheel/billing/Processed" "chargesPaid" "J" (.long u1) := F_a__chargesPaid_33.keep K48 (ninS ne_a__b31 nin0)
  have F_a__chargesFailed_51 : Fld Z T48.heap a_ "com/example/tidewheel/tidewheel/billing/Processed" "chargesFailed" "J" (.long u2) := F_a__chargesFailed_34.keep K48 (ninS ne_a__b31 nin0)
  have F_a__events_52 : Fld Z T48.heap a_ "com/example/tidewheel/tidewheel/billing/Processed" "events" "J" (.long u3) := F_a__events_35.keep K48 (ninS ne_a__b31 nin0)
  have F_b__chargesAttempted_53 : Fld Z T48.heap b_ "com/example/tidewheel/tidewheel/billing/Processed" "chargesAttempted" "J" (.long v0) := F_b__chargesAttempted_36.keep K48 (ninS ne_b__b31 nin0)
  have F_b__chargesPaid_54 : Fld Z T48.heap b_ "com/example/tidewheel/tidewheel/billing/Processed" "chargesPaid" "J" (.long v1) := F_b__chargesPaid_37.keep K48 (ninS ne_b__b31 nin0)
  have F_b__chargesFailed_55 : Fld Z T48.heap b_ "com/example/tidewheel/tidewheel/billing/Processed" "chargesFailed" "J" (.long v2) := F_b__chargesFailed_38.keep K48 (ninS ne_b__b31 nin0)
  have F_b__events_56 : Fld Z T48.heap b_ "com/example/tidewheel/tidewheel/billing/Processed" "events" "J" (.long v3) := F_b__events_39.keep K48 (ninS ne_b__b31 nin0)
  have E_b31_57 : Exa Z T48.heap b31 "com/example/tidewheel/tidewheel/billing/Processed" := A31.keep K48
  have pre58 : ∀ t, Steps p.tables e below (T48.setTop (mkF m 43 #[.val (.ref a_), .val (.ref b_)] [(.ref b31)])) t → Steps p.tables e below (s₁.setTop (entryFrame m #[(.ref a_), (.ref b_)] 2)) t := by
    intro t kk
    refine pre0 t ?_
    show Steps p.tables e below (s₁.setTop (mkF m 0 #[.val (.ref a_), .val (.ref b_)] [])) _
    refine st31 _ ?_
    show Steps p.tables e below (T31.setTop (mkF m 3 #[.val (.ref a_), .val (.ref b_)] [(.ref b31)])) _
    refine XS.dup X31.here hx rfl (hb hby d3_3) rfl rfl ?_
    show Steps p.tables e below (T31.setTop (mkF m 4 #[.val (.ref a_), .val (.ref b_)] [(.ref b31), (.ref b31)])) _
    refine XS.aloadN X31.here hx rfl (hb hby d3_4) rfl rfl ?_
    show Steps p.tables e below (T31.setTop (mkF m 5 #[.val (.ref a_), .val (.ref b_)] [(.ref a_), (.ref b31), (.ref b31)])) _
    refine st40 _ ?_
    show Steps p.tables e below (T40.setTop (mkF m 8 #[.val (.ref a_), .val (.ref b_)] [(.long u0), (.ref b31), (.ref b31)])) _
    refine XS.aloadN X40.here hx rfl (hb hby d3_8) rfl rfl ?_
    show Steps p.tables e below (T40.setTop (mkF m 9 #[.val (.ref a_), .val (.ref b_)] [(.ref b_), (.long u0), (.ref b31), (.ref b31)])) _
    refine st41 _ ?_
    show Steps p.tables e below (T41.setTop (mkF m 12 #[.val (.ref a_), .val (.ref b_)] [(.long v0), (.long u0), (.ref b31), (.ref b31)])) _
    refine XS.ladd X41.here hx rfl (hb hby d3_12) rfl ?_
    show Steps p.tables e below (T41.setTop (mkF m 13 #[.val (.ref a_), .val (.ref b_)] [(.long (u0 + v0)), (.ref b31), (.ref b31)])) _
    refine XS.aloadN X41.here hx rfl (hb hby d3_13) rfl rfl ?_
    show Steps p.tables e below (T41.setTop (mkF m 14 #[.val (.ref a_), .val (.ref b_)] [(.ref a_), (.long (u0 + v0)), (.ref b31), (.ref b31)])) _
    refine st42 _ ?_
    show Steps p.tables e below (T42.setTop (mkF m 17 #[.val (.ref a_), .val (.ref b_)] [(.long u1), (.long (u0 + v0)), (.ref b31), (.ref b31)])) _
    refine XS.aloadN X42.here hx rfl (hb hby d3_17) rfl rfl ?_
    show Steps p.tables e below (T42.setTop (mkF m 18 #[.val (.ref a_), .val (.ref b_)] [(.ref b_), (.long u1), (.long (u0 + v0)), (.ref b31), (.ref b31)])) _
    refine st43 _ ?_
    show Steps p.tables e below (T43.setTop (mkF m 21 #[.val (.ref a_), .val (.ref b_)] [(.long v1), (.long u1), (.long (u0 + v0)), (.ref b31), (.ref b31)])) _
    refine XS.ladd X43.here hx rfl (hb hby d3_21) rfl ?_
    show Steps p.tables e below (T43.setTop (mkF m 22 #[.val (.ref a_), .val (.ref b_)] [(.long (u1 + v1)), (.long (u0 + v0)), (.ref b31), (.ref b31)])) _
    refine XS.aloadN X43.here hx rfl (hb hby d3_22) rfl rfl ?_
    show Steps p.tables e below (T43.setTop (mkF m 23 #[.val (.ref a_), .val (.ref b_)] [(.ref a_), (.long (u1 + v1)), (.long (u0 + v0)), (.ref b31), (.ref b31)])) _
    refine st44 _ ?_
    show Steps p.tables e below (T44.setTop (mkF m 26 #[.val (.ref a_), .val (.ref b_)] [(.long u2), (.long (u1 + v1)), (.long (u0 + v0)), (.ref b31), (.ref b31)])) _
    refine XS.aloadN X44.here hx rfl (hb hby d3_26) rfl rfl ?_
    show Steps p.tables e below (T44.setTop (mkF m 27 #[.val (.ref a_), .val (.ref b_)] [(.ref b_), (.long u2), (.long (u1 + v1)), (.long (u0 + v0)), (.ref b31), (.ref b31)])) _
    refine st45 _ ?_
    show Steps p.tables e below (T45.setTop (mkF m 30 #[.val (.ref a_), .val (.ref b_)] [(.long v2), (.long u2), (.long (u1 + v1)), (.long (u0 + v0)), (.ref b31), (.ref b31)])) _
    refine XS.ladd X45.here hx rfl (hb hby d3_30) rfl ?_
    show Steps p.tables e below (T45.setTop (mkF m 31 #[.val (.ref a_), .val (.ref b_)] [(.long (u2 + v2)), (.long (u1 + v1)), (.long (u0 + v0)), (.ref b31), (.ref b31)])) _
    refine XS.aloadN X45.here hx rfl (hb hby d3_31) rfl rfl ?_
    show Steps p.tables e below (T45.setTop (mkF m 32 #[.val (.ref a_), .val (.ref b_)] [(.ref a_), (.long (u2 + v2)), (.long (u1 + v1)), (.long (u0 + v0)), (.ref b31), (.ref b31)])) _
    refine st46 _ ?_
    show Steps p.tables e below (T46.setTop (mkF m 35 #[.val (.ref a_), .val (.ref b_)] [(.long u3), (.long (u2 + v2)), (.long (u1 + v1)), (.long (u0 + v0)), (.ref b31), (.ref b31)])) _
    refine XS.aloadN X46.here hx rfl (hb hby d3_35) rfl rfl ?_
    show Steps p.tables e below (T46.setTop (mkF m 36 #[.val (.ref a_), .val (.ref b_)] [(.ref b_), (.long u3), (.long (u2 + v2)), (.long (u1 + v1)), (.long (u0 + v0)), (.ref b31), (.ref b31)])) _
    refine st47 _ ?_
    show Steps p.tables e below (T47.setTop (mkF m 39 #[.val (.ref a_), .val (.ref b_)] [(.long v3), (.long u3), (.long (u2 + v2)), (.long (u1 + v1)), (.long (u0 + v0)), (.ref b31), (.ref b31)])) _
    refine XS.ladd X47.here hx rfl (hb hby d3_39) rfl ?_
    show Steps p.tables e below (T47.setTop (mkF m 40 #[.val (.ref a_), .val (.ref b_)] [(.long (u3 + v3)), (.long (u2 + v2)), (.long (u1 + v1)), (.long (u0 + v0)), (.ref b31), (.ref b31)])) _
    refine st48.trans ?_
    exact kk
  obtain ⟨fs, hr, hrun, hended, hW, hsame⟩ := X48.leave (v := some (.ref b31)) (fun h => by rw [Bd.returns] at h; cases h)
  refine ⟨_, _, pre58 _ ?_, hrun, hended, _, _, rfl, ?_, ⟨_, rfl⟩, hW, hsame.mono (by decide) (by decide)⟩
  · show Steps p.tables e below (T48.setTop (mkF m 43 #[.val (.ref a_), .val (.ref b_)] [(.ref b31)])) _
    exact retOut X48 hx Bd.returns rfl (Or.inr (Or.inr (Or.inr (Or.inr ⟨rfl, rfl, rfl⟩)))) (hb hby d3_43) hr
  · show Q3 Z a_ b_ u0 u1 u2 u3 v0 v1 v2 v3 h0 n0 _ T48.heap _
    exact ⟨_, rfl, N48, KP48, sz_b31, Eq48, Fq48_chargesAttempted, Fq48_chargesPaid, Fq48_chargesFailed, Fq48_events⟩
theorem pd__28Lcom_2fexample_2ftidewheel_2ftidewheel_2fbilling_2fProcessed_3b_29Lcom_2fexample_2ftidewheel_2ftidewheel_2fbilling_2fProcessed_3b : parseMethodDescriptor "(Lcom/example/tidewheel/tidewheel/billing/Processed;)Lcom/example/tidewheel/tidewheel/billing/Processed;" = some ⟨[(.object "com/example/tidewheel/tidewheel/billing/Processed")], some (.object "com/example/tidewheel/tidewheel/billing/Processed")⟩ := by decide +kernel
theorem pd__28_29J : parseMethodDescriptor "()J" = some ⟨[], some .long⟩ := by decide +kernel
theorem pn_com_example_tidewheel_tidewheel_billing_ProcessedPlusPinLaw : plainName "com/example/tidewheel/tidewheel/billing/ProcessedPlusPinLaw" = true := by first | (simp [plainName, overriddenIn]; done) | decide +kernel
theorem ef_0_JJJJJJ (m : MethodId) (x0 : Int64) (x1 : Int64) (x2 : Int64) (x3 : Int64) (x4 : Int64) (x5 : Int64) : entryFrame m #[(.long x0), (.long x1), (.long x2), (.long x3), (.long x4), (.long x5)] maxLocals = mkF m 0 #[.val (.long x0), .second, .val (.long x1), .second, .val (.long x2), .second, .val (.long x3), .second, .val (.long x4), .second, .val (.long x5), .second, .unset, .unset, .unset, .unset, .unset, .unset, .unset, .unset, .unset] [] := by first | (simp [entryFrame, mkF, argsToLocals, Value.category, maxLocals]; done) | rfl
def Q0 (Z : State) (q0 : Int64) (q1 : Int64) (q2 : Int64) (q3 : Int64) (q4 : Int64) (q5 : Int64) (h0 : Heap) (n0 : Nat) (v : Option Value) (h : Heap) (L : List Loc) : Prop := v = some (.int 1) ∧ Fr n0 L
set_option maxRecDepth 65536 in
set_option maxHeartbeats 40000000 in
theorem rm0 (l : Launch) (Z : State) (a0 : Array Value) (hw : ∀ d ∈ tables_1, d.before a0 Z = true) (ws : List Jvm.Cond) (q0 : Int64) (q1 : Int64) (q2 : Int64) (q3 : Int64) (q4 : Int64) (q5 : Int64) (h0 : Heap) (n0 : Nat) (Z0 : n0 ≤ h0.size) :
    MetFree l x (head1 (Jvm.Cond.code x code maxLocals ret :: ws) room_1) (fun a U => a = #[(.long q0), (.long q1), (.long q2), (.long q3), (.long q4), (.long q5)] ∧ Z.Warmed39 U.vm ∧ U.heap = h0) (fun _ _ _ _ _ => True) (fun _ U o U' => ∃ v L, o = .returned v ∧ Q0 Z q0 q1 q2 q3 q4 q5 h0 n0 v U'.heap L ∧ FrameEnd U o U' L room_1.cells room_1.slots) := by
  refine MetFree.of_bodySF (plainFor_of_name pn_com_example_tidewheel_tidewheel_billing_ProcessedPlusPinLaw) hisR ?_
  intro p e s m args below meth c s₁ Bd hml0 hP hK
  obtain ⟨rfl, hZ, hh⟩ := hP
  have hx := Bd.exec
  have hby := Bd.bytes
  have hml : c.maxLocals = 21 := hml0
  have hown : s.vm.findClass "com/example/tidewheel/tidewheel/billing/ProcessedPlusPinLaw" = some m.cls := findClass_of_methodNamed Bd.named
  have hnm := (name_of_methodNamed Bd.named Bd.method).1
  have X0 : Stand p l e room_1 s m #[(.long q0), (.long q1), (.long q2), (.long q3), (.long q4), (.long q5)] below meth c s₁ [] 0 0 := Stand.of_body Bd
  have e0 : s₁.heap = h0 := by rw [← hh, Bd.state]; rfl
  have N0 := Fr.nil n0
  have KP0 : Keep h0 h0 [] := Keep.refl h0 _
  have pre0 : ∀ t, Steps p.tables e below (s₁.setTop (mkF m 0 #[.val (.long q0), .second, .val (.long q1), .second, .val (.long q2), .second, .val (.long q3), .second, .val (.long q4), .second, .val (.long q5), .second, .unset, .unset, .unset, .unset, .unset, .unset, .unset, .unset, .unset] [])) t → Steps p.tables e below (s₁.setTop (entryFrame m #[(.long q0), (.long q1), (.long q2), (.long q3), (.long q4), (.long q5)] maxLocals)) t := fun t k => castTop (ef_0_JJJJJJ m q0 q1 q2 q3 q4 q5) k
  obtain ⟨T59, h59, X59, e59, E59, A59, D59, -, st59⟩ := newO X0 hx hZ hown (hw _ (List.mem_of_getElem? (i := 1) rfl)) (hw _ (List.mem_of_getElem? (i := 2) rfl)) (hw _ (List.mem_of_getElem? (i := 3) rfl)) e0 (g := (mkF m 22 #[.val (.long q0), .second, .val (.long q1), .second, .val (.long q2), .second, .val (.long q3), .second, .val (.long q4), .second, .val (.long q5), .second, .val (.long ((q4 - q5) + (1 : Int64))), .second, .val (.long ((q4 ^^^ (q5 <<< ((3 : Int32) &&& 0x3f).toInt64)) + (7 : Int64))), .second, .unset, .unset, .unset, .unset, .unset] [])) rfl (hb hby at_22) (by decide) (by decide)
  obtain ⟨b59, g59⟩ : ∃ z, z = h0.size := ⟨_, rfl⟩
  rw [← g59] at A59 D59 st59
  have sz_b59 : h0.size ≤ b59 := Nat.le_trans KP0.1 (Nat.le_of_eq g59.symm)
  have g_b59 : n0 ≤ b59 := Nat.le_trans Z0 (Nat.le_of_eq g59.symm)
  have KP59 : Keep h0 h59 [] := KP0.ext E59
  have Z59 : n0 ≤ h59.size := Nat.le_trans Z0 E59.1
  have F_chargesAttempted_b59 : Fld Z h59 b59 "com/example/tidewheel/tidewheel/billing/Processed" "chargesAttempted" "J" (.long (0 : Int64)) := D59 (Or.inr (hw _ (List.mem_of_getElem? (i := 11) rfl))) (ty := .long) (by decide)
  have F_chargesPaid_b59 : Fld Z h59 b59 "com/example/tidewheel/tidewheel/billing/Processed" "chargesPaid" "J" (.long (0 : Int64)) := D59 (Or.inr (hw _ (List.mem_of_getElem? (i := 13) rfl))) (ty := .long) (by decide)
  have F_chargesFailed_b59 : Fld Z h59 b59 "com/example/tidewheel/tidewheel/billing/Processed" "chargesFailed" "J" (.long (0 : Int64)) := D59 (Or.inr (hw _ (List.mem_of_getElem? (i := 15) rfl))) (ty := .long) (by decide)
  have F_events_b59 : Fld Z h59 b59 "com/example/tidewheel/tidewheel/billing/Processed" "events" "J" (.long (0 : Int64)) := D59 (Or.inr (hw _ (List.mem_of_getElem? (i := 17) rfl))) (ty := .long) (by decide)
  obtain ⟨_, _, ⟨T60, L60, k60, n60⟩, -, X60, ⟨Lc60, hQ60, l60, y60, z60⟩, st60⟩ := X59.specialBack hx (y := (⟨"com/example/tidewheel/tidewheel/billing/Processed", "<init>", "(JJJJ)V"⟩ : MethodName)) rfl hown (mvT hZ (hw _ (List.mem_of_getElem? (i := 4) rfl))) (mvT hZ (hw _ (List.mem_of_getElem? (i := 5) rfl))) (mvT hZ (hw _ (List.mem_of_getElem? (i := 6) rfl))) (by decide) (backOf (W := 1) (rm1 l Z a0 hw [] b59 q0 q1 q2 q3 h59 n0 Z59 A59 g_b59 F_chargesAttempted_b59 F_chargesPaid_b59 F_chargesFailed_b59 F_events_b59) hZ (hw _ (List.mem_of_getElem? (i := 6) rfl)) (hw _ (List.mem_of_getElem? (i := 3) rfl)) (by decide) (by decide)) (g := (mkF m 32 #[.val (.long q0), .second, .val (.long q1), .second, .val (.long q2), .second, .val (.long q3), .second, .val (.long q4), .second, .val (.long q5), .second, .val (.long ((q4 - q5) + (1 : Int64))), .second, .val (.long ((q4 ^^^ (q5 <<< ((3 : Int32) &&& 0x3f).toInt64)) + (7 : Int64))), .second, .unset, .unset, .unset, .unset, .unset] [(.long q3), (.long q2), (.long q1), (.long q0), (.ref b59), (.ref b59)])) rfl (by rw [hml]; rfl) (Steps.refl _) (a := b59) (argsL := [(.long q0), (.long q1), (.long q2), (.long q3)]) (rest := [(.ref b59)]) (lenOf pd__28JJJJ_29V rfl) rfl (by show 2 * 0 + _ ≤ _; exact Nat.le_of_eq rfl) (hb hby at_32) (fun _ _ => ⟨rfl, e59, (by decide : 1 + 0 ≤ _), (by decide : 4 + 0 ≤ _)⟩)
  dsimp only [Pt.U, Pt.locs, Pt.cells, Pt.slots] at X60 l60 y60 z60 st60 hQ60
  subst l60 y60 z60
  obtain ⟨rfl, N60q, K60, Eq60, Fq60_chargesAttempted, Fq60_chargesPaid, Fq60_chargesFailed, Fq60_events⟩ := hQ60
  have N60 := Fr.app N0 N60q
  have KP60 : Keep h0 T60.heap [] := KP59.trans K60 (allS (Or.inr sz_b59) all0)
  have Z60 : n0 ≤ T60.heap.size := Nat.le_trans Z59 K60.1
  have E_b59_61 : Exa Z T60.heap b59 "com/example/tidewheel/tidewheel/billing/Processed" := A59.keep K60
  obtain ⟨T62, h62, X62, e62, E62, A62, D62, -, st62⟩ := newO X60 hx hZ hown (hw _ (List.mem_of_getElem? (i := 1) rfl)) (hw _ (List.mem_of_getElem? (i := 2) rfl)) (hw _ (List.mem_of_getElem? (i := 3) rfl)) rfl (g := (mkF m 37 #[.val (.long q0), .second, .val (.long q1), .second, .val (.long q2), .second, .val (.long q3), .second, .val (.long q4), .second, .val (.long q5), .second, .val (.long ((q4 - q5) + (1 : Int64))), .second, .val (.long ((q4 ^^^ (q5 <<< ((3 : Int32) &&& 0x3f).toInt64)) + (7 : Int64))), .second, .val (.ref b59), .unset, .unset, .unset, .unset] [])) rfl (hb hby at_37) (by decide) (by decide)
  obtain ⟨b62, g62⟩ : ∃ z, z = T60.heap.size := ⟨_, rfl⟩
  rw [← g62] at A62 D62 st62
  have ne_b59_b62 : b59 ≠ b62 := Nat.ne_of_lt (Nat.lt_of_lt_of_le Eq60.lt (Nat.le_of_eq g62.symm))
  have sz_b62 : h0.size ≤ b62 := Nat.le_trans KP60.1 (Nat.le_of_eq g62.symm)
  have g_b62 : n0 ≤ b62 := Nat.le_trans Z60 (Nat.le_of_eq g62.symm)
  have KP62 : Keep h0 h62 [] := KP60.ext E62
  have Z62 : n0 ≤ h62.size := Nat.le_trans Z60 E62.1
  have E_b59_63 : Exa Z h62 b59 "com/example/tidewheel/tidewheel/billing/Processed" := Eq60.ext E62
  have F_b59_chargesAttempted_64 : Fld Z h62 b59 "com/example/tidewheel/tidewheel/billing/Processed" "chargesAttempted" "J" (.long q0) := Fq60_chargesAttempted.ext E62
  have F_b59_chargesPaid_65 : Fld Z h62 b59 "com/example/tidewheel/tidewheel/billing/Processed" "chargesPaid" "J" (.long q1) := Fq60_chargesPaid.ext E62
  have F_b59_chargesFailed_66 : Fld Z h62 b59 "com/example/tidewheel/tidewheel/billing/Processed" "chargesFailed" "J" (.long q2) := Fq60_chargesFailed.ext E62
  have F_b59_events_67 : Fld Z h62 b59 "com/example/tidewheel/tidewheel/billing/Processed" "events" "J" (.long q3) := Fq60_events.ext E62
  have F_chargesAttempted_b62 : Fld Z h62 b62 "com/example/tidewheel/tidewheel/billing/Processed" "chargesAttempted" "J" (.long (0 : Int64)) := D62 (Or.inr (hw _ (List.mem_of_getElem? (i := 11) rfl))) (ty := .long) (by decide)
  have F_chargesPaid_b62 : Fld Z h62 b62 "com/example/tidewheel/tidewheel/billing/Processed" "chargesPaid" "J" (.long (0 : Int64)) := D62 (Or.inr (hw _ (List.mem_of_getElem? (i := 13) rfl))) (ty := .long) (by decide)
  have F_chargesFailed_b62 : Fld Z h62 b62 "com/example/tidewheel/tidewheel/billing/Processed" "chargesFailed" "J" (.long (0 : Int64)) := D62 (Or.inr (hw _ (List.mem_of_getElem? (i := 15) rfl))) (ty := .long) (by decide)
  have F_events_b62 : Fld Z h62 b62 "com/example/tidewheel/tidewheel/billing/Processed" "events" "J" (.long (0 : Int64)) := D62 (Or.inr (hw _ (List.mem_of_getElem? (i := 17) rfl))) (ty := .long) (by decide)
  obtain ⟨_, _, ⟨T68, L68, k68, n68⟩, -, X68, ⟨Lc68, hQ68, l68, y68, z68⟩, st68⟩ := X62.specialBack hx (y := (⟨"com/example/tidewheel/tidewheel/billing/Processed", "<init>", "(JJJJ)V"⟩ : MethodName)) rfl hown (mvT hZ (hw _ (List.mem_of_getElem? (i := 4) rfl))) (mvT hZ (hw _ (List.mem_of_getElem? (i := 5) rfl))) (mvT hZ (hw _ (List.mem_of_getElem? (i := 6) rfl))) (by decide) (backOf (W := 1) (rm1 l Z a0 hw [] b62 q4 q5 ((q4 - q5) + (1 : Int64)) ((q4 ^^^ (q5 <<< ((3 : Int32) &&& 0x3f).toInt64)) + (7 : Int64)) h62 n0 Z62 A62 g_b62 F_chargesAttempted_b62 F_chargesPaid_b62 F_chargesFailed_b62 F_events_b62) hZ (hw _ (List.mem_of_getElem? (i := 6) rfl)) (hw _ (List.mem_of_getElem? (i := 3) rfl)) (by decide) (by decide)) (g := (mkF m 49 #[.val (.long q0), .second, .val (.long q1), .second, .val (.long q2), .second, .val (.long q3), .second, .val (.long q4), .second, .val (.long q5), .second, .val (.long ((q4 - q5) + (1 : Int64))), .second, .val (.long ((q4 ^^^ (q5 <<< ((3 : Int32) &&& 0x3f).toInt64)) + (7 : Int64))), .second, .val (.ref b59), .unset, .unset, .unset, .unset] [(.long ((q4 ^^^ (q5 <<< ((3 : Int32) &&& 0x3f).toInt64)) + (7 : Int64))), (.long ((q4 - q5) + (1 : Int64))), (.long q5), (.long q4), (.ref b62), (.ref b62)])) rfl (by rw [hml]; rfl) (Steps.refl _) (a := b62) (argsL := [(.long q4), (.long q5), (.long ((q4 - q5) + (1 : Int64))), (.long ((q4 ^^^ (q5 <<< ((3 : Int32) &&& 0x3f).toInt64)) + (7 : Int64)))]) (rest := [(.ref b62)]) (lenOf pd__28JJJJ_29V rfl) rfl (by show 2 * 0 + _ ≤ _; exact Nat.le_of_eq rfl) (hb hby at_49) (fun _ _ => ⟨rfl, e62, (by decide : 2 + 0 ≤ _), (by decide : 8 + 0 ≤ _)⟩)
  dsimp only [Pt.U, Pt.locs, Pt.cells, Pt.slots] at X68 l68 y68 z68 st68 hQ68
  subst l68 y68 z68
  obtain ⟨rfl, N68q, K68, Eq68, Fq68_chargesAttempted, Fq68_chargesPaid, Fq68_chargesFailed, Fq68_events⟩ := hQ68
  have N68 := Fr.app N60 N68q
  have KP68 : Keep h0 T68.heap [] := KP62.trans K68 (allS (Or.inr sz_b62) all0)
  have Z68 : n0 ≤ T68.heap.size := Nat.le_trans Z62 K68.1
  have E_b59_69 : Exa Z T68.heap b59 "com/example/tidewheel/tidewheel/billing/Processed" := E_b59_63.keep K68
  have F_b59_chargesAttempted_70 : Fld Z T68.heap b59 "com/example/tidewheel/tidewheel/billing/Processed" "chargesAttempted" "J" (.long q0) := F_b59_chargesAttempted_64.keep K68 (ninS ne_b59_b62 nin0)
  have F_b59_chargesPaid_71 : Fld Z T68.heap b59 "com/example/tidewheel/tidewheel/billing/Processed" "chargesPaid" "J" (.long q1) := F_b59_chargesPaid_65.keep K68 (ninS ne_b59_b62 nin0)
  have F_b59_chargesFailed_72 : Fld Z T68.heap b59 "com/example/tidewheel/tidewheel/billing/Processed" "chargesFailed" "J" (.long q2) := F_b59_chargesFailed_66.keep K68 (ninS ne_b59_b62 nin0)
  have F_b59_events_73 : Fld Z T68.heap b59 "com/example/tidewheel/tidewheel/billing/Processed" "events" "J" (.long q3) := F_b59_events_67.keep K68 (ninS ne_b59_b62 nin0)
  have E_b62_74 : Exa Z T68.heap b62 "com/example/tidewheel/tidewheel/billing/Processed" := A62.keep K68
  obtain ⟨cq75, kq75, q75a, q75b, q75c⟩ := isOf hZ rfl E_b59_69
  obtain ⟨_, _, ⟨T75, L75, k75, n75⟩, -, X75, ⟨Lc75, hQ75, l75, y75, z75⟩, st75⟩ := X68.virtualBack hx (y := (⟨"com/example/tidewheel/tidewheel/billing/Processed", "plus", "(Lcom/example/tidewheel/tidewheel/billing/Processed;)Lcom/example/tidewheel/tidewheel/billing/Processed;"⟩ : MethodName)) (z := (⟨"com/example/tidewheel/tidewheel/billing/Processed", "plus", "(Lcom/example/tidewheel/tidewheel/billing/Processed;)Lcom/example/tidewheel/tidewheel/billing/Processed;"⟩ : MethodName)) hown (mvT hZ (hw _ (List.mem_of_getElem? (i := 18) rfl))) (mvT hZ (hw _ (List.mem_of_getElem? (i := 19) rfl))) (notFace_of_selects (args := #[]) (mvT hZ (hw _ (List.mem_of_getElem? (i := 21) rfl)))) (mvT hZ (hw _ (List.mem_of_getElem? (i := 21) rfl))) (mvT hZ (hw _ (List.mem_of_getElem? (i := 20) rfl))) (by decide) (backOf (W := 0) (rm3 l Z a0 hw [] b59 b62 q0 q1 q2 q3 q4 q5 ((q4 - q5) + (1 : Int64)) ((q4 ^^^ (q5 <<< ((3 : Int32) &&& 0x3f).toInt64)) + (7 : Int64)) T68.heap n0 Z68 F_b59_chargesAttempted_70 F_b59_chargesPaid_71 F_b59_chargesFailed_72 F_b59_events_73 Fq68_chargesAttempted Fq68_chargesPaid Fq68_chargesFailed Fq68_events) hZ (hw _ (List.mem_of_getElem? (i := 22) rfl)) (hw _ (List.mem_of_getElem? (i := 3) rfl)) (by decide) (by decide)) q75a q75c (g := (mkF m 58 #[.val (.long q0), .second, .val (.long q1), .second, .val (.long q2), .second, .val (.long q3), .second, .val (.long q4), .second, .val (.long q5), .second, .val (.long ((q4 - q5) + (1 : Int64))), .second, .val (.long ((q4 ^^^ (q5 <<< ((3 : Int32) &&& 0x3f).toInt64)) + (7 : Int64))), .second, .val (.ref b59), .val (.ref b62), .unset, .unset, .unset] [(.ref b62), (.ref b59)])) rfl (by rw [hml]; rfl) (Steps.refl _) (argsL := [(.ref b62)]) (rest := []) (lenOf pd__28Lcom_2fexample_2ftidewheel_2ftidewheel_2fbilling_2fProcessed_3b_29Lcom_2fexample_2ftidewheel_2ftidewheel_2fbilling_2fProcessed_3b rfl) rfl (by show 2 * 0 + _ ≤ _; exact Nat.le_of_eq rfl) (hb hby at_58) (fun _ _ => ⟨rfl, rfl, (by decide : 2 + 1 ≤ _), (by decide : 8 + 4 ≤ _)⟩)
  dsimp only [Pt.U, Pt.locs, Pt.cells, Pt.slots] at X75 l75 y75 z75 st75 hQ75
  subst l75 y75 z75
  obtain ⟨b75, rfl, N75q, K75, sz75, Eq75, Fq75_chargesAttempted, Fq75_chargesPaid, Fq75_chargesFailed, Fq75_events⟩ := hQ75
  have N75 := Fr.app N68 N75q
  have sz_b75 : h0.size ≤ b75 := Nat.le_trans KP68.1 sz75
  have g_b75 : n0 ≤ b75 := Nat.le_trans Z68 sz75
  have ne_b59_b75 : b59 ≠ b75 := Nat.ne_of_lt (Nat.lt_of_lt_of_le E_b59_69.lt sz75)
  have ne_b62_b75 : b62 ≠ b75 := Nat.ne_of_lt (Nat.lt_of_lt_of_le Eq68.lt sz75)
  have KP75 : Keep h0 T75.heap [] := KP68.trans K75 all0
  have Z75 : n0 ≤ T75.heap.size := Nat.le_trans Z68 K75.1
  have E_b59_76 : Exa Z T75.heap b59 "com/example/tidewheel/tidewheel/billing/Processed" := E_b59_69.keep K75
  have F_b59_chargesAttempted_77 : Fld Z T75.heap b59 "com/example/tidewheel/tidewheel/billing/Processed" "chargesAttempted" "J" (.long q0) := F_b59_chargesAttempted_70.keep K75 nin0
  have F_b59_chargesPaid_78 : Fld Z T75.heap b59 "com/example/tidewheel/tidewheel/billing/Processed" "chargesPaid" "J" (.long q1) := F_b59_chargesPaid_71.keep K75 nin0
  have F_b59_chargesFailed_79 : Fld Z T75.heap b59 "com/example/tidewheel/tidewheel/billing/Processed" "chargesFailed" "J" (.long q2) := F_b59_chargesFailed_72.keep K75 nin0
  have F_b59_events_80 : Fld Z T75.heap b59 "com/example/tidewheel/tidewheel/billing/Processed" "events" "J" (.long q3) := F_b59_events_73.keep K75 nin0
  have E_b62_81 : Exa Z T75.heap b62 "com/example/tidewheel/tidewheel/billing/Processed" := Eq68.keep K75
  have F_b62_chargesAttempted_82 : Fld Z T75.heap b62 "com/example/tidewheel/tidewheel/billing/Processed" "chargesAttempted" "J" (.long q4) := Fq68_chargesAttempted.keep K75 nin0
  have F_b62_chargesPaid_83 : Fld Z T75.heap b62 "com/example/tidewheel/tidewheel/billing/Processed" "chargesPaid" "J" (.long q5) := Fq68_chargesPaid.keep K75 nin0
  have F_b62_chargesFailed_84 : Fld Z T75.heap b62 "com/example/tidewheel/tidewheel/billing/Processed" "chargesFailed" "J" (.long ((q4 - q5) + (1 : Int64))) := Fq68_chargesFailed.keep K75 nin0
  have F_b62_events_85 : Fld Z T75.heap b62 "com/example/tidewheel/tidewheel/billing/Processed" "events" "J" (.long ((q4 ^^^ (q5 <<< ((3 : Int32) &&& 0x3f).toInt64)) + (7 : Int64))) := Fq68_events.keep K75 nin0
  obtain ⟨cq86, kq86, q86a, q86b, q86c⟩ := isOf hZ rfl Eq75
  obtain ⟨_, _, ⟨T86, L86, k86, n86⟩, -, X86, ⟨Lc86, hQ86, l86, y86, z86⟩, st86⟩ := X75.virtualBack hx (y := (⟨"com/example/tidewheel/tidewheel/billing/Processed", "chargesAttempted", "()J"⟩ : MethodName)) (z := (⟨"com/example/tidewheel/tidewheel/billing/Processed", "chargesAttempted", "()J"⟩ : MethodName)) hown (mvT hZ (hw _ (List.mem_of_getElem? (i := 25) rfl))) (mvT hZ (hw _ (List.mem_of_getElem? (i := 26) rfl))) (notFace_of_selects (args := #[]) (mvT hZ (hw _ (List.mem_of_getElem? (i := 28) rfl)))) (mvT hZ (hw _ (List.mem_of_getElem? (i := 28) rfl))) (mvT hZ (hw _ (List.mem_of_getElem? (i := 27) rfl))) (by decide) (backOf (W := 0) (rm4 l Z a0 hw [] b75 (q0 + q4) T75.heap n0 Z75 Fq75_chargesAttempted) hZ (hw _ (List.mem_of_getElem? (i := 29) rfl)) (hw _ (List.mem_of_getElem? (i := 3) rfl)) (by decide) (by decide)) q86a q86c (g := (mkF m 65 #[.val (.long q0), .second, .val (.long q1), .second, .val (.long q2), .second, .val (.long q3), .second, .val (.long q4), .second, .val (.long q5), .second, .val (.long ((q4 - q5) + (1 : Int64))), .second, .val (.long ((q4 ^^^ (q5 <<< ((3 : Int32) &&& 0x3f).toInt64)) + (7 : Int64))), .second, .val (.ref b59), .val (.ref b62), .val (.ref b75), .unset, .unset] [(.ref b75)])) rfl (by rw [hml]; rfl) (Steps.refl _) (argsL := []) (rest := []) (lenOf pd__28_29J rfl) rfl (by show 2 * 0 + _ ≤ _; exact Nat.le_of_eq rfl) (hb hby at_65) (fun _ _ => ⟨rfl, rfl, (by decide : 3 + 0 ≤ _), (by decide : 12 + 0 ≤ _)⟩)
  dsimp only [Pt.U, Pt.locs, Pt.cells, Pt.slots] at X86 l86 y86 z86 st86 hQ86
  subst l86 y86 z86
  obtain ⟨rfl, N86q, e86⟩ := hQ86
  have N86 := Fr.app N75 N86q
  obtain ⟨cq87, kq87, q87a, q87b, q87c⟩ := isOf hZ e86 Eq75
  obtain ⟨_, _, ⟨T87, L87, k87, n87⟩, -, X87, ⟨Lc87, hQ87, l87, y87, z87⟩, st87⟩ := X86.virtualBack hx (y := (⟨"com/example/tidewheel/tidewheel/billing/Processed", "chargesPaid", "()J"⟩ : MethodName)) (z := (⟨"com/example/tidewheel/tidewheel/billing/Processed", "chargesPaid", "()J"⟩ : MethodName)) hown (mvT hZ (hw _ (List.mem_of_getElem? (i := 30) rfl))) (mvT hZ (hw _ (List.mem_of_getElem? (i := 31) rfl))) (notFace_of_selects (args := #[]) (mvT hZ (hw _ (List.mem_of_getElem? (i := 33) rfl)))) (mvT hZ (hw _ (List.mem_of_getElem? (i := 33) rfl))) (mvT hZ (hw _ (List.mem_of_getElem? (i := 32) rfl))) (by decide) (backOf (W := 0) (rm5 l Z a0 hw [] b75 (q1 + q5) T75.heap n0 Z75 Fq75_chargesPaid) hZ (hw _ (List.mem_of_getElem? (i := 34) rfl)) (hw _ (List.mem_of_getElem? (i := 3) rfl)) (by decide) (by decide)) q87a q87c (g := (mkF m 78 #[.val (.long q0), .second, .val (.long q1), .second, .val (.long q2), .second, .val (.long q3), .second, .val (.long q4), .second, .val (.long q5), .second, .val (.long ((q4 - q5) + (1 : Int64))), .second, .val (.long ((q4 ^^^ (q5 <<< ((3 : Int32) &&& 0x3f).toInt64)) + (7 : Int64))), .second, .val (.ref b59), .val (.ref b62), .val (.ref b75), .unset, .unset] [(.ref b75)])) rfl (by rw [hml]; rfl) (Steps.refl _) (argsL := []) (rest := []) (lenOf pd__28_29J rfl) rfl (by show 2 * 0 + _ ≤ _; exact Nat.le_of_eq rfl) (hb hby at_78) (fun _ _ => ⟨rfl, e86, (by decide : 3 + 0 ≤ _), (by decide : 12 + 0 ≤ _)⟩)
  dsimp only [Pt.U, Pt.locs, Pt.cells, Pt.slots] at X87 l87 y87 z87 st87 hQ87
  subst l87 y87 z87
  obtain ⟨rfl, N87q, e87⟩ := hQ87
  have N87 := Fr.app N86 N87q
  obtain ⟨cq88, kq88, q88a, q88b, q88c⟩ := isOf hZ e87 Eq75
  obtain ⟨_, _, ⟨T88, L88, k88, n88⟩, -, X88, ⟨Lc88, hQ88, l88, y88, z88⟩, st88⟩ := X87.virtualBack hx (y := (⟨"com/example/tidewheel/tidewheel/billing/Processed", "chargesFailed", "()J"⟩ : MethodName)) (z := (⟨"com/example/tidewheel/tidewheel/billing/Processed", "chargesFailed", "()J"⟩ : MethodName)) hown (mvT hZ (hw _ (List.mem_of_getElem? (i := 35) rfl))) (mvT hZ (hw _ (List.mem_of_getElem? (i := 36) rfl))) (notFace_of_selects (args := #[]) (mvT hZ (hw _ (List.mem_of_getElem? (i := 38) rfl)))) (mvT hZ (hw _ (List.mem_of_getElem? (i := 38) rfl))) (mvT hZ (hw _ (List.mem_of_getElem? (i := 37) rfl))) (by decide) (backOf (W := 0) (rm6 l Z a0 hw [] b75 (q2 + ((q4 - q5) + (1 : Int64))) T75.heap n0 Z75 Fq75_chargesFailed) hZ (hw _ (List.mem_of_getElem? (i := 39) rfl)) (hw _ (List.mem_of_getElem? (i := 3) rfl)) (by decide) (by decide)) q88a q88c (g := (mkF m 91 #[.val (.long q0), .second, .val (.long q1), .second, .val (.long q2), .second, .val (.long q3), .second, .val (.long q4), .second, .val (.long q5), .second, .val (.long ((q4 - q5) + (1 : Int64))), .second, .val (.long ((q4 ^^^ (q5 <<< ((3 : Int32) &&& 0x3f).toInt64)) + (7 : Int64))), .second, .val (.ref b59), .val (.ref b62), .val (.ref b75), .unset, .unset] [(.ref b75)])) rfl (by rw [hml]; rfl) (Steps.refl _) (argsL := []) (rest := []) (lenOf pd__28_29J rfl) rfl (by show 2 * 0 + _ ≤ _; exact Nat.le_of_eq rfl) (hb hby at_91) (fun _ _ => ⟨rfl, e87, (by decide : 3 + 0 ≤ _), (by decide : 12 + 0 ≤ _)⟩)
  dsimp only [Pt.U, Pt.locs, Pt.cells, Pt.slots] at X88 l88 y88 z88 st88 hQ88
  subst l88 y88 z88
  obtain ⟨rfl, N88q, e88⟩ := hQ88
  have N88 := Fr.app N87 N88q
  obtain ⟨cq89, kq89, q89a, q89b, q89c⟩ := isOf hZ e88 Eq75
  obtain ⟨_, _, ⟨T89, L89, k89, n89⟩, -, X89, ⟨Lc89, hQ89, l89, y89, z89⟩, st89⟩ := X88.virtualBack hx (y := (⟨"com/example/tidewheel/tidewheel/billing/Processed", "events", "()J"⟩ : MethodName)) (z := (⟨"com/example/tidewheel/tidewheel/billing/Processed", "events", "()J"⟩ : MethodName)) hown (mvT hZ (hw _ (List.mem_of_getElem? (i := 40) rfl))) (mvT hZ (hw _ (List.mem_of_getElem? (i := 41) rfl))) (notFace_of_selects (args := #[]) (mvT hZ (hw _ (List.mem_of_getElem? (i := 43) rfl)))) (mvT hZ (hw _ (List.mem_of_getElem? (i := 43) rfl))) (mvT hZ (hw _ (List.mem_of_getElem? (i := 42) rfl))) (by decide) (backOf (W := 0) (rm7 l Z a0 hw [] b75 (q3 + ((q4 ^^^ (q5 <<< ((3 : Int32) &&& 0x3f).toInt64)) + (7 : Int64))) T75.heap n0 Z75 Fq75_events) hZ (hw _ (List.mem_of_getElem? (i := 44) rfl)) (hw _ (List.mem_of_getElem? (i := 3) rfl)) (by decide) (by decide)) q89a q89c (g := (mkF m 105 #[.val (.long q0), .second, .val (.long q1), .second, .val (.long q2), .second, .val (.long q3), .second, .val (.long q4), .second, .val (.long q5), .second, .val (.long ((q4 - q5) + (1 : Int64))), .second, .val (.long ((q4 ^^^ (q5 <<< ((3 : Int32) &&& 0x3f).toInt64)) + (7 : Int64))), .second, .val (.ref b59), .val (.ref b62), .val (.ref b75), .unset, .unset] [(.ref b75)])) rfl (by rw [hml]; rfl) (Steps.refl _) (argsL := []) (rest := []) (lenOf pd__28_29J rfl) rfl (by show 2 * 0 + _ ≤ _; exact Nat.le_of_eq rfl) (hb hby at_105) (fun _ _ => ⟨rfl, e88, (by decide : 3 + 0 ≤ _), (by decide : 12 + 0 ≤ _)⟩)
  dsimp only [Pt.U, Pt.locs, Pt.cells, Pt.slots] at X89 l89 y89 z89 st89 hQ89
  subst l89 y89 z89
  obtain ⟨rfl, N89q, e89⟩ := hQ89
  have N89 := Fr.app N88 N89q
  obtain ⟨cq90, kq90, q90a, q90b, q90c⟩ := isOf hZ e89 E_b59_76
  obtain ⟨_, _, ⟨T90, L90, k90, n90⟩, -, X90, ⟨Lc90, hQ90, l90, y90, z90⟩, st90⟩ := X89.virtualBack hx (y := (⟨"com/example/tidewheel/tidewheel/billing/Processed", "chargesAttempted", "()J"⟩ : MethodName)) (z := (⟨"com/example/tidewheel/tidewheel/billing/Processed", "chargesAttempted", "()J"⟩ : MethodName)) hown (mvT hZ (hw _ (List.mem_of_getElem? (i := 25) rfl))) (mvT hZ (hw _ (List.mem_of_getElem? (i := 26) rfl))) (notFace_of_selects (args := #[]) (mvT hZ (hw _ (List.mem_of_getElem? (i := 28) rfl)))) (mvT hZ (hw _ (List.mem_of_getElem? (i := 28) rfl))) (mvT hZ (hw _ (List.mem_of_getElem? (i := 27) rfl))) (by decide) (backOf (W := 0) (rm4 l Z a0 hw [] b59 q0 T75.heap n0 Z75 F_b59_chargesAttempted_77) hZ (hw _ (List.mem_of_getElem? (i := 29) rfl)) (hw _ (List.mem_of_getElem? (i := 3) rfl)) (by decide) (by decide)) q90a q90c (g := (mkF m 126 #[.val (.long q0), .second, .val (.long q1), .second, .val (.long q2), .second, .val (.long q3), .second, .val (.long q4), .second, .val (.long q5), .second, .val (.long ((q4 - q5) + (1 : Int64))), .second, .val (.long ((q4 ^^^ (q5 <<< ((3 : Int32) &&& 0x3f).toInt64)) + (7 : Int64))), .second, .val (.ref b59), .val (.ref b62), .val (.ref b75), .val (.int (1 : Int32)), .unset] [(.ref b59)])) rfl (by rw [hml]; rfl) (Steps.refl _) (argsL := []) (rest := []) (lenOf pd__28_29J rfl) rfl (by show 2 * 0 + _ ≤ _; exact Nat.le_of_eq rfl) (hb hby at_126) (fun _ _ => ⟨rfl, e89, (by decide : 3 + 0 ≤ _), (by decide : 12 + 0 ≤ _)⟩)
  dsimp only [Pt.U, Pt.locs, Pt.cells, Pt.slots] at X90 l90 y90 z90 st90 hQ90
  subst l90 y90 z90
  obtain ⟨rfl, N90q, e90⟩ := hQ90
  have N90 := Fr.app N89 N90q
  obtain ⟨cq91, kq91, q91a, q91b, q91c⟩ := isOf hZ e90 E_b59_76
  obtain ⟨_, _, ⟨T91, L91, k91, n91⟩, -, X91, ⟨Lc91, hQ91, l91, y91, z91⟩, st91⟩ := X90.virtualBack hx (y := (⟨"com/example/tidewheel/tidewheel/billing/Processed", "chargesPaid", "()J"⟩ : MethodName)) (z := (⟨"com/example/tidewheel/tidewheel/billing/Processed", "chargesPaid", "()J"⟩ : MethodName)) hown (mvT hZ (hw _ (List.mem_of_getElem? (i := 30) rfl))) (mvT hZ (hw _ (List.mem_of_getElem? (i := 31) rfl))) (notFace_of_selects (args := #[]) (mvT hZ (hw _ (List.mem_of_getElem? (i := 33) rfl)))) (mvT hZ (hw _ (List.mem_of_getElem? (i := 33) rfl))) (mvT hZ (hw _ (List.mem_of_getElem? (i := 32) rfl))) (by decide) (backOf (W := 0) (rm5 l Z a0 hw [] b59 q1 T75.heap n0 Z75 F_b59_chargesPaid_78) hZ (hw _ (List.mem_of_getElem? (i := 34) rfl)) (hw _ (List.mem_of_getElem? (i := 3) rfl)) (by decide) (by decide)) q91a q91c (g := (mkF m 136 #[.val (.long q0), .second, .val (.long q1), .second, .val (.long q2), .second, .val (.long q3), .second, .val (.long q4), .second, .val (.long q5), .second, .val (.long ((q4 - q5) + (1 : Int64))), .second, .val (.long ((q4 ^^^ (q5 <<< ((3 : Int32) &&& 0x3f).toInt64)) + (7 : Int64))), .second, .val (.ref b59), .val (.ref b62), .val (.ref b75), .val (.int (1 : Int32)), .unset] [(.ref b59)])) rfl (by rw [hml]; rfl) (Steps.refl _) (argsL := []) (rest := []) (lenOf pd__28_29J rfl) rfl (by show 2 * 0 + _ ≤ _; exact Nat.le_of_eq rfl) (hb hby at_136) (fun _ _ => ⟨rfl, e90, (by decide : 3 + 0 ≤ _), (by decide : 12 + 0 ≤ _)⟩)
  dsimp only [Pt.U, Pt.locs, Pt.cells, Pt.slots] at X91 l91 y91 z91 st91 hQ91
  subst l91 y91 z91
  obtain ⟨rfl, N91q, e91⟩ := hQ91
  have N91 := Fr.app N90 N91q
  obtain ⟨cq92, kq92, q92a, q92b, q92c⟩ := isOf hZ e91 E_b59_76
  obtain ⟨_, _, ⟨T92, L92, k92, n92⟩, -, X92, ⟨Lc92, hQ92, l92, y92, z92⟩, st92⟩ := X91.virtualBack hx (y := (⟨"com/example/tidewheel/tidewheel/billing/Processed", "chargesFailed", "()J"⟩ : MethodName)) (z := (⟨"com/example/tidewheel/tidewheel/billing/Processed", "chargesFailed", "()J"⟩ : MethodName)) hown (mvT hZ (hw _ (List.mem_of_getElem? (i := 35) rfl))) (mvT hZ (hw _ (List.mem_of_getElem? (i := 36) rfl))) (notFace_of_selects (args := #[]) (mvT hZ (hw _ (List.mem_of_getElem? (i := 38) rfl)))) (mvT hZ (hw _ (List.mem_of_getElem? (i := 38) rfl))) (mvT hZ (hw _ (List.mem_of_getElem? (i := 37) rfl))) (by decide) (backOf (W := 0) (rm6 l Z a0 hw [] b59 q2 T75.heap n0 Z75 F_b59_chargesFailed_79) hZ (hw _ (List.mem_of_getElem? (i := 39) rfl)) (hw _ (List.mem_of_getElem? (i := 3) rfl)) (by decide) (by decide)) q92a q92c (g := (mkF m 146 #[.val (.long q0), .second, .val (.long q1), .second, .val (.long q2), .second, .val (.long q3), .second, .val (.long q4), .second, .val (.long q5), .second, .val (.long ((q4 - q5) + (1 : Int64))), .second, .val (.long ((q4 ^^^ (q5 <<< ((3 : Int32) &&& 0x3f).toInt64)) + (7 : Int64))), .second, .val (.ref b59), .val (.ref b62), .val (.ref b75), .val (.int (1 : Int32)), .unset] [(.ref b59)])) rfl (by rw [hml]; rfl) (Steps.refl _) (argsL := []) (rest := []) (lenOf pd__28_29J rfl) rfl (by show 2 * 0 + _ ≤ _; exact Nat.le_of_eq rfl) (hb hby at_146) (fun _ _ => ⟨rfl, e91, (by decide : 3 + 0 ≤ _), (by decide : 12 + 0 ≤ _)⟩)
  dsimp only [Pt.U, Pt.locs, Pt.cells, Pt.slots] at X92 l92 y92 z92 st92 hQ92
  subst l92 y92 z92
  obtain ⟨rfl, N92q, e92⟩ := hQ92
  have N92 := Fr.app N91 N92q
  obtain ⟨cq93, kq93, q93a, q93b, q93c⟩ := isOf hZ e92 E_b59_76
  obtain ⟨_, _, ⟨T93, L93, k93, n93⟩, -, X93, ⟨Lc93, hQ93, l93, y93, z93⟩, st93⟩ := X92.virtualBack hx (y := (⟨"com/example/tidewheel/tidewheel/billing/Processed", "events", "()J"⟩ : MethodName)) (z := (⟨"com/example/tidewheel/tidewheel/billing/Processed", "events", "()J"⟩ : MethodName)) hown (mvT hZ (hw _ (List.mem_of_getElem? (i := 40) rfl))) (mvT hZ (hw _ (List.mem_of_getElem? (i := 41) rfl))) (notFace_of_selects (args := #[]) (mvT hZ (hw _ (List.mem_of_getElem? (i := 43) rfl)))) (mvT hZ (hw _ (List.mem_of_getElem? (i := 43) rfl))) (mvT hZ (hw _ (List.mem_of_getElem? (i := 42) rfl))) (by decide) (backOf (W := 0) (rm7 l Z a0 hw [] b59 q3 T75.heap n0 Z75 F_b59_events_80) hZ (hw _ (List.mem_of_getElem? (i := 44) rfl)) (hw _ (List.mem_of_getElem? (i := 3) rfl)) (by decide) (by decide)) q93a q93c (g := (mkF m 157 #[.val (.long q0), .second, .val (.long q1), .second, .val (.long q2), .second, .val (.long q3), .second, .val (.long q4), .second, .val (.long q5), .second, .val (.long ((q4 - q5) + (1 : Int64))), .second, .val (.long ((q4 ^^^ (q5 <<< ((3 : Int32) &&& 0x3f).toInt64)) + (7 : Int64))), .second, .val (.ref b59), .val (.ref b62), .val (.ref b75), .val (.int (1 : Int32)), .unset] [(.ref b59)])) rfl (by rw [hml]; rfl) (Steps.refl _) (argsL := []) (rest := []) (lenOf pd__28_29J rfl) rfl (by show 2 * 0 + _ ≤ _; exact Nat.le_of_eq rfl) (hb hby at_157) (fun _ _ => ⟨rfl, e92, (by decide : 3 + 0 ≤ _), (by decide : 12 + 0 ≤ _)⟩)
  dsimp only [Pt.U, Pt.locs, Pt.cells, Pt.slots] at X93 l93 y93 z93 st93 hQ93
  subst l93 y93 z93
  obtain ⟨rfl, N93q, e93⟩ := hQ93
  have N93 := Fr.app N92 N93q
  obtain ⟨cq94, kq94, q94a, q94b, q94c⟩ := isOf hZ e93 E_b62_81
  obtain ⟨_, _, ⟨T94, L94, k94, n94⟩, -, X94, ⟨Lc94, hQ94, l94, y94, z94⟩, st94⟩ := X93.virtualBack hx (y := (⟨"com/example/tidewheel/tidewheel/billing/Processed", "chargesAttempted", "()J"⟩ : MethodName)) (z := (⟨"com/example/tidewheel/tidewheel/billing/Processed", "chargesAttempted", "()J"⟩ : MethodName)) hown (mvT hZ (hw _ (List.mem_of_getElem? (i := 25) rfl))) (mvT hZ (hw _ (List.mem_of_getElem? (i := 26) rfl))) (notFace_of_selects (args := #[]) (mvT hZ (hw _ (List.mem_of_getElem? (i := 28) rfl)))) (mvT hZ (hw _ (List.mem_of_getElem? (i := 28) rfl))) (mvT hZ (hw _ (List.mem_of_getElem? (i := 27) rfl))) (by decide) (backOf (W := 0) (rm4 l Z a0 hw [] b62 q4 T75.heap n0 Z75 F_b62_chargesAttempted_82) hZ (hw _ (List.mem_of_getElem? (i := 29) rfl)) (hw _ (List.mem_of_getElem? (i := 3) rfl)) (by decide) (by decide)) q94a q94c (g := (mkF m 168 #[.val (.long q0), .second, .val (.long q1), .second, .val (.long q2), .second, .val (.long q3), .second, .val (.long q4), .second, .val (.long q5), .second, .val (.long ((q4 - q5) + (1 : Int64))), .second, .val (.long ((q4 ^^^ (q5 <<< ((3 : Int32) &&& 0x3f).toInt64)) + (7 : Int64))), .second, .val (.ref b59), .val (.ref b62), .val (.ref b75), .val (.int (1 : Int32)), .unset] [(.ref b62)])) rfl (by rw [hml]; rfl) (Steps.refl _) (argsL := []) (rest := []) (lenOf pd__28_29J rfl) rfl (by show 2 * 0 + _ ≤ _; exact Nat.le_of_eq rfl) (hb hby at_168) (fun _ _ => ⟨rfl, e93, (by decide : 3 + 0 ≤ _), (by decide : 12 + 0 ≤ _)⟩)
  dsimp only [Pt.U, Pt.locs, Pt.cells, Pt.slots] at X94 l94 y94 z94 st94 hQ94
  subst l94 y94 z94
  obtain ⟨rfl, N94q, e94⟩ := hQ94
  have N94 := Fr.app N93 N94q
  obtain ⟨cq95, kq95, q95a, q95b, q95c⟩ := isOf hZ e94 E_b62_81
  obtain ⟨_, _, ⟨T95, L95, k95, n95⟩, -, X95, ⟨Lc95, hQ95, l95, y95, z95⟩, st95⟩ := X94.virtualBack hx (y := (⟨"com/example/tidewheel/tidewheel/billing/Processed", "events", "()J"⟩ : MethodName)) (z := (⟨"com/example/tidewheel/tidewheel/billing/Processed", "events", "()J"⟩ : MethodName)) hown (mvT hZ (hw _ (List.mem_of_getElem? (i := 40) rfl))) (mvT hZ (hw _ (List.mem_of_getElem? (i := 41) rfl))) (notFace_of_selects (args := #[]) (mvT hZ (hw _ (List.mem_of_getElem? (i := 43) rfl)))) (mvT hZ (hw _ (List.mem_of_getElem? (i := 43) rfl))) (mvT hZ (hw _ (List.mem_of_getElem? (i := 42) rfl))) (by decide) (backOf (W := 0) (rm7 l Z a0 hw [] b62 ((q4 ^^^ (q5 <<< ((3 : Int32) &&& 0x3f).toInt64)) + (7 : Int64)) T75.heap n0 Z75 F_b62_events_85) hZ (hw _ (List.mem_of_getElem? (i := 44) rfl)) (hw _ (List.mem_of_getElem? (i := 3) rfl)) (by decide) (by decide)) q95a q95c (g := (mkF m 179 #[.val (.long q0), .second, .val (.long q1), .second, .val (.long q2), .second, .val (.long q3), .second, .val (.long q4), .second, .val (.long q5), .second, .val (.long ((q4 - q5) + (1 : Int64))), .second, .val (.long ((q4 ^^^ (q5 <<< ((3 : Int32) &&& 0x3f).toInt64)) + (7 : Int64))), .second, .val (.ref b59), .val (.ref b62), .val (.ref b75), .val (.int (1 : Int32)), .unset] [(.ref b62)])) rfl (by rw [hml]; rfl) (Steps.refl _) (argsL := []) (rest := []) (lenOf pd__28_29J rfl) rfl (by show 2 * 0 + _ ≤ _; exact Nat.le_of_eq rfl) (hb hby at_179) (fun _ _ => ⟨rfl, e94, (by decide : 3 + 0 ≤ _), (by decide : 12 + 0 ≤ _)⟩)
  dsimp only [Pt.U, Pt.locs, Pt.cells, Pt.slots] at X95 l95 y95 z95 st95 hQ95
  subst l95 y95 z95
  obtain ⟨rfl, N95q, e95⟩ := hQ95
  have N95 := Fr.app N94 N95q
  have pre96 : ∀ t, Steps p.tables e below (T95.setTop (mkF m 210 #[.val (.long q0), .second, .val (.long q1), .second, .val (.long q2), .second, .val (.long q3), .second, .val (.long q4), .second, .val (.long q5), .second, .val (.long ((q4 - q5) + (1 : Int64))), .second, .val (.long ((q4 ^^^ (q5 <<< ((3 : Int32) &&& 0x3f).toInt64)) + (7 : Int64))), .second, .val (.ref b59), .val (.ref b62), .val (.ref b75), .val (.int (1 : Int32)), .val (.int (1 : Int32))] [(.int (1 : Int32))])) t → Steps p.tables e below (s₁.setTop (entryFrame m #[(.long q0), (.long q1), (.long q2), (.long q3), (.long q4), (.long q5)] maxLocals)) t := by
    intro t kk
    refine pre0 t ?_
    show Steps p.tables e below (s₁.setTop (mkF m 0 #[.val (.long q0), .second, .val (.long q1), .second, .val (.long q2), .second, .val (.long q3), .second, .val (.long q4), .second, .val (.long q5), .second, .unset, .unset, .unset, .unset, .unset, .unset, .unset, .unset, .unset] [])) _
    refine XS.lload X0.here hx rfl (hb hby at_0) rfl ?_
    show Steps p.tables e below (s₁.setTop (mkF m 2 #[.val (.long q0), .second, .val (.long q1), .second, .val (.long q2), .second, .val (.long q3), .second, .val (.long q4), .second, .val (.long q5), .second, .unset, .unset, .unset, .unset, .unset, .unset, .unset, .unset, .unset] [(.long q4)])) _
    refine XS.lload X0.here hx rfl (hb hby at_2) rfl ?_
    show Steps p.tables e below (s₁.setTop (mkF m 4 #[.val (.long q0), .second, .val (.long q1), .second, .val (.long q2), .second, .val (.long q3), .second, .val (.long q4), .second, .val (.long q5), .second, .unset, .unset, .unset, .unset, .unset, .unset, .unset, .unset, .unset] [(.long q5), (.long q4)])) _
    refine XS.lsub X0.here hx rfl (hb hby at_4) rfl ?_
    show Steps p.tables e below (s₁.setTop (mkF m 5 #[.val (.long q0), .second, .val (.long q1), .second, .val (.long q2), .second, .val (.long q3), .second, .val (.long q4), .second, .val (.long q5), .second, .unset, .unset, .unset, .unset, .unset, .unset, .unset, .unset, .unset] [(.long (q4 - q5))])) _
    refine XS.lconst X0.here hx rfl (hb hby at_5) ?_
    show Steps p.tables e below (s₁.setTop (mkF m 6 #[.val (.long q0), .second, .val (.long q1), .second, .val (.long q2), .second, .val (.long q3), .second, .val (.long q4), .second, .val (.long q5), .second, .unset, .unset, .unset, .unset, .unset, .unset, .unset, .unset, .unset] [(.long (1 : Int64)), (.long (q4 - q5))])) _
    refine XS.ladd X0.here hx rfl (hb hby at_6) rfl ?_
    show Steps p.tables e below (s₁.setTop (mkF m 7 #[.val (.long q0), .second, .val (.long q1), .second, .val (.long q2), .second, .val (.long q3), .second, .val (.long q4), .second, .val (.long q5), .second, .unset, .unset, .unset, .unset, .unset, .unset, .unset, .unset, .unset] [(.long ((q4 - q5) + (1 : Int64)))])) _
    refine XS.lstore X0.here hx rfl (hb hby at_7) rfl (l' := #[.val (.long q0), .second, .val (.long q1), .second, .val (.long q2), .second, .val (.long q3), .second, .val (.long q4), .second, .val (.long q5), .second, .val (.long ((q4 - q5) + (1 : Int64))), .second, .unset, .unset, .unset, .unset, .unset, .unset, .unset]) rfl ?_
    show Steps p.tables e below (s₁.setTop (mkF m 9 #[.val (.long q0), .second, .val (.long q1), .second, .val (.long q2), .second, .val (.long q3), .second, .val (.long q4), .second, .val (.long q5), .second, .val (.long ((q4 - q5) + (1 : Int64))), .second, .unset, .unset, .unset, .unset, .unset, .unset, .unset] [])) _
    refine XS.lload X0.here hx rfl (hb hby at_9) rfl ?_
    show Steps p.tables e below (s₁.setTop (mkF m 11 #[.val (.long q0), .second, .val (.long q1), .second, .val (.long q2), .second, .val (.long q3), .second, .val (.long q4), .second, .val (.long q5), .second, .val (.long ((q4 - q5) + (1 : Int64))), .second, .unset, .unset, .unset, .unset, .unset, .unset, .unset] [(.long q4)])) _
    refine XS.lload X0.here hx rfl (hb hby at_11) rfl ?_
    show Steps p.tables e below (s₁.setTop (mkF m 13 #[.val (.long q0), .second, .val (.long q1), .second, .val (.long q2), .second, .val (.long q3), .second, .val (.long q4), .second, .val (.long q5), .second, .val (.long ((q4 - q5) + (1 : Int64))), .second, .unset, .unset, .unset, .unset, .unset, .unset, .unset] [(.long q5), (.long q4)])) _
    refine XS.iconst X0.here hx rfl (hb hby at_13) ?_
    show Steps p.tables e below (s₁.setTop (mkF m 14 #[.val (.long q0), .second, .val (.long q1), .second, .val (.long q2), .second, .val (.long q3), .second, .val (.long q4), .second, .val (.long q5), .second, .val (.long ((q4 - q5) + (1 : Int64))), .second, .unset, .unset, .unset, .unset, .unset, .unset, .unset] [(.int (3 : Int32)), (.long q5), (.long q4)])) _
    refine XS.lshl X0.here hx rfl (hb hby at_14) rfl ?_
    show Steps p.tables e below (s₁.setTop (mkF m 15 #[.val (.long q0), .second, .val (.long q1), .second, .val (.long q2), .second, .val (.long q3), .second, .val (.long q4), .second, .val (.long q5), .second, .val (.long ((q4 - q5) + (1 : Int64))), .second, .unset, .unset, .unset, .unset, .unset, .unset, .unset] [(.long (q5 <<< ((3 : Int32) &&& 0x3f).toInt64)), (.long q4)])) _
    refine XS.lxor X0.here hx rfl (hb hby at_15) rfl ?_
    show Steps p.tables e below (s₁.setTop (mkF m 16 #[.val (.long q0), .second, .val (.long q1), .second, .val (.long q2), .second, .val (.long q3), .second, .val (.long q4), .second, .val (.long q5), .second, .val (.long ((q4 - q5) + (1 : Int64))), .second, .unset, .unset, .unset, .unset, .unset, .unset, .unset] [(.long (q4 ^^^ (q5 <<< ((3 : Int32) &&& 0x3f).toInt64)))])) _
    refine X0.ldc2Long hx hown (mvT hZ (hw _ (List.mem_of_getElem? (i := 0) rfl))) (g := (mkF m 16 #[.val (.long q0), .second, .val (.long q1), .second, .val (.long q2), .second, .val (.long q3), .second, .val (.long q4), .second, .val (.long q5), .second, .val (.long ((q4 - q5) + (1 : Int64))), .second, .unset, .unset, .unset, .unset, .unset, .unset, .unset] [(.long (q4 ^^^ (q5 <<< ((3 : Int32) &&& 0x3f).toInt64)))])) rfl (hb hby at_16) _ ?_
    show Steps p.tables e below (s₁.setTop (mkF m 19 #[.val (.long q0), .second, .val (.long q1), .second, .val (.long q2), .second, .val (.long q3), .second, .val (.long q4), .second, .val (.long q5), .second, .val (.long ((q4 - q5) + (1 : Int64))), .second, .unset, .unset, .unset, .unset, .unset, .unset, .unset] [(.long (7 : Int64)), (.long (q4 ^^^ (q5 <<< ((3 : Int32) &&& 0x3f).toInt64)))])) _
    refine XS.ladd X0.here hx rfl (hb hby at_19) rfl ?_
    show Steps p.tables e below (s₁.setTop (mkF m 20 #[.val (.long q0), .second, .val (.long q1), .second, .val (.long q2), .second, .val (.long q3), .second, .val (.long q4), .second, .val (.long q5), .second, .val (.long ((q4 - q5) + (1 : Int64))), .second, .unset, .unset, .unset, .unset, .unset, .unset, .unset] [(.long ((q4 ^^^ (q5 <<< ((3 : Int32) &&& 0x3f).toInt64)) + (7 : Int64)))])) _
    refine XS.lstore X0.here hx rfl (hb hby at_20) rfl (l' := #[.val (.long q0), .second, .val (.long q1), .second, .val (.long q2), .second, .val (.long q3), .second, .val (.long q4), .second, .val (.long q5), .second, .val (.long ((q4 - q5) + (1 : Int64))), .second, .val (.long ((q4 ^^^ (q5 <<< ((3 : Int32) &&& 0x3f).toInt64)) + (7 : Int64))), .second, .unset, .unset, .unset, .unset, .unset]) rfl ?_
    show Steps p.tables e below (s₁.setTop (mkF m 22 #[.val (.long q0), .second, .val (.long q1), .second, .val (.long q2), .second, .val (.long q3), .second, .val (.long q4), .second, .val (.long q5), .second, .val (.long ((q4 - q5) + (1 : Int64))), .second, .val (.long ((q4 ^^^ (q5 <<< ((3 : Int32) &&& 0x3f).toInt64)) + (7 : Int64))), .second, .unset, .unset, .unset, .unset, .unset] [])) _
    refine st59 _ ?_
    show Steps p.tables e below (T59.setTop (mkF m 25 #[.val (.long q0), .second, .val (.long q1), .second, .val (.long q2), .second, .val (.long q3), .second, .val (.long q4), .second, .val (.long q5), .second, .val (.long ((q4 - q5) + (1 : Int64))), .second, .val (.long ((q4 ^^^ (q5 <<< ((3 : Int32) &&& 0x3f).toInt64)) + (7 : Int64))), .second, .unset, .unset, .unset, .unset, .unset] [(.ref b59)])) _
    refine XS.dup X59.here hx rfl (hb hby at_25) rfl rfl ?_
    show Steps p.tables e below (T59.setTop (mkF m 26 #[.val (.long q0), .second, .val (.long q1), .second, .val (.long q2), .second, .val (.long q3), .second, .val (.long q4), .second, .val (.long q5), .second, .val (.long ((q4 - q5) + (1 : Int64))), .second, .val (.long ((q4 ^^^ (q5 <<< ((3 : Int32) &&& 0x3f).toInt64)) + (7 : Int64))), .second, .unset, .unset, .unset, .unset, .unset] [(.ref b59), (.ref b59)])) _
    refine XS.lloadN X59.here hx rfl (hb hby at_26) rfl ?_
    show Steps p.tables e below (T59.setTop (mkF m 27 #[.val (.long q0), .second, .val (.long q1), .second, .val (.long q2), .second, .val (.long q3), .second, .val (.long q4), .second, .val (.long q5), .second, .val (.long ((q4 - q5) + (1 : Int64))), .second, .val (.long ((q4 ^^^ (q5 <<< ((3 : Int32) &&& 0x3f).toInt64)) + (7 : Int64))), .second, .unset, .unset, .unset, .unset, .unset] [(.long q0), (.ref b59), (.ref b59)])) _
    refine XS.lloadN X59.here hx rfl (hb hby at_27) rfl ?_
    show Steps p.tables e below (T59.setTop (mkF m 28 #[.val (.long q0), .second, .val (.long q1), .second, .val (.long q2), .second, .val (.long q3), .second, .val (.long q4), .second, .val (.long q5), .second, .val (.long ((q4 - q5) + (1 : Int64))), .second, .val (.long ((q4 ^^^ (q5 <<< ((3 : Int32) &&& 0x3f).toInt64)) + (7 : Int64))), .second, .unset, .unset, .unset, .unset, .unset] [(.long q1), (.long q0), (.ref b59), (.ref b59)])) _
    refine XS.lload X59.here hx rfl (hb hby at_28) rfl ?_
    show Steps p.tables e below (T59.setTop (mkF m 30 #[.val (.long q0), .second, .val (.long q1), .second, .val (.long q2), .second, .val (.long q3), .second, .val (.long q4), .second, .val (.long q5), .second, .val (.long ((q4 - q5) + (1 : Int64))), .second, .val (.long ((q4 ^^^ (q5 <<< ((3 : Int32) &&& 0x3f).toInt64)) + (7 : Int64))), .second, .unset, .unset, .unset, .unset, .unset] [(.long q2), (.long q1), (.long q0), (.ref b59), (.ref b59)])) _
    refine XS.lload X59.here hx rfl (hb hby at_30) rfl ?_
    show Steps p.tables e below (T59.setTop (mkF m 32 #[.val (.long q0), .second, .val (.long q1), .second, .val (.long q2), .second, .val (.long q3), .second, .val (.long q4), .second, .val (.long q5), .second, .val (.long ((q4 - q5) + (1 : Int64))), .second, .val (.long ((q4 ^^^ (q5 <<< ((3 : Int32) &&& 0x3f).toInt64)) + (7 : Int64))), .second, .unset, .unset, .unset, .unset, .unset] [(.long q3), (.long q2), (.long q1), (.long q0), (.ref b59), (.ref b59)])) _
    refine st60.trans ?_
    show Steps p.tables e below (T60.setTop (mkF m 35 #[.val (.long q0), .second, .val (.long q1), .second, .val (.long q2), .second, .val (.long q3), .second, .val (.long q4), .second, .val (.long q5), .second, .val (.long ((q4 - q5) + (1 : Int64))), .second, .val (.long ((q4 ^^^ (q5 <<< ((3 : Int32) &&& 0x3f).toInt64)) + (7 : Int64))), .second, .unset, .unset, .unset, .unset, .unset] [(.ref b59)])) _
    refine XS.astore X60.here hx rfl (hb hby at_35) rfl rfl (l' := #[.val (.long q0), .second, .val (.long q1), .second, .val (.long q2), .second, .val (.long q3), .second, .val (.long q4), .second, .val (.long q5), .second, .val (.long ((q4 - q5) + (1 : Int64))), .second, .val (.long ((q4 ^^^ (q5 <<< ((3 : Int32) &&& 0x3f).toInt64)) + (7 : Int64))), .second, .val (.ref b59), .unset, .unset, .unset, .unset]) rfl ?_
    show Steps p.tables e below (T60.setTop (mkF m 37 #[.val (.long q0), .second, .val (.long q1), .second, .val (.long q2), .second, .val (.long q3), .second, .val (.long q4), .second, .val (.long q5), .second, .val (.long ((q4 - q5) + (1 : Int64))), .second, .val (.long ((q4 ^^^ (q5 <<< ((3 : Int32) &&& 0x3f).toInt64)) + (7 : Int64))), .second, .val (.ref b59), .unset, .unset, .unset, .unset] [])) _
    refine st62 _ ?_
    show Steps p.tables e below (T62.setTop (mkF m 40 #[.val (.long q0), .second, .val (.long q1), .second, .val (.long q2), .second, .val (.long q3), .second, .val (.long q4), .second, .val (.long q5), .second, .val (.long ((q4 - q5) + (1 : Int64))), .second, .val (.long ((q4 ^^^ (q5 <<< ((3 : Int32) &&& 0x3f).toInt64)) + (7 : Int64))), .second, .val (.ref b59), .unset, .unset, .unset, .unset] [(.ref b62)])) _
    refine XS.dup X62.here hx rfl (hb hby at_40) rfl rfl ?_
    show Steps p.tables e below (T62.setTop (mkF m 41 #[.val (.long q0), .second, .val (.long q1), .second, .val (.long q2), .second, .val (.long q3), .second, .val (.long q4), .second, .val (.long q5), .second, .val (.long ((q4 - q5) + (1 : Int64))), .second, .val (.long ((q4 ^^^ (q5 <<< ((3 : Int32) &&& 0x3f).toInt64)) + (7 : Int64))), .second, .val (.ref b59), .unset, .unset, .unset, .unset] [(.ref b62), (.ref b62)])) _
    refine XS.lload X62.here hx rfl (hb hby at_41) rfl ?_
    show Steps p.tables e below (T62.setTop (mkF m 43 #[.val (.long q0), .second, .val (.long q1), .second, .val (.long q2), .second, .val (.long q3), .second, .val (.long q4), .second, .val (.long q5), .second, .val (.long ((q4 - q5) + (1 : Int64))), .second, .val (.long ((q4 ^^^ (q5 <<< ((3 : Int32) &&& 0x3f).toInt64)) + (7 : Int64))), .second, .val (.ref b59), .unset, .unset, .unset, .unset] [(.long q4), (.ref b62), (.ref b62)])) _
    refine XS.lload X62.here hx rfl (hb hby at_43) rfl ?_
    show Steps p.tables e below (T62.setTop (mkF m 45 #[.val (.long q0), .second, .val (.long q1), .second, .val (.long q2), .second, .val (.long q3), .second, .val (.long q4), .second, .val (.long q5), .second, .val (.long ((q4 - q5) + (1 : Int64))), .second, .val (.long ((q4 ^^^ (q5 <<< ((3 : Int32) &&& 0x3f).toInt64)) + (7 : Int64))), .second, .val (.ref b59), .unset, .unset, .unset, .unset] [(.long q5), (.long q4), (.ref b62), (.ref b62)])) _
    refine XS.lload X62.here hx rfl (hb hby at_45) rfl ?_
    show Steps p.tables e below (T62.setTop (mkF m 47 #[.val (.long q0), .second, .val (.long q1), .second, .val (.long q2), .second, .val (.long q3), .second, .val (.long q4), .second, .val (.long q5), .second, .val (.long ((q4 - q5) + (1 : Int64))), .second, .val (.long ((q4 ^^^ (q5 <<< ((3 : Int32) &&& 0x3f).toInt64)) + (7 : Int64))), .second, .val (.ref b59), .unset, .unset, .unset, .unset] [(.long ((q4 - q5) + (1 : Int64))), (.long q5), (.long q4), (.ref b62), (.ref b62)])) _
    refine XS.lload X62.here hx rfl (hb hby at_47) rfl ?_
    show Steps p.tables e below (T62.setTop (mkF m 49 #[.val (.long q0), .second, .val (.long q1), .second, .val (.long q2), .second, .val (.long q3), .second, .val (.long q4), .second, .val (.long q5), .second, .val (.long ((q4 - q5) + (1 : Int64))), .second, .val (.long ((q4 ^^^ (q5 <<< ((3 : Int32) &&& 0x3f).toInt64)) + (7 : Int64))), .second, .val (.ref b59), .unset, .unset, .unset, .unset] [(.long ((q4 ^^^ (q5 <<< ((3 : Int32) &&& 0x3f).toInt64)) + (7 : Int64))), (.long ((q4 - q5) + (1 : Int64))), (.long q5), (.long q4), (.ref b62), (.ref b62)])) _
    refine st68.trans ?_
    show Steps p.tables e below (T68.setTop (mkF m 52 #[.val (.long q0), .second, .val (.long q1), .second, .val (.long q2), .second, .val (.long q3), .second, .val (.long q4), .second, .val (.long q5), .second, .val (.long ((q4 - q5) + (1 : Int64))), .second, .val (.long ((q4 ^^^ (q5 <<< ((3 : Int32) &&& 0x3f).toInt64)) + (7 : Int64))), .second, .val (.ref b59), .unset, .unset, .unset, .unset] [(.ref b62)])) _
    refine XS.astore X68.here hx rfl (hb hby at_52) rfl rfl (l' := #[.val (.long q0), .second, .val (.long q1), .second, .val (.long q2), .second, .val (.long q3), .second, .val (.long q4), .second, .val (.long q5), .second, .val (.long ((q4 - q5) + (1 : Int64))), .second, .val (.long ((q4 ^^^ (q5 <<< ((3 : Int32) &&& 0x3f).toInt64)) + (7 : Int64))), .second, .val (.ref b59), .val (.ref b62), .unset, .unset, .unset]) rfl ?_
    show Steps p.tables e below (T68.setTop (mkF m 54 #[.val (.long q0), .second, .val (.long q1), .second, .val (.long q2), .second, .val (.long q3), .second, .val (.long q4), .second, .val (.long q5), .second, .val (.long ((q4 - q5) + (1 : Int64))), .second, .val (.long ((q4 ^^^ (q5 <<< ((3 : Int32) &&& 0x3f).toInt64)) + (7 : Int64))), .second, .val (.ref b59), .val (.ref b62), .unset, .unset, .unset] [])) _
    refine XS.aload X68.here hx rfl (hb hby at_54) rfl rfl ?_
    show Steps p.tables e below (T68.setTop (mkF m 56 #[.val (.long q0), .second, .val (.long q1), .second, .val (.long q2), .second, .val (.long q3), .second, .val (.long q4), .second, .val (.long q5), .second, .val (.long ((q4 - q5) + (1 : Int64))), .second, .val (.long ((q4 ^^^ (q5 <<< ((3 : Int32) &&& 0x3f).toInt64)) + (7 : Int64))), .second, .val (.ref b59), .val (.ref b62), .unset, .unset, .unset] [(.ref b59)])) _
    refine XS.aload X68.here hx rfl (hb hby at_56) rfl rfl ?_
    show Steps p.tables e below (T68.setTop (mkF m 58 #[.val (.long q0), .second, .val (.long q1), .second, .val (.long q2), .second, .val (.long q3), .second, .val (.long q4), .second, .val (.long q5), .second, .val (.long ((q4 - q5) + (1 : Int64))), .second, .val (.long ((q4 ^^^ (q5 <<< ((3 : Int32) &&& 0x3f).toInt64)) + (7 : Int64))), .second, .val (.ref b59), .val (.ref b62), .unset, .unset, .unset] [(.ref b62), (.ref b59)])) _
    refine st75.trans ?_
    show Steps p.tables e below (T75.setTop (mkF m 61 #[.val (.long q0), .second, .val (.long q1), .second, .val (.long q2), .second, .val (.long q3), .second, .val (.long q4), .second, .val (.long q5), .second, .val (.long ((q4 - q5) + (1 : Int64))), .second, .val (.long ((q4 ^^^ (q5 <<< ((3 : Int32) &&& 0x3f).toInt64)) + (7 : Int64))), .second, .val (.ref b59), .val (.ref b62), .unset, .unset, .unset] [(.ref b75)])) _
    refine XS.astore X75.here hx rfl (hb hby at_61) rfl rfl (l' := #[.val (.long q0), .second, .val (.long q1), .second, .val (.long q2), .second, .val (.long q3), .second, .val (.long q4), .second, .val (.long q5), .second, .val (.long ((q4 - q5) + (1 : Int64))), .second, .val (.long ((q4 ^^^ (q5 <<< ((3 : Int32) &&& 0x3f).toInt64)) + (7 : Int64))), .second, .val (.ref b59), .val (.ref b62), .val (.ref b75), .unset, .unset]) rfl ?_
    show Steps p.tables e below (T75.setTop (mkF m 63 #[.val (.long q0), .second, .val (.long q1), .second, .val (.long q2), .second, .val (.long q3), .second, .val (.long q4), .second, .val (.long q5), .second, .val (.long ((q4 - q5) + (1 : Int64))), .second, .val (.long ((q4 ^^^ (q5 <<< ((3 : Int32) &&& 0x3f).toInt64)) + (7 : Int64))), .second, .val (.ref b59), .val (.ref b62), .val (.ref b75), .unset, .unset] [])) _
    refine XS.aload X75.here hx rfl (hb hby at_63) rfl rfl ?_
    show Steps p.tables e below (T75.setTop (mkF m 65 #[.val (.long q0), .second, .val (.long q1), .second, .val (.long q2), .second, .val (.long q3), .second, .val (.long q4), .second, .val (.long q5), .second, .val (.long ((q4 - q5) + (1 : Int64))), .second, .val (.long ((q4 ^^^ (q5 <<< ((3 : Int32) &&& 0x3f).toInt64)) + (7 : Int64))), .second, .val (.ref b59), .val (.ref b62), .val (.ref b75), .unset, .unset] [(.ref b75)])) _
    refine st86.trans ?_
    show Steps p.tables e below (T86.setTop (mkF m 68 #[.val (.long q0), .second, .val (.long q1), .second, .val (.long q2), .second, .val (.long q3), .second, .val (.long q4), .second, .val (.long q5), .second, .val (.long ((q4 - q5) + (1 : Int64))), .second, .val (.long ((q4 ^^^ (q5 <<< ((3 : Int32) &&& 0x3f).toInt64)) + (7 : Int64))), .second, .val (.ref b59), .val (.ref b62), .val (.ref b75), .unset, .unset] [(.long (q0 + q4))])) _
    refine XS.lloadN X86.here hx rfl (hb hby at_68) rfl ?_
    show Steps p.tables e below (T86.setTop (mkF m 69 #[.val (.long q0), .second, .val (.long q1), .second, .val (.long q2), .second, .val (.long q3), .second, .val (.long q4), .second, .val (.long q5), .second, .val (.long ((q4 - q5) + (1 : Int64))), .second, .val (.long ((q4 ^^^ (q5 <<< ((3 : Int32) &&& 0x3f).toInt64)) + (7 : Int64))), .second, .val (.ref b59), .val (.ref b62), .val (.ref b75), .unset, .unset] [(.long q0), (.long (q0 + q4))])) _
    refine XS.lload X86.here hx rfl (hb hby at_69) rfl ?_
    show Steps p.tables e below (T86.setTop (mkF m 71 #[.val (.long q0), .second, .val (.long q1), .second, .val (.long q2), .second, .val (.long q3), .second, .val (.long q4), .second, .val (.long q5), .second, .val (.long ((q4 - q5) + (1 : Int64))), .second, .val (.long ((q4 ^^^ (q5 <<< ((3 : Int32) &&& 0x3f).toInt64)) + (7 : Int64))), .second, .val (.ref b59), .val (.ref b62), .val (.ref b75), .unset, .unset] [(.long q4), (.long q0), (.long (q0 + q4))])) _
    refine XS.ladd X86.here hx rfl (hb hby at_71) rfl ?_
    show Steps p.tables e below (T86.setTop (mkF m 72 #[.val (.long q0), .second, .val (.long q1), .second, .val (.long q2), .second, .val (.long q3), .second, .val (.long q4), .second, .val (.long q5), .second, .val (.long ((q4 - q5) + (1 : Int64))), .second, .val (.long ((q4 ^^^ (q5 <<< ((3 : Int32) &&& 0x3f).toInt64)) + (7 : Int64))), .second, .val (.ref b59), .val (.ref b62), .val (.ref b75), .unset, .unset] [(.long (q0 + q4)), (.long (q0 + q4))])) _
    refine XS.lcmp X86.here hx rfl (hb hby at_72) rfl ?_
    show Steps p.tables e below (T86.setTop (mkF m 73 #[.val (.long q0), .second, .val (.long q1), .second, .val (.long q2), .second, .val (.long q3), .second, .val (.long q4), .second, .val (.long q5), .second, .val (.long ((q4 - q5) + (1 : Int64))), .second, .val (.long ((q4 ^^^ (q5 <<< ((3 : Int32) &&& 0x3f).toInt64)) + (7 : Int64))), .second, .val (.ref b59), .val (.ref b62), .val (.ref b75), .unset, .unset] [(.int (lcmpW (q0 + q4) (q0 + q4)))])) _
    refine XS.ifNo X86.here hx rfl (hb hby at_73) rfl ((if0 _ _).trans (teq ((lw_eq (q0 + q4) (q0 + q4)).mpr (rfl : (q0 + q4) = (q0 + q4)))).2) ?_
    show Steps p.tables e below (T86.setTop (mkF m 76 #[.val (.long q0), .second, .val (.long q1), .second, .val (.long q2), .second, .val (.long q3), .second, .val (.long q4), .second, .val (.long q5), .second, .val (.long ((q4 - q5) + (1 : Int64))), .second, .val (.long ((q4 ^^^ (q5 <<< ((3 : Int32) &&& 0x3f).toInt64)) + (7 : Int64))), .second, .val (.ref b59), .val (.ref b62), .val (.ref b75), .unset, .unset] [])) _
    refine XS.aload X86.here hx rfl (hb hby at_76) rfl rfl ?_
    show Steps p.tables e below (T86.setTop (mkF m 78 #[.val (.long q0), .second, .val (.long q1), .second, .val (.long q2), .second, .val (.long q3), .second, .val (.long q4), .second, .val (.long q5), .second, .val (.long ((q4 - q5) + (1 : Int64))), .second, .val (.long ((q4 ^^^ (q5 <<< ((3 : Int32) &&& 0x3f).toInt64)) + (7 : Int64))), .second, .val (.ref b59), .val (.ref b62), .val (.ref b75), .unset, .unset] [(.ref b75)])) _
    refine st87.trans ?_
    show Steps p.tables e below (T87.setTop (mkF m 81 #[.val (.long q0), .second, .val (.long q1), .second, .val (.long q2), .second, .val (.long q3), .second, .val (.long q4), .second, .val (.long q5), .second, .val (.long ((q4 - q5) + (1 : Int64))), .second, .val (.long ((q4 ^^^ (q5 <<< ((3 : Int32) &&& 0x3f).toInt64)) + (7 : Int64))), .second, .val (.ref b59), .val (.ref b62), .val (.ref b75), .unset, .unset] [(.long (q1 + q5))])) _
    refine XS.lloadN X87.here hx rfl (hb hby at_81) rfl ?_
    show Steps p.tables e below (T87.setTop (mkF m 82 #[.val (.long q0), .second, .val (.long q1), .second, .val (.long q2), .second, .val (.long q3), .second, .val (.long q4), .second, .val (.long q5), .second, .val (.long ((q4 - q5) + (1 : Int64))), .second, .val (.long ((q4 ^^^ (q5 <<< ((3 : Int32) &&& 0x3f).toInt64)) + (7 : Int64))), .second, .val (.ref b59), .val (.ref b62), .val (.ref b75), .unset, .unset] [(.long q1), (.long (q1 + q5))])) _
    refine XS.lload X87.here hx rfl (hb hby at_82) rfl ?_
    show Steps p.tables e below (T87.setTop (mkF m 84 #[.val (.long q0), .second, .val (.long q1), .second, .val (.long q2), .second, .val (.long q3), .second, .val (.long q4), .second, .val (.long q5), .second, .val (.long ((q4 - q5) + (1 : Int64))), .second, .val (.long ((q4 ^^^ (q5 <<< ((3 : Int32) &&& 0x3f).toInt64)) + (7 : Int64))), .second, .val (.ref b59), .val (.ref b62), .val (.ref b75), .unset, .unset] [(.long q5), (.long q1), (.long (q1 + q5))])) _
    refine XS.ladd X87.here hx rfl (hb hby at_84) rfl ?_
    show Steps p.tables e below (T87.setTop (mkF m 85 #[.val (.long q0), .second, .val (.long q1), .second, .val (.long q2), .second, .val (.long q3), .second, .val (.long q4), .second, .val (.long q5), .second, .val (.long ((q4 - q5) + (1 : Int64))), .second, .val (.long ((q4 ^^^ (q5 <<< ((3 : Int32) &&& 0x3f).toInt64)) + (7 : Int64))), .second, .val (.ref b59), .val (.ref b62), .val (.ref b75), .unset, .unset] [(.long (q1 + q5)), (.long (q1 + q5))])) _
    refine XS.lcmp X87.here hx rfl (hb hby at_85) rfl ?_
    show Steps p.tables e below (T87.setTop (mkF m 86 #[.val (.long q0), .second, .val (.long q1), .second, .val (.long q2), .second, .val (.long q3), .second, .val (.long q4), .second, .val (.long q5), .second, .val (.long ((q4 - q5) + (1 : Int64))), .second, .val (.long ((q4 ^^^ (q5 <<< ((3 : Int32) &&& 0x3f).toInt64)) + (7 : Int64))), .second, .val (.ref b59), .val (.ref b62), .val (.ref b75), .unset, .unset] [(.int (lcmpW (q1 + q5) (q1 + q5)))])) _
    refine XS.ifNo X87.here hx rfl (hb hby at_86) rfl ((if0 _ _).trans (teq ((lw_eq (q1 + q5) (q1 + q5)).mpr (rfl : (q1 + q5) = (q1 + q5)))).2) ?_
    show Steps p.tables e below (T87.setTop (mkF m 89 #[.val (.long q0), .second, .val (.long q1), .second, .val (.long q2), .second, .val (.long q3), .second, .val (.long q4), .second, .val (.long q5), .second, .val (.long ((q4 - q5) + (1 : Int64))), .second, .val (.long ((q4 ^^^ (q5 <<< ((3 : Int32) &&& 0x3f).toInt64)) + (7 : Int64))), .second, .val (.ref b59), .val (.ref b62), .val (.ref b75), .unset, .unset] [])) _
    refine XS.aload X87.here hx rfl (hb hby at_89) rfl rfl ?_
    show Steps p.tables e below (T87.setTop (mkF m 91 #[.val (.long q0), .second, .val (.long q1), .second, .val (.long q2), .second, .val (.long q3), .second, .val (.long q4), .second, .val (.long q5), .second, .val (.long ((q4 - q5) + (1 : Int64))), .second, .val (.long ((q4 ^^^ (q5 <<< ((3 : Int32) &&& 0x3f).toInt64)) + (7 : Int64))), .second, .val (.ref b59), .val (.ref b62), .val (.ref b75), .unset, .unset] [(.ref b75)])) _
    refine st88.trans ?_
    show Steps p.tables e below (T88.setTop (mkF m 94 #[.val (.long q0), .second, .val (.long q1), .second, .val (.long q2), .second, .val (.long q3), .second, .val (.long q4), .second, .val (.long q5), .second, .val (.long ((q4 - q5) + (1 : Int64))), .second, .val (.long ((q4 ^^^ (q5 <<< ((3 : Int32) &&& 0x3f).toInt64)) + (7 : Int64))), .second, .val (.ref b59), .val (.ref b62), .val (.ref b75), .unset, .unset] [(.long (q2 + ((q4 - q5) + (1 : Int64))))])) _
    refine XS.lload X88.here hx rfl (hb hby at_94) rfl ?_
    show Steps p.tables e below (T88.setTop (mkF m 96 #[.val (.long q0), .second, .val (.long q1), .second, .val (.long q2), .second, .val (.long q3), .second, .val (.long q4), .second, .val (.long q5), .second, .val (.long ((q4 - q5) + (1 : Int64))), .second, .val (.long ((q4 ^^^ (q5 <<< ((3 : Int32) &&& 0x3f).toInt64)) + (7 : Int64))), .second, .val (.ref b59), .val (.ref b62), .val (.ref b75), .unset, .unset] [(.long q2), (.long (q2 + ((q4 - q5) + (1 : Int64))))])) _
    refine XS.lload X88.here hx rfl (hb hby at_96) rfl ?_
    show Steps p.tables e below (T88.setTop (mkF m 98 #[.val (.long q0), .second, .val (.long q1), .second, .val (.long q2), .second, .val (.long q3), .second, .val (.long q4), .second, .val (.long q5), .second, .val (.long ((q4 - q5) + (1 : Int64))), .second, .val (.long ((q4 ^^^ (q5 <<< ((3 : Int32) &&& 0x3f).toInt64)) + (7 : Int64))), .second, .val (.ref b59), .val (.ref b62), .val (.ref b75), .unset, .unset] [(.long ((q4 - q5) + (1 : Int64))), (.long q2), (.long (q2 + ((q4 - q5) + (1 : Int64))))])) _
    refine XS.ladd X88.here hx rfl (hb hby at_98) rfl ?_
    show Steps p.tables e below (T88.setTop (mkF m 99 #[.val (.long q0), .second, .val (.long q1), .second, .val (.long q2), .second, .val (.long q3), .second, .val (.long q4), .second, .val (.long q5), .second, .val (.long ((q4 - q5) + (1 : Int64))), .second, .val (.long ((q4 ^^^ (q5 <<< ((3 : Int32) &&& 0x3f).toInt64)) + (7 : Int64))), .second, .val (.ref b59), .val (.ref b62), .val (.ref b75), .unset, .unset] [(.long (q2 + ((q4 - q5) + (1 : Int64)))), (.long (q2 + ((q4 - q5) + (1 : Int64))))])) _
    refine XS.lcmp X88.here hx rfl (hb hby at_99) rfl ?_
    show Steps p.tables e below (T88.setTop (mkF m 100 #[.val (.long q0), .second, .val (.long q1), .second, .val (.long q2), .second, .val (.long q3), .second, .val (.long q4), .second, .val (.long q5), .second, .val (.long ((q4 - q5) + (1 : Int64))), .second, .val (.long ((q4 ^^^ (q5 <<< ((3 : Int32) &&& 0x3f).toInt64)) + (7 : Int64))), .second, .val (.ref b59), .val (.ref b62), .val (.ref b75), .unset, .unset] [(.int (lcmpW (q2 + ((q4 - q5) + (1 : Int64))) (q2 + ((q4 - q5) + (1 : Int64)))))])) _
    refine XS.ifNo X88.here hx rfl (hb hby at_100) rfl ((if0 _ _).trans (teq ((lw_eq (q2 + ((q4 - q5) + (1 : Int64))) (q2 + ((q4 - q5) + (1 : Int64)))).mpr (rfl : (q2 + ((q4 - q5) + (1 : Int64))) = (q2 + ((q4 - q5) + (1 : Int64)))))).2) ?_
    show Steps p.tables e below (T88.setTop (mkF m 103 #[.val (.long q0), .second, .val (.long q1), .second, .val (.long q2), .second, .val (.long q3), .second, .val (.long q4), .second, .val (.long q5), .second, .val (.long ((q4 - q5) + (1 : Int64))), .second, .val (.long ((q4 ^^^ (q5 <<< ((3 : Int32) &&& 0x3f).toInt64)) + (7 : Int64))), .second, .val (.ref b59), .val (.ref b62), .val (.ref b75), .unset, .unset] [])) _
    refine XS.aload X88.here hx rfl (hb hby at_103) rfl rfl ?_
    show Steps p.tables e below (T88.setTop (mkF m 105 #[.val (.long q0), .second, .val (.long q1), .second, .val (.long q2), .second, .val (.long q3), .second, .val (.long q4), .second, .val (.long q5), .second, .val (.long ((q4 - q5) + (1 : Int64))), .second, .val (.long ((q4 ^^^ (q5 <<< ((3 : Int32) &&& 0x3f).toInt64)) + (7 : Int64))), .second, .val (.ref b59), .val (.ref b62), .val (.ref b75), .unset, .unset] [(.ref b75)])) _
    refine st89.trans ?_
    show Steps p.tables e below (T89.setTop (mkF m 108 #[.val (.long q0), .second, .val (.long q1), .second, .val (.long q2), .second, .val (.long q3), .second, .val (.long q4), .second, .val (.long q5), .second, .val (.long ((q4 - q5) + (1 : Int64))), .second, .val (.long ((q4 ^^^ (q5 <<< ((3 : Int32) &&& 0x3f).toInt64)) + (7 : Int64))), .second, .val (.ref b59), .val (.ref b62), .val (.ref b75), .unset, .unset] [(.long (q3 + ((q4 ^^^ (q5 <<< ((3 : Int32) &&& 0x3f).toInt64)) + (7 : Int64))))])) _
    refine XS.lload X89.here hx rfl (hb hby at_108) rfl ?_
    show Steps p.tables e below (T89.setTop (mkF m 110 #[.val (.long q0), .second, .val (.long q1), .second, .val (.long q2), .second, .val (.long q3), .second, .val (.long q4), .second, .val (.long q5), .second, .val (.long ((q4 - q5) + (1 : Int64))), .second, .val (.long ((q4 ^^^ (q5 <<< ((3 : Int32) &&& 0x3f).toInt64)) + (7 : Int64))), .second, .val (.ref b59), .val (.ref b62), .val (.ref b75), .unset, .unset] [(.long q3), (.long (q3 + ((q4 ^^^ (q5 <<< ((3 : Int32) &&& 0x3f).toInt64)) + (7 : Int64))))])) _
    refine XS.lload X89.here hx rfl (hb hby at_110) rfl ?_
    show Steps p.tables e below (T89.setTop (mkF m 112 #[.val (.long q0), .second, .val (.long q1), .second, .val (.long q2), .second, .val (.long q3), .second, .val (.long q4), .second, .val (.long q5), .second, .val (.long ((q4 - q5) + (1 : Int64))), .second, .val (.long ((q4 ^^^ (q5 <<< ((3 : Int32) &&& 0x3f).toInt64)) + (7 : Int64))), .second, .val (.ref b59), .val (.ref b62), .val (.ref b75), .unset, .unset] [(.long ((q4 ^^^ (q5 <<< ((3 : Int32) &&& 0x3f).toInt64)) + (7 : Int64))), (.long q3), (.long (q3 + ((q4 ^^^ (q5 <<< ((3 : Int32) &&& 0x3f).toInt64)) + (7 : Int64))))])) _
    refine XS.ladd X89.here hx rfl (hb hby at_112) rfl ?_
    show Steps p.tables e below (T89.setTop (mkF m 113 #[.val (.long q0), .second, .val (.long q1), .second, .val (.long q2), .second, .val (.long q3), .second, .val (.long q4), .second, .val (.long q5), .second, .val (.long ((q4 - q5) + (1 : Int64))), .second, .val (.long ((q4 ^^^ (q5 <<< ((3 : Int32) &&& 0x3f).toInt64)) + (7 : Int64))), .second, .val (.ref b59), .val (.ref b62), .val (.ref b75), .unset, .unset] [(.long (q3 + ((q4 ^^^ (q5 <<< ((3 : Int32) &&& 0x3f).toInt64)) + (7 : Int64)))), (.long (q3 + ((q4 ^^^ (q5 <<< ((3 : Int32) &&& 0x3f).toInt64)) + (7 : Int64))))])) _
    refine XS.lcmp X89.here hx rfl (hb hby at_113) rfl ?_
    show Steps p.tables e below (T89.setTop (mkF m 114 #[.val (.long q0), .second, .val (.long q1), .second, .val (.long q2), .second, .val (.long q3), .second, .val (.long q4), .second, .val (.long q5), .second, .val (.long ((q4 - q5) + (1 : Int64))), .second, .val (.long ((q4 ^^^ (q5 <<< ((3 : Int32) &&& 0x3f).toInt64)) + (7 : Int64))), .second, .val (.ref b59), .val (.ref b62), .val (.ref b75), .unset, .unset] [(.int (lcmpW (q3 + ((q4 ^^^ (q5 <<< ((3 : Int32) &&& 0x3f).toInt64)) + (7 : Int64))) (q3 + ((q4 ^^^ (q5 <<< ((3 : Int32) &&& 0x3f).toInt64)) + (7 : Int64)))))])) _
    refine XS.ifNo X89.here hx rfl (hb hby at_114) rfl ((if0 _ _).trans (teq ((lw_eq (q3 + ((q4 ^^^ (q5 <<< ((3 : Int32) &&& 0x3f).toInt64)) + (7 : Int64))) (q3 + ((q4 ^^^ (q5 <<< ((3 : Int32) &&& 0x3f).toInt64)) + (7 : Int64)))).mpr (rfl : (q3 + ((q4 ^^^ (q5 <<< ((3 : Int32) &&& 0x3f).toInt64)) + (7 : Int64))) = (q3 + ((q4 ^^^ (q5 <<< ((3 : Int32) &&& 0x3f).toInt64)) + (7 : Int64)))))).2) ?_
    show Steps p.tables e below (T89.setTop (mkF m 117 #[.val (.long q0), .second, .val (.long q1), .second, .val (.long q2), .second, .val (.long q3), .second, .val (.long q4), .second, .val (.long q5), .second, .val (.long ((q4 - q5) + (1 : Int64))), .second, .val (.long ((q4 ^^^ (q5 <<< ((3 : Int32) &&& 0x3f).toInt64)) + (7 : Int64))), .second, .val (.ref b59), .val (.ref b62), .val (.ref b75), .unset, .unset] [])) _
    refine XS.iconst X89.here hx rfl (hb hby at_117) ?_
    show Steps p.tables e below (T89.setTop (mkF m 118 #[.val (.long q0), .second, .val (.long q1), .second, .val (.long q2), .second, .val (.long q3), .second, .val (.long q4), .second, .val (.long q5), .second, .val (.long ((q4 - q5) + (1 : Int64))), .second, .val (.long ((q4 ^^^ (q5 <<< ((3 : Int32) &&& 0x3f).toInt64)) + (7 : Int64))), .second, .val (.ref b59), .val (.ref b62), .val (.ref b75), .unset, .unset] [(.int (1 : Int32))])) _
    refine XS.goto X89.here hx rfl (pc0 := 118) (pc' := 122) rfl (hb hby at_118) (by decide) (by decide) ?_
    show Steps p.tables e below (T89.setTop (mkF m 122 #[.val (.long q0), .second, .val (.long q1), .second, .val (.long q2), .second, .val (.long q3), .second, .val (.long q4), .second, .val (.long q5), .second, .val (.long ((q4 - q5) + (1 : Int64))), .second, .val (.long ((q4 ^^^ (q5 <<< ((3 : Int32) &&& 0x3f).toInt64)) + (7 : Int64))), .second, .val (.ref b59), .val (.ref b62), .val (.ref b75), .unset, .unset] [(.int (1 : Int32))])) _
    refine XS.istore X89.here hx rfl (hb hby at_122) rfl (l' := #[.val (.long q0), .second, .val (.long q1), .second, .val (.long q2), .second, .val (.long q3), .second, .val (.long q4), .second, .val (.long q5), .second, .val (.long ((q4 - q5) + (1 : Int64))), .second, .val (.long ((q4 ^^^ (q5 <<< ((3 : Int32) &&& 0x3f).toInt64)) + (7 : Int64))), .second, .val (.ref b59), .val (.ref b62), .val (.ref b75), .val (.int (1 : Int32)), .unset]) rfl ?_
    show Steps p.tables e below (T89.setTop (mkF m 124 #[.val (.long q0), .second, .val (.long q1), .second, .val (.long q2), .second, .val (.long q3), .second, .val (.long q4), .second, .val (.long q5), .second, .val (.long ((q4 - q5) + (1 : Int64))), .second, .val (.long ((q4 ^^^ (q5 <<< ((3 : Int32) &&& 0x3f).toInt64)) + (7 : Int64))), .second, .val (.ref b59), .val (.ref b62), .val (.ref b75), .val (.int (1 : Int32)), .unset] [])) _
    refine XS.aload X89.here hx rfl (hb hby at_124) rfl rfl ?_
    show Steps p.tables e below (T89.setTop (mkF m 126 #[.val (.long q0), .second, .val (.long q1), .second, .val (.long q2), .second, .val (.long q3), .second, .val (.long q4), .second, .val (.long q5), .second, .val (.long ((q4 - q5) + (1 : Int64))), .second, .val (.long ((q4 ^^^ (q5 <<< ((3 : Int32) &&& 0x3f).toInt64)) + (7 : Int64))), .second, .val (.ref b59), .val (.ref b62), .val (.ref b75), .val (.int (1 : Int32)), .unset] [(.ref b59)])) _
    refine st90.trans ?_
    show Steps p.tables e below (T90.setTop (mkF m 129 #[.val (.long q0), .second, .val (.long q1), .second, .val (.long q2), .second, .val (.long q3), .second, .val (.long q4), .second, .val (.long q5), .second, .val (.long ((q4 - q5) + (1 : Int64))), .second, .val (.long ((q4 ^^^ (q5 <<< ((3 : Int32) &&& 0x3f).toInt64)) + (7 : Int64))), .second, .val (.ref b59), .val (.ref b62), .val (.ref b75), .val (.int (1 : Int32)), .unset] [(.long q0)])) _
    refine XS.lloadN X90.here hx rfl (hb hby at_129) rfl ?_
    show Steps p.tables e below (T90.setTop (mkF m 130 #[.val (.long q0), .second, .val (.long q1), .second, .val (.long q2), .second, .val (.long q3), .second, .val (.long q4), .second, .val (.long q5), .second, .val (.long ((q4 - q5) + (1 : Int64))), .second, .val (.long ((q4 ^^^ (q5 <<< ((3 : Int32) &&& 0x3f).toInt64)) + (7 : Int64))), .second, .val (.ref b59), .val (.ref b62), .val (.ref b75), .val (.int (1 : Int32)), .unset] [(.long q0), (.long q0)])) _
    refine XS.lcmp X90.here hx rfl (hb hby at_130) rfl ?_
    show Steps p.tables e below (T90.setTop (mkF m 131 #[.val (.long q0), .second, .val (.long q1), .second, .val (.long q2), .second, .val (.long q3), .second, .val (.long q4), .second, .val (.long q5), .second, .val (.long ((q4 - q5) + (1 : Int64))), .second, .val (.long ((q4 ^^^ (q5 <<< ((3 : Int32) &&& 0x3f).toInt64)) + (7 : Int64))), .second, .val (.ref b59), .val (.ref b62), .val (.ref b75), .val (.int (1 : Int32)), .unset] [(.int (lcmpW q0 q0))])) _
    refine XS.ifNo X90.here hx rfl (hb hby at_131) rfl ((if0 _ _).trans (teq ((lw_eq q0 q0).mpr (rfl : q0 = q0))).2) ?_
    show Steps p.tables e below (T90.setTop (mkF m 134 #[.val (.long q0), .second, .val (.long q1), .second, .val (.long q2), .second, .val (.long q3), .second, .val (.long q4), .second, .val (.long q5), .second, .val (.long ((q4 - q5) + (1 : Int64))), .second, .val (.long ((q4 ^^^ (q5 <<< ((3 : Int32) &&& 0x3f).toInt64)) + (7 : Int64))), .second, .val (.ref b59), .val (.ref b62), .val (.ref b75), .val (.int (1 : Int32)), .unset] [])) _
    refine XS.aload X90.here hx rfl (hb hby at_134) rfl rfl ?_
    show Steps p.tables e below (T90.setTop (mkF m 136 #[.val (.long q0), .second, .val (.long q1), .second, .val (.long q2), .second, .val (.long q3), .second, .val (.long q4), .second, .val (.long q5), .second, .val (.long ((q4 - q5) + (1 : Int64))), .second, .val (.long ((q4 ^^^ (q5 <<< ((3 : Int32) &&& 0x3f).toInt64)) + (7 : Int64))), .second, .val (.ref b59), .val (.ref b62), .val (.ref b75), .val (.int (1 : Int32)), .unset] [(.ref b59)])) _
    refine st91.trans ?_
    show Steps p.tables e below (T91.setTop (mkF m 139 #[.val (.long q0), .second, .val (.long q1), .second, .val (.long q2), .second, .val (.long q3), .second, .val (.long q4), .second, .val (.long q5), .second, .val (.long ((q4 - q5) + (1 : Int64))), .second, .val (.long ((q4 ^^^ (q5 <<< ((3 : Int32) &&& 0x3f).toInt64)) + (7 : Int64))), .second, .val (.ref b59), .val (.ref b62), .val (.ref b75), .val (.int (1 : Int32)), .unset] [(.long q1)])) _
    refine XS.lloadN X91.here hx rfl (hb hby at_139) rfl ?_
    show Steps p.tables e below (T91.setTop (mkF m 140 #[.val (.long q0), .second, .val (.long q1), .second, .val (.long q2), .second, .val (.long q3), .second, .val (.long q4), .second, .val (.long q5), .second, .val (.long ((q4 - q5) + (1 : Int64))), .second, .val (.long ((q4 ^^^ (q5 <<< ((3 : Int32) &&& 0x3f).toInt64)) + (7 : Int64))), .second, .val (.ref b59), .val (.ref b62), .val (.ref b75), .val (.int (1 : Int32)), .unset] [(.long q1), (.long q1)])) _
    refine XS.lcmp X91.here hx rfl (hb hby at_140) rfl ?_
    show Steps p.tables e below (T91.setTop (mkF m 141 #[.val (.long q0), .second, .val (.long q1), .second, .val (.long q2), .second, .val (.long q3), .second, .val (.long q4), .second, .val (.long q5), .second, .val (.long ((q4 - q5) + (1 : Int64))), .second, .val (.long ((q4 ^^^ (q5 <<< ((3 : Int32) &&& 0x3f).toInt64)) + (7 : Int64))), .second, .val (.ref b59), .val (.ref b62), .val (.ref b75), .val (.int (1 : Int32)), .unset] [(.int (lcmpW q1 q1))])) _
    refine XS.ifNo X91.here hx rfl (hb hby at_141) rfl ((if0 _ _).trans (teq ((lw_eq q1 q1).mpr (rfl : q1 = q1))).2) ?_
    show Steps p.tables e below (T91.setTop (mkF m 144 #[.val (.long q0), .second, .val (.long q1), .second, .val (.long q2), .second, .val (.long q3), .second, .val (.long q4), .second, .val (.long q5), .second, .val (.long ((q4 - q5) + (1 : Int64))), .second, .val (.long ((q4 ^^^ (q5 <<< ((3 : Int32) &&& 0x3f).toInt64)) + (7 : Int64))), .second, .val (.ref b59), .val (.ref b62), .val (.ref b75), .val (.int (1 : Int32)), .unset] [])) _
    refine XS.aload X91.here hx rfl (hb hby at_144) rfl rfl ?_
    show Steps p.tables e below (T91.setTop (mkF m 146 #[.val (.long q0), .second, .val (.long q1), .second, .val (.long q2), .second, .val (.long q3), .second, .val (.long q4), .second, .val (.long q5), .second, .val (.long ((q4 - q5) + (1 : Int64))), .second, .val (.long ((q4 ^^^ (q5 <<< ((3 : Int32) &&& 0x3f).toInt64)) + (7 : Int64))), .second, .val (.ref b59), .val (.ref b62), .val (.ref b75), .val (.int (1 : Int32)), .unset] [(.ref b59)])) _
    refine st92.trans ?_
    show Steps p.tables e below (T92.setTop (mkF m 149 #[.val (.long q0), .second, .val (.long q1), .second, .val (.long q2), .second, .val (.long q3), .second, .val (.long q4), .second, .val (.long q5), .second, .val (.long ((q4 - q5) + (1 : Int64))), .second, .val (.long ((q4 ^^^ (q5 <<< ((3 : Int32) &&& 0x3f).toInt64)) + (7 : Int64))), .second, .val (.ref b59), .val (.ref b62), .val (.ref b75), .val (.int (1 : Int32)), .unset] [(.long q2)])) _
    refine XS.lload X92.here hx rfl (hb hby at_149) rfl ?_
    show Steps p.tables e below (T92.setTop (mkF m 151 #[.val (.long q0), .second, .val (.long q1), .second, .val (.long q2), .second, .val (.long q3), .second, .val (.long q4), .second, .val (.long q5), .second, .val (.long ((q4 - q5) + (1 : Int64))), .second, .val (.long ((q4 ^^^ (q5 <<< ((3 : Int32) &&& 0x3f).toInt64)) + (7 : Int64))), .second, .val (.ref b59), .val (.ref b62), .val (.ref b75), .val (.int (1 : Int32)), .unset] [(.long q2), (.long q2)])) _
    refine XS.lcmp X92.here hx rfl (hb hby at_151) rfl ?_
    show Steps p.tables e below (T92.setTop (mkF m 152 #[.val (.long q0), .second, .val (.long q1), .second, .val (.long q2), .second, .val (.long q3), .second, .val (.long q4), .second, .val (.long q5), .second, .val (.long ((q4 - q5) + (1 : Int64))), .second, .val (.long ((q4 ^^^ (q5 <<< ((3 : Int32) &&& 0x3f).toInt64)) + (7 : Int64))), .second, .val (.ref b59), .val (.ref b62), .val (.ref b75), .val (.int (1 : Int32)), .unset] [(.int (lcmpW q2 q2))])) _
    refine XS.ifNo X92.here hx rfl (hb hby at_152) rfl ((if0 _ _).trans (teq ((lw_eq q2 q2).mpr (rfl : q2 = q2))).2) ?_
    show Steps p.tables e below (T92.setTop (mkF m 155 #[.val (.long q0), .second, .val (.long q1), .second, .val (.long q2), .second, .val (.long q3), .second, .val (.long q4), .second, .val (.long q5), .second, .val (.long ((q4 - q5) + (1 : Int64))), .second, .val (.long ((q4 ^^^ (q5 <<< ((3 : Int32) &&& 0x3f).toInt64)) + (7 : Int64))), .second, .val (.ref b59), .val (.ref b62), .val (.ref b75), .val (.int (1 : Int32)), .unset] [])) _
    refine XS.aload X92.here hx rfl (hb hby at_155) rfl rfl ?_
    show Steps p.tables e below (T92.setTop (mkF m 157 #[.val (.long q0), .second, .val (.long q1), .second, .val (.long q2), .second, .val (.long q3), .second, .val (.long q4), .second, .val (.long q5), .second, .val (.long ((q4 - q5) + (1 : Int64))), .second, .val (.long ((q4 ^^^ (q5 <<< ((3 : Int32) &&& 0x3f).toInt64)) + (7 : Int64))), .second, .val (.ref b59), .val (.ref b62), .val (.ref b75), .val (.int (1 : Int32)), .unset] [(.ref b59)])) _
    refine st93.trans ?_
    show Steps p.tables e below (T93.setTop (mkF m 160 #[.val (.long q0), .second, .val (.long q1), .second, .val (.long q2), .second, .val (.long q3), .second, .val (.long q4), .second, .val (.long q5), .second, .val (.long ((q4 - q5) + (1 : Int64))), .second, .val (.long ((q4 ^^^ (q5 <<< ((3 : Int32) &&& 0x3f).toInt64)) + (7 : Int64))), .second, .val (.ref b59), .val (.ref b62), .val (.ref b75), .val (.int (1 : Int32)), .unset] [(.long q3)])) _
    refine XS.lload X93.here hx rfl (hb hby at_160) rfl ?_
    show Steps p.tables e below (T93.setTop (mkF m 162 #[.val (.long q0), .second, .val (.long q1), .second, .val (.long q2), .second, .val (.long q3), .second, .val (.long q4), .second, .val (.long q5), .second, .val (.long ((q4 - q5) + (1 : Int64))), .second, .val (.long ((q4 ^^^ (q5 <<< ((3 : Int32) &&& 0x3f).toInt64)) + (7 : Int64))), .second, .val (.ref b59), .val (.ref b62), .val (.ref b75), .val (.int (1 : Int32)), .unset] [(.long q3), (.long q3)])) _
    refine XS.lcmp X93.here hx rfl (hb hby at_162) rfl ?_
    show Steps p.tables e below (T93.setTop (mkF m 163 #[.val (.long q0), .second, .val (.long q1), .second, .val (.long q2), .second, .val (.long q3), .second, .val (.long q4), .second, .val (.long q5), .second, .val (.long ((q4 - q5) + (1 : Int64))), .second, .val (.long ((q4 ^^^ (q5 <<< ((3 : Int32) &&& 0x3f).toInt64)) + (7 : Int64))), .second, .val (.ref b59), .val (.ref b62), .val (.ref b75), .val (.int (1 : Int32)), .unset] [(.int (lcmpW q3 q3))])) _
    refine XS.ifNo X93.here hx rfl (hb hby at_163) rfl ((if0 _ _).trans (teq ((lw_eq q3 q3).mpr (rfl : q3 = q3))).2) ?_
    show Steps p.tables e below (T93.setTop (mkF m 166 #[.val (.long q0), .second, .val (.long q1), .second, .val (.long q2), .second, .val (.long q3), .second, .val (.long q4), .second, .val (.long q5), .second, .val (.long ((q4 - q5) + (1 : Int64))), .second, .val (.long ((q4 ^^^ (q5 <<< ((3 : Int32) &&& 0x3f).toInt64)) + (7 : Int64))), .second, .val (.ref b59), .val (.ref b62), .val (.ref b75), .val (.int (1 : Int32)), .unset] [])) _
    refine XS.aload X93.here hx rfl (hb hby at_166) rfl rfl ?_
    show Steps p.tables e below (T93.setTop (mkF m 168 #[.val (.long q0), .second, .val (.long q1), .second, .val (.long q2), .second, .val (.long q3), .second, .val (.long q4), .second, .val (.long q5), .second, .val (.long ((q4 - q5) + (1 : Int64))), .second, .val (.long ((q4 ^^^ (q5 <<< ((3 : Int32) &&& 0x3f).toInt64)) + (7 : Int64))), .second, .val (.ref b59), .val (.ref b62), .val (.ref b75), .val (.int (1 : Int32)), .unset] [(.ref b62)])) _
    refine st94.trans ?_
    show Steps p.tables e below (T94.setTop (mkF m 171 #[.val (.long q0), .second, .val (.long q1), .second, .val (.long q2), .second, .val (.long q3), .second, .val (.long q4), .second, .val (.long q5), .second, .val (.long ((q4 - q5) + (1 : Int64))), .second, .val (.long ((q4 ^^^ (q5 <<< ((3 : Int32) &&& 0x3f).toInt64)) + (7 : Int64))), .second, .val (.ref b59), .val (.ref b62), .val (.ref b75), .val (.int (1 : Int32)), .unset] [(.long q4)])) _
    refine XS.lload X94.here hx rfl (hb hby at_171) rfl ?_
    show Steps p.tables e below (T94.setTop (mkF m 173 #[.val (.long q0), .second, .val (.long q1), .second, .val (.long q2), .second, .val (.long q3), .second, .val (.long q4), .second, .val (.long q5), .second, .val (.long ((q4 - q5) + (1 : Int64))), .second, .val (.long ((q4 ^^^ (q5 <<< ((3 : Int32) &&& 0x3f).toInt64)) + (7 : Int64))), .second, .val (.ref b59), .val (.ref b62), .val (.ref b75), .val (.int (1 : Int32)), .unset] [(.long q4), (.long q4)])) _
    refine XS.lcmp X94.here hx rfl (hb hby at_173) rfl ?_
    show Steps p.tables e below (T94.setTop (mkF m 174 #[.val (.long q0), .second, .val (.long q1), .second, .val (.long q2), .second, .val (.long q3), .second, .val (.long q4), .second, .val (.long q5), .second, .val (.long ((q4 - q5) + (1 : Int64))), .second, .val (.long ((q4 ^^^ (q5 <<< ((3 : Int32) &&& 0x3f).toInt64)) + (7 : Int64))), .second, .val (.ref b59), .val (.ref b62), .val (.ref b75), .val (.int (1 : Int32)), .unset] [(.int (lcmpW q4 q4))])) _
    refine XS.ifNo X94.here hx rfl (hb hby at_174) rfl ((if0 _ _).trans (teq ((lw_eq q4 q4).mpr (rfl : q4 = q4))).2) ?_
    show Steps p.tables e below (T94.setTop (mkF m 177 #[.val (.long q0), .second, .val (.long q1), .second, .val (.long q2), .second, .val (.long q3), .second, .val (.long q4), .second, .val (.long q5), .second, .val (.long ((q4 - q5) + (1 : Int64))), .second, .val (.long ((q4 ^^^ (q5 <<< ((3 : Int32) &&& 0x3f).toInt64)) + (7 : Int64))), .second, .val (.ref b59), .val (.ref b62), .val (.ref b75), .val (.int (1 : Int32)), .unset] [])) _
    refine XS.aload X94.here hx rfl (hb hby at_177) rfl rfl ?_
    show Steps p.tables e below (T94.setTop (mkF m 179 #[.val (.long q0), .second, .val (.long q1), .second, .val (.long q2), .second, .val (.long q3), .second, .val (.long q4), .second, .val (.long q5), .second, .val (.long ((q4 - q5) + (1 : Int64))), .second, .val (.long ((q4 ^^^ (q5 <<< ((3 : Int32) &&& 0x3f).toInt64)) + (7 : Int64))), .second, .val (.ref b59), .val (.ref b62), .val (.ref b75), .val (.int (1 : Int32)), .unset] [(.ref b62)])) _
    refine st95.trans ?_
    show Steps p.tables e below (T95.setTop (mkF m 182 #[.val (.long q0), .second, .val (.long q1), .second, .val (.long q2), .second, .val (.long q3), .second, .val (.long q4), .second, .val (.long q5), .second, .val (.long ((q4 - q5) + (1 : Int64))), .second, .val (.long ((q4 ^^^ (q5 <<< ((3 : Int32) &&& 0x3f).toInt64)) + (7 : Int64))), .second, .val (.ref b59), .val (.ref b62), .val (.ref b75), .val (.int (1 : Int32)), .unset] [(.long ((q4 ^^^ (q5 <<< ((3 : Int32) &&& 0x3f).toInt64)) + (7 : Int64)))])) _
    refine XS.lload X95.here hx rfl (hb hby at_182) rfl ?_
    show Steps p.tables e below (T95.setTop (mkF m 184 #[.val (.long q0), .second, .val (.long q1), .second, .val (.long q2), .second, .val (.long q3), .second, .val (.long q4), .second, .val (.long q5), .second, .val (.long ((q4 - q5) + (1 : Int64))), .second, .val (.long ((q4 ^^^ (q5 <<< ((3 : Int32) &&& 0x3f).toInt64)) + (7 : Int64))), .second, .val (.ref b59), .val (.ref b62), .val (.ref b75), .val (.int (1 : Int32)), .unset] [(.long ((q4 ^^^ (q5 <<< ((3 : Int32) &&& 0x3f).toInt64)) + (7 : Int64))), (.long ((q4 ^^^ (q5 <<< ((3 : Int32) &&& 0x3f).toInt64)) + (7 : Int64)))])) _
    refine XS.lcmp X95.here hx rfl (hb hby at_184) rfl ?_
    show Steps p.tables e below (T95.setTop (mkF m 185 #[.val (.long q0), .second, .val (.long q1), .second, .val (.long q2), .second, .val (.long q3), .second, .val (.long q4), .second, .val (.long q5), .second, .val (.long ((q4 - q5) + (1 : Int64))), .second, .val (.long ((q4 ^^^ (q5 <<< ((3 : Int32) &&& 0x3f).toInt64)) + (7 : Int64))), .second, .val (.ref b59), .val (.ref b62), .val (.ref b75), .val (.int (1 : Int32)), .unset] [(.int (lcmpW ((q4 ^^^ (q5 <<< ((3 : Int32) &&& 0x3f).toInt64)) + (7 : Int64)) ((q4 ^^^ (q5 <<< ((3 : Int32) &&& 0x3f).toInt64)) + (7 : Int64))))])) _
    refine XS.ifNo X95.here hx rfl (hb hby at_185) rfl ((if0 _ _).trans (teq ((lw_eq ((q4 ^^^ (q5 <<< ((3 : Int32) &&& 0x3f).toInt64)) + (7 : Int64)) ((q4 ^^^ (q5 <<< ((3 : Int32) &&& 0x3f).toInt64)) + (7 : Int64))).mpr (rfl : ((q4 ^^^ (q5 <<< ((3 : Int32) &&& 0x3f).toInt64)) + (7 : Int64)) = ((q4 ^^^ (q5 <<< ((3 : Int32) &&& 0x3f).toInt64)) + (7 : Int64))))).2) ?_
    show Steps p.tables e below (T95.setTop (mkF m 188 #[.val (.long q0), .second, .val (.long q1), .second, .val (.long q2), .second, .val (.long q3), .second, .val (.long q4), .second, .val (.long q5), .second, .val (.long ((q4 - q5) + (1 : Int64))), .second, .val (.long ((q4 ^^^ (q5 <<< ((3 : Int32) &&& 0x3f).toInt64)) + (7 : Int64))), .second, .val (.ref b59), .val (.ref b62), .val (.ref b75), .val (.int (1 : Int32)), .unset] [])) _
    refine XS.iconst X95.here hx rfl (hb hby at_188) ?_
    show Steps p.tables e below (T95.setTop (mkF m 189 #[.val (.long q0), .second, .val (.long q1), .second, .val (.long q2), .second, .val (.long q3), .second, .val (.long q4), .second, .val (.long q5), .second, .val (.long ((q4 - q5) + (1 : Int64))), .second, .val (.long ((q4 ^^^ (q5 <<< ((3 : Int32) &&& 0x3f).toInt64)) + (7 : Int64))), .second, .val (.ref b59), .val (.ref b62), .val (.ref b75), .val (.int (1 : Int32)), .unset] [(.int (1 : Int32))])) _
    refine XS.goto X95.here hx rfl (pc0 := 189) (pc' := 193) rfl (hb hby at_189) (by decide) (by decide) ?_
    show Steps p.tables e below (T95.setTop (mkF m 193 #[.val (.long q0), .second, .val (.long q1), .second, .val (.long q2), .second, .val (.long q3), .second, .val (.long q4), .second, .val (.long q5), .second, .val (.long ((q4 - q5) + (1 : Int64))), .second, .val (.long ((q4 ^^^ (q5 <<< ((3 : Int32) &&& 0x3f).toInt64)) + (7 : Int64))), .second, .val (.ref b59), .val (.ref b62), .val (.ref b75), .val (.int (1 : Int32)), .unset] [(.int (1 : Int32))])) _
    refine XS.istore X95.here hx rfl (hb hby at_193) rfl (l' := #[.val (.long q0), .second, .val (.long q1), .second, .val (.long q2), .second, .val (.long q3), .second, .val (.long q4), .second, .val (.long q5), .second, .val (.long ((q4 - q5) + (1 : Int64))), .second, .val (.long ((q4 ^^^ (q5 <<< ((3 : Int32) &&& 0x3f).toInt64)) + (7 : Int64))), .second, .val (.ref b59), .val (.ref b62), .val (.ref b75), .val (.int (1 : Int32)), .val (.int (1 : Int32))]) rfl ?_
    show Steps p.tables e below (T95.setTop (mkF m 195 #[.val (.long q0), .second, .val (.long q1), .second, .val (.long q2), .second, .val (.long q3), .second, .val (.long q4), .second, .val (.long q5), .second, .val (.long ((q4 - q5) + (1 : Int64))), .second, .val (.long ((q4 ^^^ (q5 <<< ((3 : Int32) &&& 0x3f).toInt64)) + (7 : Int64))), .second, .val (.ref b59), .val (.ref b62), .val (.ref b75), .val (.int (1 : Int32)), .val (.int (1 : Int32))] [])) _
    refine XS.iload X95.here hx rfl (hb hby at_195) rfl ?_
    show Steps p.tables e below (T95.setTop (mkF m 197 #[.val (.long q0), .second, .val (.long q1), .second, .val (.long q2), .second, .val (.long q3), .second, .val (.long q4), .second, .val (.long q5), .second, .val (.long ((q4 - q5) + (1 : Int64))), .second, .val (.long ((q4 ^^^ (q5 <<< ((3 : Int32) &&& 0x3f).toInt64)) + (7 : Int64))), .second, .val (.ref b59), .val (.ref b62), .val (.ref b75), .val (.int (1 : Int32)), .val (.int (1 : Int32))] [(.int (1 : Int32))])) _
    refine XS.ifNo X95.here hx rfl (hb hby at_197) rfl ((if0 _ _).trans (feq (by decide : ¬ ((1 : Int32) = (0 : Int32)))).1) ?_
    show Steps p.tables e below (T95.setTop (mkF m 200 #[.val (.long q0), .second, .val (.long q1), .second, .val (.long q2), .second, .val (.long q3), .second, .val (.long q4), .second, .val (.long q5), .second, .val (.long ((q4 - q5) + (1 : Int64))), .second, .val (.long ((q4 ^^^ (q5 <<< ((3 : Int32) &&& 0x3f).toInt64)) + (7 : Int64))), .second, .val (.ref b59), .val (.ref b62), .val (.ref b75), .val (.int (1 : Int32)), .val (.int (1 : Int32))] [])) _
    refine XS.iload X95.here hx rfl (hb hby at_200) rfl ?_
    show Steps p.tables e below (T95.setTop (mkF m 202 #[.val (.long q0), .second, .val (.long q1), .second, .val (.long q2), .second, .val (.long q3), .second, .val (.long q4), .second, .val (.long q5), .second, .val (.long ((q4 - q5) + (1 : Int64))), .second, .val (.long ((q4 ^^^ (q5 <<< ((3 : Int32) &&& 0x3f).toInt64)) + (7 : Int64))), .second, .val (.ref b59), .val (.ref b62), .val (.ref b75), .val (.int (1 : Int32)), .val (.int (1 : Int32))] [(.int (1 : Int32))])) _
    refine XS.ifNo X95.here hx rfl (hb hby at_202) rfl ((if0 _ _).trans (feq (by decide : ¬ ((1 : Int32) = (0 : Int32)))).1) ?_
    show Steps p.tables e below (T95.setTop (mkF m 205 #[.val (.long q0), .second, .val (.long q1), .second, .val (.long q2), .second, .val (.long q3), .second, .val (.long q4), .second, .val (.long q5), .second, .val (.long ((q4 - q5) + (1 : Int64))), .second, .val (.long ((q4 ^^^ (q5 <<< ((3 : Int32) &&& 0x3f).toInt64)) + (7 : Int64))), .second, .val (.ref b59), .val (.ref b62), .val (.ref b75), .val (.int (1 : Int32)), .val (.int (1 : Int32))] [])) _
    refine XS.iconst X95.here hx rfl (hb hby at_205) ?_
    show Steps p.tables e below (T95.setTop (mkF m 206 #[.val (.long q0), .second, .val (.long q1), .second, .val (.long q2), .second, .val (.long q3), .second, .val (.long q4), .second, .val (.long q5), .second, .val (.long ((q4 - q5) + (1 : Int64))), .second, .val (.long ((q4 ^^^ (q5 <<< ((3 : Int32) &&& 0x3f).toInt64)) + (7 : Int64))), .second, .val (.ref b59), .val (.ref b62), .val (.ref b75), .val (.int (1 : Int32)), .val (.int (1 : Int32))] [(.int (1 : Int32))])) _
    refine XS.goto X95.here hx rfl (pc0 := 206) (pc' := 210) rfl (hb hby at_206) (by decide) (by decide) ?_
    exact kk
  obtain ⟨fs, hr, hrun, hended, hW, hsame⟩ := X95.leave (v := some (.int (1 : Int32))) (fun h => by rw [Bd.returns] at h; cases h)
  refine ⟨_, _, pre96 _ ?_, hrun, hended, _, _, rfl, ?_, ⟨_, rfl⟩, hW, hsame.mono (by decide) (by decide)⟩
  · show Steps p.tables e below (T95.setTop (mkF m 210 #[.val (.long q0), .second, .val (.long q1), .second, .val (.long q2), .second, .val (.long q3), .second, .val (.long q4), .second, .val (.long q5), .second, .val (.long ((q4 - q5) + (1 : Int64))), .second, .val (.long ((q4 ^^^ (q5 <<< ((3 : Int32) &&& 0x3f).toInt64)) + (7 : Int64))), .second, .val (.ref b59), .val (.ref b62), .val (.ref b75), .val (.int (1 : Int32)), .val (.int (1 : Int32))] [(.int (1 : Int32))])) _
    exact retN X95 hx (t := .boolean) Bd.returns (by simp) (hb hby at_210) hr
  · show Q0 Z q0 q1 q2 q3 q4 q5 h0 n0 _ T95.heap _
    rw [e95]
    exact ⟨rfl, N95⟩
set_option maxRecDepth 65536 in
set_option maxHeartbeats 40000000 in
theorem comes_1 {Post : Tables → Env → Array Value → State → Outcome → State → Prop} (hpost : ∀ tb e args s v u, (limb_1_1.after args s (.returned v) u = true ∧ limb_1_2.after args s (.returned v) u = true ∧ True) → FrameEnd s (.returned v) u (Jvm.fieldLocs frame_1_writes args s ++ Jvm.arrayLocs frame_1_arrays args s ++ Jvm.staticLocs frame_1_statics s) 16 128 → Post tb e args s (.returned v) u) :
    ArmFor flags0 classFile x code maxLocals ret World_1 tables_1 room_1 Calls_1 rest_1 Pre_1 Post := by
  intro l hfl _ _ p e ha hc hk s m args below hf hA hF happ hP
  obtain ⟨hcalls, hrest, hpre⟩ := hP
  obtain ⟨-, -, -, hnamed, -, -, -, hat⟩ := (Spec.applies_iff hf).mp happ
  obtain ⟨hg, hn⟩ := and_e (Cond.before_iff.mp (show (Jvm.Cond.and given_1 narrow_1).before args s = true from hpre))
  obtain ⟨hcount, hg0⟩ := and_e hg
  obtain ⟨ga0, hg1⟩ := and_e hg0
  obtain ⟨ga1, hg2⟩ := and_e hg1
  obtain ⟨ga2, hg3⟩ := and_e hg2
  obtain ⟨ga3, hg4⟩ := and_e hg3
  obtain ⟨ga4, hg5⟩ := and_e hg4
  have ga5 := hg5
  obtain ⟨w0, w1, w2, w3, w4, w5, rfl⟩ : ∃ w0 w1 w2 w3 w4 w5 : Value, args = #[w0, w1, w2, w3, w4, w5] := by
    have hs : args.size = 6 := by simpa [Cond.value, given_1] using hcount
    obtain ⟨L⟩ := args
    match L, hs with
    | [w0, w1, w2, w3, w4, w5], _ => exact ⟨w0, w1, w2, w3, w4, w5, rfl⟩
  have hw := fun d (hd : d ∈ tables_1) => atoms_spec (ws := Jvm.Cond.code x code maxLocals ret :: tables_1) hat d (List.mem_cons_of_mem _ hd)
  have hfit : Fit s := fun {y c} hc i hi => by
    obtain ⟨ha, rfl⟩ := Array.getElem?_eq_some_iff.mp hc
    have q := List.all_eq_true.mp ((Array.all_eq_true_iff_forall_mem.mp hF) _ (Array.getElem_mem ha)) i (List.mem_range.mpr hi)
    simpa [Array.getElem?_eq_getElem hi] using q
  obtain ⟨i0, ei0⟩ := isL_v ga0
  obtain rfl : w0 = (.long i0) := Option.some.inj ei0
  obtain ⟨i1, ei1⟩ := isL_v ga1
  obtain rfl : w1 = (.long i1) := Option.some.inj ei1
  obtain ⟨i2, ei2⟩ := isL_v ga2
  obtain rfl : w2 = (.long i2) := Option.some.inj ei2
  obtain ⟨i3, ei3⟩ := isL_v ga3
  obtain rfl : w3 = (.long i3) := Option.some.inj ei3
  obtain ⟨i4, ei4⟩ := isL_v ga4
  obtain rfl : w4 = (.long i4) := Option.some.inj ei4
  obtain ⟨i5, ei5⟩ := isL_v ga5
  obtain rfl : w5 = (.long i5) := Option.some.inj ei5
  obtain ⟨n, o, h1, h2, h3, _, L, rfl, ⟨rfl, N⟩, hq⟩ := rm0 l s _ hw tables_1 i0 i1 i2 i3 i4 i5  s.heap s.heap.size (Nat.le_refl _)  p e ha hc hk s m _ below hf ((Spec.applies_iff_loose hf).mp happ).1 ⟨rfl, State.Warmed39.refl s, rfl⟩ trivial
  refine ⟨n, _, h1, h2, h3, hpost _ _ _ _ _ _ ⟨Cond.after_iff.mpr rfl, Cond.after_iff.mpr (eq_i res_at (Term.int_eval (1)) rfl), trivial⟩ ⟨hq.1, hq.2.1, (hq.2.2.sift fun y hy => Or.inr (N y hy)).mono (by decide) (by decide)⟩⟩
theorem main_1_1 : Claimed_1_1 := comes_1 fun _ _ _ _ _ _ h hF => ⟨h.1, hF⟩
theorem main_1_2 : Claimed_1_2 := comes_1 fun _ _ _ _ _ _ h hF => ⟨h.2.1, hF⟩
end Jvm.Pilot.@@N@@
namespace Jvm.Pilot.@@N@@
open Jvm Jvm.ClassFile Sem Op Lib Jvm.Free Jvm.Stand Jvm.Pilot.@@N@@.Jvm.D
/-! MADE BY PROGRAM (witnessworld.py) out of the Statement's table words and the real class files: 7 classes; the members and pool entries that the words name. The judged class is class 1, her method 1. -/
namespace start1
open Jvm.ClassFile
def u (s : String) : CpInfo := .utf8 (stringToUtf16 s)
/-- a pool by its gaps: so many unusable entries, then the entry; so many at the end -/
def gap : Nat → List CpInfo → List CpInfo
  | 0, r => r
  | n + 1, r => .unusable :: gap n r
def poolList (es : List (Nat × CpInfo)) (last : Nat) : List CpInfo := es.foldr (fun e r => gap e.1 (e.2 :: r)) (gap last [])
def pool (es : List (Nat × CpInfo)) (last : Nat) : Array CpInfo := ⟨poolList es last⟩
def fileOf (pool : Array CpInfo) (this : Nat) (attrs : Array Attribute := #[]) (ms : Array MethodInfo := #[]) (fl : Nat := 33) (sup : Nat := 0) (ifs : Array Nat := #[]) (fds : Array FieldInfo := #[]) : ClassFile where
  minorVersion := 0
  majorVersion := 65
  constantPool := pool
  accessFlags := fl
  thisClass := this
  superClass := sup
  interfaces := ifs
  fields := fds
  methods := ms
  attributes := attrs
def plain (name : String) (sup : Option ClassId) : Class where
  name := name
  kind := .ordinary
  loader := none
  accessFlags := 33
  super := sup
  interfaces := #[]
  cf := none
  fields := #[]
  methods := #[]
  instanceTypes := #[]
  staticTypes := #[]
  resolved := #[]
  callSites := []
  init := .initialized
  statics := none
  mirror := none

def pool0 : Array CpInfo := pool [(5, u "<init>"), (0, u "()V"), (1, .class_ 10), (1, u "java/lang/Object")] 113

def k0c0 : Code := { maxStack := 0, maxLocals := 1, code := object_method_1_code, exceptionTable := #[], attributes := #[] }
def k0m0 : Method := { name := "<init>", desc := "()V", sig := { parameters := [], returnType := none }, accessFlags := 1, code := some k0c0 }
/-- java/lang/Object -/
def k0 : Class := { plain "java/lang/Object" none with
  accessFlags := 33
  interfaces := #[]
  cf := some (fileOf pool0 8 #[] #[{ accessFlags := 1, nameIndex := 5, descriptorIndex := 6, attributes := #[] }] 33 0 #[] #[])
  fields := #[]
  methods := #[k0m0]
  instanceTypes := #[]
  staticTypes := #[]
  resolved := Array.replicate 124 none
  statics := none }

def pool1 : Array CpInfo := pool [(2, .class_ 4), (1, u "java/lang/Object"), (0, u "<init>"), (0, u "()V"), (0, .long 7), (1, .class_ 10), (0, u "com/example/tidewheel/tidewheel/billing/Processed"), (0, .methodref 9 12), (0, .nameAndType 5 13), (0, u "(JJJJ)V"), (0, .methodref 9 15), (0, .nameAndType 16 17), (0, u "plus"), (0, u "(Lcom/example/tidewheel/tidewheel/billing/Processed;)Lcom/example/tidewheel/tidewheel/billing/Processed;"), (0, .methodref 9 19), (0, .nameAndType 20 21), (0, u "chargesAttempted"), (0, u "()J"), (0, .methodref 9 23), (0, .nameAndType 24 21), (0, u "chargesPaid"), (0, .methodref 9 26), (0, .nameAndType 27 21), (0, u "chargesFailed"), (0, .methodref 9 29), (0, .nameAndType 30 21), (0, u "events"), (0, .class_ 32), (0, u "com/example/tidewheel/tidewheel/billing/ProcessedPlusPinLaw"), (2, u "law"), (0, u "(JJJJJJ)Z")] 3

def k1m0 : Method := { name := "<init>", desc := "()V", sig := { parameters := [], returnType := none }, accessFlags := 1, code := none }
def k1c1 : Code := { maxStack := 10, maxLocals := 21, code := code, exceptionTable := #[], attributes := #[] }
def k1m1 : Method := { name := "law", desc := "(JJJJJJ)Z", sig := { parameters := [.long, .long, .long, .long, .long, .long], returnType := some .boolean }, accessFlags := 9, code := some k1c1 }
/-- com/example/tidewheel/tidewheel/billing/ProcessedPlusPinLaw -/
def k1 : Class := { plain "com/example/tidewheel/tidewheel/billing/ProcessedPlusPinLaw" (some 0) with
  accessFlags := 49
  interfaces := #[]
  cf := some (fileOf pool1 31 #[] #[{ accessFlags := 1, nameIndex := 5, descriptorIndex := 6, attributes := #[] }, { accessFlags := 9, nameIndex := 35, descriptorIndex := 36, attributes := #[] }] 49 2 #[] #[])
  fields := #[]
  methods := #[k1m0, k1m1]
  instanceTypes := #[]
  staticTypes := #[]
  resolved := Array.replicate 40 none
  statics := none }

def pool2 : Array CpInfo := pool [(1, .methodref 2 3), (0, .class_ 4), (0, .nameAndType 5 6), (0, u "java/lang/Object"), (0, u "<init>"), (0, u "()V"), (0, .fieldref 8 9), (0, .class_ 10), (0, .nameAndType 11 12), (0, u "com/example/tidewheel/tidewheel/billing/Processed"), (0, u "chargesAttempted"), (0, u "J"), (0, .fieldref 8 14), (0, .nameAndType 15 12), (0, u "chargesPaid"), (0, .fieldref 8 17), (0, .nameAndType 18 12), (0, u "chargesFailed"), (0, .fieldref 8 20), (0, .nameAndType 21 12), (0, u "events"), (0, .methodref 8 23), (0, .nameAndType 5 24), (0, u "(JJJJ)V"), (2, u "NONE"), (0, u "Lcom/example/tidewheel/tidewheel/billing/Processed;"), (2, u "plus"), (0, u "(Lcom/example/tidewheel/tidewheel/billing/Processed;)Lcom/example/tidewheel/tidewheel/billing/Processed;"), (0, u "()J")] 3

def k2c0 : Code := { maxStack := 3, maxLocals := 9, code := prog_3_method_1_code, exceptionTable := #[], attributes := #[] }
def k2m0 : Method := { name := "<init>", desc := "(JJJJ)V", sig := { parameters := [.long, .long, .long, .long], returnType := none }, accessFlags := 0, code := some k2c0 }
def k2c1 : Code := { maxStack := 12, maxLocals := 2, code := prog_3_method_2_code, exceptionTable := #[], attributes := #[] }
def k2m1 : Method := { name := "plus", desc := "(Lcom/example/tidewheel/tidewheel/billing/Processed;)Lcom/example/tidewheel/tidewheel/billing/Processed;", sig := { parameters := [(.object "com/example/tidewheel/tidewheel/billing/Processed")], returnType := some (.object "com/example/tidewheel/tidewheel/billing/Processed") }, accessFlags := 0, code := some k2c1 }
def k2c2 : Code := { maxStack := 2, maxLocals := 1, code := prog_3_method_3_code, exceptionTable := #[], attributes := #[] }
def k2m2 : Method := { name := "chargesAttempted", desc := "()J", sig := { parameters := [], returnType := some .long }, accessFlags := 1, code := some k2c2 }
def k2c3 : Code := { maxStack := 2, maxLocals := 1, code := prog_3_method_4_code, exceptionTable := #[], attributes := #[] }
def k2m3 : Method := { name := "chargesPaid", desc := "()J", sig := { parameters := [], returnType := some .long }, accessFlags := 1, code := some k2c3 }
def k2c4 : Code := { maxStack := 2, maxLocals := 1, code := prog_3_method_5_code, exceptionTable := #[], attributes := #[] }
def k2m4 : Method := { name := "chargesFailed", desc := "()J", sig := { parameters := [], returnType := some .long }, accessFlags := 1, code := some k2c4 }
def k2c5 : Code := { maxStack := 2, maxLocals := 1, code := prog_3_method_6_code, exceptionTable := #[], attributes := #[] }
def k2m5 : Method := { name := "events", desc := "()J", sig := { parameters := [], returnType := some .long }, accessFlags := 1, code := some k2c5 }
/-- com/example/tidewheel/tidewheel/billing/Processed -/
def k2 : Class := { plain "com/example/tidewheel/tidewheel/billing/Processed" (some 0) with
  accessFlags := 49
  interfaces := #[]
  cf := some (fileOf pool2 8 #[] #[{ accessFlags := 0, nameIndex := 5, descriptorIndex := 24, attributes := #[] }, { accessFlags := 0, nameIndex := 31, descriptorIndex := 32, attributes := #[] }, { accessFlags := 1, nameIndex := 11, descriptorIndex := 33, attributes := #[] }, { accessFlags := 1, nameIndex := 15, descriptorIndex := 33, attributes := #[] }, { accessFlags := 1, nameIndex := 18, descriptorIndex := 33, attributes := #[] }, { accessFlags := 1, nameIndex := 21, descriptorIndex := 33, attributes := #[] }] 49 2 #[] #[{ accessFlags := 24, nameIndex := 27, descriptorIndex := 28, attributes := #[] }, { accessFlags := 18, nameIndex := 11, descriptorIndex := 12, attributes := #[] }, { accessFlags := 18, nameIndex := 15, descriptorIndex := 12, attributes := #[] }, { accessFlags := 18, nameIndex := 18, descriptorIndex := 12, attributes := #[] }, { accessFlags := 18, nameIndex := 21, descriptorIndex := 12, attributes := #[] }])
  fields := #[{ name := "NONE", type := (.object "com/example/tidewheel/tidewheel/billing/Processed"), accessFlags := 24, slot := 0, constantValue := 0 }, { name := "chargesAttempted", type := .long, accessFlags := 18, slot := 0, constantValue := 0 }, { name := "chargesPaid", type := .long, accessFlags := 18, slot := 1, constantValue := 0 }, { name := "chargesFailed", type := .long, accessFlags := 18, slot := 2, constantValue := 0 }, { name := "events", type := .long, accessFlags := 18, slot := 3, constantValue := 0 }]
  methods := #[k2m0, k2m1, k2m2, k2m3, k2m4, k2m5]
  instanceTypes := #[.long, .long, .long, .long]
  staticTypes := #[(.object "com/example/tidewheel/tidewheel/billing/Processed")]
  resolved := Array.replicate 37 none
  statics := none }

def pool3 : Array CpInfo := pool [(1, u "java/lang/Cloneable"), (0, .class_ 1), (0, u "java/lang/Object"), (0, .class_ 3)] 3

/-- java/lang/Cloneable -/
def k3 : Class := { plain "java/lang/Cloneable" (some 0) with
  accessFlags := 1537
  interfaces := #[]
  cf := some (fileOf pool3 2 #[] #[] 1537 4 #[] #[])
  fields := #[]
  methods := #[]
  instanceTypes := #[]
  staticTypes := #[]
  resolved := Array.replicate 8 none
  statics := none }

def pool4 : Array CpInfo := pool [(1, u "java/io/Serializable"), (0, .class_ 1), (0, u "java/lang/Object"), (0, .class_ 3)] 3

/-- java/io/Serializable -/
def k4 : Class := { plain "java/io/Serializable" (some 0) with
  accessFlags := 1537
  interfaces := #[]
  cf := some (fileOf pool4 2 #[] #[] 1537 4 #[] #[])
  fields := #[]
  methods := #[]
  instanceTypes := #[]
  staticTypes := #[]
  resolved := Array.replicate 8 none
  statics := none }

/-- the primitive byte -/
def k5 : Class := { plain "byte" none with kind := .primitive 'B', accessFlags := 0x411 }
/-- [B -/
def k6 : Class := { plain "[B" (some 0) with kind := .array 5 .byte, interfaces := #[3, 4], accessFlags := 1041 }

def heap : Heap := #[]
def classes : Array Class := #[k0, k1, k2, k3, k4, k5, k6]
def interned : List (Array UInt16 × Addr) := []
def slotsUsed : Nat := 0
def theMethod : MethodId := ⟨1, 1⟩
def args0 : Array Value := #[.long 1, .long 2, .long 3, .long 4, .long 5, .long 6]
def aboutOver (below : List Frame) : State where
  vm := { classes := classes, interned := interned.toArray }
  heap := heap
  slotsUsed := slotsUsed
  threads := #[{ frames := .invoking theMethod args0 :: below }]
def below0 : List Frame := [.native { method := ⟨0, 0⟩, args := #[] }]
def about1 : State := aboutOver below0
def p0 : Program := .bare "" "" ""
def e0 : Env := launch0.env 0 0 0
theorem w_frames : about1.frames = Frame.invoking theMethod args0 :: below0 := rfl
set_option maxRecDepth 65536 in
theorem w_args : argsFit about1.vm theMethod args0 = true := by decide +kernel
set_option maxRecDepth 65536 in
theorem w_heap : heapFits about1 = true := by decide +kernel
set_option maxRecDepth 65536 in
theorem w_runnable : about1.curStatus? = some .runnable := by decide +kernel
set_option maxRecDepth 65536 in
theorem w_alone : about1.alone = true := by decide +kernel
set_option maxRecDepth 65536 in
theorem w_named : about1.methodNamed? x = some theMethod := by decide +kernel
set_option maxRecDepth 65536 in
theorem w_hears : about1.hears theMethod below0 = true := by decide +kernel
set_option maxRecDepth 65536 in
theorem w_ripe : about1.ripe theMethod args0 below0 = true := by decide +kernel
theorem w_running : about1.status = .running := rfl
set_option maxRecDepth 65536 in
theorem w_room : about1.hasRoom e0.platform room_1 = true :=
  launch0.hasRoom_least _ room_1 (by decide +kernel) (by decide +kernel) (by decide +kernel) (by decide +kernel) (by decide +kernel) (by decide +kernel)
theorem allAtoms_all (ts : List Jvm.Cond) (a : Array Jvm.Value) (st : Jvm.State) : (allAtoms ts).before a st = ts.all (fun c => c.before a st) := by
  induction ts with
  | nil => rfl
  | cons c t ih =>
    show (Jvm.Cond.and c (allAtoms t)).before a st = _
    rw [Jvm.Cond.before_and, ih, List.all_cons]
def words1 : List Jvm.Cond := Jvm.Cond.code x code maxLocals ret :: tables_1
/-- a 'code' word, met by the world's own term for the bytes: nothing is compared byte by byte -/
theorem code_word {y : MethodName} {bytes : ByteArray} {mx : Nat} {rt : Option FieldType} {a : Array Value} {s : State} {m : MethodId} {meth : Method} {c : Code} (h1 : s.methodNamed? y = some m) (h2 : s.vm.method? m = some meth) (h3 : meth.code = some c) (h4 : c.code = bytes)
    (h5 : (c.maxLocals == mx && c.exceptionTable.isEmpty && decide (c.maxStack ≤ mostOperands) && decide (meth.sig.returnType = rt) && !meth.locks && decide (parseMethodDescriptor y.desc = some meth.sig)) = true) : (Jvm.Cond.code y bytes mx rt).before a s = true := by
  simp only [Bool.and_eq_true, beq_iff_eq, Bool.not_eq_true', decide_eq_true_eq] at h5
  obtain ⟨⟨⟨⟨⟨g1, g2⟩, g3⟩, g4⟩, g5⟩, g6⟩ := h5
  simp [Cond.before, Cond.holds, Cond.value, h1, h2, h3, h4, g1, g2, g3, g4, g5, g6]
def isCode : Jvm.Cond → Bool
  | .code _ _ _ _ => true
  | _ => false
theorem all_split {L : List Jvm.Cond} {P : Jvm.Cond → Bool} (h1 : L.all (fun c => isCode c || P c) = true) (h2 : ∀ c ∈ L.filter isCode, P c = true) : L.all P = true := by
  refine List.all_eq_true.mpr fun c hc => ?_
  have h := List.all_eq_true.mp h1 c hc
  rcases Bool.eq_false_or_eq_true (isCode c) with hi | hi
  · exact h2 c (List.mem_filter.mpr ⟨hc, hi⟩)
  · simpa [hi] using h
set_option maxRecDepth 65536 in
theorem w_c0 : (Jvm.Cond.code x code maxLocals ret).before args0 about1 = true := code_word (m := ⟨1, 1⟩) (meth := k1m1) (c := k1c1) (by decide +kernel) rfl rfl rfl (by decide +kernel)
set_option maxRecDepth 65536 in
theorem w_c1 : (Jvm.Cond.code ({ cls := "com/example/tidewheel/tidewheel/billing/Processed", name := "<init>", desc := "(JJJJ)V" } : Jvm.MethodName) prog_3_method_1_code (9 : Nat) (Option.none : Option Jvm.ClassFile.FieldType)).before args0 about1 = true := code_word (m := ⟨2, 0⟩) (meth := k2m0) (c := k2c0) (by decide +kernel) rfl rfl rfl (by decide +kernel)
set_option maxRecDepth 65536 in
theorem w_c2 : (Jvm.Cond.code ({ cls := "java/lang/Object", name := "<init>", desc := "()V" } : Jvm.MethodName) object_method_1_code (1 : Nat) (Option.none : Option Jvm.ClassFile.FieldType)).before args0 about1 = true := code_word (m := ⟨0, 0⟩) (meth := k0m0) (c := k0c0) (by decide +kernel) rfl rfl rfl (by decide +kernel)
set_option maxRecDepth 65536 in
theorem w_c3 : (Jvm.Cond.code ({ cls := "com/example/tidewheel/tidewheel/billing/Processed", name := "plus", desc := "(Lcom/example/tidewheel/tidewheel/billing/Processed;)Lcom/example/tidewheel/tidewheel/billing/Processed;" } : Jvm.MethodName) prog_3_method_2_code (2 : Nat) (Option.some (Jvm.ClassFile.FieldType.object "com/example/tidewheel/tidewheel/billing/Processed"))).before args0 about1 = true := code_word (m := ⟨2, 1⟩) (meth := k2m1) (c := k2c1) (by decide +kernel) rfl rfl rfl (by decide +kernel)
set_option maxRecDepth 65536 in
theorem w_c4 : (Jvm.Cond.code ({ cls := "com/example/tidewheel/tidewheel/billing/Processed", name := "chargesAttempted", desc := "()J" } : Jvm.MethodName) prog_3_method_3_code (1 : Nat) (Option.some Jvm.ClassFile.FieldType.long)).before args0 about1 = true := code_word (m := ⟨2, 2⟩) (meth := k2m2) (c := k2c2) (by decide +kernel) rfl rfl rfl (by decide +kernel)
set_option maxRecDepth 65536 in
theorem w_c5 : (Jvm.Cond.code ({ cls := "com/example/tidewheel/tidewheel/billing/Processed", name := "chargesPaid", desc := "()J" } : Jvm.MethodName) prog_3_method_4_code (1 : Nat) (Option.some Jvm.ClassFile.FieldType.long)).before args0 about1 = true := code_word (m := ⟨2, 3⟩) (meth := k2m3) (c := k2c3) (by decide +kernel) rfl rfl rfl (by decide +kernel)
set_option maxRecDepth 65536 in
theorem w_c6 : (Jvm.Cond.code ({ cls := "com/example/tidewheel/tidewheel/billing/Processed", name := "chargesFailed", desc := "()J" } : Jvm.MethodName) prog_3_method_5_code (1 : Nat) (Option.some Jvm.ClassFile.FieldType.long)).before args0 about1 = true := code_word (m := ⟨2, 4⟩) (meth := k2m4) (c := k2c4) (by decide +kernel) rfl rfl rfl (by decide +kernel)
set_option maxRecDepth 65536 in
theorem w_c7 : (Jvm.Cond.code ({ cls := "com/example/tidewheel/tidewheel/billing/Processed", name := "events", desc := "()J" } : Jvm.MethodName) prog_3_method_6_code (1 : Nat) (Option.some Jvm.ClassFile.FieldType.long)).before args0 about1 = true := code_word (m := ⟨2, 5⟩) (meth := k2m5) (c := k2c5) (by decide +kernel) rfl rfl rfl (by decide +kernel)
def codes1 : List Jvm.Cond := [Jvm.Cond.code x code maxLocals ret, Jvm.Cond.code ({ cls := "com/example/tidewheel/tidewheel/billing/Processed", name := "<init>", desc := "(JJJJ)V" } : Jvm.MethodName) prog_3_method_1_code (9 : Nat) (Option.none : Option Jvm.ClassFile.FieldType), Jvm.Cond.code ({ cls := "java/lang/Object", name := "<init>", desc := "()V" } : Jvm.MethodName) object_method_1_code (1 : Nat) (Option.none : Option Jvm.ClassFile.FieldType), Jvm.Cond.code ({ cls := "com/example/tidewheel/tidewheel/billing/Processed", name := "plus", desc := "(Lcom/example/tidewheel/tidewheel/billing/Processed;)Lcom/example/tidewheel/tidewheel/billing/Processed;" } : Jvm.MethodName) prog_3_method_2_code (2 : Nat) (Option.some (Jvm.ClassFile.FieldType.object "com/example/tidewheel/tidewheel/billing/Processed")), Jvm.Cond.code ({ cls := "com/example/tidewheel/tidewheel/billing/Processed", name := "chargesAttempted", desc := "()J" } : Jvm.MethodName) prog_3_method_3_code (1 : Nat) (Option.some Jvm.ClassFile.FieldType.long), Jvm.Cond.code ({ cls := "com/example/tidewheel/tidewheel/billing/Processed", name := "chargesPaid", desc := "()J" } : Jvm.MethodName) prog_3_method_4_code (1 : Nat) (Option.some Jvm.ClassFile.FieldType.long), Jvm.Cond.code ({ cls := "com/example/tidewheel/tidewheel/billing/Processed", name := "chargesFailed", desc := "()J" } : Jvm.MethodName) prog_3_method_5_code (1 : Nat) (Option.some Jvm.ClassFile.FieldType.long), Jvm.Cond.code ({ cls := "com/example/tidewheel/tidewheel/billing/Processed", name := "events", desc := "()J" } : Jvm.MethodName) prog_3_method_6_code (1 : Nat) (Option.some Jvm.ClassFile.FieldType.long)]
set_option maxRecDepth 65536 in
theorem codes_eq : words1.filter isCode = codes1 := rfl
theorem w_codes : ∀ c ∈ words1.filter isCode, c.before args0 about1 = true := by
  rw [codes_eq]
  intro c hc
  simp only [codes1, List.mem_cons, List.not_mem_nil, or_false] at hc
  rcases hc with rfl | rfl | rfl | rfl | rfl | rfl | rfl | rfl
  · exact w_c0
  · exact w_c1
  · exact w_c2
  · exact w_c3
  · exact w_c4
  · exact w_c5
  · exact w_c6
  · exact w_c7
set_option maxRecDepth 65536 in
theorem w_t1 : (words1.take 24).all (fun c => isCode c || c.before args0 about1) = true := by decide +kernel
set_option maxRecDepth 65536 in
theorem w_t2 : (words1.drop 24).all (fun c => isCode c || c.before args0 about1) = true := by decide +kernel
theorem w_tables : (allAtoms (Jvm.Cond.code x code maxLocals ret :: tables_1)).before args0 about1 = true := by
  rw [allAtoms_all]
  show words1.all (fun c => c.before args0 about1) = true
  refine all_split ?_ w_codes
  rw [← List.take_append_drop 24 words1, List.all_append, w_t1, w_t2]
  rfl
set_option maxRecDepth 65536 in
theorem w_case : (Jvm.Cond.and given_1 narrow_1).before args0 about1 = true := by decide +kernel
theorem w_applies : (headSpec (Jvm.Cond.code x code maxLocals ret :: tables_1) room_1).applies x e0.platform about1 = true :=
  (Spec.applies_iff w_frames).mpr ⟨w_running, w_runnable, w_alone, w_named, w_hears, w_ripe, w_room, w_tables⟩
theorem atStart : AtStart classFile x code maxLocals ret World_1 tables_1 room_1 Calls_1 rest_1 Pre_1 launch0 p0 e0 about1 theMethod args0 below0 :=
  ⟨lists_1, trivial, launch0.admits_env _ _ _, launch0.least_env, fairChoices_fair.cas, fairChoices_fair.clock, w_frames, w_args, w_heap, w_applies, trivial, trivial, w_case⟩
end start1
theorem witness_1 : WitnessClaimed_1 := ⟨start1.p0, start1.e0, start1.about1, start1.theMethod, start1.args0, start1.below0, start1.atStart⟩
end Jvm.Pilot.@@N@@
