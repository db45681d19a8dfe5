import JvmDerived
import JvmDerived.Pilot.@@N@@Statement
import JvmDerived.Pilot.@@N@@Code
set_option linter.unusedVariables false
set_option linter.unusedSimpArgs false
namespace Jvm.Pilot.@@N@@
open Jvm Jvm.ClassFile Sem Op Lib Jvm.Free Jvm.Stand Jvm.LawKit Jvm.RoadKit Bundle Jvm.Pilot.@@N@@.Jvm.D

def F1 (q0 : Int64) (q1 : Int64) : Int64 := (if (0 : Int64) < q1 then (if (q0 - q1) < (1 : Int64) then (1 : Int64) else (q0 - q1)) else (q0 + ((0 : Int64) - q1)))
theorem d1_0 : decode method_2_code 0 = .ok (.lload_n 2, 1) := by decide +kernel
theorem d1_1 : decode method_2_code 1 = .ok (.lconst 0, 1) := by decide +kernel
theorem d1_2 : decode method_2_code 2 = .ok (.lcmp, 1) := by decide +kernel
theorem d1_3 : decode method_2_code 3 = .ok (.ifCond .gt 9, 3) := by decide +kernel
theorem d1_6 : decode method_2_code 6 = .ok (.lload_n 0, 1) := by decide +kernel
theorem d1_7 : decode method_2_code 7 = .ok (.lconst 0, 1) := by decide +kernel
theorem d1_8 : decode method_2_code 8 = .ok (.lload_n 2, 1) := by decide +kernel
theorem d1_9 : decode method_2_code 9 = .ok (.lsub, 1) := by decide +kernel
theorem d1_10 : decode method_2_code 10 = .ok (.ladd, 1) := by decide +kernel
theorem d1_11 : decode method_2_code 11 = .ok (.lreturn, 1) := by decide +kernel
theorem d1_12 : decode method_2_code 12 = .ok (.lload_n 0, 1) := by decide +kernel
theorem d1_13 : decode method_2_code 13 = .ok (.lload_n 2, 1) := by decide +kernel
theorem d1_14 : decode method_2_code 14 = .ok (.lsub, 1) := by decide +kernel
theorem d1_15 : decode method_2_code 15 = .ok (.lstore 4, 2) := by decide +kernel
theorem d1_17 : decode method_2_code 17 = .ok (.lload 4, 2) := by decide +kernel
theorem d1_19 : decode method_2_code 19 = .ok (.lconst 1, 1) := by decide +kernel
theorem d1_20 : decode method_2_code 20 = .ok (.lcmp, 1) := by decide +kernel
theorem d1_21 : decode method_2_code 21 = .ok (.ifCond .ge 5, 3) := by decide +kernel
theorem d1_24 : decode method_2_code 24 = .ok (.lconst 1, 1) := by decide +kernel
theorem d1_25 : decode method_2_code 25 = .ok (.lreturn, 1) := by decide +kernel
theorem d1_26 : decode method_2_code 26 = .ok (.lload 4, 2) := by decide +kernel
theorem d1_28 : decode method_2_code 28 = .ok (.lreturn, 1) := by decide +kernel
theorem pn_com_example_overcap_overcap_DecimalsDigitsPinLaw : plainName "com/example/overcap/overcap/DecimalsDigitsPinLaw" = true := by first | (simp [plainName, overriddenIn]; done) | decide +kernel
theorem ef_1_JJ (m : MethodId) (x0 : Int64) (x1 : Int64) : entryFrame m #[(.long x0), (.long x1)] 6 = mkF m 0 #[.val (.long x0), .second, .val (.long x1), .second, .unset, .unset] [] := by first | (simp [entryFrame, mkF, argsToLocals, Value.category]; done) | rfl
def Q1 (Z : State) (q0 : Int64) (q1 : Int64) (h0 : Heap) (n0 : Nat) (v : Option Value) (h : Heap) (L : List Loc) : Prop := v = some (.long (F1 q0 q1)) ∧ Fr n0 L ∧ h = h0
set_option maxRecDepth 65536 in
set_option maxHeartbeats 40000000 in
theorem rm1 (l : Launch) (Z : State) (a0 : Array Value) (hw : ∀ d ∈ tables_1, d.before a0 Z = true) (ws : List Jvm.Cond) (q0 : Int64) (q1 : Int64) (h0 : Heap) (n0 : Nat) (Z0 : n0 ≤ h0.size) :
    MetFree l (⟨"com/example/overcap/overcap/DecimalsDigitsPinLaw", "beforePoint", "(JJ)J"⟩ : MethodName) (head1 (Jvm.Cond.code (⟨"com/example/overcap/overcap/DecimalsDigitsPinLaw", "beforePoint", "(JJ)J"⟩ : MethodName) method_2_code 6 (some .long) :: ws) ({ frames := 0, cells := 0, slots := 0, locals := 0 } : Room)) (fun a U => a = #[(.long q0), (.long q1)] ∧ Z.Warmed39 U.vm ∧ U.heap = h0) (fun _ _ _ _ _ => True) (fun _ U o U' => ∃ v L, o = .returned v ∧ Q1 Z q0 q1 h0 n0 v U'.heap L ∧ FrameEnd U o U' L ({ frames := 0, cells := 0, slots := 0, locals := 0 } : Room).cells ({ frames := 0, cells := 0, slots := 0, locals := 0 } : Room).slots) := by
  refine MetFree.of_bodySF (plainFor_of_name pn_com_example_overcap_overcap_DecimalsDigitsPinLaw) hisR ?_
  intro p e s m args below meth c s₁ Bd hml0 hP hK
  obtain ⟨rfl, hZ, hh⟩ := hP
  have hx := Bd.exec
  have hby := Bd.bytes
  have hml : c.maxLocals = 6 := hml0
  have hown : s.vm.findClass "com/example/overcap/overcap/DecimalsDigitsPinLaw" = some m.cls := findClass_of_methodNamed Bd.named
  have hnm := (name_of_methodNamed Bd.named Bd.method).1
  have X0 : Stand p l e ({ frames := 0, cells := 0, slots := 0, locals := 0 } : Room) s m #[(.long q0), (.long q1)] below meth c s₁ [] 0 0 := Stand.of_body Bd
  have e0 : s₁.heap = h0 := by rw [← hh, Bd.state]; rfl
  have N0 := Fr.nil n0
  have KP0 : Keep h0 h0 [] := Keep.refl h0 _
  have pre0 : ∀ t, Steps p.tables e below (s₁.setTop (mkF m 0 #[.val (.long q0), .second, .val (.long q1), .second, .unset, .unset] [])) t → Steps p.tables e below (s₁.setTop (entryFrame m #[(.long q0), (.long q1)] 6)) t := fun t k => castTop (ef_1_JJ m q0 q1) k
  have pre2 : ∀ t, Steps p.tables e below (s₁.setTop (mkF m 3 #[.val (.long q0), .second, .val (.long q1), .second, .unset, .unset] [(.int (lcmpW q1 (0 : Int64)))])) t → Steps p.tables e below (s₁.setTop (entryFrame m #[(.long q0), (.long q1)] 6)) t := by
    intro t kk
    refine pre0 t ?_
    show Steps p.tables e below (s₁.setTop (mkF m 0 #[.val (.long q0), .second, .val (.long q1), .second, .unset, .unset] [])) _
    refine XS.lloadN X0.here hx rfl (hb hby d1_0) rfl ?_
    show Steps p.tables e below (s₁.setTop (mkF m 1 #[.val (.long q0), .second, .val (.long q1), .second, .unset, .unset] [(.long q1)])) _
    refine XS.lconst X0.here hx rfl (hb hby d1_1) ?_
    show Steps p.tables e below (s₁.setTop (mkF m 2 #[.val (.long q0), .second, .val (.long q1), .second, .unset, .unset] [(.long (0 : Int64)), (.long q1)])) _
    refine XS.lcmp X0.here hx rfl (hb hby d1_2) rfl ?_
    exact kk
  by_cases hc3_1 : (0 : Int64) < q1
  · have pre4 : ∀ t, Steps p.tables e below (s₁.setTop (mkF m 21 #[.val (.long q0), .second, .val (.long q1), .second, .val (.long (q0 - q1)), .second] [(.int (lcmpW (q0 - q1) (1 : Int64)))])) t → Steps p.tables e below (s₁.setTop (entryFrame m #[(.long q0), (.long q1)] 6)) t := by
      intro t kk
      refine pre2 t ?_
      show Steps p.tables e below (s₁.setTop (mkF m 3 #[.val (.long q0), .second, .val (.long q1), .second, .unset, .unset] [(.int (lcmpW q1 (0 : Int64)))])) _
      refine XS.ifYes X0.here hx rfl (pc0 := 3) (pc' := 12) rfl (hb hby d1_3) rfl ((if0 _ _).trans (tlt ((lw_gt q1 (0 : Int64)).mpr hc3_1)).2.2.1) (by decide) (by decide) ?_
      show Steps p.tables e below (s₁.setTop (mkF m 12 #[.val (.long q0), .second, .val (.long q1), .second, .unset, .unset] [])) _
      refine XS.lloadN X0.here hx rfl (hb hby d1_12) rfl ?_
      show Steps p.tables e below (s₁.setTop (mkF m 13 #[.val (.long q0), .second, .val (.long q1), .second, .unset, .unset] [(.long q0)])) _
      refine XS.lloadN X0.here hx rfl (hb hby d1_13) rfl ?_
      show Steps p.tables e below (s₁.setTop (mkF m 14 #[.val (.long q0), .second, .val (.long q1), .second, .unset, .unset] [(.long q1), (.long q0)])) _
      refine XS.lsub X0.here hx rfl (hb hby d1_14) rfl ?_
      show Steps p.tables e below (s₁.setTop (mkF m 15 #[.val (.long q0), .second, .val (.long q1), .second, .unset, .unset] [(.long (q0 - q1))])) _
      refine XS.lstore X0.here hx rfl (hb hby d1_15) rfl (l' := #[.val (.long q0), .second, .val (.long q1), .second, .val (.long (q0 - q1)), .second]) rfl ?_
      show Steps p.tables e below (s₁.setTop (mkF m 17 #[.val (.long q0), .second, .val (.long q1), .second, .val (.long (q0 - q1)), .second] [])) _
      refine XS.lload X0.here hx rfl (hb hby d1_17) rfl ?_
      show Steps p.tables e below (s₁.setTop (mkF m 19 #[.val (.long q0), .second, .val (.long q1), .second, .val (.long (q0 - q1)), .second] [(.long (q0 - q1))])) _
      refine XS.lconst X0.here hx rfl (hb hby d1_19) ?_
      show Steps p.tables e below (s₁.setTop (mkF m 20 #[.val (.long q0), .second, .val (.long q1), .second, .val (.long (q0 - q1)), .second] [(.long (1 : Int64)), (.long (q0 - q1))])) _
      refine XS.lcmp X0.here hx rfl (hb hby d1_20) rfl ?_
      exact kk
    by_cases hc21_3 : (q0 - q1) < (1 : Int64)
    · have hF5 : (F1 q0 q1) = (1 : Int64) := ((if_pos hc3_1).trans (if_pos hc21_3))
      have pre6 : ∀ t, Steps p.tables e below (s₁.setTop (mkF m 25 #[.val (.long q0), .second, .val (.long q1), .second, .val (.long (q0 - q1)), .second] [(.long (1 : Int64))])) t → Steps p.tables e below (s₁.setTop (entryFrame m #[(.long q0), (.long q1)] 6)) t := by
        intro t kk
        refine pre4 t ?_
        show Steps p.tables e below (s₁.setTop (mkF m 21 #[.val (.long q0), .second, .val (.long q1), .second, .val (.long (q0 - q1)), .second] [(.int (lcmpW (q0 - q1) (1 : Int64)))])) _
        refine XS.ifNo X0.here hx rfl (hb hby d1_21) rfl ((if0 _ _).trans (tlt ((lw_lt (q0 - q1) (1 : Int64)).mpr hc21_3)).2.1) ?_
        show Steps p.tables e below (s₁.setTop (mkF m 24 #[.val (.long q0), .second, .val (.long q1), .second, .val (.long (q0 - q1)), .second] [])) _
        refine XS.lconst X0.here hx rfl (hb hby d1_24) ?_
        exact kk
      obtain ⟨fs, hr, hrun, hended, hW, hsame⟩ := X0.leave (v := some (.long (1 : Int64))) (fun h => by rw [Bd.returns] at h; cases h)
      refine ⟨_, _, pre6 _ ?_, hrun, hended, _, _, rfl, ?_, ⟨_, rfl⟩, hW, hsame.mono (by decide) (by decide)⟩
      · show Steps p.tables e below (s₁.setTop (mkF m 25 #[.val (.long q0), .second, .val (.long q1), .second, .val (.long (q0 - q1)), .second] [(.long (1 : Int64))])) _
        exact retOut X0 hx Bd.returns rfl (Or.inr (Or.inl ⟨rfl, rfl, _, rfl⟩)) (hb hby d1_25) hr
      · show Q1 Z q0 q1 h0 n0 _ s₁.heap _
        rw [e0]
        exact ⟨congrArg (fun z => some (Value.long z)) hF5.symm, N0, rfl⟩
    · have hF7 : (F1 q0 q1) = (q0 - q1) := ((if_pos hc3_1).trans (if_neg hc21_3))
      have pre8 : ∀ t, Steps p.tables e below (s₁.setTop (mkF m 28 #[.val (.long q0), .second, .val (.long q1), .second, .val (.long (q0 - q1)), .second] [(.long (q0 - q1))])) t → Steps p.tables e below (s₁.setTop (entryFrame m #[(.long q0), (.long q1)] 6)) t := by
        intro t kk
        refine pre4 t ?_
        show Steps p.tables e below (s₁.setTop (mkF m 21 #[.val (.long q0), .second, .val (.long q1), .second, .val (.long (q0 - q1)), .second] [(.int (lcmpW (q0 - q1) (1 : Int64)))])) _
        refine XS.ifYes X0.here hx rfl (pc0 := 21) (pc' := 26) rfl (hb hby d1_21) rfl ((if0 _ _).trans (flt (fun q => hc21_3 ((lw_lt (q0 - q1) (1 : Int64)).mp q))).2.1) (by decide) (by decide) ?_
        show Steps p.tables e below (s₁.setTop (mkF m 26 #[.val (.long q0), .second, .val (.long q1), .second, .val (.long (q0 - q1)), .second] [])) _
        refine XS.lload X0.here hx rfl (hb hby d1_26) rfl ?_
        exact kk
      obtain ⟨fs, hr, hrun, hended, hW, hsame⟩ := X0.leave (v := some (.long (q0 - q1))) (fun h => by rw [Bd.returns] at h; cases h)
      refine ⟨_, _, pre8 _ ?_, hrun, hended, _, _, rfl, ?_, ⟨_, rfl⟩, hW, hsame.mono (by decide) (by decide)⟩
      · show Steps p.tables e below (s₁.setTop (mkF m 28 #[.val (.long q0), .second, .val (.long q1), .second, .val (.long (q0 - q1)), .second] [(.long (q0 - q1))])) _
        exact retOut X0 hx Bd.returns rfl (Or.inr (Or.inl ⟨rfl, rfl, _, rfl⟩)) (hb hby d1_28) hr
      · show Q1 Z q0 q1 h0 n0 _ s₁.heap _
        rw [e0]
        exact ⟨congrArg (fun z => some (Value.long z)) hF7.symm, N0, rfl⟩
  · have hF9 : (F1 q0 q1) = (q0 + ((0 : Int64) - q1)) := (if_neg hc3_1)
    have pre10 : ∀ t, Steps p.tables e below (s₁.setTop (mkF m 11 #[.val (.long q0), .second, .val (.long q1), .second, .unset, .unset] [(.long (q0 + ((0 : Int64) - q1)))])) t → Steps p.tables e below (s₁.setTop (entryFrame m #[(.long q0), (.long q1)] 6)) t := by
      intro t kk
      refine pre2 t ?_
      show Steps p.tables e below (s₁.setTop (mkF m 3 #[.val (.long q0), .second, .val (.long q1), .second, .unset, .unset] [(.int (lcmpW q1 (0 : Int64)))])) _
      refine XS.ifNo X0.here hx rfl (hb hby d1_3) rfl ((if0 _ _).trans (flt (fun q => hc3_1 ((lw_gt q1 (0 : Int64)).mp q))).2.2.1) ?_
      show Steps p.tables e below (s₁.setTop (mkF m 6 #[.val (.long q0), .second, .val (.long q1), .second, .unset, .unset] [])) _
      refine XS.lloadN X0.here hx rfl (hb hby d1_6) rfl ?_
      show Steps p.tables e below (s₁.setTop (mkF m 7 #[.val (.long q0), .second, .val (.long q1), .second, .unset, .unset] [(.long q0)])) _
      refine XS.lconst X0.here hx rfl (hb hby d1_7) ?_
      show Steps p.tables e below (s₁.setTop (mkF m 8 #[.val (.long q0), .second, .val (.long q1), .second, .unset, .unset] [(.long (0 : Int64)), (.long q0)])) _
      refine XS.lloadN X0.here hx rfl (hb hby d1_8) rfl ?_
      show Steps p.tables e below (s₁.setTop (mkF m 9 #[.val (.long q0), .second, .val (.long q1), .second, .unset, .unset] [(.long q1), (.long (0 : Int64)), (.long q0)])) _
      refine XS.lsub X0.here hx rfl (hb hby d1_9) rfl ?_
      show Steps p.tables e below (s₁.setTop (mkF m 10 #[.val (.long q0), .second, .val (.long q1), .second, .unset, .unset] [(.long ((0 : Int64) - q1)), (.long q0)])) _
      refine XS.ladd X0.here hx rfl (hb hby d1_10) rfl ?_
      exact kk
    obtain ⟨fs, hr, hrun, hended, hW, hsame⟩ := X0.leave (v := some (.long (q0 + ((0 : Int64) - q1)))) (fun h => by rw [Bd.returns] at h; cases h)
    refine ⟨_, _, pre10 _ ?_, hrun, hended, _, _, rfl, ?_, ⟨_, rfl⟩, hW, hsame.mono (by decide) (by decide)⟩
    · show Steps p.tables e below (s₁.setTop (mkF m 11 #[.val (.long q0), .second, .val (.long q1), .second, .unset, .unset] [(.long (q0 + ((0 : Int64) - q1)))])) _
      exact retOut X0 hx Bd.returns rfl (Or.inr (Or.inl ⟨rfl, rfl, _, rfl⟩)) (hb hby d1_11) hr
    · show Q1 Z q0 q1 h0 n0 _ s₁.heap _
      rw [e0]
      exact ⟨congrArg (fun z => some (Value.long z)) hF9.symm, N0, rfl⟩
def F2 (q0 : Int64) : Int64 := (if (0 : Int64) < q0 then q0 else (0 : Int64))
theorem d2_0 : decode method_3_code 0 = .ok (.lload_n 0, 1) := by decide +kernel
theorem d2_1 : decode method_3_code 1 = .ok (.lconst 0, 1) := by decide +kernel
theorem d2_2 : decode method_3_code 2 = .ok (.lcmp, 1) := by decide +kernel
theorem d2_3 : decode method_3_code 3 = .ok (.ifCond .le 5, 3) := by decide +kernel
theorem d2_6 : decode method_3_code 6 = .ok (.lload_n 0, 1) := by decide +kernel
theorem d2_7 : decode method_3_code 7 = .ok (.lreturn, 1) := by decide +kernel
theorem d2_8 : decode method_3_code 8 = .ok (.lconst 0, 1) := by decide +kernel
theorem d2_9 : decode method_3_code 9 = .ok (.lreturn, 1) := by decide +kernel
theorem ef_2_J (m : MethodId) (x0 : Int64) : entryFrame m #[(.long x0)] 2 = mkF m 0 #[.val (.long x0), .second] [] := by first | (simp [entryFrame, mkF, argsToLocals, Value.category]; done) | rfl
def Q2 (Z : State) (q0 : Int64) (h0 : Heap) (n0 : Nat) (v : Option Value) (h : Heap) (L : List Loc) : Prop := v = some (.long (F2 q0)) ∧ Fr n0 L ∧ h = h0
set_option maxRecDepth 65536 in
set_option maxHeartbeats 40000000 in
theorem rm2 (l : Launch) (Z : State) (a0 : Array Value) (hw : ∀ d ∈ tables_1, d.before a0 Z = true) (ws : List Jvm.Cond) (q0 : Int64) (h0 : Heap) (n0 : Nat) (Z0 : n0 ≤ h0.size) :
    MetFree l (⟨"com/example/overcap/overcap/DecimalsDigitsPinLaw", "afterPoint", "(J)J"⟩ : MethodName) (head1 (Jvm.Cond.code (⟨"com/example/overcap/overcap/DecimalsDigitsPinLaw", "afterPoint", "(J)J"⟩ : MethodName) method_3_code 2 (some .long) :: ws) ({ frames := 0, cells := 0, slots := 0, locals := 0 } : Room)) (fun a U => a = #[(.long q0)] ∧ Z.Warmed39 U.vm ∧ U.heap = h0) (fun _ _ _ _ _ => True) (fun _ U o U' => ∃ v L, o = .returned v ∧ Q2 Z q0 h0 n0 v U'.heap L ∧ FrameEnd U o U' L ({ frames := 0, cells := 0, slots := 0, locals := 0 } : Room).cells ({ frames := 0, cells := 0, slots := 0, locals := 0 } : Room).slots) := by
  refine MetFree.of_bodySF (plainFor_of_name pn_com_example_overcap_overcap_DecimalsDigitsPinLaw) hisR ?_
  intro p e s m args below meth c s₁ Bd hml0 hP hK
  obtain ⟨rfl, hZ, hh⟩ := hP
  have hx := Bd.exec
  have hby := Bd.bytes
  have hml : c.maxLocals = 2 := hml0
  have hown : s.vm.findClass "com/example/overcap/overcap/DecimalsDigitsPinLaw" = some m.cls := findClass_of_methodNamed Bd.named
  have hnm := (name_of_methodNamed Bd.named Bd.method).1
  have X0 : Stand p l e ({ frames := 0, cells := 0, slots := 0, locals := 0 } : Room) s m #[(.long q0)] below meth c s₁ [] 0 0 := Stand.of_body Bd
  have e0 : s₁.heap = h0 := by rw [← hh, Bd.state]; rfl
  have N0 := Fr.nil n0
  have KP0 : Keep h0 h0 [] := Keep.refl h0 _
  have pre0 : ∀ t, Steps p.tables e below (s₁.setTop (mkF m 0 #[.val (.long q0), .second] [])) t → Steps p.tables e below (s₁.setTop (entryFrame m #[(.long q0)] 2)) t := fun t k => castTop (ef_2_J m q0) k
  have pre12 : ∀ t, Steps p.tables e below (s₁.setTop (mkF m 3 #[.val (.long q0), .second] [(.int (lcmpW q0 (0 : Int64)))])) t → Steps p.tables e below (s₁.setTop (entryFrame m #[(.long q0)] 2)) t := by
    intro t kk
    refine pre0 t ?_
    show Steps p.tables e below (s₁.setTop (mkF m 0 #[.val (.long q0), .second] [])) _
    refine XS.lloadN X0.here hx rfl (hb hby d2_0) rfl ?_
    show Steps p.tables e below (s₁.setTop (mkF m 1 #[.val (.long q0), .second] [(.long q0)])) _
    refine XS.lconst X0.here hx rfl (hb hby d2_1) ?_
    show Steps p.tables e below (s₁.setTop (mkF m 2 #[.val (.long q0), .second] [(.long (0 : Int64)), (.long q0)])) _
    refine XS.lcmp X0.here hx rfl (hb hby d2_2) rfl ?_
    exact kk
  by_cases hc3_11 : (0 : Int64) < q0
  · have hF13 : (F2 q0) = q0 := (if_pos hc3_11)
    have pre14 : ∀ t, Steps p.tables e below (s₁.setTop (mkF m 7 #[.val (.long q0), .second] [(.long q0)])) t → Steps p.tables e below (s₁.setTop (entryFrame m #[(.long q0)] 2)) t := by
      intro t kk
      refine pre12 t ?_
      show Steps p.tables e below (s₁.setTop (mkF m 3 #[.val (.long q0), .second] [(.int (lcmpW q0 (0 : Int64)))])) _
      refine XS.ifNo X0.here hx rfl (hb hby d2_3) rfl ((if0 _ _).trans (tlt ((lw_gt q0 (0 : Int64)).mpr hc3_11)).2.2.2) ?_
      show Steps p.tables e below (s₁.setTop (mkF m 6 #[.val (.long q0), .second] [])) _
      refine XS.lloadN X0.here hx rfl (hb hby d2_6) rfl ?_
      exact kk
    obtain ⟨fs, hr, hrun, hended, hW, hsame⟩ := X0.leave (v := some (.long q0)) (fun h => by rw [Bd.returns] at h; cases h)
    refine ⟨_, _, pre14 _ ?_, hrun, hended, _, _, rfl, ?_, ⟨_, rfl⟩, hW, hsame.mono (by decide) (by decide)⟩
    · show Steps p.tables e below (s₁.setTop (mkF m 7 #[.val (.long q0), .second] [(.long q0)])) _
      exact retOut X0 hx Bd.returns rfl (Or.inr (Or.inl ⟨rfl, rfl, _, rfl⟩)) (hb hby d2_7) hr
    · show Q2 Z q0 h0 n0 _ s₁.heap _
      rw [e0]
      exact ⟨congrArg (fun z => some (Value.long z)) hF13.symm, N0, rfl⟩
  · have hF15 : (F2 q0) = (0 : Int64) := (if_neg hc3_11)
    have pre16 : ∀ t, Steps p.tables e below (s₁.setTop (mkF m 9 #[.val (.long q0), .second] [(.long (0 : Int64))])) t → Steps p.tables e below (s₁.setTop (entryFrame m #[(.long q0)] 2)) t := by
      intro t kk
      refine pre12 t ?_
      show Steps p.tables e below (s₁.setTop (mkF m 3 #[.val (.long q0), .second] [(.int (lcmpW q0 (0 : Int64)))])) _
      refine XS.ifYes X0.here hx rfl (pc0 := 3) (pc' := 8) rfl (hb hby d2_3) rfl ((if0 _ _).trans (flt (fun q => hc3_11 ((lw_gt q0 (0 : Int64)).mp q))).2.2.2) (by decide) (by decide) ?_
      show Steps p.tables e below (s₁.setTop (mkF m 8 #[.val (.long q0), .second] [])) _
      refine XS.lconst X0.here hx rfl (hb hby d2_8) ?_
      exact kk
    obtain ⟨fs, hr, hrun, hended, hW, hsame⟩ := X0.leave (v := some (.long (0 : Int64))) (fun h => by rw [Bd.returns] at h; cases h)
    refine ⟨_, _, pre16 _ ?_, hrun, hended, _, _, rfl, ?_, ⟨_, rfl⟩, hW, hsame.mono (by decide) (by decide)⟩
    · show Steps p.tables e below (s₁.setTop (mkF m 9 #[.val (.long q0), .second] [(.long (0 : Int64))])) _
      exact retOut X0 hx Bd.returns rfl (Or.inr (Or.inl ⟨rfl, rfl, _, rfl⟩)) (hb hby d2_9) hr
    · show Q2 Z q0 h0 n0 _ s₁.heap _
      rw [e0]
      exact ⟨congrArg (fun z => some (Value.long z)) hF15.symm, N0, rfl⟩
def F4 (q0 : Int64) (q1 : Int64) : Int64 := (if q0 < q1 then q1 else q0)
theorem d4_0 : decode jdk_29_method_66_code 0 = .ok (.lload_n 0, 1) := by decide +kernel
theorem d4_1 : decode jdk_29_method_66_code 1 = .ok (.lload_n 2, 1) := by decide +kernel
theorem d4_2 : decode jdk_29_method_66_code 2 = .ok (.lcmp, 1) := by decide +kernel
theorem d4_3 : decode jdk_29_method_66_code 3 = .ok (.ifCond .lt 7, 3) := by decide +kernel
theorem d4_6 : decode jdk_29_method_66_code 6 = .ok (.lload_n 0, 1) := by decide +kernel
theorem d4_7 : decode jdk_29_method_66_code 7 = .ok (.goto 4, 3) := by decide +kernel
theorem d4_10 : decode jdk_29_method_66_code 10 = .ok (.lload_n 2, 1) := by decide +kernel
theorem d4_11 : decode jdk_29_method_66_code 11 = .ok (.lreturn, 1) := by decide +kernel
theorem ef_4_JJ (m : MethodId) (x0 : Int64) (x1 : Int64) : entryFrame m #[(.long x0), (.long x1)] 4 = mkF m 0 #[.val (.long x0), .second, .val (.long x1), .second] [] := by first | (simp [entryFrame, mkF, argsToLocals, Value.category]; done) | rfl
def Q4 (Z : State) (q0 : Int64) (q1 : Int64) (h0 : Heap) (n0 : Nat) (v : Option Value) (h : Heap) (L : List Loc) : Prop := v = some (.long (F4 q0 q1)) ∧ Fr n0 L ∧ h = h0
set_option maxRecDepth 65536 in
set_option maxHeartbeats 40000000 in
theorem rm4 (l : Launch) (Z : State) (a0 : Array Value) (hw : ∀ d ∈ tables_1, d.before a0 Z = true) (ws : List Jvm.Cond) (q0 : Int64) (q1 : Int64) (h0 : Heap) (n0 : Nat) (Z0 : n0 ≤ h0.size) :
    MetFree l (⟨"java/lang/Math", "max", "(JJ)J"⟩ : MethodName) (head1 (Jvm.Cond.code (⟨"java/lang/Math", "max", "(JJ)J"⟩ : MethodName) jdk_29_method_66_code 4 (some .long) :: ws) ({ frames := 0, cells := 0, slots := 0, locals := 0 } : Room)) (fun a U => a = #[(.long q0), (.long q1)] ∧ Z.Warmed39 U.vm ∧ U.heap = h0) (fun _ _ _ _ _ => True) (fun _ U o U' => ∃ v L, o = .returned v ∧ Q4 Z q0 q1 h0 n0 v U'.heap L ∧ FrameEnd U o U' L ({ frames := 0, cells := 0, slots := 0, locals := 0 } : Room).cells ({ frames := 0, cells := 0, slots := 0, locals := 0 } : Room).slots) := by
  refine MetFree.of_bodySF (Jvm.Free.JP.mathPlain rfl (by decide +kernel)) hisR ?_
  intro p e s m args below meth c s₁ Bd hml0 hP hK
  obtain ⟨rfl, hZ, hh⟩ := hP
  have hx := Bd.exec
  have hby := Bd.bytes
  have hml : c.maxLocals = 4 := hml0
  have hown : s.vm.findClass "java/lang/Math" = some m.cls := findClass_of_methodNamed Bd.named
  have hnm := (name_of_methodNamed Bd.named Bd.method).1
  have X0 : Stand p l e ({ frames := 0, cells := 0, slots := 0, locals := 0 } : Room) s m #[(.long q0), (.long q1)] below meth c s₁ [] 0 0 := Stand.of_body Bd
  have e0 : s₁.heap = h0 := by rw [← hh, Bd.state]; rfl
  have N0 := Fr.nil n0
  have KP0 : Keep h0 h0 [] := Keep.refl h0 _
  have pre0 : ∀ t, Steps p.tables e below (s₁.setTop (mkF m 0 #[.val (.long q0), .second, .val (.long q1), .second] [])) t → Steps p.tables e below (s₁.setTop (entryFrame m #[(.long q0), (.long q1)] 4)) t := fun t k => castTop (ef_4_JJ m q0 q1) k
  have pre18 : ∀ t, Steps p.tables e below (s₁.setTop (mkF m 3 #[.val (.long q0), .second, .val (.long q1), .second] [(.int (lcmpW q0 q1))])) t → Steps p.tables e below (s₁.setTop (entryFrame m #[(.long q0), (.long q1)] 4)) t := by
    intro t kk
    refine pre0 t ?_
    show Steps p.tables e below (s₁.setTop (mkF m 0 #[.val (.long q0), .second, .val (.long q1), .second] [])) _
    refine XS.lloadN X0.here hx rfl (hb hby d4_0) rfl ?_
    show Steps p.tables e below (s₁.setTop (mkF m 1 #[.val (.long q0), .second, .val (.long q1), .second] [(.long q0)])) _
    refine XS.lloadN X0.here hx rfl (hb hby d4_1) rfl ?_
    show Steps p.tables e below (s₁.setTop (mkF m 2 #[.val (.long q0), .second, .val (.long q1), .second] [(.long q1), (.long q0)])) _
    refine XS.lcmp X0.here hx rfl (hb hby d4_2) rfl ?_
    exact kk
  by_cases hc3_17 : q0 < q1
  · have hF19 : (F4 q0 q1) = q1 := (if_pos hc3_17)
    have pre20 : ∀ t, Steps p.tables e below (s₁.setTop (mkF m 11 #[.val (.long q0), .second, .val (.long q1), .second] [(.long q1)])) t → Steps p.tables e below (s₁.setTop (entryFrame m #[(.long q0), (.long q1)] 4)) t := by
      intro t kk
      refine pre18 t ?_
      show Steps p.tables e below (s₁.setTop (mkF m 3 #[.val (.long q0), .second, .val (.long q1), .second] [(.int (lcmpW q0 q1))])) _
      refine XS.ifYes X0.here hx rfl (pc0 := 3) (pc' := 10) rfl (hb hby d4_3) rfl ((if0 _ _).trans (tlt ((lw_lt q0 q1).mpr hc3_17)).1) (by decide) (by decide) ?_
      show Steps p.tables e below (s₁.setTop (mkF m 10 #[.val (.long q0), .second, .val (.long q1), .second] [])) _
      refine XS.lloadN X0.here hx rfl (hb hby d4_10) rfl ?_
      exact kk
    obtain ⟨fs, hr, hrun, hended, hW, hsame⟩ := X0.leave (v := some (.long q1)) (fun h => by rw [Bd.returns] at h; cases h)
    refine ⟨_, _, pre20 _ ?_, hrun, hended, _, _, rfl, ?_, ⟨_, rfl⟩, hW, hsame.mono (by decide) (by decide)⟩
    · show Steps p.tables e below (s₁.setTop (mkF m 11 #[.val (.long q0), .second, .val (.long q1), .second] [(.long q1)])) _
      exact retOut X0 hx Bd.returns rfl (Or.inr (Or.inl ⟨rfl, rfl, _, rfl⟩)) (hb hby d4_11) hr
    · show Q4 Z q0 q1 h0 n0 _ s₁.heap _
      rw [e0]
      exact ⟨congrArg (fun z => some (Value.long z)) hF19.symm, N0, rfl⟩
  · have hF21 : (F4 q0 q1) = q0 := (if_neg hc3_17)
    have pre22 : ∀ t, Steps p.tables e below (s₁.setTop (mkF m 11 #[.val (.long q0), .second, .val (.long q1), .second] [(.long q0)])) t → Steps p.tables e below (s₁.setTop (entryFrame m #[(.long q0), (.long q1)] 4)) t := by
      intro t kk
      refine pre18 t ?_
      show Steps p.tables e below (s₁.setTop (mkF m 3 #[.val (.long q0), .second, .val (.long q1), .second] [(.int (lcmpW q0 q1))])) _
      refine XS.ifNo X0.here hx rfl (hb hby d4_3) rfl ((if0 _ _).trans (flt (fun q => hc3_17 ((lw_lt q0 q1).mp q))).1) ?_
      show Steps p.tables e below (s₁.setTop (mkF m 6 #[.val (.long q0), .second, .val (.long q1), .second] [])) _
      refine XS.lloadN X0.here hx rfl (hb hby d4_6) rfl ?_
      show Steps p.tables e below (s₁.setTop (mkF m 7 #[.val (.long q0), .second, .val (.long q1), .second] [(.long q0)])) _
      refine XS.goto X0.here hx rfl (pc0 := 7) (pc' := 11) rfl (hb hby d4_7) (by decide) (by decide) ?_
      exact kk
    obtain ⟨fs, hr, hrun, hended, hW, hsame⟩ := X0.leave (v := some (.long q0)) (fun h => by rw [Bd.returns] at h; cases h)
    refine ⟨_, _, pre22 _ ?_, hrun, hended, _, _, rfl, ?_, ⟨_, rfl⟩, hW, hsame.mono (by decide) (by decide)⟩
    · show Steps p.tables e below (s₁.setTop (mkF m 11 #[.val (.long q0), .second, .val (.long q1), .second] [(.long q0)])) _
      exact retOut X0 hx Bd.returns rfl (Or.inr (Or.inl ⟨rfl, rfl, _, rfl⟩)) (hb hby d4_11) hr
    · show Q4 Z q0 q1 h0 n0 _ s₁.heap _
      rw [e0]
      exact ⟨congrArg (fun z => some (Value.long z)) hF21.symm, N0, rfl⟩
def F3 (q0 : Int64) (q1 : Int64) : Int64 := (if (0 : Int64) < q1 then (F4 q0 (q1 + (1 : Int64))) else (q0 - q1))
theorem pd__28JJ_29J : parseMethodDescriptor "(JJ)J" = some ⟨[.long, .long], some .long⟩ := by decide +kernel
theorem d3_0 : decode prog_3_method_4_code 0 = .ok (.lload_n 2, 1) := by decide +kernel
theorem d3_1 : decode prog_3_method_4_code 1 = .ok (.lconst 0, 1) := by decide +kernel
theorem d3_2 : decode prog_3_method_4_code 2 = .ok (.lcmp, 1) := by decide +kernel
theorem d3_3 : decode prog_3_method_4_code 3 = .ok (.ifCond .gt 11, 3) := by decide +kernel
theorem d3_6 : decode prog_3_method_4_code 6 = .ok (.lload_n 0, 1) := by decide +kernel
theorem d3_7 : decode prog_3_method_4_code 7 = .ok (.lload_n 2, 1) := by decide +kernel
theorem d3_8 : decode prog_3_method_4_code 8 = .ok (.lsub, 1) := by decide +kernel
theorem d3_9 : decode prog_3_method_4_code 9 = .ok (.lstore 4, 2) := by decide +kernel
theorem d3_11 : decode prog_3_method_4_code 11 = .ok (.goto 12, 3) := by decide +kernel
theorem d3_14 : decode prog_3_method_4_code 14 = .ok (.lload_n 0, 1) := by decide +kernel
theorem d3_15 : decode prog_3_method_4_code 15 = .ok (.lload_n 2, 1) := by decide +kernel
theorem d3_16 : decode prog_3_method_4_code 16 = .ok (.lconst 1, 1) := by decide +kernel
theorem d3_17 : decode prog_3_method_4_code 17 = .ok (.ladd, 1) := by decide +kernel
theorem d3_18 : decode prog_3_method_4_code 18 = .ok (.invokestatic 65, 3) := by decide +kernel
theorem d3_21 : decode prog_3_method_4_code 21 = .ok (.lstore 4, 2) := by decide +kernel
theorem d3_23 : decode prog_3_method_4_code 23 = .ok (.lload 4, 2) := by decide +kernel
theorem d3_25 : decode prog_3_method_4_code 25 = .ok (.lreturn, 1) := by decide +kernel
theorem pn_com_example_overcap_overcap_Decimals : plainName "com/example/overcap/overcap/Decimals" = true := by first | (simp [plainName, overriddenIn]; done) | decide +kernel
theorem ef_3_JJ (m : MethodId) (x0 : Int64) (x1 : Int64) : entryFrame m #[(.long x0), (.long x1)] 6 = mkF m 0 #[.val (.long x0), .second, .val (.long x1), .second, .unset, .unset] [] := by first | (simp [entryFrame, mkF, argsToLocals, Value.category]; done) | rfl
def Q3 (Z : State) (q0 : Int64) (q1 : Int64) (h0 : Heap) (n0 : Nat) (v : Option Value) (h : Heap) (L : List Loc) : Prop := v = some (.long (F3 q0 q1)) ∧ Fr n0 L ∧ h = h0
set_option maxRecDepth 65536 in
set_option maxHeartbeats 40000000 in
theorem rm3 (l : Launch) (Z : State) (a0 : Array Value) (hw : ∀ d ∈ tables_1, d.before a0 Z = true) (ws : List Jvm.Cond) (q0 : Int64) (q1 : Int64) (h0 : Heap) (n0 : Nat) (Z0 : n0 ≤ h0.size) :
    MetFree l (⟨"com/example/overcap/overcap/Decimals", "digits", "(JJ)J"⟩ : MethodName) (head1 (Jvm.Cond.code (⟨"com/example/overcap/overcap/Decimals", "digits", "(JJ)J"⟩ : MethodName) prog_3_method_4_code 6 (some .long) :: ws) ({ frames := 1, cells := 0, slots := 0, locals := 15 } : Room)) (fun a U => a = #[(.long q0), (.long q1)] ∧ Z.Warmed39 U.vm ∧ U.heap = h0) (fun _ _ _ _ _ => True) (fun _ U o U' => ∃ v L, o = .returned v ∧ Q3 Z q0 q1 h0 n0 v U'.heap L ∧ FrameEnd U o U' L ({ frames := 1, cells := 0, slots := 0, locals := 15 } : Room).cells ({ frames := 1, cells := 0, slots := 0, locals := 15 } : Room).slots) := by
  refine MetFree.of_bodySF (plainFor_of_name pn_com_example_overcap_overcap_Decimals) hisR ?_
  intro p e s m args below meth c s₁ Bd hml0 hP hK
  obtain ⟨rfl, hZ, hh⟩ := hP
  have hx := Bd.exec
  have hby := Bd.bytes
  have hml : c.maxLocals = 6 := hml0
  have hown : s.vm.findClass "com/example/overcap/overcap/Decimals" = some m.cls := findClass_of_methodNamed Bd.named
  have hnm := (name_of_methodNamed Bd.named Bd.method).1
  have X0 : Stand p l e ({ frames := 1, cells := 0, slots := 0, locals := 15 } : Room) s m #[(.long q0), (.long q1)] below meth c s₁ [] 0 0 := Stand.of_body Bd
  have e0 : s₁.heap = h0 := by rw [← hh, Bd.state]; rfl
  have N0 := Fr.nil n0
  have KP0 : Keep h0 h0 [] := Keep.refl h0 _
  have pre0 : ∀ t, Steps p.tables e below (s₁.setTop (mkF m 0 #[.val (.long q0), .second, .val (.long q1), .second, .unset, .unset] [])) t → Steps p.tables e below (s₁.setTop (entryFrame m #[(.long q0), (.long q1)] 6)) t := fun t k => castTop (ef_3_JJ m q0 q1) k
  have pre24 : ∀ t, Steps p.tables e below (s₁.setTop (mkF m 3 #[.val (.long q0), .second, .val (.long q1), .second, .unset, .unset] [(.int (lcmpW q1 (0 : Int64)))])) t → Steps p.tables e below (s₁.setTop (entryFrame m #[(.long q0), (.long q1)] 6)) t := by
    intro t kk
    refine pre0 t ?_
    show Steps p.tables e below (s₁.setTop (mkF m 0 #[.val (.long q0), .second, .val (.long q1), .second, .unset, .unset] [])) _
    refine XS.lloadN X0.here hx rfl (hb hby d3_0) rfl ?_
    show Steps p.tables e below (s₁.setTop (mkF m 1 #[.val (.long q0), .second, .val (.long q1), .second, .unset, .unset] [(.long q1)])) _
    refine XS.lconst X0.here hx rfl (hb hby d3_1) ?_
    show Steps p.tables e below (s₁.setTop (mkF m 2 #[.val (.long q0), .second, .val (.long q1), .second, .unset, .unset] [(.long (0 : Int64)), (.long q1)])) _
    refine XS.lcmp X0.here hx rfl (hb hby d3_2) rfl ?_
    exact kk
  by_cases hc3_23 : (0 : Int64) < q1
  · obtain ⟨_, _, ⟨T25, L25, k25, n25⟩, -, X25, ⟨Lc25, hQ25, l25, y25, z25⟩, st25⟩ := Jvm.LawKit.callS X0 hx (y := (⟨"java/lang/Math", "max", "(JJ)J"⟩ : MethodName)) hown (mvT hZ (hw _ (List.mem_of_getElem? (i := 12) rfl))) (mvT hZ (hw _ (List.mem_of_getElem? (i := 13) rfl))) (mvT hZ (hw _ (List.mem_of_getElem? (i := 14) rfl))) (mvT hZ (hw _ (List.mem_of_getElem? (i := 15) rfl))) (by decide) (backOf (W := 0) (rm4 l Z a0 hw [] q0 (q1 + (1 : Int64))  h0 n0 Z0 ) hZ (hw _ (List.mem_of_getElem? (i := 15) rfl)) (hw _ (List.mem_of_getElem? (i := 14) rfl)) (by decide) (by decide)) (g := (mkF m 18 #[.val (.long q0), .second, .val (.long q1), .second, .unset, .unset] [(.long (q1 + (1 : Int64))), (.long q0)])) rfl (by rw [hml]; rfl) (argsL := [(.long q0), (.long (q1 + (1 : Int64)))]) (rest := []) (lenOf pd__28JJ_29J rfl) rfl (by show 2 * 0 + _ ≤ _; exact Nat.le_of_eq rfl) (hb hby d3_18) (fun _ _ => ⟨rfl, e0, (by decide : 0 + 0 ≤ _), (by decide : 0 + 0 ≤ _)⟩)
    dsimp only [Pt.U, Pt.locs, Pt.cells, Pt.slots] at X25 l25 y25 z25 st25 hQ25
    subst l25 y25 z25
    obtain ⟨rfl, N25q, e25⟩ := hQ25
    have N25 := Fr.app N0 N25q
    have hF26 : (F3 q0 q1) = (F4 q0 (q1 + (1 : Int64))) := (if_pos hc3_23)
    have pre27 : ∀ t, Steps p.tables e below (T25.setTop (mkF m 25 #[.val (.long q0), .second, .val (.long q1), .second, .val (.long (F4 q0 (q1 + (1 : Int64)))), .second] [(.long (F4 q0 (q1 + (1 : Int64))))])) t → Steps p.tables e below (s₁.setTop (entryFrame m #[(.long q0), (.long q1)] 6)) t := by
      intro t kk
      refine pre24 t ?_
      show Steps p.tables e below (s₁.setTop (mkF m 3 #[.val (.long q0), .second, .val (.long q1), .second, .unset, .unset] [(.int (lcmpW q1 (0 : Int64)))])) _
      refine XS.ifYes X0.here hx rfl (pc0 := 3) (pc' := 14) rfl (hb hby d3_3) rfl ((if0 _ _).trans (tlt ((lw_gt q1 (0 : Int64)).mpr hc3_23)).2.2.1) (by decide) (by decide) ?_
      show Steps p.tables e below (s₁.setTop (mkF m 14 #[.val (.long q0), .second, .val (.long q1), .second, .unset, .unset] [])) _
      refine XS.lloadN X0.here hx rfl (hb hby d3_14) rfl ?_
      show Steps p.tables e below (s₁.setTop (mkF m 15 #[.val (.long q0), .second, .val (.long q1), .second, .unset, .unset] [(.long q0)])) _
      refine XS.lloadN X0.here hx rfl (hb hby d3_15) rfl ?_
      show Steps p.tables e below (s₁.setTop (mkF m 16 #[.val (.long q0), .second, .val (.long q1), .second, .unset, .unset] [(.long q1), (.long q0)])) _
      refine XS.lconst X0.here hx rfl (hb hby d3_16) ?_
      show Steps p.tables e below (s₁.setTop (mkF m 17 #[.val (.long q0), .second, .val (.long q1), .second, .unset, .unset] [(.long (1 : Int64)), (.long q1), (.long q0)])) _
      refine XS.ladd X0.here hx rfl (hb hby d3_17) rfl ?_
      show Steps p.tables e below (s₁.setTop (mkF m 18 #[.val (.long q0), .second, .val (.long q1), .second, .unset, .unset] [(.long (q1 + (1 : Int64))), (.long q0)])) _
      refine st25 _ ?_
      show Steps p.tables e below (T25.setTop (mkF m 21 #[.val (.long q0), .second, .val (.long q1), .second, .unset, .unset] [(.long (F4 q0 (q1 + (1 : Int64))))])) _
      refine XS.lstore X25.here hx rfl (hb hby d3_21) rfl (l' := #[.val (.long q0), .second, .val (.long q1), .second, .val (.long (F4 q0 (q1 + (1 : Int64)))), .second]) rfl ?_
      show Steps p.tables e below (T25.setTop (mkF m 23 #[.val (.long q0), .second, .val (.long q1), .second, .val (.long (F4 q0 (q1 + (1 : Int64)))), .second] [])) _
      refine XS.lload X25.here hx rfl (hb hby d3_23) rfl ?_
      exact kk
    obtain ⟨fs, hr, hrun, hended, hW, hsame⟩ := X25.leave (v := some (.long (F4 q0 (q1 + (1 : Int64))))) (fun h => by rw [Bd.returns] at h; cases h)
    refine ⟨_, _, pre27 _ ?_, hrun, hended, _, _, rfl, ?_, ⟨_, rfl⟩, hW, hsame.mono (by decide) (by decide)⟩
    · show Steps p.tables e below (T25.setTop (mkF m 25 #[.val (.long q0), .second, .val (.long q1), .second, .val (.long (F4 q0 (q1 + (1 : Int64)))), .second] [(.long (F4 q0 (q1 + (1 : Int64))))])) _
      exact retOut X25 hx Bd.returns rfl (Or.inr (Or.inl ⟨rfl, rfl, _, rfl⟩)) (hb hby d3_25) hr
    · show Q3 Z q0 q1 h0 n0 _ T25.heap _
      rw [e25]
      exact ⟨congrArg (fun z => some (Value.long z)) hF26.symm, N25, rfl⟩
  · have hF28 : (F3 q0 q1) = (q0 - q1) := (if_neg hc3_23)
    have pre29 : ∀ t, Steps p.tables e below (s₁.setTop (mkF m 25 #[.val (.long q0), .second, .val (.long q1), .second, .val (.long (q0 - q1)), .second] [(.long (q0 - q1))])) t → Steps p.tables e below (s₁.setTop (entryFrame m #[(.long q0), (.long q1)] 6)) t := by
      intro t kk
      refine pre24 t ?_
      show Steps p.tables e below (s₁.setTop (mkF m 3 #[.val (.long q0), .second, .val (.long q1), .second, .unset, .unset] [(.int (lcmpW q1 (0 : Int64)))])) _
      refine XS.ifNo X0.here hx rfl (hb hby d3_3) rfl ((if0 _ _).trans (flt (fun q => hc3_23 ((lw_gt q1 (0 : Int64)).mp q))).2.2.1) ?_
      show Steps p.tables e below (s₁.setTop (mkF m 6 #[.val (.long q0), .second, .val (.long q1), .second, .unset, .unset] [])) _
      refine XS.lloadN X0.here hx rfl (hb hby d3_6) rfl ?_
      show Steps p.tables e below (s₁.setTop (mkF m 7 #[.val (.long q0), .second, .val (.long q1), .second, .unset, .unset] [(.long q0)])) _
      refine XS.lloadN X0.here hx rfl (hb hby d3_7) rfl ?_
      show Steps p.tables e below (s₁.setTop (mkF m 8 #[.val (.long q0), .second, .val (.long q1), .second, .unset, .unset] [(.long q1), (.long q0)])) _
      refine XS.lsub X0.here hx rfl (hb hby d3_8) rfl ?_
      show Steps p.tables e below (s₁.setTop (mkF m 9 #[.val (.long q0), .second, .val (.long q1), .second, .unset, .unset] [(.long (q0 - q1))])) _
      refine XS.lstore X0.here hx rfl (hb hby d3_9) rfl (l' := #[.val (.long q0), .second, .val (.long q1), .second, .val (.long (q0 - q1)), .second]) rfl ?_
      show Steps p.tables e below (s₁.setTop (mkF m 11 #[.val (.long q0), .second, .val (.long q1), .second, .val (.long (q0 - q1)), .second] [])) _
      refine XS.goto X0.here hx rfl (pc0 := 11) (pc' := 23) rfl (hb hby d3_11) (by decide) (by decide) ?_
      show Steps p.tables e below (s₁.setTop (mkF m 23 #[.val (.long q0), .second, .val (.long q1), .second, .val (.long (q0 - q1)), .second] [])) _
      refine XS.lload X0.here hx rfl (hb hby d3_23) rfl ?_
      exact kk
    obtain ⟨fs, hr, hrun, hended, hW, hsame⟩ := X0.leave (v := some (.long (q0 - q1))) (fun h => by rw [Bd.returns] at h; cases h)
    refine ⟨_, _, pre29 _ ?_, hrun, hended, _, _, rfl, ?_, ⟨_, rfl⟩, hW, hsame.mono (by decide) (by decide)⟩
    · show Steps p.tables e below (s₁.setTop (mkF m 25 #[.val (.long q0), .second, .val (.long q1), .second, .val (.long (q0 - q1)), .second] [(.long (q0 - q1))])) _
      exact retOut X0 hx Bd.returns rfl (Or.inr (Or.inl ⟨rfl, rfl, _, rfl⟩)) (hb hby d3_25) hr
    · show Q3 Z q0 q1 h0 n0 _ s₁.heap _
      rw [e0]
      exact ⟨congrArg (fun z => some (Value.long z)) hF28.symm, N0, rfl⟩
theorem own_core (P S : Int64) (h1 : 1 ≤ P.toInt) (h2 : P.toInt ≤ 2147483648) (h3 : -2147483648 ≤ S.toInt) (h4 : S.toInt < 2147483648) : F3 P S = (F1 P S) + (F2 S) ∧ ¬ F3 P S < P ∧ ¬ F3 P S < (1 : Int64) := by
  have z0 : (0 : Int64).toInt = 0 := by decide
  have z1 : (1 : Int64).toInt = 1 := by decide
  have e1 : (S + (1 : Int64)).toInt = S.toInt + 1 := by
    have a := c_ladd S (1 : Int64)
    have r := rng64 (S + (1 : Int64))
    omega
  have e2 : (P - S).toInt = P.toInt - S.toInt := by
    have a := c_lsub P S
    have r := rng64 (P - S)
    omega
  have e3 : ((0 : Int64) - S).toInt = - S.toInt := by
    have a := c_lsub (0 : Int64) S
    have r := rng64 ((0 : Int64) - S)
    omega
  have e4 : (P + ((0 : Int64) - S)).toInt = P.toInt - S.toInt := by
    have a := c_ladd P ((0 : Int64) - S)
    have r := rng64 (P + ((0 : Int64) - S))
    omega
  have e5 : ((1 : Int64) + S).toInt = 1 + S.toInt := by
    have a := c_ladd (1 : Int64) S
    have r := rng64 ((1 : Int64) + S)
    omega
  have e6 : ((P - S) + S).toInt = P.toInt := by
    have a := c_ladd (P - S) S
    have r := rng64 ((P - S) + S)
    omega
  have e7 : ((P + ((0 : Int64) - S)) + (0 : Int64)).toInt = P.toInt - S.toInt := by
    have a := c_ladd (P + ((0 : Int64) - S)) (0 : Int64)
    have r := rng64 ((P + ((0 : Int64) - S)) + (0 : Int64))
    omega
  unfold F3 F1 F2 F4
  by_cases a : (0 : Int64) < S
  · have a' := a
    rw [Int64.lt_iff_toInt_lt, z0] at a'
    rw [if_pos a, if_pos a, if_pos a]
    by_cases b : P < (S + (1 : Int64))
    · have b' := b
      rw [Int64.lt_iff_toInt_lt, e1] at b'
      have c : (P - S) < (1 : Int64) := by rw [Int64.lt_iff_toInt_lt, e2, z1]; omega
      rw [if_pos b, if_pos c]
      refine ⟨Int64.toInt_inj.mp (by omega), ?_, ?_⟩
      · rw [Int64.lt_iff_toInt_lt]; omega
      · rw [Int64.lt_iff_toInt_lt]; omega
    · have b' := b
      rw [Int64.lt_iff_toInt_lt, e1] at b'
      rw [if_neg b]
      by_cases c : (P - S) < (1 : Int64)
      · have c' := c
        rw [Int64.lt_iff_toInt_lt, e2, z1] at c'
        exfalso
        omega
      · rw [if_neg c]
        refine ⟨Int64.toInt_inj.mp (by omega), ?_, ?_⟩
        · rw [Int64.lt_iff_toInt_lt]; omega
        · rw [Int64.lt_iff_toInt_lt]; omega
  · have a' := a
    rw [Int64.lt_iff_toInt_lt, z0] at a'
    rw [if_neg a, if_neg a, if_neg a]
    refine ⟨Int64.toInt_inj.mp (by omega), ?_, ?_⟩
    · rw [Int64.lt_iff_toInt_lt]; omega
    · rw [Int64.lt_iff_toInt_lt]; omega
theorem own_all (p0 p1 : Int32) : F3 (((p0 &&& (2147483647 : Int32)).toInt64) + (1 : Int64)) (p1.toInt64) = (F1 (((p0 &&& (2147483647 : Int32)).toInt64) + (1 : Int64)) (p1.toInt64)) + (F2 (p1.toInt64)) ∧ ¬ F3 (((p0 &&& (2147483647 : Int32)).toInt64) + (1 : Int64)) (p1.toInt64) < (((p0 &&& (2147483647 : Int32)).toInt64) + (1 : Int64)) ∧ ¬ F3 (((p0 &&& (2147483647 : Int32)).toInt64) + (1 : Int64)) (p1.toInt64) < (1 : Int64) := by
  have m := c_and p0 (2147483647 : Int32) (by decide)
  rw [show (2147483647 : Int32).toInt = 2147483647 by decide] at m
  have a := c_ladd ((p0 &&& (2147483647 : Int32)).toInt64) (1 : Int64)
  have r := rng64 (((p0 &&& (2147483647 : Int32)).toInt64) + (1 : Int64))
  rw [c_i2l, show (1 : Int64).toInt = 1 by decide] at a
  have s := rng32 p1
  apply own_core
  · omega
  · omega
  · rw [c_i2l]; omega
  · rw [c_i2l]; omega
theorem pd__28J_29J : parseMethodDescriptor "(J)J" = some ⟨[.long], some .long⟩ := by decide +kernel
theorem ef_0_II (m : MethodId) (x0 : Int32) (x1 : Int32) : entryFrame m #[(.int x0), (.int x1)] maxLocals = mkF m 0 #[.val (.int x0), .val (.int x1), .unset, .unset, .unset, .unset, .unset, .unset, .unset, .unset] [] := by first | (simp [entryFrame, mkF, argsToLocals, Value.category, maxLocals]; done) | rfl
def Q0 (Z : State) (p0 : Int32) (p1 : Int32) (h0 : Heap) (n0 : Nat) (v : Option Value) (h : Heap) (L : List Loc) : Prop := v = some (.int 1) ∧ Fr n0 L
set_option maxRecDepth 65536 in
set_option maxHeartbeats 40000000 in
theorem rm0 (l : Launch) (Z : State) (a0 : Array Value) (hw : ∀ d ∈ tables_1, d.before a0 Z = true) (ws : List Jvm.Cond) (p0 : Int32) (p1 : Int32) (h0 : Heap) (n0 : Nat) (Z0 : n0 ≤ h0.size) :
    MetFree l x (head1 (Jvm.Cond.code x code maxLocals ret :: ws) room_1) (fun a U => a = #[(.int p0), (.int p1)] ∧ Z.Warmed39 U.vm ∧ U.heap = h0) (fun _ _ _ _ _ => True) (fun _ U o U' => ∃ v L, o = .returned v ∧ Q0 Z p0 p1 h0 n0 v U'.heap L ∧ FrameEnd U o U' L room_1.cells room_1.slots) := by
  refine MetFree.of_bodySF (plainFor_of_name pn_com_example_overcap_overcap_DecimalsDigitsPinLaw) hisR ?_
  intro p e s m args below meth c s₁ Bd hml0 hP hK
  obtain ⟨rfl, hZ, hh⟩ := hP
  have hx := Bd.exec
  have hby := Bd.bytes
  have hml : c.maxLocals = 10 := hml0
  have hown : s.vm.findClass "com/example/overcap/overcap/DecimalsDigitsPinLaw" = some m.cls := findClass_of_methodNamed Bd.named
  have hnm := (name_of_methodNamed Bd.named Bd.method).1
  have X0 : Stand p l e room_1 s m #[(.int p0), (.int p1)] below meth c s₁ [] 0 0 := Stand.of_body Bd
  have e0 : s₁.heap = h0 := by rw [← hh, Bd.state]; rfl
  have N0 := Fr.nil n0
  have KP0 : Keep h0 h0 [] := Keep.refl h0 _
  have pre0 : ∀ t, Steps p.tables e below (s₁.setTop (mkF m 0 #[.val (.int p0), .val (.int p1), .unset, .unset, .unset, .unset, .unset, .unset, .unset, .unset] [])) t → Steps p.tables e below (s₁.setTop (entryFrame m #[(.int p0), (.int p1)] maxLocals)) t := fun t k => castTop (ef_0_II m p0 p1) k
  obtain ⟨_, _, ⟨T30, L30, k30, n30⟩, -, X30, ⟨Lc30, hQ30, l30, y30, z30⟩, st30⟩ := Jvm.LawKit.callS X0 hx (y := (⟨"com/example/overcap/overcap/DecimalsDigitsPinLaw", "beforePoint", "(JJ)J"⟩ : MethodName)) hown (mvT hZ (hw _ (List.mem_of_getElem? (i := 1) rfl))) (mvT hZ (hw _ (List.mem_of_getElem? (i := 2) rfl))) (mvT hZ (hw _ (List.mem_of_getElem? (i := 3) rfl))) (mvT hZ (hw _ (List.mem_of_getElem? (i := 4) rfl))) (by decide) (backOf (W := 0) (rm1 l Z a0 hw [] (((p0 &&& (2147483647 : Int32)).toInt64) + (1 : Int64)) (p1.toInt64)  h0 n0 Z0 ) hZ (hw _ (List.mem_of_getElem? (i := 4) rfl)) (hw _ (List.mem_of_getElem? (i := 3) rfl)) (by decide) (by decide)) (g := (mkF m 15 #[.val (.int p0), .val (.int p1), .val (.long (((p0 &&& (2147483647 : Int32)).toInt64) + (1 : Int64))), .second, .val (.long (p1.toInt64)), .second, .unset, .unset, .unset, .unset] [(.long (p1.toInt64)), (.long (((p0 &&& (2147483647 : Int32)).toInt64) + (1 : Int64)))])) rfl (by rw [hml]; rfl) (argsL := [(.long (((p0 &&& (2147483647 : Int32)).toInt64) + (1 : Int64))), (.long (p1.toInt64))]) (rest := []) (lenOf pd__28JJ_29J rfl) rfl (by show 2 * 0 + _ ≤ _; exact Nat.le_of_eq rfl) (hb hby at_15) (fun _ _ => ⟨rfl, e0, (by decide : 0 + 0 ≤ _), (by decide : 0 + 0 ≤ _)⟩)
  dsimp only [Pt.U, Pt.locs, Pt.cells, Pt.slots] at X30 l30 y30 z30 st30 hQ30
  subst l30 y30 z30
  obtain ⟨rfl, N30q, e30⟩ := hQ30
  have N30 := Fr.app N0 N30q
  obtain ⟨_, _, ⟨T31, L31, k31, n31⟩, -, X31, ⟨Lc31, hQ31, l31, y31, z31⟩, st31⟩ := Jvm.LawKit.callS X30 hx (y := (⟨"com/example/overcap/overcap/DecimalsDigitsPinLaw", "afterPoint", "(J)J"⟩ : MethodName)) hown (mvT hZ (hw _ (List.mem_of_getElem? (i := 5) rfl))) (mvT hZ (hw _ (List.mem_of_getElem? (i := 6) rfl))) (mvT hZ (hw _ (List.mem_of_getElem? (i := 3) rfl))) (mvT hZ (hw _ (List.mem_of_getElem? (i := 7) rfl))) (by decide) (backOf (W := 2) (rm2 l Z a0 hw [] (p1.toInt64)  h0 n0 Z0 ) hZ (hw _ (List.mem_of_getElem? (i := 7) rfl)) (hw _ (List.mem_of_getElem? (i := 3) rfl)) (by decide) (by decide)) (g := (mkF m 20 #[.val (.int p0), .val (.int p1), .val (.long (((p0 &&& (2147483647 : Int32)).toInt64) + (1 : Int64))), .second, .val (.long (p1.toInt64)), .second, .unset, .unset, .unset, .unset] [(.long (p1.toInt64)), (.long (F1 (((p0 &&& (2147483647 : Int32)).toInt64) + (1 : Int64)) (p1.toInt64)))])) rfl (by rw [hml]; rfl) (argsL := [(.long (p1.toInt64))]) (rest := [(.long (F1 (((p0 &&& (2147483647 : Int32)).toInt64) + (1 : Int64)) (p1.toInt64)))]) (lenOf pd__28J_29J rfl) rfl (by show 2 * 0 + _ ≤ _; exact Nat.le_of_eq rfl) (hb hby at_20) (fun _ _ => ⟨rfl, e30, (by decide : 0 + 0 ≤ _), (by decide : 0 + 0 ≤ _)⟩)
  dsimp only [Pt.U, Pt.locs, Pt.cells, Pt.slots] at X31 l31 y31 z31 st31 hQ31
  subst l31 y31 z31
  obtain ⟨rfl, N31q, e31⟩ := hQ31
  have N31 := Fr.app N30 N31q
  obtain ⟨_, _, ⟨T32, L32, k32, n32⟩, -, X32, ⟨Lc32, hQ32, l32, y32, z32⟩, st32⟩ := Jvm.LawKit.callS X31 hx (y := (⟨"com/example/overcap/overcap/Decimals", "digits", "(JJ)J"⟩ : MethodName)) hown (mvT hZ (hw _ (List.mem_of_getElem? (i := 8) rfl))) (mvT hZ (hw _ (List.mem_of_getElem? (i := 9) rfl))) (mvT hZ (hw _ (List.mem_of_getElem? (i := 10) rfl))) (mvT hZ (hw _ (List.mem_of_getElem? (i := 11) rfl))) (by decide) (backOf (W := 0) (rm3 l Z a0 hw [] (((p0 &&& (2147483647 : Int32)).toInt64) + (1 : Int64)) (p1.toInt64)  h0 n0 Z0 ) hZ (hw _ (List.mem_of_getElem? (i := 11) rfl)) (hw _ (List.mem_of_getElem? (i := 10) rfl)) (by decide) (by decide)) (g := (mkF m 29 #[.val (.int p0), .val (.int p1), .val (.long (((p0 &&& (2147483647 : Int32)).toInt64) + (1 : Int64))), .second, .val (.long (p1.toInt64)), .second, .val (.long ((F1 (((p0 &&& (2147483647 : Int32)).toInt64) + (1 : Int64)) (p1.toInt64)) + (F2 (p1.toInt64)))), .second, .unset, .unset] [(.long (p1.toInt64)), (.long (((p0 &&& (2147483647 : Int32)).toInt64) + (1 : Int64)))])) rfl (by rw [hml]; rfl) (argsL := [(.long (((p0 &&& (2147483647 : Int32)).toInt64) + (1 : Int64))), (.long (p1.toInt64))]) (rest := []) (lenOf pd__28JJ_29J rfl) rfl (by show 2 * 0 + _ ≤ _; exact Nat.le_of_eq rfl) (hb hby at_29) (fun _ _ => ⟨rfl, e31, (by decide : 0 + 0 ≤ _), (by decide : 0 + 0 ≤ _)⟩)
  dsimp only [Pt.U, Pt.locs, Pt.cells, Pt.slots] at X32 l32 y32 z32 st32 hQ32
  subst l32 y32 z32
  obtain ⟨rfl, N32q, e32⟩ := hQ32
  have N32 := Fr.app N31 N32q
  have pre33 : ∀ t, Steps p.tables e below (T32.setTop (mkF m 61 #[.val (.int p0), .val (.int p1), .val (.long (((p0 &&& (2147483647 : Int32)).toInt64) + (1 : Int64))), .second, .val (.long (p1.toInt64)), .second, .val (.long ((F1 (((p0 &&& (2147483647 : Int32)).toInt64) + (1 : Int64)) (p1.toInt64)) + (F2 (p1.toInt64)))), .second, .val (.long (F3 (((p0 &&& (2147483647 : Int32)).toInt64) + (1 : Int64)) (p1.toInt64))), .second] [(.int (1 : Int32))])) t → Steps p.tables e below (s₁.setTop (entryFrame m #[(.int p0), (.int p1)] maxLocals)) t := by
    intro t kk
    refine pre0 t ?_
    show Steps p.tables e below (s₁.setTop (mkF m 0 #[.val (.int p0), .val (.int p1), .unset, .unset, .unset, .unset, .unset, .unset, .unset, .unset] [])) _
    refine XS.iloadN X0.here hx rfl (hb hby at_0) rfl ?_
    show Steps p.tables e below (s₁.setTop (mkF m 1 #[.val (.int p0), .val (.int p1), .unset, .unset, .unset, .unset, .unset, .unset, .unset, .unset] [(.int p0)])) _
    refine X0.ldcInt hx hown (mvT hZ (hw _ (List.mem_of_getElem? (i := 0) rfl))) (g := (mkF m 1 #[.val (.int p0), .val (.int p1), .unset, .unset, .unset, .unset, .unset, .unset, .unset, .unset] [(.int p0)])) rfl (hb hby at_1) _ ?_
    show Steps p.tables e below (s₁.setTop (mkF m 3 #[.val (.int p0), .val (.int p1), .unset, .unset, .unset, .unset, .unset, .unset, .unset, .unset] [(.int (2147483647 : Int32)), (.int p0)])) _
    refine XS.iand X0.here hx rfl (hb hby at_3) rfl ?_
    show Steps p.tables e below (s₁.setTop (mkF m 4 #[.val (.int p0), .val (.int p1), .unset, .unset, .unset, .unset, .unset, .unset, .unset, .unset] [(.int (p0 &&& (2147483647 : Int32)))])) _
    refine XS.i2l X0.here hx rfl (hb hby at_4) rfl ?_
    show Steps p.tables e below (s₁.setTop (mkF m 5 #[.val (.int p0), .val (.int p1), .unset, .unset, .unset, .unset, .unset, .unset, .unset, .unset] [(.long ((p0 &&& (2147483647 : Int32)).toInt64))])) _
    refine XS.lconst X0.here hx rfl (hb hby at_5) ?_
    show Steps p.tables e below (s₁.setTop (mkF m 6 #[.val (.int p0), .val (.int p1), .unset, .unset, .unset, .unset, .unset, .unset, .unset, .unset] [(.long (1 : Int64)), (.long ((p0 &&& (2147483647 : Int32)).toInt64))])) _
    refine XS.ladd X0.here hx rfl (hb hby at_6) rfl ?_
    show Steps p.tables e below (s₁.setTop (mkF m 7 #[.val (.int p0), .val (.int p1), .unset, .unset, .unset, .unset, .unset, .unset, .unset, .unset] [(.long (((p0 &&& (2147483647 : Int32)).toInt64) + (1 : Int64)))])) _
    refine XS.lstoreN X0.here hx rfl (hb hby at_7) rfl (l' := #[.val (.int p0), .val (.int p1), .val (.long (((p0 &&& (2147483647 : Int32)).toInt64) + (1 : Int64))), .second, .unset, .unset, .unset, .unset, .unset, .unset]) rfl ?_
    show Steps p.tables e below (s₁.setTop (mkF m 8 #[.val (.int p0), .val (.int p1), .val (.long (((p0 &&& (2147483647 : Int32)).toInt64) + (1 : Int64))), .second, .unset, .unset, .unset, .unset, .unset, .unset] [])) _
    refine XS.iloadN X0.here hx rfl (hb hby at_8) rfl ?_
    show Steps p.tables e below (s₁.setTop (mkF m 9 #[.val (.int p0), .val (.int p1), .val (.long (((p0 &&& (2147483647 : Int32)).toInt64) + (1 : Int64))), .second, .unset, .unset, .unset, .unset, .unset, .unset] [(.int p1)])) _
    refine XS.i2l X0.here hx rfl (hb hby at_9) rfl ?_
    show Steps p.tables e below (s₁.setTop (mkF m 10 #[.val (.int p0), .val (.int p1), .val (.long (((p0 &&& (2147483647 : Int32)).toInt64) + (1 : Int64))), .second, .unset, .unset, .unset, .unset, .unset, .unset] [(.long (p1.toInt64))])) _
    refine XS.lstore X0.here hx rfl (hb hby at_10) rfl (l' := #[.val (.int p0), .val (.int p1), .val (.long (((p0 &&& (2147483647 : Int32)).toInt64) + (1 : Int64))), .second, .val (.long (p1.toInt64)), .second, .unset, .unset, .unset, .unset]) rfl ?_
    show Steps p.tables e below (s₁.setTop (mkF m 12 #[.val (.int p0), .val (.int p1), .val (.long (((p0 &&& (2147483647 : Int32)).toInt64) + (1 : Int64))), .second, .val (.long (p1.toInt64)), .second, .unset, .unset, .unset, .unset] [])) _
    refine XS.lloadN X0.here hx rfl (hb hby at_12) rfl ?_
    show Steps p.tables e below (s₁.setTop (mkF m 13 #[.val (.int p0), .val (.int p1), .val (.long (((p0 &&& (2147483647 : Int32)).toInt64) + (1 : Int64))), .second, .val (.long (p1.toInt64)), .second, .unset, .unset, .unset, .unset] [(.long (((p0 &&& (2147483647 : Int32)).toInt64) + (1 : Int64)))])) _
    refine XS.lload X0.here hx rfl (hb hby at_13) rfl ?_
    show Steps p.tables e below (s₁.setTop (mkF m 15 #[.val (.int p0), .val (.int p1), .val (.long (((p0 &&& (2147483647 : Int32)).toInt64) + (1 : Int64))), .second, .val (.long (p1.toInt64)), .second, .unset, .unset, .unset, .unset] [(.long (p1.toInt64)), (.long (((p0 &&& (2147483647 : Int32)).toInt64) + (1 : Int64)))])) _
    refine st30 _ ?_
    show Steps p.tables e below (T30.setTop (mkF m 18 #[.val (.int p0), .val (.int p1), .val (.long (((p0 &&& (2147483647 : Int32)).toInt64) + (1 : Int64))), .second, .val (.long (p1.toInt64)), .second, .unset, .unset, .unset, .unset] [(.long (F1 (((p0 &&& (2147483647 : Int32)).toInt64) + (1 : Int64)) (p1.toInt64)))])) _
    refine XS.lload X30.here hx rfl (hb hby at_18) rfl ?_
    show Steps p.tables e below (T30.setTop (mkF m 20 #[.val (.int p0), .val (.int p1), .val (.long (((p0 &&& (2147483647 : Int32)).toInt64) + (1 : Int64))), .second, .val (.long (p1.toInt64)), .second, .unset, .unset, .unset, .unset] [(.long (p1.toInt64)), (.long (F1 (((p0 &&& (2147483647 : Int32)).toInt64) + (1 : Int64)) (p1.toInt64)))])) _
    refine st31 _ ?_
    show Steps p.tables e below (T31.setTop (mkF m 23 #[.val (.int p0), .val (.int p1), .val (.long (((p0 &&& (2147483647 : Int32)).toInt64) + (1 : Int64))), .second, .val (.long (p1.toInt64)), .second, .unset, .unset, .unset, .unset] [(.long (F2 (p1.toInt64))), (.long (F1 (((p0 &&& (2147483647 : Int32)).toInt64) + (1 : Int64)) (p1.toInt64)))])) _
    refine XS.ladd X31.here hx rfl (hb hby at_23) rfl ?_
    show Steps p.tables e below (T31.setTop (mkF m 24 #[.val (.int p0), .val (.int p1), .val (.long (((p0 &&& (2147483647 : Int32)).toInt64) + (1 : Int64))), .second, .val (.long (p1.toInt64)), .second, .unset, .unset, .unset, .unset] [(.long ((F1 (((p0 &&& (2147483647 : Int32)).toInt64) + (1 : Int64)) (p1.toInt64)) + (F2 (p1.toInt64))))])) _
    refine XS.lstore X31.here hx rfl (hb hby at_24) rfl (l' := #[.val (.int p0), .val (.int p1), .val (.long (((p0 &&& (2147483647 : Int32)).toInt64) + (1 : Int64))), .second, .val (.long (p1.toInt64)), .second, .val (.long ((F1 (((p0 &&& (2147483647 : Int32)).toInt64) + (1 : Int64)) (p1.toInt64)) + (F2 (p1.toInt64)))), .second, .unset, .unset]) rfl ?_
    show Steps p.tables e below (T31.setTop (mkF m 26 #[.val (.int p0), .val (.int p1), .val (.long (((p0 &&& (2147483647 : Int32)).toInt64) + (1 : Int64))), .second, .val (.long (p1.toInt64)), .second, .val (.long ((F1 (((p0 &&& (2147483647 : Int32)).toInt64) + (1 : Int64)) (p1.toInt64)) + (F2 (p1.toInt64)))), .second, .unset, .unset] [])) _
    refine XS.lloadN X31.here hx rfl (hb hby at_26) rfl ?_
    show Steps p.tables e below (T31.setTop (mkF m 27 #[.val (.int p0), .val (.int p1), .val (.long (((p0 &&& (2147483647 : Int32)).toInt64) + (1 : Int64))), .second, .val (.long (p1.toInt64)), .second, .val (.long ((F1 (((p0 &&& (2147483647 : Int32)).toInt64) + (1 : Int64)) (p1.toInt64)) + (F2 (p1.toInt64)))), .second, .unset, .unset] [(.long (((p0 &&& (2147483647 : Int32)).toInt64) + (1 : Int64)))])) _
    refine XS.lload X31.here hx rfl (hb hby at_27) rfl ?_
    show Steps p.tables e below (T31.setTop (mkF m 29 #[.val (.int p0), .val (.int p1), .val (.long (((p0 &&& (2147483647 : Int32)).toInt64) + (1 : Int64))), .second, .val (.long (p1.toInt64)), .second, .val (.long ((F1 (((p0 &&& (2147483647 : Int32)).toInt64) + (1 : Int64)) (p1.toInt64)) + (F2 (p1.toInt64)))), .second, .unset, .unset] [(.long (p1.toInt64)), (.long (((p0 &&& (2147483647 : Int32)).toInt64) + (1 : Int64)))])) _
    refine st32 _ ?_
    show Steps p.tables e below (T32.setTop (mkF m 32 #[.val (.int p0), .val (.int p1), .val (.long (((p0 &&& (2147483647 : Int32)).toInt64) + (1 : Int64))), .second, .val (.long (p1.toInt64)), .second, .val (.long ((F1 (((p0 &&& (2147483647 : Int32)).toInt64) + (1 : Int64)) (p1.toInt64)) + (F2 (p1.toInt64)))), .second, .unset, .unset] [(.long (F3 (((p0 &&& (2147483647 : Int32)).toInt64) + (1 : Int64)) (p1.toInt64)))])) _
    refine XS.lstore X32.here hx rfl (hb hby at_32) rfl (l' := #[.val (.int p0), .val (.int p1), .val (.long (((p0 &&& (2147483647 : Int32)).toInt64) + (1 : Int64))), .second, .val (.long (p1.toInt64)), .second, .val (.long ((F1 (((p0 &&& (2147483647 : Int32)).toInt64) + (1 : Int64)) (p1.toInt64)) + (F2 (p1.toInt64)))), .second, .val (.long (F3 (((p0 &&& (2147483647 : Int32)).toInt64) + (1 : Int64)) (p1.toInt64))), .second]) rfl ?_
    show Steps p.tables e below (T32.setTop (mkF m 34 #[.val (.int p0), .val (.int p1), .val (.long (((p0 &&& (2147483647 : Int32)).toInt64) + (1 : Int64))), .second, .val (.long (p1.toInt64)), .second, .val (.long ((F1 (((p0 &&& (2147483647 : Int32)).toInt64) + (1 : Int64)) (p1.toInt64)) + (F2 (p1.toInt64)))), .second, .val (.long (F3 (((p0 &&& (2147483647 : Int32)).toInt64) + (1 : Int64)) (p1.toInt64))), .second] [])) _
    refine XS.lload X32.here hx rfl (hb hby at_34) rfl ?_
    show Steps p.tables e below (T32.setTop (mkF m 36 #[.val (.int p0), .val (.int p1), .val (.long (((p0 &&& (2147483647 : Int32)).toInt64) + (1 : Int64))), .second, .val (.long (p1.toInt64)), .second, .val (.long ((F1 (((p0 &&& (2147483647 : Int32)).toInt64) + (1 : Int64)) (p1.toInt64)) + (F2 (p1.toInt64)))), .second, .val (.long (F3 (((p0 &&& (2147483647 : Int32)).toInt64) + (1 : Int64)) (p1.toInt64))), .second] [(.long (F3 (((p0 &&& (2147483647 : Int32)).toInt64) + (1 : Int64)) (p1.toInt64)))])) _
    refine XS.lload X32.here hx rfl (hb hby at_36) rfl ?_
    show Steps p.tables e below (T32.setTop (mkF m 38 #[.val (.int p0), .val (.int p1), .val (.long (((p0 &&& (2147483647 : Int32)).toInt64) + (1 : Int64))), .second, .val (.long (p1.toInt64)), .second, .val (.long ((F1 (((p0 &&& (2147483647 : Int32)).toInt64) + (1 : Int64)) (p1.toInt64)) + (F2 (p1.toInt64)))), .second, .val (.long (F3 (((p0 &&& (2147483647 : Int32)).toInt64) + (1 : Int64)) (p1.toInt64))), .second] [(.long ((F1 (((p0 &&& (2147483647 : Int32)).toInt64) + (1 : Int64)) (p1.toInt64)) + (F2 (p1.toInt64)))), (.long (F3 (((p0 &&& (2147483647 : Int32)).toInt64) + (1 : Int64)) (p1.toInt64)))])) _
    refine XS.lcmp X32.here hx rfl (hb hby at_38) rfl ?_
    show Steps p.tables e below (T32.setTop (mkF m 39 #[.val (.int p0), .val (.int p1), .val (.long (((p0 &&& (2147483647 : Int32)).toInt64) + (1 : Int64))), .second, .val (.long (p1.toInt64)), .second, .val (.long ((F1 (((p0 &&& (2147483647 : Int32)).toInt64) + (1 : Int64)) (p1.toInt64)) + (F2 (p1.toInt64)))), .second, .val (.long (F3 (((p0 &&& (2147483647 : Int32)).toInt64) + (1 : Int64)) (p1.toInt64))), .second] [(.int (lcmpW (F3 (((p0 &&& (2147483647 : Int32)).toInt64) + (1 : Int64)) (p1.toInt64)) ((F1 (((p0 &&& (2147483647 : Int32)).toInt64) + (1 : Int64)) (p1.toInt64)) + (F2 (p1.toInt64)))))])) _
    refine XS.ifNo X32.here hx rfl (hb hby at_39) rfl ((if0 _ _).trans (teq ((lw_eq (F3 (((p0 &&& (2147483647 : Int32)).toInt64) + (1 : Int64)) (p1.toInt64)) ((F1 (((p0 &&& (2147483647 : Int32)).toInt64) + (1 : Int64)) (p1.toInt64)) + (F2 (p1.toInt64)))).mpr (own_all p0 p1).1)).2) ?_
    show Steps p.tables e below (T32.setTop (mkF m 42 #[.val (.int p0), .val (.int p1), .val (.long (((p0 &&& (2147483647 : Int32)).toInt64) + (1 : Int64))), .second, .val (.long (p1.toInt64)), .second, .val (.long ((F1 (((p0 &&& (2147483647 : Int32)).toInt64) + (1 : Int64)) (p1.toInt64)) + (F2 (p1.toInt64)))), .second, .val (.long (F3 (((p0 &&& (2147483647 : Int32)).toInt64) + (1 : Int64)) (p1.toInt64))), .second] [])) _
    refine XS.lload X32.here hx rfl (hb hby at_42) rfl ?_
    show Steps p.tables e below (T32.setTop (mkF m 44 #[.val (.int p0), .val (.int p1), .val (.long (((p0 &&& (2147483647 : Int32)).toInt64) + (1 : Int64))), .second, .val (.long (p1.toInt64)), .second, .val (.long ((F1 (((p0 &&& (2147483647 : Int32)).toInt64) + (1 : Int64)) (p1.toInt64)) + (F2 (p1.toInt64)))), .second, .val (.long (F3 (((p0 &&& (2147483647 : Int32)).toInt64) + (1 : Int64)) (p1.toInt64))), .second] [(.long (F3 (((p0 &&& (2147483647 : Int32)).toInt64) + (1 : Int64)) (p1.toInt64)))])) _
    refine XS.lloadN X32.here hx rfl (hb hby at_44) rfl ?_
    show Steps p.tables e below (T32.setTop (mkF m 45 #[.val (.int p0), .val (.int p1), .val (.long (((p0 &&& (2147483647 : Int32)).toInt64) + (1 : Int64))), .second, .val (.long (p1.toInt64)), .second, .val (.long ((F1 (((p0 &&& (2147483647 : Int32)).toInt64) + (1 : Int64)) (p1.toInt64)) + (F2 (p1.toInt64)))), .second, .val (.long (F3 (((p0 &&& (2147483647 : Int32)).toInt64) + (1 : Int64)) (p1.toInt64))), .second] [(.long (((p0 &&& (2147483647 : Int32)).toInt64) + (1 : Int64))), (.long (F3 (((p0 &&& (2147483647 : Int32)).toInt64) + (1 : Int64)) (p1.toInt64)))])) _
    refine XS.lcmp X32.here hx rfl (hb hby at_45) rfl ?_
    show Steps p.tables e below (T32.setTop (mkF m 46 #[.val (.int p0), .val (.int p1), .val (.long (((p0 &&& (2147483647 : Int32)).toInt64) + (1 : Int64))), .second, .val (.long (p1.toInt64)), .second, .val (.long ((F1 (((p0 &&& (2147483647 : Int32)).toInt64) + (1 : Int64)) (p1.toInt64)) + (F2 (p1.toInt64)))), .second, .val (.long (F3 (((p0 &&& (2147483647 : Int32)).toInt64) + (1 : Int64)) (p1.toInt64))), .second] [(.int (lcmpW (F3 (((p0 &&& (2147483647 : Int32)).toInt64) + (1 : Int64)) (p1.toInt64)) (((p0 &&& (2147483647 : Int32)).toInt64) + (1 : Int64))))])) _
    refine XS.ifNo X32.here hx rfl (hb hby at_46) rfl ((if0 _ _).trans (flt (fun q => (own_all p0 p1).2.1 ((lw_lt (F3 (((p0 &&& (2147483647 : Int32)).toInt64) + (1 : Int64)) (p1.toInt64)) (((p0 &&& (2147483647 : Int32)).toInt64) + (1 : Int64))).mp q))).1) ?_
    show Steps p.tables e below (T32.setTop (mkF m 49 #[.val (.int p0), .val (.int p1), .val (.long (((p0 &&& (2147483647 : Int32)).toInt64) + (1 : Int64))), .second, .val (.long (p1.toInt64)), .second, .val (.long ((F1 (((p0 &&& (2147483647 : Int32)).toInt64) + (1 : Int64)) (p1.toInt64)) + (F2 (p1.toInt64)))), .second, .val (.long (F3 (((p0 &&& (2147483647 : Int32)).toInt64) + (1 : Int64)) (p1.toInt64))), .second] [])) _
    refine XS.lload X32.here hx rfl (hb hby at_49) rfl ?_
    show Steps p.tables e below (T32.setTop (mkF m 51 #[.val (.int p0), .val (.int p1), .val (.long (((p0 &&& (2147483647 : Int32)).toInt64) + (1 : Int64))), .second, .val (.long (p1.toInt64)), .second, .val (.long ((F1 (((p0 &&& (2147483647 : Int32)).toInt64) + (1 : Int64)) (p1.toInt64)) + (F2 (p1.toInt64)))), .second, .val (.long (F3 (((p0 &&& (2147483647 : Int32)).toInt64) + (1 : Int64)) (p1.toInt64))), .second] [(.long (F3 (((p0 &&& (2147483647 : Int32)).toInt64) + (1 : Int64)) (p1.toInt64)))])) _
    refine XS.lconst X32.here hx rfl (hb hby at_51) ?_
    show Steps p.tables e below (T32.setTop (mkF m 52 #[.val (.int p0), .val (.int p1), .val (.long (((p0 &&& (2147483647 : Int32)).toInt64) + (1 : Int64))), .second, .val (.long (p1.toInt64)), .second, .val (.long ((F1 (((p0 &&& (2147483647 : Int32)).toInt64) + (1 : Int64)) (p1.toInt64)) + (F2 (p1.toInt64)))), .second, .val (.long (F3 (((p0 &&& (2147483647 : Int32)).toInt64) + (1 : Int64)) (p1.toInt64))), .second] [(.long (1 : Int64)), (.long (F3 (((p0 &&& (2147483647 : Int32)).toInt64) + (1 : Int64)) (p1.toInt64)))])) _
    refine XS.lcmp X32.here hx rfl (hb hby at_52) rfl ?_
    show Steps p.tables e below (T32.setTop (mkF m 53 #[.val (.int p0), .val (.int p1), .val (.long (((p0 &&& (2147483647 : Int32)).toInt64) + (1 : Int64))), .second, .val (.long (p1.toInt64)), .second, .val (.long ((F1 (((p0 &&& (2147483647 : Int32)).toInt64) + (1 : Int64)) (p1.toInt64)) + (F2 (p1.toInt64)))), .second, .val (.long (F3 (((p0 &&& (2147483647 : Int32)).toInt64) + (1 : Int64)) (p1.toInt64))), .second] [(.int (lcmpW (F3 (((p0 &&& (2147483647 : Int32)).toInt64) + (1 : Int64)) (p1.toInt64)) (1 : Int64)))])) _
    refine XS.ifNo X32.here hx rfl (hb hby at_53) rfl ((if0 _ _).trans (flt (fun q => (own_all p0 p1).2.2 ((lw_lt (F3 (((p0 &&& (2147483647 : Int32)).toInt64) + (1 : Int64)) (p1.toInt64)) (1 : Int64)).mp q))).1) ?_
    show Steps p.tables e below (T32.setTop (mkF m 56 #[.val (.int p0), .val (.int p1), .val (.long (((p0 &&& (2147483647 : Int32)).toInt64) + (1 : Int64))), .second, .val (.long (p1.toInt64)), .second, .val (.long ((F1 (((p0 &&& (2147483647 : Int32)).toInt64) + (1 : Int64)) (p1.toInt64)) + (F2 (p1.toInt64)))), .second, .val (.long (F3 (((p0 &&& (2147483647 : Int32)).toInt64) + (1 : Int64)) (p1.toInt64))), .second] [])) _
    refine XS.iconst X32.here hx rfl (hb hby at_56) ?_
    show Steps p.tables e below (T32.setTop (mkF m 57 #[.val (.int p0), .val (.int p1), .val (.long (((p0 &&& (2147483647 : Int32)).toInt64) + (1 : Int64))), .second, .val (.long (p1.toInt64)), .second, .val (.long ((F1 (((p0 &&& (2147483647 : Int32)).toInt64) + (1 : Int64)) (p1.toInt64)) + (F2 (p1.toInt64)))), .second, .val (.long (F3 (((p0 &&& (2147483647 : Int32)).toInt64) + (1 : Int64)) (p1.toInt64))), .second] [(.int (1 : Int32))])) _
    refine XS.goto X32.here hx rfl (pc0 := 57) (pc' := 61) rfl (hb hby at_57) (by decide) (by decide) ?_
    exact kk
  obtain ⟨fs, hr, hrun, hended, hW, hsame⟩ := X32.leave (v := some (.int (1 : Int32))) (fun h => by rw [Bd.returns] at h; cases h)
  refine ⟨_, _, pre33 _ ?_, hrun, hended, _, _, rfl, ?_, ⟨_, rfl⟩, hW, hsame.mono (by decide) (by decide)⟩
  · show Steps p.tables e below (T32.setTop (mkF m 61 #[.val (.int p0), .val (.int p1), .val (.long (((p0 &&& (2147483647 : Int32)).toInt64) + (1 : Int64))), .second, .val (.long (p1.toInt64)), .second, .val (.long ((F1 (((p0 &&& (2147483647 : Int32)).toInt64) + (1 : Int64)) (p1.toInt64)) + (F2 (p1.toInt64)))), .second, .val (.long (F3 (((p0 &&& (2147483647 : Int32)).toInt64) + (1 : Int64)) (p1.toInt64))), .second] [(.int (1 : Int32))])) _
    exact retN X32 hx (t := .boolean) Bd.returns (by simp) (hb hby at_61) hr
  · show Q0 Z p0 p1 h0 n0 _ T32.heap _
    rw [e32]
    exact ⟨rfl, N32⟩
set_option maxRecDepth 65536 in
set_option maxHeartbeats 40000000 in
theorem comes_1 {Post : Tables → Env → Array Value → State → Outcome → State → Prop} (hpost : ∀ tb e args s v u, (limb_1_1.after args s (.returned v) u = true ∧ limb_1_2.after args s (.returned v) u = true ∧ True) → FrameEnd s (.returned v) u (Jvm.fieldLocs frame_1_writes args s ++ Jvm.arrayLocs frame_1_arrays args s ++ Jvm.staticLocs frame_1_statics s) 0 0 → Post tb e args s (.returned v) u) :
    ArmFor flags0 classFile x code maxLocals ret World_1 tables_1 room_1 Calls_1 rest_1 Pre_1 Post := by
  intro l hfl _ _ p e ha hc hk s m args below hf hA hF happ hP
  obtain ⟨hcalls, hrest, hpre⟩ := hP
  obtain ⟨-, -, -, hnamed, -, -, -, hat⟩ := (Spec.applies_iff hf).mp happ
  obtain ⟨hg, hn⟩ := and_e (Cond.before_iff.mp (show (Jvm.Cond.and given_1 narrow_1).before args s = true from hpre))
  obtain ⟨hcount, hg0⟩ := and_e hg
  obtain ⟨ga0, hg1⟩ := and_e hg0
  have ga1 := hg1
  obtain ⟨w0, w1, rfl⟩ : ∃ w0 w1 : Value, args = #[w0, w1] := by
    have hs : args.size = 2 := by simpa [Cond.value, given_1] using hcount
    obtain ⟨L⟩ := args
    match L, hs with
    | [w0, w1], _ => exact ⟨w0, w1, rfl⟩
  have hw := fun d (hd : d ∈ tables_1) => atoms_spec (ws := Jvm.Cond.code x code maxLocals ret :: tables_1) hat d (List.mem_cons_of_mem _ hd)
  have hfit : Fit s := fun {y c} hc i hi => by
    obtain ⟨ha, rfl⟩ := Array.getElem?_eq_some_iff.mp hc
    have q := List.all_eq_true.mp ((Array.all_eq_true_iff_forall_mem.mp hF) _ (Array.getElem_mem ha)) i (List.mem_range.mpr hi)
    simpa [Array.getElem?_eq_getElem hi] using q
  obtain ⟨i0, ei0⟩ := is_v ga0
  obtain rfl : w0 = (.int i0) := Option.some.inj ei0
  obtain ⟨i1, ei1⟩ := is_v ga1
  obtain rfl : w1 = (.int i1) := Option.some.inj ei1
  obtain ⟨n, o, h1, h2, h3, _, L, rfl, ⟨rfl, N⟩, hq⟩ := rm0 l s _ hw tables_1 i0 i1  s.heap s.heap.size (Nat.le_refl _)  p e ha hc hk s m _ below hf ((Spec.applies_iff_loose hf).mp happ).1 ⟨rfl, State.Warmed39.refl s, rfl⟩ trivial
  refine ⟨n, _, h1, h2, h3, hpost _ _ _ _ _ _ ⟨Cond.after_iff.mpr rfl, Cond.after_iff.mpr (eq_i res_at (Term.int_eval (1)) rfl), trivial⟩ ⟨hq.1, hq.2.1, (hq.2.2.sift fun y hy => Or.inr (N y hy)).mono (by decide) (by decide)⟩⟩
theorem main_1_1 : Claimed_1_1 := comes_1 fun _ _ _ _ _ _ h hF => ⟨h.1, hF⟩
theorem main_1_2 : Claimed_1_2 := comes_1 fun _ _ _ _ _ _ h hF => ⟨h.2.1, hF⟩
end Jvm.Pilot.@@N@@
namespace Jvm.Pilot.@@N@@
open Jvm Jvm.ClassFile Sem Op Lib Jvm.Free Jvm.Stand Jvm.Pilot.@@N@@.Jvm.D
/-! MADE BY PROGRAM (witnessworld.py) out of the Statement's table words and the real class files: 10 classes; the members and pool entries that the words name. The judged class is class 1, her method 3. -/
namespace start1
open Jvm.ClassFile
def u (s : String) : CpInfo := .utf8 (stringToUtf16 s)
/-- a pool by its gaps: so many unusable entries, then the entry; so many at the end -/
def gap : Nat → List CpInfo → List CpInfo
  | 0, r => r
  | n + 1, r => .unusable :: gap n r
def poolList (es : List (Nat × CpInfo)) (last : Nat) : List CpInfo := es.foldr (fun e r => gap e.1 (e.2 :: r)) (gap last [])
def pool (es : List (Nat × CpInfo)) (last : Nat) : Array CpInfo := ⟨poolList es last⟩
def fileOf (pool : Array CpInfo) (this : Nat) (attrs : Array Attribute := #[]) (ms : Array MethodInfo := #[]) (fl : Nat := 33) (sup : Nat := 0) (ifs : Array Nat := #[]) (fds : Array FieldInfo := #[]) : ClassFile where
  minorVersion := 0
  majorVersion := 65
  constantPool := pool
  accessFlags := fl
  thisClass := this
  superClass := sup
  interfaces := ifs
  fields := fds
  methods := ms
  attributes := attrs
def plain (name : String) (sup : Option ClassId) : Class where
  name := name
  kind := .ordinary
  loader := none
  accessFlags := 33
  super := sup
  interfaces := #[]
  cf := none
  fields := #[]
  methods := #[]
  instanceTypes := #[]
  staticTypes := #[]
  resolved := #[]
  callSites := []
  init := .initialized
  statics := none
  mirror := none

def pool0 : Array CpInfo := pool [(5, u "<init>"), (0, u "()V"), (1, .class_ 10), (1, u "java/lang/Object")] 113

def k0m0 : Method := { name := "<init>", desc := "()V", sig := { parameters := [], returnType := none }, accessFlags := 1, code := none }
/-- java/lang/Object -/
def k0 : Class := { plain "java/lang/Object" none with
  accessFlags := 33
  interfaces := #[]
  cf := some (fileOf pool0 8 #[] #[{ accessFlags := 1, nameIndex := 5, descriptorIndex := 6, attributes := #[] }] 33 0 #[] #[])
  fields := #[]
  methods := #[k0m0]
  instanceTypes := #[]
  staticTypes := #[]
  resolved := Array.replicate 124 none
  statics := none }

def pool1 : Array CpInfo := pool [(2, .class_ 4), (1, u "java/lang/Object"), (0, u "<init>"), (0, u "()V"), (0, .integer 2147483647), (0, .methodref 9 10), (0, .class_ 11), (0, .nameAndType 12 13), (0, u "com/example/overcap/overcap/DecimalsDigitsPinLaw"), (0, u "beforePoint"), (0, u "(JJ)J"), (0, .methodref 9 15), (0, .nameAndType 16 17), (0, u "afterPoint"), (0, u "(J)J"), (0, .methodref 19 20), (0, .class_ 21), (0, .nameAndType 22 13), (0, u "com/example/overcap/overcap/Decimals"), (0, u "digits"), (3, u "law"), (0, u "(II)Z")] 2

def k1m0 : Method := { name := "<init>", desc := "()V", sig := { parameters := [], returnType := none }, accessFlags := 2, code := none }
def k1c1 : Code := { maxStack := 6, maxLocals := 6, code := method_2_code, exceptionTable := #[], attributes := #[] }
def k1m1 : Method := { name := "beforePoint", desc := "(JJ)J", sig := { parameters := [.long, .long], returnType := some .long }, accessFlags := 10, code := some k1c1 }
def k1c2 : Code := { maxStack := 4, maxLocals := 2, code := method_3_code, exceptionTable := #[], attributes := #[] }
def k1m2 : Method := { name := "afterPoint", desc := "(J)J", sig := { parameters := [.long], returnType := some .long }, accessFlags := 10, code := some k1c2 }
def k1c3 : Code := { maxStack := 4, maxLocals := 10, code := code, exceptionTable := #[], attributes := #[] }
def k1m3 : Method := { name := "law", desc := "(II)Z", sig := { parameters := [.int, .int], returnType := some .boolean }, accessFlags := 9, code := some k1c3 }
/-- com/example/overcap/overcap/DecimalsDigitsPinLaw -/
def k1 : Class := { plain "com/example/overcap/overcap/DecimalsDigitsPinLaw" (some 0) with
  accessFlags := 49
  interfaces := #[]
  cf := some (fileOf pool1 9 #[] #[{ accessFlags := 2, nameIndex := 5, descriptorIndex := 6, attributes := #[] }, { accessFlags := 10, nameIndex := 12, descriptorIndex := 13, attributes := #[] }, { accessFlags := 10, nameIndex := 16, descriptorIndex := 17, attributes := #[] }, { accessFlags := 9, nameIndex := 26, descriptorIndex := 27, attributes := #[] }] 49 2 #[] #[])
  fields := #[]
  methods := #[k1m0, k1m1, k1m2, k1m3]
  instanceTypes := #[]
  staticTypes := #[]
  resolved := Array.replicate 30 none
  statics := none }

def pool2 : Array CpInfo := pool [(2, .class_ 4), (1, u "java/lang/Object"), (0, u "<init>"), (0, u "()V"), (9, .class_ 18), (1, u "com/example/overcap/overcap/Decimals"), (46, .methodref 66 67), (0, .class_ 68), (0, .nameAndType 69 70), (0, u "java/lang/Math"), (0, u "max"), (0, u "(JJ)J"), (34, u "FACTOR_PLACES"), (0, u "I"), (2, u "MAX_DIGITS"), (7, u "digits")] 26

def k2m0 : Method := { name := "<init>", desc := "()V", sig := { parameters := [], returnType := none }, accessFlags := 2, code := none }
def k2c1 : Code := { maxStack := 6, maxLocals := 6, code := prog_3_method_4_code, exceptionTable := #[], attributes := #[] }
def k2m1 : Method := { name := "digits", desc := "(JJ)J", sig := { parameters := [.long, .long], returnType := some .long }, accessFlags := 9, code := some k2c1 }
/-- com/example/overcap/overcap/Decimals -/
def k2 : Class := { plain "com/example/overcap/overcap/Decimals" (some 0) with
  accessFlags := 49
  interfaces := #[]
  cf := some (fileOf pool2 16 #[] #[{ accessFlags := 2, nameIndex := 5, descriptorIndex := 6, attributes := #[] }, { accessFlags := 9, nameIndex := 117, descriptorIndex := 70, attributes := #[] }] 49 2 #[] #[{ accessFlags := 25, nameIndex := 105, descriptorIndex := 106, attributes := #[] }, { accessFlags := 25, nameIndex := 109, descriptorIndex := 106, attributes := #[] }])
  fields := #[{ name := "FACTOR_PLACES", type := .int, accessFlags := 25, slot := 0, constantValue := 0 }, { name := "MAX_DIGITS", type := .int, accessFlags := 25, slot := 1, constantValue := 0 }]
  methods := #[k2m0, k2m1]
  instanceTypes := #[]
  staticTypes := #[.int, .int]
  resolved := Array.replicate 144 none
  statics := none }

def pool3 : Array CpInfo := pool [(1, .class_ 2), (0, u "java/lang/Math"), (1, .class_ 6), (1, u "java/lang/Object"), (0, u "<init>"), (0, u "()V"), (89, .class_ 100), (1, u "java/lang/Math$RandomNumberGeneratorHolder"), (20, u "(JJ)J"), (50, u "negativeZeroFloatBits"), (0, u "J"), (2, u "negativeZeroDoubleBits"), (21, u "max"), (46, u "$assertionsDisabled"), (0, u "Z"), (91, u "twoToTheDoubleScaleDown"), (0, u "D"), (4, u "twoToTheDoubleScaleUp"), (9, u "E"), (3, u "PI"), (2, u "TAU"), (2, u "DEGREES_TO_RADIANS"), (0, u "RADIANS_TO_DEGREES")] 94

def k3m0 : Method := { name := "<init>", desc := "()V", sig := { parameters := [], returnType := none }, accessFlags := 2, code := none }
def k3c1 : Code := { maxStack := 4, maxLocals := 4, code := jdk_29_method_66_code, exceptionTable := #[], attributes := #[] }
def k3m1 : Method := { name := "max", desc := "(JJ)J", sig := { parameters := [.long, .long], returnType := some .long }, accessFlags := 9, code := some k3c1 }
/-- java/lang/Math -/
def k3 : Class := { plain "java/lang/Math" (some 0) with
  accessFlags := 49
  interfaces := #[]
  cf := some (fileOf pool3 1 #[.nestMembers #[98]] #[{ accessFlags := 2, nameIndex := 7, descriptorIndex := 8, attributes := #[] }, { accessFlags := 9, nameIndex := 198, descriptorIndex := 121, attributes := #[] }] 49 4 #[] #[{ accessFlags := 25, nameIndex := 354, descriptorIndex := 339, attributes := #[] }, { accessFlags := 25, nameIndex := 358, descriptorIndex := 339, attributes := #[] }, { accessFlags := 25, nameIndex := 361, descriptorIndex := 339, attributes := #[] }, { accessFlags := 26, nameIndex := 364, descriptorIndex := 339, attributes := #[] }, { accessFlags := 26, nameIndex := 365, descriptorIndex := 339, attributes := #[] }, { accessFlags := 26, nameIndex := 172, descriptorIndex := 173, attributes := #[] }, { accessFlags := 26, nameIndex := 176, descriptorIndex := 173, attributes := #[] }, { accessFlags := 8, nameIndex := 344, descriptorIndex := 339, attributes := #[] }, { accessFlags := 8, nameIndex := 338, descriptorIndex := 339, attributes := #[] }, { accessFlags := 4120, nameIndex := 245, descriptorIndex := 246, attributes := #[] }])
  fields := #[{ name := "E", type := .double, accessFlags := 25, slot := 0, constantValue := 0 }, { name := "PI", type := .double, accessFlags := 25, slot := 1, constantValue := 0 }, { name := "TAU", type := .double, accessFlags := 25, slot := 2, constantValue := 0 }, { name := "DEGREES_TO_RADIANS", type := .double, accessFlags := 26, slot := 3, constantValue := 0 }, { name := "RADIANS_TO_DEGREES", type := .double, accessFlags := 26, slot := 4, constantValue := 0 }, { name := "negativeZeroFloatBits", type := .long, accessFlags := 26, slot := 5, constantValue := 0 }, { name := "negativeZeroDoubleBits", type := .long, accessFlags := 26, slot := 6, constantValue := 0 }, { name := "twoToTheDoubleScaleUp", type := .double, accessFlags := 8, slot := 7, constantValue := 0 }, { name := "twoToTheDoubleScaleDown", type := .double, accessFlags := 8, slot := 8, constantValue := 0 }, { name := "$assertionsDisabled", type := .boolean, accessFlags := 4120, slot := 9, constantValue := 0 }]
  methods := #[k3m0, k3m1]
  instanceTypes := #[]
  staticTypes := #[.double, .double, .double, .double, .double, .long, .long, .double, .double, .boolean]
  resolved := Array.replicate 460 none
  statics := none }

def pool4 : Array CpInfo := pool [(1, u "java/lang/Cloneable"), (0, .class_ 1), (0, u "java/lang/Object"), (0, .class_ 3)] 3

/-- java/lang/Cloneable -/
def k4 : Class := { plain "java/lang/Cloneable" (some 0) with
  accessFlags := 1537
  interfaces := #[]
  cf := some (fileOf pool4 2 #[] #[] 1537 4 #[] #[])
  fields := #[]
  methods := #[]
  instanceTypes := #[]
  staticTypes := #[]
  resolved := Array.replicate 8 none
  statics := none }

def pool5 : Array CpInfo := pool [(1, u "java/io/Serializable"), (0, .class_ 1), (0, u "java/lang/Object"), (0, .class_ 3)] 3

/-- java/io/Serializable -/
def k5 : Class := { plain "java/io/Serializable" (some 0) with
  accessFlags := 1537
  interfaces := #[]
  cf := some (fileOf pool5 2 #[] #[] 1537 4 #[] #[])
  fields := #[]
  methods := #[]
  instanceTypes := #[]
  staticTypes := #[]
  resolved := Array.replicate 8 none
  statics := none }

/-- the primitive byte -/
def k6 : Class := { plain "byte" none with kind := .primitive 'B', accessFlags := 0x411 }
/-- [B -/
def k7 : Class := { plain "[B" (some 0) with kind := .array 6 .byte, interfaces := #[4, 5], accessFlags := 1041 }

/-- the primitive int -/
def k8 : Class := { plain "int" none with kind := .primitive 'I', accessFlags := 0x411 }
/-- [I -/
def k9 : Class := { plain "[I" (some 0) with kind := .array 8 .int, interfaces := #[4, 5], accessFlags := 1041 }

def heap : Heap := #[]
def classes : Array Class := #[k0, k1, k2, k3, k4, k5, k6, k7, k8, k9]
def interned : List (Array UInt16 × Addr) := []
def slotsUsed : Nat := 0
def theMethod : MethodId := ⟨1, 3⟩
def args0 : Array Value := #[.int 5, .int 2]
def aboutOver (below : List Frame) : State where
  vm := { classes := classes, interned := interned.toArray }
  heap := heap
  slotsUsed := slotsUsed
  threads := #[{ frames := .invoking theMethod args0 :: below }]
def below0 : List Frame := [.native { method := ⟨0, 0⟩, args := #[] }]
def about1 : State := aboutOver below0
def p0 : Program := .bare "" "" ""
def e0 : Env := launch0.env 0 0 0
theorem w_frames : about1.frames = Frame.invoking theMethod args0 :: below0 := rfl
set_option maxRecDepth 65536 in
theorem w_args : argsFit about1.vm theMethod args0 = true := by decide +kernel
set_option maxRecDepth 65536 in
theorem w_heap : heapFits about1 = true := by decide +kernel
set_option maxRecDepth 65536 in
theorem w_runnable : about1.curStatus? = some .runnable := by decide +kernel
set_option maxRecDepth 65536 in
theorem w_alone : about1.alone = true := by decide +kernel
set_option maxRecDepth 65536 in
theorem w_named : about1.methodNamed? x = some theMethod := by decide +kernel
set_option maxRecDepth 65536 in
theorem w_hears : about1.hears theMethod below0 = true := by decide +kernel
set_option maxRecDepth 65536 in
theorem w_ripe : about1.ripe theMethod args0 below0 = true := by decide +kernel
theorem w_running : about1.status = .running := rfl
set_option maxRecDepth 65536 in
theorem w_room : about1.hasRoom e0.platform room_1 = true :=
  launch0.hasRoom_least _ room_1 (by decide +kernel) (by decide +kernel) (by decide +kernel) (by decide +kernel) (by decide +kernel) (by decide +kernel)
theorem allAtoms_all (ts : List Jvm.Cond) (a : Array Jvm.Value) (st : Jvm.State) : (allAtoms ts).before a st = ts.all (fun c => c.before a st) := by
  induction ts with
  | nil => rfl
  | cons c t ih =>
    show (Jvm.Cond.and c (allAtoms t)).before a st = _
    rw [Jvm.Cond.before_and, ih, List.all_cons]
def words1 : List Jvm.Cond := Jvm.Cond.code x code maxLocals ret :: tables_1
/-- a 'code' word, met by the world's own term for the bytes: nothing is compared byte by byte -/
theorem code_word {y : MethodName} {bytes : ByteArray} {mx : Nat} {rt : Option FieldType} {a : Array Value} {s : State} {m : MethodId} {meth : Method} {c : Code} (h1 : s.methodNamed? y = some m) (h2 : s.vm.method? m = some meth) (h3 : meth.code = some c) (h4 : c.code = bytes)
    (h5 : (c.maxLocals == mx && c.exceptionTable.isEmpty && decide (c.maxStack ≤ mostOperands) && decide (meth.sig.returnType = rt) && !meth.locks && decide (parseMethodDescriptor y.desc = some meth.sig)) = true) : (Jvm.Cond.code y bytes mx rt).before a s = true := by
  simp only [Bool.and_eq_true, beq_iff_eq, Bool.not_eq_true', decide_eq_true_eq] at h5
  obtain ⟨⟨⟨⟨⟨g1, g2⟩, g3⟩, g4⟩, g5⟩, g6⟩ := h5
  simp [Cond.before, Cond.holds, Cond.value, h1, h2, h3, h4, g1, g2, g3, g4, g5, g6]
def isCode : Jvm.Cond → Bool
  | .code _ _ _ _ => true
  | _ => false
theorem all_split {L : List Jvm.Cond} {P : Jvm.Cond → Bool} (h1 : L.all (fun c => isCode c || P c) = true) (h2 : ∀ c ∈ L.filter isCode, P c = true) : L.all P = true := by
  refine List.all_eq_true.mpr fun c hc => ?_
  have h := List.all_eq_true.mp h1 c hc
  rcases Bool.eq_false_or_eq_true (isCode c) with hi | hi
  · exact h2 c (List.mem_filter.mpr ⟨hc, hi⟩)
  · simpa [hi] using h
set_option maxRecDepth 65536 in
theorem w_c0 : (Jvm.Cond.code x code maxLocals ret).before args0 about1 = true := code_word (m := ⟨1, 3⟩) (meth := k1m3) (c := k1c3) (by decide +kernel) rfl rfl rfl (by decide +kernel)
set_option maxRecDepth 65536 in
theorem w_c1 : (Jvm.Cond.code ({ cls := "com/example/overcap/overcap/DecimalsDigitsPinLaw", name := "beforePoint", desc := "(JJ)J" } : Jvm.MethodName) method_2_code (6 : Nat) (Option.some Jvm.ClassFile.FieldType.long)).before args0 about1 = true := code_word (m := ⟨1, 1⟩) (meth := k1m1) (c := k1c1) (by decide +kernel) rfl rfl rfl (by decide +kernel)
set_option maxRecDepth 65536 in
theorem w_c2 : (Jvm.Cond.code ({ cls := "com/example/overcap/overcap/DecimalsDigitsPinLaw", name := "afterPoint", desc := "(J)J" } : Jvm.MethodName) method_3_code (2 : Nat) (Option.some Jvm.ClassFile.FieldType.long)).before args0 about1 = true := code_word (m := ⟨1, 2⟩) (meth := k1m2) (c := k1c2) (by decide +kernel) rfl rfl rfl (by decide +kernel)
set_option maxRecDepth 65536 in
theorem w_c3 : (Jvm.Cond.code ({ cls := "com/example/overcap/overcap/Decimals", name := "digits", desc := "(JJ)J" } : Jvm.MethodName) prog_3_method_4_code (6 : Nat) (Option.some Jvm.ClassFile.FieldType.long)).before args0 about1 = true := code_word (m := ⟨2, 1⟩) (meth := k2m1) (c := k2c1) (by decide +kernel) rfl rfl rfl (by decide +kernel)
set_option maxRecDepth 65536 in
theorem w_c4 : (Jvm.Cond.code ({ cls := "java/lang/Math", name := "max", desc := "(JJ)J" } : Jvm.MethodName) jdk_29_method_66_code (4 : Nat) (Option.some Jvm.ClassFile.FieldType.long)).before args0 about1 = true := code_word (m := ⟨3, 1⟩) (meth := k3m1) (c := k3c1) (by decide +kernel) rfl rfl rfl (by decide +kernel)
def codes1 : List Jvm.Cond := [Jvm.Cond.code x code maxLocals ret, Jvm.Cond.code ({ cls := "com/example/overcap/overcap/DecimalsDigitsPinLaw", name := "beforePoint", desc := "(JJ)J" } : Jvm.MethodName) method_2_code (6 : Nat) (Option.some Jvm.ClassFile.FieldType.long), Jvm.Cond.code ({ cls := "com/example/overcap/overcap/DecimalsDigitsPinLaw", name := "afterPoint", desc := "(J)J" } : Jvm.MethodName) method_3_code (2 : Nat) (Option.some Jvm.ClassFile.FieldType.long), Jvm.Cond.code ({ cls := "com/example/overcap/overcap/Decimals", name := "digits", desc := "(JJ)J" } : Jvm.MethodName) prog_3_method_4_code (6 : Nat) (Option.some Jvm.ClassFile.FieldType.long), Jvm.Cond.code ({ cls := "java/lang/Math", name := "max", desc := "(JJ)J" } : Jvm.MethodName) jdk_29_method_66_code (4 : Nat) (Option.some Jvm.ClassFile.FieldType.long)]
set_option maxRecDepth 65536 in
theorem codes_eq : words1.filter isCode = codes1 := rfl
theorem w_codes : ∀ c ∈ words1.filter isCode, c.before args0 about1 = true := by
  rw [codes_eq]
  intro c hc
  simp only [codes1, List.mem_cons, List.not_mem_nil, or_false] at hc
  rcases hc with rfl | rfl | rfl | rfl | rfl
  · exact w_c0
  · exact w_c1
  · exact w_c2
  · exact w_c3
  · exact w_c4
set_option maxRecDepth 65536 in
theorem w_t1 : words1.all (fun c => isCode c || c.before args0 about1) = true := by decide +kernel
theorem w_tables : (allAtoms (Jvm.Cond.code x code maxLocals ret :: tables_1)).before args0 about1 = true := by
  rw [allAtoms_all]
  show words1.all (fun c => c.before args0 about1) = true
  refine all_split ?_ w_codes
  rw [w_t1]
set_option maxRecDepth 65536 in
theorem w_case : (Jvm.Cond.and given_1 narrow_1).before args0 about1 = true := by decide +kernel
theorem w_applies : (headSpec (Jvm.Cond.code x code maxLocals ret :: tables_1) room_1).applies x e0.platform about1 = true :=
  (Spec.applies_iff w_frames).mpr ⟨w_running, w_runnable, w_alone, w_named, w_hears, w_ripe, w_room, w_tables⟩
theorem atStart : AtStart classFile x code maxLocals ret World_1 tables_1 room_1 Calls_1 rest_1 Pre_1 launch0 p0 e0 about1 theMethod args0 below0 :=
  ⟨lists_1, trivial, launch0.admits_env _ _ _, launch0.least_env, fairChoices_fair.cas, fairChoices_fair.clock, w_frames, w_args, w_heap, w_applies, trivial, trivial, w_case⟩
end start1
theorem witness_1 : WitnessClaimed_1 := ⟨start1.p0, start1.e0, start1.about1, start1.theMethod, start1.args0, start1.below0, start1.atStart⟩
end Jvm.Pilot.@@N@@
