import JvmDerived
import JvmDerived.Pilot.@@N@@Statement
import JvmDerived.Pilot.@@N@@Code
set_option linter.unusedVariables false
set_option linter.unusedSimpArgs false
namespace Jvm.Pilot.@@N@@
open Jvm Jvm.ClassFile Sem Op Lib Jvm.Free Jvm.Stand Jvm.LawKit Jvm.RoadKit Bundle Jvm.Pilot.@@N@@.Jvm.D

def own_Cache (Z : State) (h : Heap) (a : Addr) : Prop := ∃ cl : Cell, Arr Z h a cl (.object "java/lang/Long") ∧ cl.slots.size = 256 ∧ ∀ j : Int32, ¬ (j < 0 ∨ cl.slots.size ≤ j.toNatClampNeg) → ∃ b : Addr, cl.slots[j.toNatClampNeg]? = some (.ref b) ∧ Exa Z h b "java/lang/Long" ∧ Fld Z h b "java/lang/Long" "value" "J" (.long ((j - 128).toInt64))
theorem own_Cache_ext {Z : State} {h h' : Heap} {a : Addr} (F : own_Cache Z h a) (E : Ext h h') : own_Cache Z h' a := by
  obtain ⟨cl, A, S, H⟩ := F
  refine ⟨cl, A.ext E, S, fun j hj => ?_⟩
  obtain ⟨b, h1, h2, h3⟩ := H j hj
  exact ⟨b, h1, h2.ext E, h3.ext E⟩
theorem own_len {s : State} {args : Array Value} {t : Term} {n : Int32} {a : Addr} {cl : Cell} (h : (Term.length t).eval args s none [] s = some (.int n)) (ht : t.eval args s none [] s = some (.ref a)) (hA : s.arrayAt? a = some cl) : cl.slots.size < 2 ^ 31 ∧ cl.slots.size.toInt32 = n := by
  simp only [Term.eval, ht, hA, Option.bind_eq_bind, Option.bind_some] at h
  split at h
  · rename_i q
    refine ⟨q, ?_⟩
    have h2 : some (Value.int cl.slots.size.toInt32) = some (Value.int n) := h
    cases h2
    rfl
  · cases h
theorem own_sub {args : Array Value} {first s : State} {o : Option Outcome} {idx : List Nat} {a b : Term} {x y : Int32} (ha : a.eval args first o idx s = some (.int x)) (hb : b.eval args first o idx s = some (.int y)) : (Term.sub a b).eval args first o idx s = some (.int (x - y)) := by simp [Term.eval, ha, hb]
theorem own_nsub {Z : State} {a0 : Array Value} {K : String} {n : Nat} (wk : (Jvm.Cond.instantiable K n).before a0 Z = true) (w1 : (Jvm.Cond.superclass "java/lang/Long" "java/lang/Number").before a0 Z = true) (w2 : (Jvm.Cond.superclass "java/lang/Number" "java/lang/Object").before a0 Z = true) (w3 : (Jvm.Cond.noSuperclass "java/lang/Object").before a0 Z = true) (n1 : "java/lang/Long" ≠ K) (n2 : "java/lang/Number" ≠ K) (n3 : "java/lang/Object" ≠ K) :
    ∃ c t, Z.vm.findClass "java/lang/Long" = some c ∧ Z.vm.findClass K = some t ∧ Z.vm.assignable c t = false := by
  obtain ⟨t, kt, t1, t2, t3, t4, -⟩ := Cond.instantiable_spec wk
  obtain ⟨c3, k3, o1, o2, o3, -⟩ := Cond.noSuperclass_spec w3
  have r0 : NS Z "java/lang/Object" K := by
    refine ⟨c3, t, o1, t1, fun fuel => ?_⟩
    have ne := ids_ne o1 t1 n3
    cases fuel with
    | zero => rfl
    | succ f => simp [Vm.isSubclassAux, ne, o2, o3]
  obtain ⟨c, t', h0, g0, n9⟩ := NS.step w1 (NS.step w2 r0 n2) n1
  cases t1.symm.trans g0
  obtain ⟨p, k, kp, h1, h2, h3, h4, h5, -, h7⟩ := Cond.superclass_spec h0 w1
  have ne := ids_ne h0 g0 n1
  have t5 : kt.isInterface = false := (Bool.or_eq_false_iff.mp t4).1
  refine ⟨c, t, h0, g0, ?_⟩
  show Z.vm.assignableAux (255 + 1) c t = false
  simp [Vm.assignableAux, ne, h2, t2, h5, t3, t5, Vm.isSubclass, n9]
theorem own_idx (q0 : Int64) (h1 : ¬ q0 < (-128 : Int64)) (h2 : ¬ (127 : Int64) < q0) : ¬ (((q0.toInt32) + (128 : Int32)) < 0 ∨ 256 ≤ ((q0.toInt32) + (128 : Int32)).toNatClampNeg) := by
  rw [Int64.lt_iff_toInt_lt, show (-128 : Int64).toInt = -128 by decide] at h1
  rw [Int64.lt_iff_toInt_lt, show (127 : Int64).toInt = 127 by decide] at h2
  have a1 := c_l2i q0
  have a2 := c_iadd q0.toInt32 (128 : Int32)
  rw [show (128 : Int32).toInt = 128 by decide] at a2
  have r1 := rng32 q0.toInt32
  have r2 := rng32 (q0.toInt32 + (128 : Int32))
  rw [Int32.lt_iff_toInt_lt, show (0 : Int32).toInt = 0 by decide]
  show ¬ (_ ∨ 256 ≤ (q0.toInt32 + (128 : Int32)).toInt.toNat)
  omega
theorem own_val (q0 : Int64) (h1 : ¬ q0 < (-128 : Int64)) (h2 : ¬ (127 : Int64) < q0) : (((q0.toInt32) + (128 : Int32)) - 128).toInt64 = q0 := by
  rw [Int64.lt_iff_toInt_lt, show (-128 : Int64).toInt = -128 by decide] at h1
  rw [Int64.lt_iff_toInt_lt, show (127 : Int64).toInt = 127 by decide] at h2
  have a1 := c_l2i q0
  have a2 := c_iadd q0.toInt32 (128 : Int32)
  have a3 := c_isub (q0.toInt32 + (128 : Int32)) (128 : Int32)
  rw [show (128 : Int32).toInt = 128 by decide] at a2 a3
  have r1 := rng32 q0.toInt32
  have r2 := rng32 (q0.toInt32 + (128 : Int32))
  have r3 := rng32 (q0.toInt32 + (128 : Int32) - (128 : Int32))
  apply Int64.toInt_inj.mp
  rw [c_i2l]
  omega
theorem d7_0 : decode jdk_18_method_1_code 0 = .ok (.aload_n 0, 1) := by decide +kernel
theorem d7_1 : decode jdk_18_method_1_code 1 = .ok (.invokespecial 1, 3) := by decide +kernel
theorem d7_4 : decode jdk_18_method_1_code 4 = .ok (.return_, 1) := by decide +kernel
theorem pn_java_lang_Number : plainName "java/lang/Number" = true := by first | (simp [plainName, overriddenIn]; done) | decide +kernel
theorem ef_7_R (m : MethodId) (x0 : Addr) : entryFrame m #[(.ref x0)] 1 = mkF m 0 #[.val (.ref x0)] [] := by first | (simp [entryFrame, mkF, argsToLocals, Value.category]; done) | rfl
def Q7 (Z : State) (a0_ : Addr) (h0 : Heap) (n0 : Nat) (v : Option Value) (h : Heap) (L : List Loc) : Prop := v = none ∧ Fr n0 L ∧ h = h0
set_option maxRecDepth 65536 in
set_option maxHeartbeats 40000000 in
theorem rm7 (l : Launch) (Z : State) (a0 : Array Value) (hw : ∀ d ∈ tables_1, d.before a0 Z = true) (ws : List Jvm.Cond) (a0_ : Addr) (h0 : Heap) (n0 : Nat) (Z0 : n0 ≤ h0.size) :
    MetFree l (⟨"java/lang/Number", "<init>", "()V"⟩ : MethodName) (head1 (Jvm.Cond.code (⟨"java/lang/Number", "<init>", "()V"⟩ : MethodName) jdk_18_method_1_code 1 none :: ws) ({ frames := 1, cells := 0, slots := 0, locals := 12 } : Room)) (fun a U => a = #[(.ref a0_)] ∧ Z.Warmed39 U.vm ∧ U.heap = h0) (fun _ _ _ _ _ => True) (fun _ U o U' => ∃ v L, o = .returned v ∧ Q7 Z a0_ h0 n0 v U'.heap L ∧ FrameEnd U o U' L ({ frames := 1, cells := 0, slots := 0, locals := 12 } : Room).cells ({ frames := 1, cells := 0, slots := 0, locals := 12 } : Room).slots) := by
  refine MetFree.of_bodySF (plainFor_of_name pn_java_lang_Number) hisR ?_
  intro p e s m args below meth c s₁ Bd hml0 hP hK
  obtain ⟨rfl, hZ, hh⟩ := hP
  have hx := Bd.exec
  have hby := Bd.bytes
  have hml : c.maxLocals = 1 := hml0
  have hown : s.vm.findClass "java/lang/Number" = some m.cls := findClass_of_methodNamed Bd.named
  have hnm := (name_of_methodNamed Bd.named Bd.method).1
  have X0 : Stand p l e ({ frames := 1, cells := 0, slots := 0, locals := 12 } : Room) s m #[(.ref a0_)] below meth c s₁ [] 0 0 := Stand.of_body Bd
  have e0 : s₁.heap = h0 := by rw [← hh, Bd.state]; rfl
  have N0 := Fr.nil n0
  have KP0 : Keep h0 h0 [] := Keep.refl h0 _
  have pre0 : ∀ t, Steps p.tables e below (s₁.setTop (mkF m 0 #[.val (.ref a0_)] [])) t → Steps p.tables e below (s₁.setTop (entryFrame m #[(.ref a0_)] 1)) t := fun t k => castTop (ef_7_R m a0_) k
  obtain ⟨T1, X1, e1, st1⟩ := initO X0 hx hZ hown (hw _ (List.mem_of_getElem? (i := 44) rfl)) (hw _ (List.mem_of_getElem? (i := 13) rfl)) (hw _ (List.mem_of_getElem? (i := 14) rfl)) e0 (g := (mkF m 1 #[.val (.ref a0_)] [(.ref a0_)])) rfl (by rw [hml]; rfl) rfl (hb hby d7_1) (by decide) (W := 0) (by show 2 * 0 + _ ≤ _; exact Nat.le_of_eq rfl) (by decide)
  have pre2 : ∀ t, Steps p.tables e below (T1.setTop (mkF m 4 #[.val (.ref a0_)] [])) t → Steps p.tables e below (s₁.setTop (entryFrame m #[(.ref a0_)] 1)) t := by
    intro t kk
    refine pre0 t ?_
    show Steps p.tables e below (s₁.setTop (mkF m 0 #[.val (.ref a0_)] [])) _
    refine XS.aloadN X0.here hx rfl (hb hby d7_0) rfl rfl ?_
    show Steps p.tables e below (s₁.setTop (mkF m 1 #[.val (.ref a0_)] [(.ref a0_)])) _
    refine st1 _ ?_
    exact kk
  obtain ⟨fs, hr, hrun, hended, hW, hsame⟩ := X1.leave (v := none) (fun _ => rfl)
  refine ⟨_, _, pre2 _ ?_, hrun, hended, _, _, rfl, ?_, ⟨_, rfl⟩, hW, hsame.mono (by decide) (by decide)⟩
  · show Steps p.tables e below (T1.setTop (mkF m 4 #[.val (.ref a0_)] [])) _
    exact X1.returnOut hx Bd.returns (hb hby d7_4) hr
  · show Q7 Z a0_ h0 n0 _ T1.heap _
    rw [e1]
    exact ⟨rfl, N0, rfl⟩
theorem pd__28_29V : parseMethodDescriptor "()V" = some ⟨[], none⟩ := by decide +kernel
theorem d6_0 : decode jdk_35_method_26_code 0 = .ok (.aload_n 0, 1) := by decide +kernel
theorem d6_1 : decode jdk_35_method_26_code 1 = .ok (.invokespecial 270, 3) := by decide +kernel
theorem d6_4 : decode jdk_35_method_26_code 4 = .ok (.aload_n 0, 1) := by decide +kernel
theorem d6_5 : decode jdk_35_method_26_code 5 = .ok (.lload_n 1, 1) := by decide +kernel
theorem d6_6 : decode jdk_35_method_26_code 6 = .ok (.putfield 273, 3) := by decide +kernel
theorem d6_9 : decode jdk_35_method_26_code 9 = .ok (.return_, 1) := by decide +kernel
theorem pn_java_lang_Long : plainName "java/lang/Long" = true := by first | (simp [plainName, overriddenIn]; done) | decide +kernel
theorem ef_6_RJ (m : MethodId) (x0 : Addr) (x1 : Int64) : entryFrame m #[(.ref x0), (.long x1)] 3 = mkF m 0 #[.val (.ref x0), .val (.long x1), .second] [] := by first | (simp [entryFrame, mkF, argsToLocals, Value.category]; done) | rfl
def Q6 (Z : State) (a_ : Addr) (q1 : Int64) (h0 : Heap) (n0 : Nat) (v : Option Value) (h : Heap) (L : List Loc) : Prop := v = none ∧ Fr n0 L ∧ Keep h0 h [a_] ∧ Exa Z h a_ "java/lang/Long" ∧ Fld Z h a_ "java/lang/Long" "value" "J" (.long q1)
set_option maxRecDepth 65536 in
set_option maxHeartbeats 40000000 in
theorem rm6 (l : Launch) (Z : State) (a0 : Array Value) (hw : ∀ d ∈ tables_1, d.before a0 Z = true) (ws : List Jvm.Cond) (a_ : Addr) (q1 : Int64) (h0 : Heap) (n0 : Nat) (Z0 : n0 ≤ h0.size) (E_a : Exa Z h0 a_ "java/lang/Long") (g_a_ : n0 ≤ a_) (F_value : Fld Z h0 a_ "java/lang/Long" "value" "J" (.long (0 : Int64))) :
    MetFree l (⟨"java/lang/Long", "<init>", "(J)V"⟩ : MethodName) (head1 (Jvm.Cond.code (⟨"java/lang/Long", "<init>", "(J)V"⟩ : MethodName) jdk_35_method_26_code 3 none :: ws) ({ frames := 2, cells := 0, slots := 0, locals := 24 } : Room)) (fun a U => a = #[(.ref a_), (.long q1)] ∧ Z.Warmed39 U.vm ∧ U.heap = h0) (fun _ _ _ _ _ => True) (fun _ U o U' => ∃ v L, o = .returned v ∧ Q6 Z a_ q1 h0 n0 v U'.heap L ∧ FrameEnd U o U' L ({ frames := 2, cells := 0, slots := 0, locals := 24 } : Room).cells ({ frames := 2, cells := 0, slots := 0, locals := 24 } : Room).slots) := by
  refine MetFree.of_bodySF (plainFor_of_name pn_java_lang_Long) hisR ?_
  intro p e s m args below meth c s₁ Bd hml0 hP hK
  obtain ⟨rfl, hZ, hh⟩ := hP
  have hx := Bd.exec
  have hby := Bd.bytes
  have hml : c.maxLocals = 3 := hml0
  have hown : s.vm.findClass "java/lang/Long" = some m.cls := findClass_of_methodNamed Bd.named
  have hnm := (name_of_methodNamed Bd.named Bd.method).1
  have X0 : Stand p l e ({ frames := 2, cells := 0, slots := 0, locals := 24 } : Room) s m #[(.ref a_), (.long q1)] below meth c s₁ [] 0 0 := Stand.of_body Bd
  have e0 : s₁.heap = h0 := by rw [← hh, Bd.state]; rfl
  have N0 := Fr.nil n0
  have KP0 : Keep h0 h0 [a_] := Keep.refl h0 _
  have pre0 : ∀ t, Steps p.tables e below (s₁.setTop (mkF m 0 #[.val (.ref a_), .val (.long q1), .second] [])) t → Steps p.tables e below (s₁.setTop (entryFrame m #[(.ref a_), (.long q1)] 3)) t := fun t k => castTop (ef_6_RJ m a_ q1) k
  obtain ⟨_, _, ⟨T3, L3, k3, n3⟩, -, X3, ⟨Lc3, hQ3, l3, y3, z3⟩, st3⟩ := X0.specialBack hx (y := (⟨"java/lang/Number", "<init>", "()V"⟩ : MethodName)) rfl hown (mvT hZ (hw _ (List.mem_of_getElem? (i := 38) rfl))) (mvT hZ (hw _ (List.mem_of_getElem? (i := 39) rfl))) (mvT hZ (hw _ (List.mem_of_getElem? (i := 43) rfl))) (by decide) (backOf (W := 0) (rm7 l Z a0 hw [] a_ h0 n0 Z0) hZ (hw _ (List.mem_of_getElem? (i := 43) rfl)) (hw _ (List.mem_of_getElem? (i := 42) rfl)) (by decide) (by decide)) (g := (mkF m 1 #[.val (.ref a_), .val (.long q1), .second] [(.ref a_)])) rfl (by rw [hml]; rfl) (Steps.refl _) (a := a_) (argsL := []) (rest := []) (lenOf pd__28_29V rfl) rfl (by show 2 * 0 + _ ≤ _; exact Nat.le_of_eq rfl) (hb hby d6_1) (fun _ _ => ⟨rfl, e0, (by decide : 0 + 0 ≤ _), (by decide : 0 + 0 ≤ _)⟩)
  dsimp only [Pt.U, Pt.locs, Pt.cells, Pt.slots] at X3 l3 y3 z3 st3 hQ3
  subst l3 y3 z3
  obtain ⟨rfl, N3q, e3⟩ := hQ3
  have N3 := Fr.app N0 N3q
  obtain ⟨T4, h4, X4, e4, W4, st4⟩ := putF X3 hx hZ hown (host := "") (Or.inl (hw _ (List.mem_of_getElem? (i := 45) rfl))) Via.refl e3 F_value E_a (Or.inr ⟨(hw _ (List.mem_of_getElem? (i := 46) rfl)), rfl, hnm⟩) (hw _ (List.mem_of_getElem? (i := 33) rfl)) (ty := .long) (by decide) rfl rfl (g := (mkF m 6 #[.val (.ref a_), .val (.long q1), .second] [(.long q1), (.ref a_)])) rfl rfl (hb hby d6_6)
  have Fw4 := F_value.same W4
  have KP4 : Keep h0 h4 [a_] := KP0.wr W4 (Or.inl (List.mem_of_getElem? (i := 0) rfl))
  have Z4 : n0 ≤ h4.size := Nat.le_trans Z0 (Nat.le_of_eq W4.size.symm)
  have N4 := Fr.snoc X4 N3 g_a_
  have E_a__5 : Exa Z h4 a_ "java/lang/Long" := E_a.wr W4
  have pre6 : ∀ t, Steps p.tables e below (T4.setTop (mkF m 9 #[.val (.ref a_), .val (.long q1), .second] [])) t → Steps p.tables e below (s₁.setTop (entryFrame m #[(.ref a_), (.long q1)] 3)) t := by
    intro t kk
    refine pre0 t ?_
    show Steps p.tables e below (s₁.setTop (mkF m 0 #[.val (.ref a_), .val (.long q1), .second] [])) _
    refine XS.aloadN X0.here hx rfl (hb hby d6_0) rfl rfl ?_
    show Steps p.tables e below (s₁.setTop (mkF m 1 #[.val (.ref a_), .val (.long q1), .second] [(.ref a_)])) _
    refine st3.trans ?_
    show Steps p.tables e below (T3.setTop (mkF m 4 #[.val (.ref a_), .val (.long q1), .second] [])) _
    refine XS.aloadN X3.here hx rfl (hb hby d6_4) rfl rfl ?_
    show Steps p.tables e below (T3.setTop (mkF m 5 #[.val (.ref a_), .val (.long q1), .second] [(.ref a_)])) _
    refine XS.lloadN X3.here hx rfl (hb hby d6_5) rfl ?_
    show Steps p.tables e below (T3.setTop (mkF m 6 #[.val (.ref a_), .val (.long q1), .second] [(.long q1), (.ref a_)])) _
    refine st4 _ ?_
    exact kk
  obtain ⟨fs, hr, hrun, hended, hW, hsame⟩ := X4.leave (v := none) (fun _ => rfl)
  refine ⟨_, _, pre6 _ ?_, hrun, hended, _, _, rfl, ?_, ⟨_, rfl⟩, hW, hsame.mono (by decide) (by decide)⟩
  · show Steps p.tables e below (T4.setTop (mkF m 9 #[.val (.ref a_), .val (.long q1), .second] [])) _
    exact X4.returnOut hx Bd.returns (hb hby d6_9) hr
  · show Q6 Z a_ q1 h0 n0 _ T4.heap _
    rw [e4]
    exact ⟨rfl, N4, KP4, E_a__5, Fw4⟩
theorem pd__28J_29V : parseMethodDescriptor "(J)V" = some ⟨[.long], none⟩ := by decide +kernel
theorem d5_0 : decode jdk_35_method_24_code 0 = .ok (.sipush 128, 3) := by decide +kernel
theorem d5_3 : decode jdk_35_method_24_code 3 = .ok (.istore_n 2, 1) := by decide +kernel
theorem d5_4 : decode jdk_35_method_24_code 4 = .ok (.lload_n 0, 1) := by decide +kernel
theorem d5_5 : decode jdk_35_method_24_code 5 = .ok (.ldc2_w 230, 3) := by decide +kernel
theorem d5_8 : decode jdk_35_method_24_code 8 = .ok (.lcmp, 1) := by decide +kernel
theorem d5_9 : decode jdk_35_method_24_code 9 = .ok (.ifCond .lt 22, 3) := by decide +kernel
theorem d5_12 : decode jdk_35_method_24_code 12 = .ok (.lload_n 0, 1) := by decide +kernel
theorem d5_13 : decode jdk_35_method_24_code 13 = .ok (.ldc2_w 232, 3) := by decide +kernel
theorem d5_16 : decode jdk_35_method_24_code 16 = .ok (.lcmp, 1) := by decide +kernel
theorem d5_17 : decode jdk_35_method_24_code 17 = .ok (.ifCond .gt 14, 3) := by decide +kernel
theorem d5_20 : decode jdk_35_method_24_code 20 = .ok (.getstatic 234, 3) := by decide +kernel
theorem d5_23 : decode jdk_35_method_24_code 23 = .ok (.lload_n 0, 1) := by decide +kernel
theorem d5_24 : decode jdk_35_method_24_code 24 = .ok (.l2i, 1) := by decide +kernel
theorem d5_25 : decode jdk_35_method_24_code 25 = .ok (.sipush 128, 3) := by decide +kernel
theorem d5_28 : decode jdk_35_method_24_code 28 = .ok (.iadd, 1) := by decide +kernel
theorem d5_29 : decode jdk_35_method_24_code 29 = .ok (.aaload, 1) := by decide +kernel
theorem d5_30 : decode jdk_35_method_24_code 30 = .ok (.areturn, 1) := by decide +kernel
theorem d5_31 : decode jdk_35_method_24_code 31 = .ok (.new 1, 3) := by decide +kernel
theorem d5_34 : decode jdk_35_method_24_code 34 = .ok (.dup, 1) := by decide +kernel
theorem d5_35 : decode jdk_35_method_24_code 35 = .ok (.lload_n 0, 1) := by decide +kernel
theorem d5_36 : decode jdk_35_method_24_code 36 = .ok (.invokespecial 240, 3) := by decide +kernel
theorem d5_39 : decode jdk_35_method_24_code 39 = .ok (.areturn, 1) := by decide +kernel
theorem ef_5_J (m : MethodId) (x0 : Int64) : entryFrame m #[(.long x0)] 3 = mkF m 0 #[.val (.long x0), .second, .unset] [] := by first | (simp [entryFrame, mkF, argsToLocals, Value.category]; done) | rfl
def Q5 (Z : State) (q0 : Int64) (ca : Addr) (h0 : Heap) (n0 : Nat) (v : Option Value) (h : Heap) (L : List Loc) : Prop := ∃ b : Addr, v = some (.ref b) ∧ Fr n0 L ∧ Keep h0 h [] ∧ Exa Z h b "java/lang/Long" ∧ Fld Z h b "java/lang/Long" "value" "J" (.long q0)
set_option maxRecDepth 65536 in
set_option maxHeartbeats 40000000 in
theorem rm5 (l : Launch) (Z : State) (a0 : Array Value) (hw : ∀ d ∈ tables_1, d.before a0 Z = true) (ws : List Jvm.Cond) (q0 : Int64) (ca : Addr) (h0 : Heap) (n0 : Nat) (Z0 : n0 ≤ h0.size) (O0 : Old Z n0 h0) (S_cache : Sta Z Z.heap "java/lang/Long$LongCache" "cache" "[Ljava/lang/Long;" (.ref ca)) (C_cache : own_Cache Z Z.heap ca) :
    MetFree l (⟨"java/lang/Long", "valueOf", "(J)Ljava/lang/Long;"⟩ : MethodName) (head1 (Jvm.Cond.code (⟨"java/lang/Long", "valueOf", "(J)Ljava/lang/Long;"⟩ : MethodName) jdk_35_method_24_code 3 (some (.object "java/lang/Long")) :: ws) ({ frames := 3, cells := 1, slots := 1, locals := 39 } : Room)) (fun a U => a = #[(.long q0)] ∧ Z.Warmed39 U.vm ∧ U.heap = h0) (fun _ _ _ _ _ => True) (fun _ U o U' => ∃ v L, o = .returned v ∧ Q5 Z q0 ca h0 n0 v U'.heap L ∧ FrameEnd U o U' L ({ frames := 3, cells := 1, slots := 1, locals := 39 } : Room).cells ({ frames := 3, cells := 1, slots := 1, locals := 39 } : Room).slots) := by
  refine MetFree.of_bodySF (plainFor_of_name pn_java_lang_Long) hisR ?_
  intro p e s m args below meth c s₁ Bd hml0 hP hK
  obtain ⟨rfl, hZ, hh⟩ := hP
  have hx := Bd.exec
  have hby := Bd.bytes
  have hml : c.maxLocals = 3 := hml0
  have hown : s.vm.findClass "java/lang/Long" = some m.cls := findClass_of_methodNamed Bd.named
  have hnm := (name_of_methodNamed Bd.named Bd.method).1
  have X0 : Stand p l e ({ frames := 3, cells := 1, slots := 1, locals := 39 } : Room) s m #[(.long q0)] below meth c s₁ [] 0 0 := Stand.of_body Bd
  have e0 : s₁.heap = h0 := by rw [← hh, Bd.state]; rfl
  have N0 := Fr.nil n0
  have KP0 : Keep h0 h0 [] := Keep.refl h0 _
  have pre0 : ∀ t, Steps p.tables e below (s₁.setTop (mkF m 0 #[.val (.long q0), .second, .unset] [])) t → Steps p.tables e below (s₁.setTop (entryFrame m #[(.long q0)] 3)) t := fun t k => castTop (ef_5_J m q0) k
  have pre8 : ∀ t, Steps p.tables e below (s₁.setTop (mkF m 9 #[.val (.long q0), .second, .val (.int (128 : Int32))] [(.int (lcmpW q0 (-128 : Int64)))])) t → Steps p.tables e below (s₁.setTop (entryFrame m #[(.long q0)] 3)) t := by
    intro t kk
    refine pre0 t ?_
    show Steps p.tables e below (s₁.setTop (mkF m 0 #[.val (.long q0), .second, .unset] [])) _
    refine XS.sipush X0.here hx rfl (hb hby d5_0) ?_
    show Steps p.tables e below (s₁.setTop (mkF m 3 #[.val (.long q0), .second, .unset] [(.int (128 : Int32))])) _
    refine XS.istoreN X0.here hx rfl (hb hby d5_3) rfl (l' := #[.val (.long q0), .second, .val (.int (128 : Int32))]) rfl ?_
    show Steps p.tables e below (s₁.setTop (mkF m 4 #[.val (.long q0), .second, .val (.int (128 : Int32))] [])) _
    refine XS.lloadN X0.here hx rfl (hb hby d5_4) rfl ?_
    show Steps p.tables e below (s₁.setTop (mkF m 5 #[.val (.long q0), .second, .val (.int (128 : Int32))] [(.long q0)])) _
    refine X0.ldc2Long hx hown (mvT hZ (hw _ (List.mem_of_getElem? (i := 30) rfl))) (g := (mkF m 5 #[.val (.long q0), .second, .val (.int (128 : Int32))] [(.long q0)])) rfl (hb hby d5_5) _ ?_
    show Steps p.tables e below (s₁.setTop (mkF m 8 #[.val (.long q0), .second, .val (.int (128 : Int32))] [(.long (-128 : Int64)), (.long q0)])) _
    refine XS.lcmp X0.here hx rfl (hb hby d5_8) rfl ?_
    exact kk
  by_cases hc9_7 : q0 < (-128 : Int64)
  · obtain ⟨T9, h9, X9, e9, E9, A9, D9, -, st9⟩ := newO X0 hx hZ hown (hw _ (List.mem_of_getElem? (i := 32) rfl)) (hw _ (List.mem_of_getElem? (i := 33) rfl)) (hw _ (List.mem_of_getElem? (i := 28) rfl)) e0 (g := (mkF m 31 #[.val (.long q0), .second, .val (.int (128 : Int32))] [])) rfl (hb hby d5_31) (by decide) (by decide)
    obtain ⟨b9, g9⟩ : ∃ z, z = h0.size := ⟨_, rfl⟩
    rw [← g9] at A9 D9 st9
    have sz_b9 : h0.size ≤ b9 := Nat.le_trans KP0.1 (Nat.le_of_eq g9.symm)
    have g_b9 : n0 ≤ b9 := Nat.le_trans Z0 (Nat.le_of_eq g9.symm)
    have KP9 : Keep h0 h9 [] := KP0.ext E9
    have Z9 : n0 ≤ h9.size := Nat.le_trans Z0 E9.1
    have O_10 : Old Z n0 h9 := O0.ext E9
    have F_value_b9 : Fld Z h9 b9 "java/lang/Long" "value" "J" (.long (0 : Int64)) := D9 (Or.inr (hw _ (List.mem_of_getElem? (i := 46) rfl))) (ty := .long) (by decide)
    obtain ⟨_, _, ⟨T11, L11, k11, n11⟩, -, X11, ⟨Lc11, hQ11, l11, y11, z11⟩, st11⟩ := X9.specialBack hx (y := (⟨"java/lang/Long", "<init>", "(J)V"⟩ : MethodName)) rfl hown (mvT hZ (hw _ (List.mem_of_getElem? (i := 34) rfl))) (mvT hZ (hw _ (List.mem_of_getElem? (i := 35) rfl))) (mvT hZ (hw _ (List.mem_of_getElem? (i := 37) rfl))) (by decide) (backOf (W := 1) (rm6 l Z a0 hw [] b9 q0 h9 n0 Z9 A9 g_b9 F_value_b9) hZ (hw _ (List.mem_of_getElem? (i := 37) rfl)) (hw _ (List.mem_of_getElem? (i := 28) rfl)) (by decide) (by decide)) (g := (mkF m 36 #[.val (.long q0), .second, .val (.int (128 : Int32))] [(.long q0), (.ref b9), (.ref b9)])) rfl (by rw [hml]; rfl) (Steps.refl _) (a := b9) (argsL := [(.long q0)]) (rest := [(.ref b9)]) (lenOf pd__28J_29V rfl) rfl (by show 2 * 0 + _ ≤ _; exact Nat.le_of_eq rfl) (hb hby d5_36) (fun _ _ => ⟨rfl, e9, (by decide : 1 + 0 ≤ _), (by decide : 1 + 0 ≤ _)⟩)
    dsimp only [Pt.U, Pt.locs, Pt.cells, Pt.slots] at X11 l11 y11 z11 st11 hQ11
    subst l11 y11 z11
    obtain ⟨rfl, N11q, K11, Eq11, Fq11_value⟩ := hQ11
    have N11 := Fr.app N0 N11q
    have KP11 : Keep h0 T11.heap [] := KP9.trans K11 (allS (Or.inr sz_b9) all0)
    have Z11 : n0 ≤ T11.heap.size := Nat.le_trans Z9 K11.1
    have O_12 : Old Z n0 T11.heap := O_10.keep K11 (allS g_b9 all0)
    have E_b9_13 : Exa Z T11.heap b9 "java/lang/Long" := A9.keep K11
    have pre14 : ∀ t, Steps p.tables e below (T11.setTop (mkF m 39 #[.val (.long q0), .second, .val (.int (128 : Int32))] [(.ref b9)])) t → Steps p.tables e below (s₁.setTop (entryFrame m #[(.long q0)] 3)) t := by
      intro t kk
      refine pre8 t ?_
      show Steps p.tables e below (s₁.setTop (mkF m 9 #[.val (.long q0), .second, .val (.int (128 : Int32))] [(.int (lcmpW q0 (-128 : Int64)))])) _
      refine XS.ifYes X0.here hx rfl (pc0 := 9) (pc' := 31) rfl (hb hby d5_9) rfl ((if0 _ _).trans (tlt ((lw_lt q0 (-128 : Int64)).mpr hc9_7)).1) (by decide) (by decide) ?_
      show Steps p.tables e below (s₁.setTop (mkF m 31 #[.val (.long q0), .second, .val (.int (128 : Int32))] [])) _
      refine st9 _ ?_
      show Steps p.tables e below (T9.setTop (mkF m 34 #[.val (.long q0), .second, .val (.int (128 : Int32))] [(.ref b9)])) _
      refine XS.dup X9.here hx rfl (hb hby d5_34) rfl rfl ?_
      show Steps p.tables e below (T9.setTop (mkF m 35 #[.val (.long q0), .second, .val (.int (128 : Int32))] [(.ref b9), (.ref b9)])) _
      refine XS.lloadN X9.here hx rfl (hb hby d5_35) rfl ?_
      show Steps p.tables e below (T9.setTop (mkF m 36 #[.val (.long q0), .second, .val (.int (128 : Int32))] [(.long q0), (.ref b9), (.ref b9)])) _
      refine st11.trans ?_
      exact kk
    obtain ⟨fs, hr, hrun, hended, hW, hsame⟩ := X11.leave (v := some (.ref b9)) (fun h => by rw [Bd.returns] at h; cases h)
    refine ⟨_, _, pre14 _ ?_, hrun, hended, _, _, rfl, ?_, ⟨_, rfl⟩, hW, hsame.mono (by decide) (by decide)⟩
    · show Steps p.tables e below (T11.setTop (mkF m 39 #[.val (.long q0), .second, .val (.int (128 : Int32))] [(.ref b9)])) _
      exact retOut X11 hx Bd.returns rfl (Or.inr (Or.inr (Or.inr (Or.inr ⟨rfl, rfl, rfl⟩)))) (hb hby d5_39) hr
    · show Q5 Z q0 ca h0 n0 _ T11.heap _
      exact ⟨_, rfl, N11, KP11, Eq11, Fq11_value⟩
  · have pre16 : ∀ t, Steps p.tables e below (s₁.setTop (mkF m 17 #[.val (.long q0), .second, .val (.int (128 : Int32))] [(.int (lcmpW q0 (127 : Int64)))])) t → Steps p.tables e below (s₁.setTop (entryFrame m #[(.long q0)] 3)) t := by
      intro t kk
      refine pre8 t ?_
      show Steps p.tables e below (s₁.setTop (mkF m 9 #[.val (.long q0), .second, .val (.int (128 : Int32))] [(.int (lcmpW q0 (-128 : Int64)))])) _
      refine XS.ifNo X0.here hx rfl (hb hby d5_9) rfl ((if0 _ _).trans (flt (fun q => hc9_7 ((lw_lt q0 (-128 : Int64)).mp q))).1) ?_
      show Steps p.tables e below (s₁.setTop (mkF m 12 #[.val (.long q0), .second, .val (.int (128 : Int32))] [])) _
      refine XS.lloadN X0.here hx rfl (hb hby d5_12) rfl ?_
      show Steps p.tables e below (s₁.setTop (mkF m 13 #[.val (.long q0), .second, .val (.int (128 : Int32))] [(.long q0)])) _
      refine X0.ldc2Long hx hown (mvT hZ (hw _ (List.mem_of_getElem? (i := 31) rfl))) (g := (mkF m 13 #[.val (.long q0), .second, .val (.int (128 : Int32))] [(.long q0)])) rfl (hb hby d5_13) _ ?_
      show Steps p.tables e below (s₁.setTop (mkF m 16 #[.val (.long q0), .second, .val (.int (128 : Int32))] [(.long (127 : Int64)), (.long q0)])) _
      refine XS.lcmp X0.here hx rfl (hb hby d5_16) rfl ?_
      exact kk
    by_cases hc17_15 : (127 : Int64) < q0
    · obtain ⟨T17, h17, X17, e17, E17, A17, D17, -, st17⟩ := newO X0 hx hZ hown (hw _ (List.mem_of_getElem? (i := 32) rfl)) (hw _ (List.mem_of_getElem? (i := 33) rfl)) (hw _ (List.mem_of_getElem? (i := 28) rfl)) e0 (g := (mkF m 31 #[.val (.long q0), .second, .val (.int (128 : Int32))] [])) rfl (hb hby d5_31) (by decide) (by decide)
      obtain ⟨b17, g17⟩ : ∃ z, z = h0.size := ⟨_, rfl⟩
      rw [← g17] at A17 D17 st17
      have sz_b17 : h0.size ≤ b17 := Nat.le_trans KP0.1 (Nat.le_of_eq g17.symm)
      have g_b17 : n0 ≤ b17 := Nat.le_trans Z0 (Nat.le_of_eq g17.symm)
      have KP17 : Keep h0 h17 [] := KP0.ext E17
      have Z17 : n0 ≤ h17.size := Nat.le_trans Z0 E17.1
      have O_18 : Old Z n0 h17 := O0.ext E17
      have F_value_b17 : Fld Z h17 b17 "java/lang/Long" "value" "J" (.long (0 : Int64)) := D17 (Or.inr (hw _ (List.mem_of_getElem? (i := 46) rfl))) (ty := .long) (by decide)
      obtain ⟨_, _, ⟨T19, L19, k19, n19⟩, -, X19, ⟨Lc19, hQ19, l19, y19, z19⟩, st19⟩ := X17.specialBack hx (y := (⟨"java/lang/Long", "<init>", "(J)V"⟩ : MethodName)) rfl hown (mvT hZ (hw _ (List.mem_of_getElem? (i := 34) rfl))) (mvT hZ (hw _ (List.mem_of_getElem? (i := 35) rfl))) (mvT hZ (hw _ (List.mem_of_getElem? (i := 37) rfl))) (by decide) (backOf (W := 1) (rm6 l Z a0 hw [] b17 q0 h17 n0 Z17 A17 g_b17 F_value_b17) hZ (hw _ (List.mem_of_getElem? (i := 37) rfl)) (hw _ (List.mem_of_getElem? (i := 28) rfl)) (by decide) (by decide)) (g := (mkF m 36 #[.val (.long q0), .second, .val (.int (128 : Int32))] [(.long q0), (.ref b17), (.ref b17)])) rfl (by rw [hml]; rfl) (Steps.refl _) (a := b17) (argsL := [(.long q0)]) (rest := [(.ref b17)]) (lenOf pd__28J_29V rfl) rfl (by show 2 * 0 + _ ≤ _; exact Nat.le_of_eq rfl) (hb hby d5_36) (fun _ _ => ⟨rfl, e17, (by decide : 1 + 0 ≤ _), (by decide : 1 + 0 ≤ _)⟩)
      dsimp only [Pt.U, Pt.locs, Pt.cells, Pt.slots] at X19 l19 y19 z19 st19 hQ19
      subst l19 y19 z19
      obtain ⟨rfl, N19q, K19, Eq19, Fq19_value⟩ := hQ19
      have N19 := Fr.app N0 N19q
      have KP19 : Keep h0 T19.heap [] := KP17.trans K19 (allS (Or.inr sz_b17) all0)
      have Z19 : n0 ≤ T19.heap.size := Nat.le_trans Z17 K19.1
      have O_20 : Old Z n0 T19.heap := O_18.keep K19 (allS g_b17 all0)
      have E_b17_21 : Exa Z T19.heap b17 "java/lang/Long" := A17.keep K19
      have pre22 : ∀ t, Steps p.tables e below (T19.setTop (mkF m 39 #[.val (.long q0), .second, .val (.int (128 : Int32))] [(.ref b17)])) t → Steps p.tables e below (s₁.setTop (entryFrame m #[(.long q0)] 3)) t := by
        intro t kk
        refine pre16 t ?_
        show Steps p.tables e below (s₁.setTop (mkF m 17 #[.val (.long q0), .second, .val (.int (128 : Int32))] [(.int (lcmpW q0 (127 : Int64)))])) _
        refine XS.ifYes X0.here hx rfl (pc0 := 17) (pc' := 31) rfl (hb hby d5_17) rfl ((if0 _ _).trans (tlt ((lw_gt q0 (127 : Int64)).mpr hc17_15)).2.2.1) (by decide) (by decide) ?_
        show Steps p.tables e below (s₁.setTop (mkF m 31 #[.val (.long q0), .second, .val (.int (128 : Int32))] [])) _
        refine st17 _ ?_
        show Steps p.tables e below (T17.setTop (mkF m 34 #[.val (.long q0), .second, .val (.int (128 : Int32))] [(.ref b17)])) _
        refine XS.dup X17.here hx rfl (hb hby d5_34) rfl rfl ?_
        show Steps p.tables e below (T17.setTop (mkF m 35 #[.val (.long q0), .second, .val (.int (128 : Int32))] [(.ref b17), (.ref b17)])) _
        refine XS.lloadN X17.here hx rfl (hb hby d5_35) rfl ?_
        show Steps p.tables e below (T17.setTop (mkF m 36 #[.val (.long q0), .second, .val (.int (128 : Int32))] [(.long q0), (.ref b17), (.ref b17)])) _
        refine st19.trans ?_
        exact kk
      obtain ⟨fs, hr, hrun, hended, hW, hsame⟩ := X19.leave (v := some (.ref b17)) (fun h => by rw [Bd.returns] at h; cases h)
      refine ⟨_, _, pre22 _ ?_, hrun, hended, _, _, rfl, ?_, ⟨_, rfl⟩, hW, hsame.mono (by decide) (by decide)⟩
      · show Steps p.tables e below (T19.setTop (mkF m 39 #[.val (.long q0), .second, .val (.int (128 : Int32))] [(.ref b17)])) _
        exact retOut X19 hx Bd.returns rfl (Or.inr (Or.inr (Or.inr (Or.inr ⟨rfl, rfl, rfl⟩)))) (hb hby d5_39) hr
      · show Q5 Z q0 ca h0 n0 _ T19.heap _
        exact ⟨_, rfl, N19, KP19, Eq19, Fq19_value⟩
    · obtain ⟨T23, X23, e23, st23⟩ := getS2 X0 hx hZ hown (host := "") (Or.inl (hw _ (List.mem_of_getElem? (i := 50) rfl))) Via.refl e0 (S_cache.ext O0.2) (g := (mkF m 20 #[.val (.long q0), .second, .val (.int (128 : Int32))] [])) rfl (hb hby d5_20)
      obtain ⟨cl24, Ar24, Sz24, Hl24⟩ := own_Cache_ext C_cache O0.2
      have hin24 : ¬ (((q0.toInt32) + (128 : Int32)) < 0 ∨ cl24.slots.size ≤ (((q0.toInt32) + (128 : Int32))).toNatClampNeg) := by rw [Sz24]; exact own_idx q0 hc9_7 hc17_15
      obtain ⟨b24, hat24, Eb24, Fb24⟩ := Hl24 _ hin24
      rw [own_val q0 hc9_7 hc17_15] at Fb24
      have pre25 : ∀ t, Steps p.tables e below (T23.setTop (mkF m 30 #[.val (.long q0), .second, .val (.int (128 : Int32))] [(.ref b24)])) t → Steps p.tables e below (s₁.setTop (entryFrame m #[(.long q0)] 3)) t := by
        intro t kk
        refine pre16 t ?_
        show Steps p.tables e below (s₁.setTop (mkF m 17 #[.val (.long q0), .second, .val (.int (128 : Int32))] [(.int (lcmpW q0 (127 : Int64)))])) _
        refine XS.ifNo X0.here hx rfl (hb hby d5_17) rfl ((if0 _ _).trans (flt (fun q => hc17_15 ((lw_gt q0 (127 : Int64)).mp q))).2.2.1) ?_
        show Steps p.tables e below (s₁.setTop (mkF m 20 #[.val (.long q0), .second, .val (.int (128 : Int32))] [])) _
        refine st23 _ ?_
        show Steps p.tables e below (T23.setTop (mkF m 23 #[.val (.long q0), .second, .val (.int (128 : Int32))] [(.ref ca)])) _
        refine XS.lloadN X23.here hx rfl (hb hby d5_23) rfl ?_
        show Steps p.tables e below (T23.setTop (mkF m 24 #[.val (.long q0), .second, .val (.int (128 : Int32))] [(.long q0), (.ref ca)])) _
        refine XS.l2i X23.here hx rfl (hb hby d5_24) rfl ?_
        show Steps p.tables e below (T23.setTop (mkF m 25 #[.val (.long q0), .second, .val (.int (128 : Int32))] [(.int (q0.toInt32)), (.ref ca)])) _
        refine XS.sipush X23.here hx rfl (hb hby d5_25) ?_
        show Steps p.tables e below (T23.setTop (mkF m 28 #[.val (.long q0), .second, .val (.int (128 : Int32))] [(.int (128 : Int32)), (.int (q0.toInt32)), (.ref ca)])) _
        refine XS.iadd X23.here hx rfl (hb hby d5_28) rfl ?_
        show Steps p.tables e below (T23.setTop (mkF m 29 #[.val (.long q0), .second, .val (.int (128 : Int32))] [(.int ((q0.toInt32) + (128 : Int32))), (.ref ca)])) _
        refine X23.aaload hx (j := ((q0.toInt32) + (128 : Int32))) (v := .ref b24) (by rw [e23]; exact Ar24.1) (State.isArrayOf_alike hZ.alike Ar24.2.1) rfl Ar24.2.2 hin24 hat24 (g := (mkF m 29 #[.val (.long q0), .second, .val (.int (128 : Int32))] [(.int ((q0.toInt32) + (128 : Int32))), (.ref ca)])) rfl rfl (hb hby d5_29) _ ?_
        exact kk
      obtain ⟨fs, hr, hrun, hended, hW, hsame⟩ := X23.leave (v := some (.ref b24)) (fun h => by rw [Bd.returns] at h; cases h)
      refine ⟨_, _, pre25 _ ?_, hrun, hended, _, _, rfl, ?_, ⟨_, rfl⟩, hW, hsame.mono (by decide) (by decide)⟩
      · show Steps p.tables e below (T23.setTop (mkF m 30 #[.val (.long q0), .second, .val (.int (128 : Int32))] [(.ref b24)])) _
        exact retOut X23 hx Bd.returns rfl (Or.inr (Or.inr (Or.inr (Or.inr ⟨rfl, rfl, rfl⟩)))) (hb hby d5_30) hr
      · show Q5 Z q0 ca h0 n0 _ T23.heap _
        rw [e23]
        exact ⟨_, rfl, N0, KP0, Eb24, Fb24⟩
theorem d2_0 : decode jdk_30_method_1_code 0 = .ok (.aload_n 0, 1) := by decide +kernel
theorem d2_1 : decode jdk_30_method_1_code 1 = .ok (.invokespecial 1, 3) := by decide +kernel
theorem d2_4 : decode jdk_30_method_1_code 4 = .ok (.return_, 1) := by decide +kernel
theorem pn_java_lang_Record : plainName "java/lang/Record" = true := by first | (simp [plainName, overriddenIn]; done) | decide +kernel
theorem ef_2_R (m : MethodId) (x0 : Addr) : entryFrame m #[(.ref x0)] 1 = mkF m 0 #[.val (.ref x0)] [] := by first | (simp [entryFrame, mkF, argsToLocals, Value.category]; done) | rfl
def Q2 (Z : State) (a0_ : Addr) (h0 : Heap) (n0 : Nat) (v : Option Value) (h : Heap) (L : List Loc) : Prop := v = none ∧ Fr n0 L ∧ h = h0
set_option maxRecDepth 65536 in
set_option maxHeartbeats 40000000 in
theorem rm2 (l : Launch) (Z : State) (a0 : Array Value) (hw : ∀ d ∈ tables_1, d.before a0 Z = true) (ws : List Jvm.Cond) (a0_ : Addr) (h0 : Heap) (n0 : Nat) (Z0 : n0 ≤ h0.size) :
    MetFree l (⟨"java/lang/Record", "<init>", "()V"⟩ : MethodName) (head1 (Jvm.Cond.code (⟨"java/lang/Record", "<init>", "()V"⟩ : MethodName) jdk_30_method_1_code 1 none :: ws) ({ frames := 1, cells := 0, slots := 0, locals := 12 } : Room)) (fun a U => a = #[(.ref a0_)] ∧ Z.Warmed39 U.vm ∧ U.heap = h0) (fun _ _ _ _ _ => True) (fun _ U o U' => ∃ v L, o = .returned v ∧ Q2 Z a0_ h0 n0 v U'.heap L ∧ FrameEnd U o U' L ({ frames := 1, cells := 0, slots := 0, locals := 12 } : Room).cells ({ frames := 1, cells := 0, slots := 0, locals := 12 } : Room).slots) := by
  refine MetFree.of_bodySF (plainFor_of_name pn_java_lang_Record) hisR ?_
  intro p e s m args below meth c s₁ Bd hml0 hP hK
  obtain ⟨rfl, hZ, hh⟩ := hP
  have hx := Bd.exec
  have hby := Bd.bytes
  have hml : c.maxLocals = 1 := hml0
  have hown : s.vm.findClass "java/lang/Record" = some m.cls := findClass_of_methodNamed Bd.named
  have hnm := (name_of_methodNamed Bd.named Bd.method).1
  have X0 : Stand p l e ({ frames := 1, cells := 0, slots := 0, locals := 12 } : Room) s m #[(.ref a0_)] below meth c s₁ [] 0 0 := Stand.of_body Bd
  have e0 : s₁.heap = h0 := by rw [← hh, Bd.state]; rfl
  have N0 := Fr.nil n0
  have KP0 : Keep h0 h0 [] := Keep.refl h0 _
  have pre0 : ∀ t, Steps p.tables e below (s₁.setTop (mkF m 0 #[.val (.ref a0_)] [])) t → Steps p.tables e below (s₁.setTop (entryFrame m #[(.ref a0_)] 1)) t := fun t k => castTop (ef_2_R m a0_) k
  obtain ⟨T26, X26, e26, st26⟩ := initO X0 hx hZ hown (hw _ (List.mem_of_getElem? (i := 12) rfl)) (hw _ (List.mem_of_getElem? (i := 13) rfl)) (hw _ (List.mem_of_getElem? (i := 14) rfl)) e0 (g := (mkF m 1 #[.val (.ref a0_)] [(.ref a0_)])) rfl (by rw [hml]; rfl) rfl (hb hby d2_1) (by decide) (W := 0) (by show 2 * 0 + _ ≤ _; exact Nat.le_of_eq rfl) (by decide)
  have pre27 : ∀ t, Steps p.tables e below (T26.setTop (mkF m 4 #[.val (.ref a0_)] [])) t → Steps p.tables e below (s₁.setTop (entryFrame m #[(.ref a0_)] 1)) t := by
    intro t kk
    refine pre0 t ?_
    show Steps p.tables e below (s₁.setTop (mkF m 0 #[.val (.ref a0_)] [])) _
    refine XS.aloadN X0.here hx rfl (hb hby d2_0) rfl rfl ?_
    show Steps p.tables e below (s₁.setTop (mkF m 1 #[.val (.ref a0_)] [(.ref a0_)])) _
    refine st26 _ ?_
    exact kk
  obtain ⟨fs, hr, hrun, hended, hW, hsame⟩ := X26.leave (v := none) (fun _ => rfl)
  refine ⟨_, _, pre27 _ ?_, hrun, hended, _, _, rfl, ?_, ⟨_, rfl⟩, hW, hsame.mono (by decide) (by decide)⟩
  · show Steps p.tables e below (T26.setTop (mkF m 4 #[.val (.ref a0_)] [])) _
    exact X26.returnOut hx Bd.returns (hb hby d2_4) hr
  · show Q2 Z a0_ h0 n0 _ T26.heap _
    rw [e26]
    exact ⟨rfl, N0, rfl⟩
theorem d1_0 : decode prog_64_method_1_code 0 = .ok (.aload_n 0, 1) := by decide +kernel
theorem d1_1 : decode prog_64_method_1_code 1 = .ok (.invokespecial 1, 3) := by decide +kernel
theorem d1_4 : decode prog_64_method_1_code 4 = .ok (.lload_n 1, 1) := by decide +kernel
theorem d1_5 : decode prog_64_method_1_code 5 = .ok (.bipush 60, 2) := by decide +kernel
theorem d1_7 : decode prog_64_method_1_code 7 = .ok (.lushr, 1) := by decide +kernel
theorem d1_8 : decode prog_64_method_1_code 8 = .ok (.lconst 0, 1) := by decide +kernel
theorem d1_9 : decode prog_64_method_1_code 9 = .ok (.lcmp, 1) := by decide +kernel
theorem d1_10 : decode prog_64_method_1_code 10 = .ok (.ifCond .eq 21, 3) := by decide +kernel
theorem d1_31 : decode prog_64_method_1_code 31 = .ok (.aload_n 0, 1) := by decide +kernel
theorem d1_32 : decode prog_64_method_1_code 32 = .ok (.lload_n 1, 1) := by decide +kernel
theorem d1_33 : decode prog_64_method_1_code 33 = .ok (.putfield 22, 3) := by decide +kernel
theorem d1_36 : decode prog_64_method_1_code 36 = .ok (.aload_n 0, 1) := by decide +kernel
theorem d1_37 : decode prog_64_method_1_code 37 = .ok (.lload_n 3, 1) := by decide +kernel
theorem d1_38 : decode prog_64_method_1_code 38 = .ok (.putfield 26, 3) := by decide +kernel
theorem d1_41 : decode prog_64_method_1_code 41 = .ok (.return_, 1) := by decide +kernel
theorem pn_com_example_grey_steward_greysteward_core_ObjectId : plainName "com/example/grey_steward/greysteward/core/ObjectId" = true := by first | (simp [plainName, overriddenIn]; done) | decide +kernel
theorem ef_1_RJJ (m : MethodId) (x0 : Addr) (x1 : Int64) (x2 : Int64) : entryFrame m #[(.ref x0), (.long x1), (.long x2)] 5 = mkF m 0 #[.val (.ref x0), .val (.long x1), .second, .val (.long x2), .second] [] := by first | (simp [entryFrame, mkF, argsToLocals, Value.category]; done) | rfl
def Q1 (Z : State) (a_ : Addr) (q1 : Int64) (q2 : Int64) (h0 : Heap) (n0 : Nat) (v : Option Value) (h : Heap) (L : List Loc) : Prop := v = none ∧ Fr n0 L ∧ Keep h0 h [a_] ∧ Exa Z h a_ "com/example/grey_steward/greysteward/core/ObjectId" ∧ Fld Z h a_ "com/example/grey_steward/greysteward/core/ObjectId" "first" "J" (.long q1) ∧ Fld Z h a_ "com/example/grey_steward/greysteward/core/ObjectId" "second" "J" (.long q2)
set_option maxRecDepth 65536 in
set_option maxHeartbeats 40000000 in
theorem rm1 (l : Launch) (Z : State) (a0 : Array Value) (hw : ∀ d ∈ tables_1, d.before a0 Z = true) (ws : List Jvm.Cond) (a_ : Addr) (q1 : Int64) (q2 : Int64) (h0 : Heap) (n0 : Nat) (Z0 : n0 ≤ h0.size) (E_a : Exa Z h0 a_ "com/example/grey_steward/greysteward/core/ObjectId") (g_a_ : n0 ≤ a_) (F_first : Fld Z h0 a_ "com/example/grey_steward/greysteward/core/ObjectId" "first" "J" (.long (0 : Int64))) (F_second : Fld Z h0 a_ "com/example/grey_steward/greysteward/core/ObjectId" "second" "J" (.long (0 : Int64))) (h60 : ((q1.toUInt64 >>> ((60 : Int32) &&& 0x3f).toInt64.toUInt64).toInt64) = (0 : Int64)) :
    MetFree l (⟨"com/example/grey_steward/greysteward/core/ObjectId", "<init>", "(JJ)V"⟩ : MethodName) (head1 (Jvm.Cond.code (⟨"com/example/grey_steward/greysteward/core/ObjectId", "<init>", "(JJ)V"⟩ : MethodName) prog_64_method_1_code 5 none :: ws) ({ frames := 2, cells := 0, slots := 0, locals := 24 } : Room)) (fun a U => a = #[(.ref a_), (.long q1), (.long q2)] ∧ Z.Warmed39 U.vm ∧ U.heap = h0) (fun _ _ _ _ _ => True) (fun _ U o U' => ∃ v L, o = .returned v ∧ Q1 Z a_ q1 q2 h0 n0 v U'.heap L ∧ FrameEnd U o U' L ({ frames := 2, cells := 0, slots := 0, locals := 24 } : Room).cells ({ frames := 2, cells := 0, slots := 0, locals := 24 } : Room).slots) := by
  refine MetFree.of_bodySF (plainFor_of_name pn_com_example_grey_steward_greysteward_core_ObjectId) hisR ?_
  intro p e s m args below meth c s₁ Bd hml0 hP hK
  obtain ⟨rfl, hZ, hh⟩ := hP
  have hx := Bd.exec
  have hby := Bd.bytes
  have hml : c.maxLocals = 5 := hml0
  have hown : s.vm.findClass "com/example/grey_steward/greysteward/core/ObjectId" = some m.cls := findClass_of_methodNamed Bd.named
  have hnm := (name_of_methodNamed Bd.named Bd.method).1
  have X0 : Stand p l e ({ frames := 2, cells := 0, slots := 0, locals := 24 } : Room) s m #[(.ref a_), (.long q1), (.long q2)] below meth c s₁ [] 0 0 := Stand.of_body Bd
  have e0 : s₁.heap = h0 := by rw [← hh, Bd.state]; rfl
  have N0 := Fr.nil n0
  have KP0 : Keep h0 h0 [a_] := Keep.refl h0 _
  have pre0 : ∀ t, Steps p.tables e below (s₁.setTop (mkF m 0 #[.val (.ref a_), .val (.long q1), .second, .val (.long q2), .second] [])) t → Steps p.tables e below (s₁.setTop (entryFrame m #[(.ref a_), (.long q1), (.long q2)] 5)) t := fun t k => castTop (ef_1_RJJ m a_ q1 q2) k
  obtain ⟨_, _, ⟨T28, L28, k28, n28⟩, -, X28, ⟨Lc28, hQ28, l28, y28, z28⟩, st28⟩ := X0.specialBack hx (y := (⟨"java/lang/Record", "<init>", "()V"⟩ : MethodName)) rfl hown (mvT hZ (hw _ (List.mem_of_getElem? (i := 7) rfl))) (mvT hZ (hw _ (List.mem_of_getElem? (i := 8) rfl))) (mvT hZ (hw _ (List.mem_of_getElem? (i := 11) rfl))) (by decide) (backOf (W := 0) (rm2 l Z a0 hw [] a_ h0 n0 Z0) hZ (hw _ (List.mem_of_getElem? (i := 11) rfl)) (hw _ (List.mem_of_getElem? (i := 10) rfl)) (by decide) (by decide)) (g := (mkF m 1 #[.val (.ref a_), .val (.long q1), .second, .val (.long q2), .second] [(.ref a_)])) rfl (by rw [hml]; rfl) (Steps.refl _) (a := a_) (argsL := []) (rest := []) (lenOf pd__28_29V rfl) rfl (by show 2 * 0 + _ ≤ _; exact Nat.le_of_eq rfl) (hb hby d1_1) (fun _ _ => ⟨rfl, e0, (by decide : 0 + 0 ≤ _), (by decide : 0 + 0 ≤ _)⟩)
  dsimp only [Pt.U, Pt.locs, Pt.cells, Pt.slots] at X28 l28 y28 z28 st28 hQ28
  subst l28 y28 z28
  obtain ⟨rfl, N28q, e28⟩ := hQ28
  have N28 := Fr.app N0 N28q
  obtain ⟨T29, h29, X29, e29, W29, st29⟩ := putF X28 hx hZ hown (host := "") (Or.inl (hw _ (List.mem_of_getElem? (i := 15) rfl))) Via.refl e28 F_first E_a (Or.inr ⟨(hw _ (List.mem_of_getElem? (i := 16) rfl)), rfl, hnm⟩) (hw _ (List.mem_of_getElem? (i := 2) rfl)) (ty := .long) (by decide) rfl rfl (g := (mkF m 33 #[.val (.ref a_), .val (.long q1), .second, .val (.long q2), .second] [(.long q1), (.ref a_)])) rfl rfl (hb hby d1_33)
  have Fw29 := F_first.same W29
  have KP29 : Keep h0 h29 [a_] := KP0.wr W29 (Or.inl (List.mem_of_getElem? (i := 0) rfl))
  have Z29 : n0 ≤ h29.size := Nat.le_trans Z0 (Nat.le_of_eq W29.size.symm)
  have N29 := Fr.snoc X29 N28 g_a_
  have E_a__30 : Exa Z h29 a_ "com/example/grey_steward/greysteward/core/ObjectId" := E_a.wr W29
  have F_a__second_31 : Fld Z h29 a_ "com/example/grey_steward/greysteward/core/ObjectId" "second" "J" (.long (0 : Int64)) := F_second.other W29 (Or.inr (slot_ne (Or.inr (hw _ (List.mem_of_getElem? (i := 18) rfl))) (Or.inr (hw _ (List.mem_of_getElem? (i := 16) rfl))) (by decide) (t := .long) (t' := .long) (by decide) (by decide)))
  obtain ⟨T32, h32, X32, e32, W32, st32⟩ := putF X29 hx hZ hown (host := "") (Or.inl (hw _ (List.mem_of_getElem? (i := 17) rfl))) Via.refl e29 F_a__second_31 E_a__30 (Or.inr ⟨(hw _ (List.mem_of_getElem? (i := 18) rfl)), rfl, hnm⟩) (hw _ (List.mem_of_getElem? (i := 2) rfl)) (ty := .long) (by decide) rfl rfl (g := (mkF m 38 #[.val (.ref a_), .val (.long q1), .second, .val (.long q2), .second] [(.long q2), (.ref a_)])) rfl rfl (hb hby d1_38)
  have Fw32 := F_a__second_31.same W32
  have KP32 : Keep h0 h32 [a_] := KP29.wr W32 (Or.inl (List.mem_of_getElem? (i := 0) rfl))
  have Z32 : n0 ≤ h32.size := Nat.le_trans Z29 (Nat.le_of_eq W32.size.symm)
  have N32 := Fr.snoc X32 N29 g_a_
  have E_a__33 : Exa Z h32 a_ "com/example/grey_steward/greysteward/core/ObjectId" := E_a__30.wr W32
  have F_a__first_34 : Fld Z h32 a_ "com/example/grey_steward/greysteward/core/ObjectId" "first" "J" (.long q1) := Fw29.other W32 (Or.inr (slot_ne (Or.inr (hw _ (List.mem_of_getElem? (i := 16) rfl))) (Or.inr (hw _ (List.mem_of_getElem? (i := 18) rfl))) (by decide) (t := .long) (t' := .long) (by decide) (by decide)))
  have pre35 : ∀ t, Steps p.tables e below (T32.setTop (mkF m 41 #[.val (.ref a_), .val (.long q1), .second, .val (.long q2), .second] [])) t → Steps p.tables e below (s₁.setTop (entryFrame m #[(.ref a_), (.long q1), (.long q2)] 5)) t := by
    intro t kk
    refine pre0 t ?_
    show Steps p.tables e below (s₁.setTop (mkF m 0 #[.val (.ref a_), .val (.long q1), .second, .val (.long q2), .second] [])) _
    refine XS.aloadN X0.here hx rfl (hb hby d1_0) rfl rfl ?_
    show Steps p.tables e below (s₁.setTop (mkF m 1 #[.val (.ref a_), .val (.long q1), .second, .val (.long q2), .second] [(.ref a_)])) _
    refine st28.trans ?_
    show Steps p.tables e below (T28.setTop (mkF m 4 #[.val (.ref a_), .val (.long q1), .second, .val (.long q2), .second] [])) _
    refine XS.lloadN X28.here hx rfl (hb hby d1_4) rfl ?_
    show Steps p.tables e below (T28.setTop (mkF m 5 #[.val (.ref a_), .val (.long q1), .second, .val (.long q2), .second] [(.long q1)])) _
    refine XS.bipush X28.here hx rfl (hb hby d1_5) ?_
    show Steps p.tables e below (T28.setTop (mkF m 7 #[.val (.ref a_), .val (.long q1), .second, .val (.long q2), .second] [(.int (60 : Int32)), (.long q1)])) _
    refine XS.lushr X28.here hx rfl (hb hby d1_7) rfl ?_
    show Steps p.tables e below (T28.setTop (mkF m 8 #[.val (.ref a_), .val (.long q1), .second, .val (.long q2), .second] [(.long ((q1.toUInt64 >>> ((60 : Int32) &&& 0x3f).toInt64.toUInt64).toInt64))])) _
    refine XS.lconst X28.here hx rfl (hb hby d1_8) ?_
    show Steps p.tables e below (T28.setTop (mkF m 9 #[.val (.ref a_), .val (.long q1), .second, .val (.long q2), .second] [(.long (0 : Int64)), (.long ((q1.toUInt64 >>> ((60 : Int32) &&& 0x3f).toInt64.toUInt64).toInt64))])) _
    refine XS.lcmp X28.here hx rfl (hb hby d1_9) rfl ?_
    show Steps p.tables e below (T28.setTop (mkF m 10 #[.val (.ref a_), .val (.long q1), .second, .val (.long q2), .second] [(.int (lcmpW ((q1.toUInt64 >>> ((60 : Int32) &&& 0x3f).toInt64.toUInt64).toInt64) (0 : Int64)))])) _
    refine XS.ifYes X28.here hx rfl (pc0 := 10) (pc' := 31) rfl (hb hby d1_10) rfl ((if0 _ _).trans (teq ((lw_eq ((q1.toUInt64 >>> ((60 : Int32) &&& 0x3f).toInt64.toUInt64).toInt64) (0 : Int64)).mpr h60)).1) (by decide) (by decide) ?_
    show Steps p.tables e below (T28.setTop (mkF m 31 #[.val (.ref a_), .val (.long q1), .second, .val (.long q2), .second] [])) _
    refine XS.aloadN X28.here hx rfl (hb hby d1_31) rfl rfl ?_
    show Steps p.tables e below (T28.setTop (mkF m 32 #[.val (.ref a_), .val (.long q1), .second, .val (.long q2), .second] [(.ref a_)])) _
    refine XS.lloadN X28.here hx rfl (hb hby d1_32) rfl ?_
    show Steps p.tables e below (T28.setTop (mkF m 33 #[.val (.ref a_), .val (.long q1), .second, .val (.long q2), .second] [(.long q1), (.ref a_)])) _
    refine st29 _ ?_
    show Steps p.tables e below (T29.setTop (mkF m 36 #[.val (.ref a_), .val (.long q1), .second, .val (.long q2), .second] [])) _
    refine XS.aloadN X29.here hx rfl (hb hby d1_36) rfl rfl ?_
    show Steps p.tables e below (T29.setTop (mkF m 37 #[.val (.ref a_), .val (.long q1), .second, .val (.long q2), .second] [(.ref a_)])) _
    refine XS.lloadN X29.here hx rfl (hb hby d1_37) rfl ?_
    show Steps p.tables e below (T29.setTop (mkF m 38 #[.val (.ref a_), .val (.long q1), .second, .val (.long q2), .second] [(.long q2), (.ref a_)])) _
    refine st32 _ ?_
    exact kk
  obtain ⟨fs, hr, hrun, hended, hW, hsame⟩ := X32.leave (v := none) (fun _ => rfl)
  refine ⟨_, _, pre35 _ ?_, hrun, hended, _, _, rfl, ?_, ⟨_, rfl⟩, hW, hsame.mono (by decide) (by decide)⟩
  · show Steps p.tables e below (T32.setTop (mkF m 41 #[.val (.ref a_), .val (.long q1), .second, .val (.long q2), .second] [])) _
    exact X32.returnOut hx Bd.returns (hb hby d1_41) hr
  · show Q1 Z a_ q1 q2 h0 n0 _ T32.heap _
    rw [e32]
    exact ⟨rfl, N32, KP32, E_a__33, F_a__first_34, Fw32⟩
def F4o (a0 : Addr) (a1 : Addr) (u0 : Int64) (u1 : Int64) (v0 : Int64) (v1 : Int64) : Int32 := (if u0 = v0 then (if u1 = v1 then (1 : Int32) else (0 : Int32)) else (0 : Int32))
theorem d4_0 : decode prog_64_method_9_code 0 = .ok (.aload_n 1, 1) := by decide +kernel
theorem d4_1 : decode prog_64_method_9_code 1 = .ok (.instanceof 7, 3) := by decide +kernel
theorem d4_4 : decode prog_64_method_9_code 4 = .ok (.ifCond .eq 36, 3) := by decide +kernel
theorem d4_7 : decode prog_64_method_9_code 7 = .ok (.aload_n 1, 1) := by decide +kernel
theorem d4_8 : decode prog_64_method_9_code 8 = .ok (.checkcast 7, 3) := by decide +kernel
theorem d4_11 : decode prog_64_method_9_code 11 = .ok (.astore_n 2, 1) := by decide +kernel
theorem d4_12 : decode prog_64_method_9_code 12 = .ok (.aload_n 0, 1) := by decide +kernel
theorem d4_13 : decode prog_64_method_9_code 13 = .ok (.getfield 22, 3) := by decide +kernel
theorem d4_16 : decode prog_64_method_9_code 16 = .ok (.aload_n 2, 1) := by decide +kernel
theorem d4_17 : decode prog_64_method_9_code 17 = .ok (.getfield 22, 3) := by decide +kernel
theorem d4_20 : decode prog_64_method_9_code 20 = .ok (.lcmp, 1) := by decide +kernel
theorem d4_21 : decode prog_64_method_9_code 21 = .ok (.ifCond .ne 19, 3) := by decide +kernel
theorem d4_24 : decode prog_64_method_9_code 24 = .ok (.aload_n 0, 1) := by decide +kernel
theorem d4_25 : decode prog_64_method_9_code 25 = .ok (.getfield 26, 3) := by decide +kernel
theorem d4_28 : decode prog_64_method_9_code 28 = .ok (.aload_n 2, 1) := by decide +kernel
theorem d4_29 : decode prog_64_method_9_code 29 = .ok (.getfield 26, 3) := by decide +kernel
theorem d4_32 : decode prog_64_method_9_code 32 = .ok (.lcmp, 1) := by decide +kernel
theorem d4_33 : decode prog_64_method_9_code 33 = .ok (.ifCond .ne 7, 3) := by decide +kernel
theorem d4_36 : decode prog_64_method_9_code 36 = .ok (.iconst 1, 1) := by decide +kernel
theorem d4_37 : decode prog_64_method_9_code 37 = .ok (.goto 4, 3) := by decide +kernel
theorem d4_40 : decode prog_64_method_9_code 40 = .ok (.iconst 0, 1) := by decide +kernel
theorem d4_41 : decode prog_64_method_9_code 41 = .ok (.ireturn, 1) := by decide +kernel
theorem ef_4_RR (m : MethodId) (x0 : Addr) (x1 : Addr) : entryFrame m #[(.ref x0), (.ref x1)] 3 = mkF m 0 #[.val (.ref x0), .val (.ref x1), .unset] [] := by first | (simp [entryFrame, mkF, argsToLocals, Value.category]; done) | rfl
def Q4o (Z : State) (a0 : Addr) (a1 : Addr) (u0 : Int64) (u1 : Int64) (v0 : Int64) (v1 : Int64) (h0 : Heap) (n0 : Nat) (v : Option Value) (h : Heap) (L : List Loc) : Prop := v = some (.int (F4o a0 a1 u0 u1 v0 v1)) ∧ Fr n0 L ∧ h = h0
set_option maxRecDepth 65536 in
set_option maxHeartbeats 40000000 in
theorem rm4o (l : Launch) (Z : State) (a0 : Array Value) (hw : ∀ d ∈ tables_1, d.before a0 Z = true) (ws : List Jvm.Cond) (a0 : Addr) (a1 : Addr) (u0 : Int64) (u1 : Int64) (v0 : Int64) (v1 : Int64) (h0 : Heap) (n0 : Nat) (Z0 : n0 ≤ h0.size) (E_a1 : Exa Z h0 a1 "com/example/grey_steward/greysteward/core/ObjectId") (Fa0_hi : Fld Z h0 a0 "com/example/grey_steward/greysteward/core/ObjectId" "first" "J" (.long u0)) (Fa0_lo : Fld Z h0 a0 "com/example/grey_steward/greysteward/core/ObjectId" "second" "J" (.long u1)) (Fa1_hi : Fld Z h0 a1 "com/example/grey_steward/greysteward/core/ObjectId" "first" "J" (.long v0)) (Fa1_lo : Fld Z h0 a1 "com/example/grey_steward/greysteward/core/ObjectId" "second" "J" (.long v1)) :
    MetFree l (⟨"com/example/grey_steward/greysteward/core/ObjectId", "equals", "(Ljava/lang/Object;)Z"⟩ : MethodName) (head1 (Jvm.Cond.code (⟨"com/example/grey_steward/greysteward/core/ObjectId", "equals", "(Ljava/lang/Object;)Z"⟩ : MethodName) prog_64_method_9_code 3 (some .boolean) :: ws) ({ frames := 0, cells := 0, slots := 0, locals := 0 } : Room)) (fun a U => a = #[(.ref a0), (.ref a1)] ∧ Z.Warmed39 U.vm ∧ U.heap = h0) (fun _ _ _ _ _ => True) (fun _ U o U' => ∃ v L, o = .returned v ∧ Q4o Z a0 a1 u0 u1 v0 v1 h0 n0 v U'.heap L ∧ FrameEnd U o U' L ({ frames := 0, cells := 0, slots := 0, locals := 0 } : Room).cells ({ frames := 0, cells := 0, slots := 0, locals := 0 } : Room).slots) := by
  refine MetFree.of_bodySF (plainFor_of_name pn_com_example_grey_steward_greysteward_core_ObjectId) hisR ?_
  intro p e s m args below meth c s₁ Bd hml0 hP hK
  obtain ⟨rfl, hZ, hh⟩ := hP
  have hx := Bd.exec
  have hby := Bd.bytes
  have hml : c.maxLocals = 3 := hml0
  have hown : s.vm.findClass "com/example/grey_steward/greysteward/core/ObjectId" = some m.cls := findClass_of_methodNamed Bd.named
  have hnm := (name_of_methodNamed Bd.named Bd.method).1
  have X0 : Stand p l e ({ frames := 0, cells := 0, slots := 0, locals := 0 } : Room) s m #[(.ref a0), (.ref a1)] below meth c s₁ [] 0 0 := Stand.of_body Bd
  have e0 : s₁.heap = h0 := by rw [← hh, Bd.state]; rfl
  have N0 := Fr.nil n0
  have KP0 : Keep h0 h0 [] := Keep.refl h0 _
  have pre0 : ∀ t, Steps p.tables e below (s₁.setTop (mkF m 0 #[.val (.ref a0), .val (.ref a1), .unset] [])) t → Steps p.tables e below (s₁.setTop (entryFrame m #[(.ref a0), (.ref a1)] 3)) t := fun t k => castTop (ef_4_RR m a0 a1) k
  obtain ⟨T36, X36, e36, st36⟩ := instY X0 hx hZ hown (hw _ (List.mem_of_getElem? (i := 24) rfl)) e0 (Ins.self E_a1) (g := (mkF m 1 #[.val (.ref a0), .val (.ref a1), .unset] [(.ref a1)])) rfl rfl (hb hby d4_1)
  obtain ⟨T37, X37, e37, st37⟩ := castY X36 hx hZ hown (hw _ (List.mem_of_getElem? (i := 24) rfl)) e36 (Ins.self E_a1) (g := (mkF m 8 #[.val (.ref a0), .val (.ref a1), .unset] [(.ref a1)])) rfl rfl (hb hby d4_8)
  obtain ⟨T38, X38, e38, st38⟩ := getF X37 hx hZ hown (host := "") (Or.inl (hw _ (List.mem_of_getElem? (i := 15) rfl))) Via.refl e37 Fa0_hi (g := (mkF m 13 #[.val (.ref a0), .val (.ref a1), .val (.ref a1)] [(.ref a0)])) rfl rfl (hb hby d4_13)
  obtain ⟨T39, X39, e39, st39⟩ := getF X38 hx hZ hown (host := "") (Or.inl (hw _ (List.mem_of_getElem? (i := 15) rfl))) Via.refl e38 Fa1_hi (g := (mkF m 17 #[.val (.ref a0), .val (.ref a1), .val (.ref a1)] [(.ref a1), (.long u0)])) rfl rfl (hb hby d4_17)
  have pre41 : ∀ t, Steps p.tables e below (T39.setTop (mkF m 21 #[.val (.ref a0), .val (.ref a1), .val (.ref a1)] [(.int (lcmpW u0 v0))])) t → Steps p.tables e below (s₁.setTop (entryFrame m #[(.ref a0), (.ref a1)] 3)) t := by
    intro t kk
    refine pre0 t ?_
    show Steps p.tables e below (s₁.setTop (mkF m 0 #[.val (.ref a0), .val (.ref a1), .unset] [])) _
    refine XS.aloadN X0.here hx rfl (hb hby d4_0) rfl rfl ?_
    show Steps p.tables e below (s₁.setTop (mkF m 1 #[.val (.ref a0), .val (.ref a1), .unset] [(.ref a1)])) _
    refine st36 _ ?_
    show Steps p.tables e below (T36.setTop (mkF m 4 #[.val (.ref a0), .val (.ref a1), .unset] [(.int (1 : Int32))])) _
    refine XS.ifNo X36.here hx rfl (hb hby d4_4) rfl ((if0 _ _).trans (feq (by decide : ¬ ((1 : Int32) = (0 : Int32)))).1) ?_
    show Steps p.tables e below (T36.setTop (mkF m 7 #[.val (.ref a0), .val (.ref a1), .unset] [])) _
    refine XS.aloadN X36.here hx rfl (hb hby d4_7) rfl rfl ?_
    show Steps p.tables e below (T36.setTop (mkF m 8 #[.val (.ref a0), .val (.ref a1), .unset] [(.ref a1)])) _
    refine st37 _ ?_
    show Steps p.tables e below (T37.setTop (mkF m 11 #[.val (.ref a0), .val (.ref a1), .unset] [(.ref a1)])) _
    refine XS.astoreN X37.here hx rfl (hb hby d4_11) rfl rfl (l' := #[.val (.ref a0), .val (.ref a1), .val (.ref a1)]) rfl ?_
    show Steps p.tables e below (T37.setTop (mkF m 12 #[.val (.ref a0), .val (.ref a1), .val (.ref a1)] [])) _
    refine XS.aloadN X37.here hx rfl (hb hby d4_12) rfl rfl ?_
    show Steps p.tables e below (T37.setTop (mkF m 13 #[.val (.ref a0), .val (.ref a1), .val (.ref a1)] [(.ref a0)])) _
    refine st38 _ ?_
    show Steps p.tables e below (T38.setTop (mkF m 16 #[.val (.ref a0), .val (.ref a1), .val (.ref a1)] [(.long u0)])) _
    refine XS.aloadN X38.here hx rfl (hb hby d4_16) rfl rfl ?_
    show Steps p.tables e below (T38.setTop (mkF m 17 #[.val (.ref a0), .val (.ref a1), .val (.ref a1)] [(.ref a1), (.long u0)])) _
    refine st39 _ ?_
    show Steps p.tables e below (T39.setTop (mkF m 20 #[.val (.ref a0), .val (.ref a1), .val (.ref a1)] [(.long v0), (.long u0)])) _
    refine XS.lcmp X39.here hx rfl (hb hby d4_20) rfl ?_
    exact kk
  by_cases hc21_40 : u0 = v0
  · obtain ⟨T42, X42, e42, st42⟩ := getF X39 hx hZ hown (host := "") (Or.inl (hw _ (List.mem_of_getElem? (i := 17) rfl))) Via.refl e39 Fa0_lo (g := (mkF m 25 #[.val (.ref a0), .val (.ref a1), .val (.ref a1)] [(.ref a0)])) rfl rfl (hb hby d4_25)
    obtain ⟨T43, X43, e43, st43⟩ := getF X42 hx hZ hown (host := "") (Or.inl (hw _ (List.mem_of_getElem? (i := 17) rfl))) Via.refl e42 Fa1_lo (g := (mkF m 29 #[.val (.ref a0), .val (.ref a1), .val (.ref a1)] [(.ref a1), (.long u1)])) rfl rfl (hb hby d4_29)
    have pre45 : ∀ t, Steps p.tables e below (T43.setTop (mkF m 33 #[.val (.ref a0), .val (.ref a1), .val (.ref a1)] [(.int (lcmpW u1 v1))])) t → Steps p.tables e below (s₁.setTop (entryFrame m #[(.ref a0), (.ref a1)] 3)) t := by
      intro t kk
      refine pre41 t ?_
      show Steps p.tables e below (T39.setTop (mkF m 21 #[.val (.ref a0), .val (.ref a1), .val (.ref a1)] [(.int (lcmpW u0 v0))])) _
      refine XS.ifNo X39.here hx rfl (hb hby d4_21) rfl ((if0 _ _).trans (teq ((lw_eq u0 v0).mpr hc21_40)).2) ?_
      show Steps p.tables e below (T39.setTop (mkF m 24 #[.val (.ref a0), .val (.ref a1), .val (.ref a1)] [])) _
      refine XS.aloadN X39.here hx rfl (hb hby d4_24) rfl rfl ?_
      show Steps p.tables e below (T39.setTop (mkF m 25 #[.val (.ref a0), .val (.ref a1), .val (.ref a1)] [(.ref a0)])) _
      refine st42 _ ?_
      show Steps p.tables e below (T42.setTop (mkF m 28 #[.val (.ref a0), .val (.ref a1), .val (.ref a1)] [(.long u1)])) _
      refine XS.aloadN X42.here hx rfl (hb hby d4_28) rfl rfl ?_
      show Steps p.tables e below (T42.setTop (mkF m 29 #[.val (.ref a0), .val (.ref a1), .val (.ref a1)] [(.ref a1), (.long u1)])) _
      refine st43 _ ?_
      show Steps p.tables e below (T43.setTop (mkF m 32 #[.val (.ref a0), .val (.ref a1), .val (.ref a1)] [(.long v1), (.long u1)])) _
      refine XS.lcmp X43.here hx rfl (hb hby d4_32) rfl ?_
      exact kk
    by_cases hc33_44 : u1 = v1
    · have hF46 : (F4o a0 a1 u0 u1 v0 v1) = (1 : Int32) := ((if_pos hc21_40).trans (if_pos hc33_44))
      have pre47 : ∀ t, Steps p.tables e below (T43.setTop (mkF m 41 #[.val (.ref a0), .val (.ref a1), .val (.ref a1)] [(.int (1 : Int32))])) t → Steps p.tables e below (s₁.setTop (entryFrame m #[(.ref a0), (.ref a1)] 3)) t := by
        intro t kk
        refine pre45 t ?_
        show Steps p.tables e below (T43.setTop (mkF m 33 #[.val (.ref a0), .val (.ref a1), .val (.ref a1)] [(.int (lcmpW u1 v1))])) _
        refine XS.ifNo X43.here hx rfl (hb hby d4_33) rfl ((if0 _ _).trans (teq ((lw_eq u1 v1).mpr hc33_44)).2) ?_
        show Steps p.tables e below (T43.setTop (mkF m 36 #[.val (.ref a0), .val (.ref a1), .val (.ref a1)] [])) _
        refine XS.iconst X43.here hx rfl (hb hby d4_36) ?_
        show Steps p.tables e below (T43.setTop (mkF m 37 #[.val (.ref a0), .val (.ref a1), .val (.ref a1)] [(.int (1 : Int32))])) _
        refine XS.goto X43.here hx rfl (pc0 := 37) (pc' := 41) rfl (hb hby d4_37) (by decide) (by decide) ?_
        exact kk
      obtain ⟨fs, hr, hrun, hended, hW, hsame⟩ := X43.leave (v := some (.int (1 : Int32))) (fun h => by rw [Bd.returns] at h; cases h)
      refine ⟨_, _, pre47 _ ?_, hrun, hended, _, _, rfl, ?_, ⟨_, rfl⟩, hW, hsame.mono (by decide) (by decide)⟩
      · show Steps p.tables e below (T43.setTop (mkF m 41 #[.val (.ref a0), .val (.ref a1), .val (.ref a1)] [(.int (1 : Int32))])) _
        exact retN X43 hx (t := .boolean) Bd.returns (by simp) (hb hby d4_41) hr
      · show Q4o Z a0 a1 u0 u1 v0 v1 h0 n0 _ T43.heap _
        rw [e43]
        exact ⟨congrArg (fun z => some (Value.int z)) hF46.symm, N0, rfl⟩
    · have hF48 : (F4o a0 a1 u0 u1 v0 v1) = (0 : Int32) := ((if_pos hc21_40).trans (if_neg hc33_44))
      have pre49 : ∀ t, Steps p.tables e below (T43.setTop (mkF m 41 #[.val (.ref a0), .val (.ref a1), .val (.ref a1)] [(.int (0 : Int32))])) t → Steps p.tables e below (s₁.setTop (entryFrame m #[(.ref a0), (.ref a1)] 3)) t := by
        intro t kk
        refine pre45 t ?_
        show Steps p.tables e below (T43.setTop (mkF m 33 #[.val (.ref a0), .val (.ref a1), .val (.ref a1)] [(.int (lcmpW u1 v1))])) _
        refine XS.ifYes X43.here hx rfl (pc0 := 33) (pc' := 40) rfl (hb hby d4_33) rfl ((if0 _ _).trans (feq (fun q => hc33_44 ((lw_eq u1 v1).mp q))).2) (by decide) (by decide) ?_
        show Steps p.tables e below (T43.setTop (mkF m 40 #[.val (.ref a0), .val (.ref a1), .val (.ref a1)] [])) _
        refine XS.iconst X43.here hx rfl (hb hby d4_40) ?_
        exact kk
      obtain ⟨fs, hr, hrun, hended, hW, hsame⟩ := X43.leave (v := some (.int (0 : Int32))) (fun h => by rw [Bd.returns] at h; cases h)
      refine ⟨_, _, pre49 _ ?_, hrun, hended, _, _, rfl, ?_, ⟨_, rfl⟩, hW, hsame.mono (by decide) (by decide)⟩
      · show Steps p.tables e below (T43.setTop (mkF m 41 #[.val (.ref a0), .val (.ref a1), .val (.ref a1)] [(.int (0 : Int32))])) _
        exact retN X43 hx (t := .boolean) Bd.returns (by simp) (hb hby d4_41) hr
      · show Q4o Z a0 a1 u0 u1 v0 v1 h0 n0 _ T43.heap _
        rw [e43]
        exact ⟨congrArg (fun z => some (Value.int z)) hF48.symm, N0, rfl⟩
  · have hF50 : (F4o a0 a1 u0 u1 v0 v1) = (0 : Int32) := (if_neg hc21_40)
    have pre51 : ∀ t, Steps p.tables e below (T39.setTop (mkF m 41 #[.val (.ref a0), .val (.ref a1), .val (.ref a1)] [(.int (0 : Int32))])) t → Steps p.tables e below (s₁.setTop (entryFrame m #[(.ref a0), (.ref a1)] 3)) t := by
      intro t kk
      refine pre41 t ?_
      show Steps p.tables e below (T39.setTop (mkF m 21 #[.val (.ref a0), .val (.ref a1), .val (.ref a1)] [(.int (lcmpW u0 v0))])) _
      refine XS.ifYes X39.here hx rfl (pc0 := 21) (pc' := 40) rfl (hb hby d4_21) rfl ((if0 _ _).trans (feq (fun q => hc21_40 ((lw_eq u0 v0).mp q))).2) (by decide) (by decide) ?_
      show Steps p.tables e below (T39.setTop (mkF m 40 #[.val (.ref a0), .val (.ref a1), .val (.ref a1)] [])) _
      refine XS.iconst X39.here hx rfl (hb hby d4_40) ?_
      exact kk
    obtain ⟨fs, hr, hrun, hended, hW, hsame⟩ := X39.leave (v := some (.int (0 : Int32))) (fun h => by rw [Bd.returns] at h; cases h)
    refine ⟨_, _, pre51 _ ?_, hrun, hended, _, _, rfl, ?_, ⟨_, rfl⟩, hW, hsame.mono (by decide) (by decide)⟩
    · show Steps p.tables e below (T39.setTop (mkF m 41 #[.val (.ref a0), .val (.ref a1), .val (.ref a1)] [(.int (0 : Int32))])) _
      exact retN X39 hx (t := .boolean) Bd.returns (by simp) (hb hby d4_41) hr
    · show Q4o Z a0 a1 u0 u1 v0 v1 h0 n0 _ T39.heap _
      rw [e39]
      exact ⟨congrArg (fun z => some (Value.int z)) hF50.symm, N0, rfl⟩
def F4n (a0 : Addr) : Int32 := (0 : Int32)
theorem ef_4_Rn (m : MethodId) (x0 : Addr) : entryFrame m #[(.ref x0), .null] 3 = mkF m 0 #[.val (.ref x0), .val .null, .unset] [] := by first | (simp [entryFrame, mkF, argsToLocals, Value.category]; done) | rfl
def Q4n (Z : State) (a0 : Addr) (h0 : Heap) (n0 : Nat) (v : Option Value) (h : Heap) (L : List Loc) : Prop := v = some (.int (F4n a0)) ∧ Fr n0 L ∧ h = h0
set_option maxRecDepth 65536 in
set_option maxHeartbeats 40000000 in
theorem rm4n (l : Launch) (Z : State) (a0 : Array Value) (hw : ∀ d ∈ tables_1, d.before a0 Z = true) (ws : List Jvm.Cond) (a0 : Addr) (h0 : Heap) (n0 : Nat) (Z0 : n0 ≤ h0.size) :
    MetFree l (⟨"com/example/grey_steward/greysteward/core/ObjectId", "equals", "(Ljava/lang/Object;)Z"⟩ : MethodName) (head1 (Jvm.Cond.code (⟨"com/example/grey_steward/greysteward/core/ObjectId", "equals", "(Ljava/lang/Object;)Z"⟩ : MethodName) prog_64_method_9_code 3 (some .boolean) :: ws) ({ frames := 0, cells := 0, slots := 0, locals := 0 } : Room)) (fun a U => a = #[(.ref a0), .null] ∧ Z.Warmed39 U.vm ∧ U.heap = h0) (fun _ _ _ _ _ => True) (fun _ U o U' => ∃ v L, o = .returned v ∧ Q4n Z a0 h0 n0 v U'.heap L ∧ FrameEnd U o U' L ({ frames := 0, cells := 0, slots := 0, locals := 0 } : Room).cells ({ frames := 0, cells := 0, slots := 0, locals := 0 } : Room).slots) := by
  refine MetFree.of_bodySF (plainFor_of_name pn_com_example_grey_steward_greysteward_core_ObjectId) hisR ?_
  intro p e s m args below meth c s₁ Bd hml0 hP hK
  obtain ⟨rfl, hZ, hh⟩ := hP
  have hx := Bd.exec
  have hby := Bd.bytes
  have hml : c.maxLocals = 3 := hml0
  have hown : s.vm.findClass "com/example/grey_steward/greysteward/core/ObjectId" = some m.cls := findClass_of_methodNamed Bd.named
  have hnm := (name_of_methodNamed Bd.named Bd.method).1
  have X0 : Stand p l e ({ frames := 0, cells := 0, slots := 0, locals := 0 } : Room) s m #[(.ref a0), .null] below meth c s₁ [] 0 0 := Stand.of_body Bd
  have e0 : s₁.heap = h0 := by rw [← hh, Bd.state]; rfl
  have N0 := Fr.nil n0
  have KP0 : Keep h0 h0 [] := Keep.refl h0 _
  have pre0 : ∀ t, Steps p.tables e below (s₁.setTop (mkF m 0 #[.val (.ref a0), .val .null, .unset] [])) t → Steps p.tables e below (s₁.setTop (entryFrame m #[(.ref a0), .null] 3)) t := fun t k => castTop (ef_4_Rn m a0) k
  have hF52 : (F4n a0) = (0 : Int32) := rfl
  have pre53 : ∀ t, Steps p.tables e below (s₁.setTop (mkF m 41 #[.val (.ref a0), .val .null, .unset] [(.int (0 : Int32))])) t → Steps p.tables e below (s₁.setTop (entryFrame m #[(.ref a0), .null] 3)) t := by
    intro t kk
    refine pre0 t ?_
    show Steps p.tables e below (s₁.setTop (mkF m 0 #[.val (.ref a0), .val .null, .unset] [])) _
    refine XS.aloadN X0.here hx rfl (hb hby d4_0) rfl rfl ?_
    show Steps p.tables e below (s₁.setTop (mkF m 1 #[.val (.ref a0), .val .null, .unset] [.null])) _
    refine X0.instanceofNull hx (g := (mkF m 1 #[.val (.ref a0), .val .null, .unset] [.null])) rfl rfl (hb hby d4_1) _ ?_
    show Steps p.tables e below (s₁.setTop (mkF m 4 #[.val (.ref a0), .val .null, .unset] [(.int (0 : Int32))])) _
    refine XS.ifYes X0.here hx rfl (pc0 := 4) (pc' := 40) rfl (hb hby d4_4) rfl ((if0 _ _).trans (teq (by decide : (0 : Int32) = (0 : Int32))).1) (by decide) (by decide) ?_
    show Steps p.tables e below (s₁.setTop (mkF m 40 #[.val (.ref a0), .val .null, .unset] [])) _
    refine XS.iconst X0.here hx rfl (hb hby d4_40) ?_
    exact kk
  obtain ⟨fs, hr, hrun, hended, hW, hsame⟩ := X0.leave (v := some (.int (0 : Int32))) (fun h => by rw [Bd.returns] at h; cases h)
  refine ⟨_, _, pre53 _ ?_, hrun, hended, _, _, rfl, ?_, ⟨_, rfl⟩, hW, hsame.mono (by decide) (by decide)⟩
  · show Steps p.tables e below (s₁.setTop (mkF m 41 #[.val (.ref a0), .val .null, .unset] [(.int (0 : Int32))])) _
    exact retN X0 hx (t := .boolean) Bd.returns (by simp) (hb hby d4_41) hr
  · show Q4n Z a0 h0 n0 _ s₁.heap _
    rw [e0]
    exact ⟨congrArg (fun z => some (Value.int z)) hF52.symm, N0, rfl⟩
def F4l (a0 : Addr) (a1 : Addr) : Int32 := (0 : Int32)
def Q4l (Z : State) (a0 : Addr) (a1 : Addr) (h0 : Heap) (n0 : Nat) (v : Option Value) (h : Heap) (L : List Loc) : Prop := v = some (.int (F4l a0 a1)) ∧ Fr n0 L ∧ h = h0
set_option maxRecDepth 65536 in
set_option maxHeartbeats 40000000 in
theorem rm4l (l : Launch) (Z : State) (a0 : Array Value) (hw : ∀ d ∈ tables_1, d.before a0 Z = true) (ws : List Jvm.Cond) (a0 : Addr) (a1 : Addr) (h0 : Heap) (n0 : Nat) (Z0 : n0 ≤ h0.size) (E_a1 : Exa Z h0 a1 "java/lang/Long") :
    MetFree l (⟨"com/example/grey_steward/greysteward/core/ObjectId", "equals", "(Ljava/lang/Object;)Z"⟩ : MethodName) (head1 (Jvm.Cond.code (⟨"com/example/grey_steward/greysteward/core/ObjectId", "equals", "(Ljava/lang/Object;)Z"⟩ : MethodName) prog_64_method_9_code 3 (some .boolean) :: ws) ({ frames := 0, cells := 0, slots := 0, locals := 0 } : Room)) (fun a U => a = #[(.ref a0), (.ref a1)] ∧ Z.Warmed39 U.vm ∧ U.heap = h0) (fun _ _ _ _ _ => True) (fun _ U o U' => ∃ v L, o = .returned v ∧ Q4l Z a0 a1 h0 n0 v U'.heap L ∧ FrameEnd U o U' L ({ frames := 0, cells := 0, slots := 0, locals := 0 } : Room).cells ({ frames := 0, cells := 0, slots := 0, locals := 0 } : Room).slots) := by
  refine MetFree.of_bodySF (plainFor_of_name pn_com_example_grey_steward_greysteward_core_ObjectId) hisR ?_
  intro p e s m args below meth c s₁ Bd hml0 hP hK
  obtain ⟨rfl, hZ, hh⟩ := hP
  have hx := Bd.exec
  have hby := Bd.bytes
  have hml : c.maxLocals = 3 := hml0
  have hown : s.vm.findClass "com/example/grey_steward/greysteward/core/ObjectId" = some m.cls := findClass_of_methodNamed Bd.named
  have hnm := (name_of_methodNamed Bd.named Bd.method).1
  have X0 : Stand p l e ({ frames := 0, cells := 0, slots := 0, locals := 0 } : Room) s m #[(.ref a0), (.ref a1)] below meth c s₁ [] 0 0 := Stand.of_body Bd
  have e0 : s₁.heap = h0 := by rw [← hh, Bd.state]; rfl
  have N0 := Fr.nil n0
  have KP0 : Keep h0 h0 [] := Keep.refl h0 _
  have pre0 : ∀ t, Steps p.tables e below (s₁.setTop (mkF m 0 #[.val (.ref a0), .val (.ref a1), .unset] [])) t → Steps p.tables e below (s₁.setTop (entryFrame m #[(.ref a0), (.ref a1)] 3)) t := fun t k => castTop (ef_4_RR m a0 a1) k
  obtain ⟨T54, X54, e54, st54⟩ := instNo X0 hx hZ hown (hw _ (List.mem_of_getElem? (i := 24) rfl)) e0 E_a1 (own_nsub (hw _ (List.mem_of_getElem? (i := 2) rfl)) (hw _ (List.mem_of_getElem? (i := 47) rfl)) (hw _ (List.mem_of_getElem? (i := 48) rfl)) (hw _ (List.mem_of_getElem? (i := 49) rfl)) (by decide) (by decide) (by decide)) (g := (mkF m 1 #[.val (.ref a0), .val (.ref a1), .unset] [(.ref a1)])) rfl rfl (hb hby d4_1)
  have hF55 : (F4l a0 a1) = (0 : Int32) := rfl
  have pre56 : ∀ t, Steps p.tables e below (T54.setTop (mkF m 41 #[.val (.ref a0), .val (.ref a1), .unset] [(.int (0 : Int32))])) t → Steps p.tables e below (s₁.setTop (entryFrame m #[(.ref a0), (.ref a1)] 3)) t := by
    intro t kk
    refine pre0 t ?_
    show Steps p.tables e below (s₁.setTop (mkF m 0 #[.val (.ref a0), .val (.ref a1), .unset] [])) _
    refine XS.aloadN X0.here hx rfl (hb hby d4_0) rfl rfl ?_
    show Steps p.tables e below (s₁.setTop (mkF m 1 #[.val (.ref a0), .val (.ref a1), .unset] [(.ref a1)])) _
    refine st54 _ ?_
    show Steps p.tables e below (T54.setTop (mkF m 4 #[.val (.ref a0), .val (.ref a1), .unset] [(.int (0 : Int32))])) _
    refine XS.ifYes X54.here hx rfl (pc0 := 4) (pc' := 40) rfl (hb hby d4_4) rfl ((if0 _ _).trans (teq (by decide : (0 : Int32) = (0 : Int32))).1) (by decide) (by decide) ?_
    show Steps p.tables e below (T54.setTop (mkF m 40 #[.val (.ref a0), .val (.ref a1), .unset] [])) _
    refine XS.iconst X54.here hx rfl (hb hby d4_40) ?_
    exact kk
  obtain ⟨fs, hr, hrun, hended, hW, hsame⟩ := X54.leave (v := some (.int (0 : Int32))) (fun h => by rw [Bd.returns] at h; cases h)
  refine ⟨_, _, pre56 _ ?_, hrun, hended, _, _, rfl, ?_, ⟨_, rfl⟩, hW, hsame.mono (by decide) (by decide)⟩
  · show Steps p.tables e below (T54.setTop (mkF m 41 #[.val (.ref a0), .val (.ref a1), .unset] [(.int (0 : Int32))])) _
    exact retN X54 hx (t := .boolean) Bd.returns (by simp) (hb hby d4_41) hr
  · show Q4l Z a0 a1 h0 n0 _ T54.heap _
    rw [e54]
    exact ⟨congrArg (fun z => some (Value.int z)) hF55.symm, N0, rfl⟩
theorem own_60 (x : Int64) : (((x &&& (1152921504606846975 : Int64)).toUInt64 >>> ((60 : Int32) &&& 0x3f).toInt64.toUInt64).toInt64) = (0 : Int64) := by
  have a1 := c_lushr (x &&& (1152921504606846975 : Int64)) (60 : Int32) 60 (by decide) (by decide)
  have a2 := c_maskL x (1152921504606846975 : Int64) 60 (by decide) (by decide)
  apply Int64.toInt_inj.mp
  rw [a1, show (0 : Int64).toInt = 0 by decide]
  have e : ((2 ^ 60 : Nat) : Int) = 1152921504606846976 := by decide
  rw [e] at a2 ⊢
  omega
theorem pd__28JJ_29V : parseMethodDescriptor "(JJ)V" = some ⟨[.long, .long], none⟩ := by decide +kernel
theorem pd__28Ljava_2flang_2fObject_3b_29Z : parseMethodDescriptor "(Ljava/lang/Object;)Z" = some ⟨[(.object "java/lang/Object")], some .boolean⟩ := by decide +kernel
theorem pd__28J_29Ljava_2flang_2fLong_3b : parseMethodDescriptor "(J)Ljava/lang/Long;" = some ⟨[.long], some (.object "java/lang/Long")⟩ := by decide +kernel
theorem pn_com_example_grey_steward_greysteward_core_ObjectIdEqualsPinLaw : plainName "com/example/grey_steward/greysteward/core/ObjectIdEqualsPinLaw" = true := by first | (simp [plainName, overriddenIn]; done) | decide +kernel
theorem ef_0_JJJJI (m : MethodId) (x0 : Int64) (x1 : Int64) (x2 : Int64) (x3 : Int64) (x4 : Int32) : entryFrame m #[(.long x0), (.long x1), (.long x2), (.long x3), (.int x4)] maxLocals = mkF m 0 #[.val (.long x0), .second, .val (.long x1), .second, .val (.long x2), .second, .val (.long x3), .second, .val (.int x4), .unset, .unset, .unset, .unset, .unset, .unset, .unset, .unset, .unset, .unset, .unset, .unset, .unset, .unset, .unset, .unset, .unset] [] := by first | (simp [entryFrame, mkF, argsToLocals, Value.category, maxLocals]; done) | rfl
def Q0 (Z : State) (q0 : Int64) (q1 : Int64) (q2 : Int64) (q3 : Int64) (p4 : Int32) (ca : Addr) (h0 : Heap) (n0 : Nat) (v : Option Value) (h : Heap) (L : List Loc) : Prop := v = some (.int 1) ∧ Fr n0 L
set_option maxRecDepth 65536 in
set_option maxHeartbeats 40000000 in
theorem rm0 (l : Launch) (Z : State) (a0 : Array Value) (hw : ∀ d ∈ tables_1, d.before a0 Z = true) (ws : List Jvm.Cond) (q0 : Int64) (q1 : Int64) (q2 : Int64) (q3 : Int64) (p4 : Int32) (ca : Addr) (h0 : Heap) (n0 : Nat) (Z0 : n0 ≤ h0.size) (O0 : Old Z n0 h0) (S_cache : Sta Z Z.heap "java/lang/Long$LongCache" "cache" "[Ljava/lang/Long;" (.ref ca)) (C_cache : own_Cache Z Z.heap ca) :
    MetFree l x (head1 (Jvm.Cond.code x code maxLocals ret :: ws) room_1) (fun a U => a = #[(.long q0), (.long q1), (.long q2), (.long q3), (.int p4)] ∧ Z.Warmed39 U.vm ∧ U.heap = h0) (fun _ _ _ _ _ => True) (fun _ U o U' => ∃ v L, o = .returned v ∧ Q0 Z q0 q1 q2 q3 p4 ca h0 n0 v U'.heap L ∧ FrameEnd U o U' L room_1.cells room_1.slots) := by
  refine MetFree.of_bodySF (plainFor_of_name pn_com_example_grey_steward_greysteward_core_ObjectIdEqualsPinLaw) hisR ?_
  intro p e s m args below meth c s₁ Bd hml0 hP hK
  obtain ⟨rfl, hZ, hh⟩ := hP
  have hx := Bd.exec
  have hby := Bd.bytes
  have hml : c.maxLocals = 26 := hml0
  have hown : s.vm.findClass "com/example/grey_steward/greysteward/core/ObjectIdEqualsPinLaw" = some m.cls := findClass_of_methodNamed Bd.named
  have hnm := (name_of_methodNamed Bd.named Bd.method).1
  have X0 : Stand p l e room_1 s m #[(.long q0), (.long q1), (.long q2), (.long q3), (.int p4)] below meth c s₁ [] 0 0 := Stand.of_body Bd
  have e0 : s₁.heap = h0 := by rw [← hh, Bd.state]; rfl
  have N0 := Fr.nil n0
  have KP0 : Keep h0 h0 [] := Keep.refl h0 _
  have pre0 : ∀ t, Steps p.tables e below (s₁.setTop (mkF m 0 #[.val (.long q0), .second, .val (.long q1), .second, .val (.long q2), .second, .val (.long q3), .second, .val (.int p4), .unset, .unset, .unset, .unset, .unset, .unset, .unset, .unset, .unset, .unset, .unset, .unset, .unset, .unset, .unset, .unset, .unset] [])) t → Steps p.tables e below (s₁.setTop (entryFrame m #[(.long q0), (.long q1), (.long q2), (.long q3), (.int p4)] maxLocals)) t := fun t k => castTop (ef_0_JJJJI m q0 q1 q2 q3 p4) k
  have pre58 : ∀ t, Steps p.tables e below (s₁.setTop (mkF m 24 #[.val (.long q0), .second, .val (.long q1), .second, .val (.long q2), .second, .val (.long q3), .second, .val (.int p4), .val (.long (1152921504606846975 : Int64)), .second, .val (.long (q0 &&& (1152921504606846975 : Int64))), .second, .val (.long q1), .second, .val (.int (p4 &&& (3 : Int32))), .unset, .unset, .unset, .unset, .unset, .unset, .unset, .unset, .unset, .unset] [(.int ((p4 &&& (3 : Int32)) &&& (1 : Int32)))])) t → Steps p.tables e below (s₁.setTop (entryFrame m #[(.long q0), (.long q1), (.long q2), (.long q3), (.int p4)] maxLocals)) t := by
    intro t kk
    refine pre0 t ?_
    show Steps p.tables e below (s₁.setTop (mkF m 0 #[.val (.long q0), .second, .val (.long q1), .second, .val (.long q2), .second, .val (.long q3), .second, .val (.int p4), .unset, .unset, .unset, .unset, .unset, .unset, .unset, .unset, .unset, .unset, .unset, .unset, .unset, .unset, .unset, .unset, .unset] [])) _
    refine X0.ldc2Long hx hown (mvT hZ (hw _ (List.mem_of_getElem? (i := 0) rfl))) (g := (mkF m 0 #[.val (.long q0), .second, .val (.long q1), .second, .val (.long q2), .second, .val (.long q3), .second, .val (.int p4), .unset, .unset, .unset, .unset, .unset, .unset, .unset, .unset, .unset, .unset, .unset, .unset, .unset, .unset, .unset, .unset, .unset] [])) rfl (hb hby at_0) _ ?_
    show Steps p.tables e below (s₁.setTop (mkF m 3 #[.val (.long q0), .second, .val (.long q1), .second, .val (.long q2), .second, .val (.long q3), .second, .val (.int p4), .unset, .unset, .unset, .unset, .unset, .unset, .unset, .unset, .unset, .unset, .unset, .unset, .unset, .unset, .unset, .unset, .unset] [(.long (1152921504606846975 : Int64))])) _
    refine XS.lstore X0.here hx rfl (hb hby at_3) rfl (l' := #[.val (.long q0), .second, .val (.long q1), .second, .val (.long q2), .second, .val (.long q3), .second, .val (.int p4), .val (.long (1152921504606846975 : Int64)), .second, .unset, .unset, .unset, .unset, .unset, .unset, .unset, .unset, .unset, .unset, .unset, .unset, .unset, .unset, .unset]) rfl ?_
    show Steps p.tables e below (s₁.setTop (mkF m 5 #[.val (.long q0), .second, .val (.long q1), .second, .val (.long q2), .second, .val (.long q3), .second, .val (.int p4), .val (.long (1152921504606846975 : Int64)), .second, .unset, .unset, .unset, .unset, .unset, .unset, .unset, .unset, .unset, .unset, .unset, .unset, .unset, .unset, .unset] [])) _
    refine XS.lloadN X0.here hx rfl (hb hby at_5) rfl ?_
    show Steps p.tables e below (s₁.setTop (mkF m 6 #[.val (.long q0), .second, .val (.long q1), .second, .val (.long q2), .second, .val (.long q3), .second, .val (.int p4), .val (.long (1152921504606846975 : Int64)), .second, .unset, .unset, .unset, .unset, .unset, .unset, .unset, .unset, .unset, .unset, .unset, .unset, .unset, .unset, .unset] [(.long q0)])) _
    refine XS.lload X0.here hx rfl (hb hby at_6) rfl ?_
    show Steps p.tables e below (s₁.setTop (mkF m 8 #[.val (.long q0), .second, .val (.long q1), .second, .val (.long q2), .second, .val (.long q3), .second, .val (.int p4), .val (.long (1152921504606846975 : Int64)), .second, .unset, .unset, .unset, .unset, .unset, .unset, .unset, .unset, .unset, .unset, .unset, .unset, .unset, .unset, .unset] [(.long (1152921504606846975 : Int64)), (.long q0)])) _
    refine XS.land X0.here hx rfl (hb hby at_8) rfl ?_
    show Steps p.tables e below (s₁.setTop (mkF m 9 #[.val (.long q0), .second, .val (.long q1), .second, .val (.long q2), .second, .val (.long q3), .second, .val (.int p4), .val (.long (1152921504606846975 : Int64)), .second, .unset, .unset, .unset, .unset, .unset, .unset, .unset, .unset, .unset, .unset, .unset, .unset, .unset, .unset, .unset] [(.long (q0 &&& (1152921504606846975 : Int64)))])) _
    refine XS.lstore X0.here hx rfl (hb hby at_9) rfl (l' := #[.val (.long q0), .second, .val (.long q1), .second, .val (.long q2), .second, .val (.long q3), .second, .val (.int p4), .val (.long (1152921504606846975 : Int64)), .second, .val (.long (q0 &&& (1152921504606846975 : Int64))), .second, .unset, .unset, .unset, .unset, .unset, .unset, .unset, .unset, .unset, .unset, .unset, .unset, .unset]) rfl ?_
    show Steps p.tables e below (s₁.setTop (mkF m 11 #[.val (.long q0), .second, .val (.long q1), .second, .val (.long q2), .second, .val (.long q3), .second, .val (.int p4), .val (.long (1152921504606846975 : Int64)), .second, .val (.long (q0 &&& (1152921504606846975 : Int64))), .second, .unset, .unset, .unset, .unset, .unset, .unset, .unset, .unset, .unset, .unset, .unset, .unset, .unset] [])) _
    refine XS.lloadN X0.here hx rfl (hb hby at_11) rfl ?_
    show Steps p.tables e below (s₁.setTop (mkF m 12 #[.val (.long q0), .second, .val (.long q1), .second, .val (.long q2), .second, .val (.long q3), .second, .val (.int p4), .val (.long (1152921504606846975 : Int64)), .second, .val (.long (q0 &&& (1152921504606846975 : Int64))), .second, .unset, .unset, .unset, .unset, .unset, .unset, .unset, .unset, .unset, .unset, .unset, .unset, .unset] [(.long q1)])) _
    refine XS.lstore X0.here hx rfl (hb hby at_12) rfl (l' := #[.val (.long q0), .second, .val (.long q1), .second, .val (.long q2), .second, .val (.long q3), .second, .val (.int p4), .val (.long (1152921504606846975 : Int64)), .second, .val (.long (q0 &&& (1152921504606846975 : Int64))), .second, .val (.long q1), .second, .unset, .unset, .unset, .unset, .unset, .unset, .unset, .unset, .unset, .unset, .unset]) rfl ?_
    show Steps p.tables e below (s₁.setTop (mkF m 14 #[.val (.long q0), .second, .val (.long q1), .second, .val (.long q2), .second, .val (.long q3), .second, .val (.int p4), .val (.long (1152921504606846975 : Int64)), .second, .val (.long (q0 &&& (1152921504606846975 : Int64))), .second, .val (.long q1), .second, .unset, .unset, .unset, .unset, .unset, .unset, .unset, .unset, .unset, .unset, .unset] [])) _
    refine XS.iload X0.here hx rfl (hb hby at_14) rfl ?_
    show Steps p.tables e below (s₁.setTop (mkF m 16 #[.val (.long q0), .second, .val (.long q1), .second, .val (.long q2), .second, .val (.long q3), .second, .val (.int p4), .val (.long (1152921504606846975 : Int64)), .second, .val (.long (q0 &&& (1152921504606846975 : Int64))), .second, .val (.long q1), .second, .unset, .unset, .unset, .unset, .unset, .unset, .unset, .unset, .unset, .unset, .unset] [(.int p4)])) _
    refine XS.iconst X0.here hx rfl (hb hby at_16) ?_
    show Steps p.tables e below (s₁.setTop (mkF m 17 #[.val (.long q0), .second, .val (.long q1), .second, .val (.long q2), .second, .val (.long q3), .second, .val (.int p4), .val (.long (1152921504606846975 : Int64)), .second, .val (.long (q0 &&& (1152921504606846975 : Int64))), .second, .val (.long q1), .second, .unset, .unset, .unset, .unset, .unset, .unset, .unset, .unset, .unset, .unset, .unset] [(.int (3 : Int32)), (.int p4)])) _
    refine XS.iand X0.here hx rfl (hb hby at_17) rfl ?_
    show Steps p.tables e below (s₁.setTop (mkF m 18 #[.val (.long q0), .second, .val (.long q1), .second, .val (.long q2), .second, .val (.long q3), .second, .val (.int p4), .val (.long (1152921504606846975 : Int64)), .second, .val (.long (q0 &&& (1152921504606846975 : Int64))), .second, .val (.long q1), .second, .unset, .unset, .unset, .unset, .unset, .unset, .unset, .unset, .unset, .unset, .unset] [(.int (p4 &&& (3 : Int32)))])) _
    refine XS.istore X0.here hx rfl (hb hby at_18) rfl (l' := #[.val (.long q0), .second, .val (.long q1), .second, .val (.long q2), .second, .val (.long q3), .second, .val (.int p4), .val (.long (1152921504606846975 : Int64)), .second, .val (.long (q0 &&& (1152921504606846975 : Int64))), .second, .val (.long q1), .second, .val (.int (p4 &&& (3 : Int32))), .unset, .unset, .unset, .unset, .unset, .unset, .unset, .unset, .unset, .unset]) rfl ?_
    show Steps p.tables e below (s₁.setTop (mkF m 20 #[.val (.long q0), .second, .val (.long q1), .second, .val (.long q2), .second, .val (.long q3), .second, .val (.int p4), .val (.long (1152921504606846975 : Int64)), .second, .val (.long (q0 &&& (1152921504606846975 : Int64))), .second, .val (.long q1), .second, .val (.int (p4 &&& (3 : Int32))), .unset, .unset, .unset, .unset, .unset, .unset, .unset, .unset, .unset, .unset] [])) _
    refine XS.iload X0.here hx rfl (hb hby at_20) rfl ?_
    show Steps p.tables e below (s₁.setTop (mkF m 22 #[.val (.long q0), .second, .val (.long q1), .second, .val (.long q2), .second, .val (.long q3), .second, .val (.int p4), .val (.long (1152921504606846975 : Int64)), .second, .val (.long (q0 &&& (1152921504606846975 : Int64))), .second, .val (.long q1), .second, .val (.int (p4 &&& (3 : Int32))), .unset, .unset, .unset, .unset, .unset, .unset, .unset, .unset, .unset, .unset] [(.int (p4 &&& (3 : Int32)))])) _
    refine XS.iconst X0.here hx rfl (hb hby at_22) ?_
    show Steps p.tables e below (s₁.setTop (mkF m 23 #[.val (.long q0), .second, .val (.long q1), .second, .val (.long q2), .second, .val (.long q3), .second, .val (.int p4), .val (.long (1152921504606846975 : Int64)), .second, .val (.long (q0 &&& (1152921504606846975 : Int64))), .second, .val (.long q1), .second, .val (.int (p4 &&& (3 : Int32))), .unset, .unset, .unset, .unset, .unset, .unset, .unset, .unset, .unset, .unset] [(.int (1 : Int32)), (.int (p4 &&& (3 : Int32)))])) _
    refine XS.iand X0.here hx rfl (hb hby at_23) rfl ?_
    exact kk
  obtain ⟨jv59, hj_jv59⟩ : ∃ z : Int64, z = (if ((p4 &&& (3 : Int32)) &&& (1 : Int32)) = (0 : Int32) then (q2 &&& (1152921504606846975 : Int64)) else (q0 &&& (1152921504606846975 : Int64))) := ⟨_, rfl⟩
  have pre60 : ∀ t, Steps p.tables e below (s₁.setTop (mkF m 37 #[.val (.long q0), .second, .val (.long q1), .second, .val (.long q2), .second, .val (.long q3), .second, .val (.int p4), .val (.long (1152921504606846975 : Int64)), .second, .val (.long (q0 &&& (1152921504606846975 : Int64))), .second, .val (.long q1), .second, .val (.int (p4 &&& (3 : Int32))), .unset, .unset, .unset, .unset, .unset, .unset, .unset, .unset, .unset, .unset] [(.long jv59)])) t → Steps p.tables e below (s₁.setTop (entryFrame m #[(.long q0), (.long q1), (.long q2), (.long q3), (.int p4)] maxLocals)) t := by
    intro t kk
    by_cases hc24_57 : ((p4 &&& (3 : Int32)) &&& (1 : Int32)) = (0 : Int32)
    · rw [show jv59 = (q2 &&& (1152921504606846975 : Int64)) by rw [hj_jv59]; simp only [if_pos hc24_57]] at kk
      refine pre58 t ?_
      show Steps p.tables e below (s₁.setTop (mkF m 24 #[.val (.long q0), .second, .val (.long q1), .second, .val (.long q2), .second, .val (.long q3), .second, .val (.int p4), .val (.long (1152921504606846975 : Int64)), .second, .val (.long (q0 &&& (1152921504606846975 : Int64))), .second, .val (.long q1), .second, .val (.int (p4 &&& (3 : Int32))), .unset, .unset, .unset, .unset, .unset, .unset, .unset, .unset, .unset, .unset] [(.int ((p4 &&& (3 : Int32)) &&& (1 : Int32)))])) _
      refine XS.ifYes X0.here hx rfl (pc0 := 24) (pc' := 32) rfl (hb hby at_24) rfl ((if0 _ _).trans (teq hc24_57).1) (by decide) (by decide) ?_
      show Steps p.tables e below (s₁.setTop (mkF m 32 #[.val (.long q0), .second, .val (.long q1), .second, .val (.long q2), .second, .val (.long q3), .second, .val (.int p4), .val (.long (1152921504606846975 : Int64)), .second, .val (.long (q0 &&& (1152921504606846975 : Int64))), .second, .val (.long q1), .second, .val (.int (p4 &&& (3 : Int32))), .unset, .unset, .unset, .unset, .unset, .unset, .unset, .unset, .unset, .unset] [])) _
      refine XS.lload X0.here hx rfl (hb hby at_32) rfl ?_
      show Steps p.tables e below (s₁.setTop (mkF m 34 #[.val (.long q0), .second, .val (.long q1), .second, .val (.long q2), .second, .val (.long q3), .second, .val (.int p4), .val (.long (1152921504606846975 : Int64)), .second, .val (.long (q0 &&& (1152921504606846975 : Int64))), .second, .val (.long q1), .second, .val (.int (p4 &&& (3 : Int32))), .unset, .unset, .unset, .unset, .unset, .unset, .unset, .unset, .unset, .unset] [(.long q2)])) _
      refine XS.lload X0.here hx rfl (hb hby at_34) rfl ?_
      show Steps p.tables e below (s₁.setTop (mkF m 36 #[.val (.long q0), .second, .val (.long q1), .second, .val (.long q2), .second, .val (.long q3), .second, .val (.int p4), .val (.long (1152921504606846975 : Int64)), .second, .val (.long (q0 &&& (1152921504606846975 : Int64))), .second, .val (.long q1), .second, .val (.int (p4 &&& (3 : Int32))), .unset, .unset, .unset, .unset, .unset, .unset, .unset, .unset, .unset, .unset] [(.long (1152921504606846975 : Int64)), (.long q2)])) _
      refine XS.land X0.here hx rfl (hb hby at_36) rfl ?_
      exact kk
    · rw [show jv59 = (q0 &&& (1152921504606846975 : Int64)) by rw [hj_jv59]; simp only [if_neg hc24_57]] at kk
      refine pre58 t ?_
      show Steps p.tables e below (s₁.setTop (mkF m 24 #[.val (.long q0), .second, .val (.long q1), .second, .val (.long q2), .second, .val (.long q3), .second, .val (.int p4), .val (.long (1152921504606846975 : Int64)), .second, .val (.long (q0 &&& (1152921504606846975 : Int64))), .second, .val (.long q1), .second, .val (.int (p4 &&& (3 : Int32))), .unset, .unset, .unset, .unset, .unset, .unset, .unset, .unset, .unset, .unset] [(.int ((p4 &&& (3 : Int32)) &&& (1 : Int32)))])) _
      refine XS.ifNo X0.here hx rfl (hb hby at_24) rfl ((if0 _ _).trans (feq hc24_57).1) ?_
      show Steps p.tables e below (s₁.setTop (mkF m 27 #[.val (.long q0), .second, .val (.long q1), .second, .val (.long q2), .second, .val (.long q3), .second, .val (.int p4), .val (.long (1152921504606846975 : Int64)), .second, .val (.long (q0 &&& (1152921504606846975 : Int64))), .second, .val (.long q1), .second, .val (.int (p4 &&& (3 : Int32))), .unset, .unset, .unset, .unset, .unset, .unset, .unset, .unset, .unset, .unset] [])) _
      refine XS.lload X0.here hx rfl (hb hby at_27) rfl ?_
      show Steps p.tables e below (s₁.setTop (mkF m 29 #[.val (.long q0), .second, .val (.long q1), .second, .val (.long q2), .second, .val (.long q3), .second, .val (.int p4), .val (.long (1152921504606846975 : Int64)), .second, .val (.long (q0 &&& (1152921504606846975 : Int64))), .second, .val (.long q1), .second, .val (.int (p4 &&& (3 : Int32))), .unset, .unset, .unset, .unset, .unset, .unset, .unset, .unset, .unset, .unset] [(.long (q0 &&& (1152921504606846975 : Int64)))])) _
      refine XS.goto X0.here hx rfl (pc0 := 29) (pc' := 37) rfl (hb hby at_29) (by decide) (by decide) ?_
      exact kk
  have pre62 : ∀ t, Steps p.tables e below (s₁.setTop (mkF m 43 #[.val (.long q0), .second, .val (.long q1), .second, .val (.long q2), .second, .val (.long q3), .second, .val (.int p4), .val (.long (1152921504606846975 : Int64)), .second, .val (.long (q0 &&& (1152921504606846975 : Int64))), .second, .val (.long q1), .second, .val (.int (p4 &&& (3 : Int32))), .val (.long jv59), .second, .unset, .unset, .unset, .unset, .unset, .unset, .unset, .unset] [(.int ((p4 &&& (3 : Int32)) &&& (2 : Int32)))])) t → Steps p.tables e below (s₁.setTop (entryFrame m #[(.long q0), (.long q1), (.long q2), (.long q3), (.int p4)] maxLocals)) t := by
    intro t kk
    refine pre60 t ?_
    show Steps p.tables e below (s₁.setTop (mkF m 37 #[.val (.long q0), .second, .val (.long q1), .second, .val (.long q2), .second, .val (.long q3), .second, .val (.int p4), .val (.long (1152921504606846975 : Int64)), .second, .val (.long (q0 &&& (1152921504606846975 : Int64))), .second, .val (.long q1), .second, .val (.int (p4 &&& (3 : Int32))), .unset, .unset, .unset, .unset, .unset, .unset, .unset, .unset, .unset, .unset] [(.long jv59)])) _
    refine XS.lstore X0.here hx rfl (hb hby at_37) rfl (l' := #[.val (.long q0), .second, .val (.long q1), .second, .val (.long q2), .second, .val (.long q3), .second, .val (.int p4), .val (.long (1152921504606846975 : Int64)), .second, .val (.long (q0 &&& (1152921504606846975 : Int64))), .second, .val (.long q1), .second, .val (.int (p4 &&& (3 : Int32))), .val (.long jv59), .second, .unset, .unset, .unset, .unset, .unset, .unset, .unset, .unset]) rfl ?_
    show Steps p.tables e below (s₁.setTop (mkF m 39 #[.val (.long q0), .second, .val (.long q1), .second, .val (.long q2), .second, .val (.long q3), .second, .val (.int p4), .val (.long (1152921504606846975 : Int64)), .second, .val (.long (q0 &&& (1152921504606846975 : Int64))), .second, .val (.long q1), .second, .val (.int (p4 &&& (3 : Int32))), .val (.long jv59), .second, .unset, .unset, .unset, .unset, .unset, .unset, .unset, .unset] [])) _
    refine XS.iload X0.here hx rfl (hb hby at_39) rfl ?_
    show Steps p.tables e below (s₁.setTop (mkF m 41 #[.val (.long q0), .second, .val (.long q1), .second, .val (.long q2), .second, .val (.long q3), .second, .val (.int p4), .val (.long (1152921504606846975 : Int64)), .second, .val (.long (q0 &&& (1152921504606846975 : Int64))), .second, .val (.long q1), .second, .val (.int (p4 &&& (3 : Int32))), .val (.long jv59), .second, .unset, .unset, .unset, .unset, .unset, .unset, .unset, .unset] [(.int (p4 &&& (3 : Int32)))])) _
    refine XS.iconst X0.here hx rfl (hb hby at_41) ?_
    show Steps p.tables e below (s₁.setTop (mkF m 42 #[.val (.long q0), .second, .val (.long q1), .second, .val (.long q2), .second, .val (.long q3), .second, .val (.int p4), .val (.long (1152921504606846975 : Int64)), .second, .val (.long (q0 &&& (1152921504606846975 : Int64))), .second, .val (.long q1), .second, .val (.int (p4 &&& (3 : Int32))), .val (.long jv59), .second, .unset, .unset, .unset, .unset, .unset, .unset, .unset, .unset] [(.int (2 : Int32)), (.int (p4 &&& (3 : Int32)))])) _
    refine XS.iand X0.here hx rfl (hb hby at_42) rfl ?_
    exact kk
  obtain ⟨jv63, hj_jv63⟩ : ∃ z : Int64, z = (if ((p4 &&& (3 : Int32)) &&& (2 : Int32)) = (0 : Int32) then q3 else q1) := ⟨_, rfl⟩
  have pre64 : ∀ t, Steps p.tables e below (s₁.setTop (mkF m 53 #[.val (.long q0), .second, .val (.long q1), .second, .val (.long q2), .second, .val (.long q3), .second, .val (.int p4), .val (.long (1152921504606846975 : Int64)), .second, .val (.long (q0 &&& (1152921504606846975 : Int64))), .second, .val (.long q1), .second, .val (.int (p4 &&& (3 : Int32))), .val (.long jv59), .second, .unset, .unset, .unset, .unset, .unset, .unset, .unset, .unset] [(.long jv63)])) t → Steps p.tables e below (s₁.setTop (entryFrame m #[(.long q0), (.long q1), (.long q2), (.long q3), (.int p4)] maxLocals)) t := by
    intro t kk
    by_cases hc43_61 : ((p4 &&& (3 : Int32)) &&& (2 : Int32)) = (0 : Int32)
    · rw [show jv63 = q3 by rw [hj_jv63]; simp only [if_pos hc43_61]] at kk
      refine pre62 t ?_
      show Steps p.tables e below (s₁.setTop (mkF m 43 #[.val (.long q0), .second, .val (.long q1), .second, .val (.long q2), .second, .val (.long q3), .second, .val (.int p4), .val (.long (1152921504606846975 : Int64)), .second, .val (.long (q0 &&& (1152921504606846975 : Int64))), .second, .val (.long q1), .second, .val (.int (p4 &&& (3 : Int32))), .val (.long jv59), .second, .unset, .unset, .unset, .unset, .unset, .unset, .unset, .unset] [(.int ((p4 &&& (3 : Int32)) &&& (2 : Int32)))])) _
      refine XS.ifYes X0.here hx rfl (pc0 := 43) (pc' := 51) rfl (hb hby at_43) rfl ((if0 _ _).trans (teq hc43_61).1) (by decide) (by decide) ?_
      show Steps p.tables e below (s₁.setTop (mkF m 51 #[.val (.long q0), .second, .val (.long q1), .second, .val (.long q2), .second, .val (.long q3), .second, .val (.int p4), .val (.long (1152921504606846975 : Int64)), .second, .val (.long (q0 &&& (1152921504606846975 : Int64))), .second, .val (.long q1), .second, .val (.int (p4 &&& (3 : Int32))), .val (.long jv59), .second, .unset, .unset, .unset, .unset, .unset, .unset, .unset, .unset] [])) _
      refine XS.lload X0.here hx rfl (hb hby at_51) rfl ?_
      exact kk
    · rw [show jv63 = q1 by rw [hj_jv63]; simp only [if_neg hc43_61]] at kk
      refine pre62 t ?_
      show Steps p.tables e below (s₁.setTop (mkF m 43 #[.val (.long q0), .second, .val (.long q1), .second, .val (.long q2), .second, .val (.long q3), .second, .val (.int p4), .val (.long (1152921504606846975 : Int64)), .second, .val (.long (q0 &&& (1152921504606846975 : Int64))), .second, .val (.long q1), .second, .val (.int (p4 &&& (3 : Int32))), .val (.long jv59), .second, .unset, .unset, .unset, .unset, .unset, .unset, .unset, .unset] [(.int ((p4 &&& (3 : Int32)) &&& (2 : Int32)))])) _
      refine XS.ifNo X0.here hx rfl (hb hby at_43) rfl ((if0 _ _).trans (feq hc43_61).1) ?_
      show Steps p.tables e below (s₁.setTop (mkF m 46 #[.val (.long q0), .second, .val (.long q1), .second, .val (.long q2), .second, .val (.long q3), .second, .val (.int p4), .val (.long (1152921504606846975 : Int64)), .second, .val (.long (q0 &&& (1152921504606846975 : Int64))), .second, .val (.long q1), .second, .val (.int (p4 &&& (3 : Int32))), .val (.long jv59), .second, .unset, .unset, .unset, .unset, .unset, .unset, .unset, .unset] [])) _
      refine XS.lload X0.here hx rfl (hb hby at_46) rfl ?_
      show Steps p.tables e below (s₁.setTop (mkF m 48 #[.val (.long q0), .second, .val (.long q1), .second, .val (.long q2), .second, .val (.long q3), .second, .val (.int p4), .val (.long (1152921504606846975 : Int64)), .second, .val (.long (q0 &&& (1152921504606846975 : Int64))), .second, .val (.long q1), .second, .val (.int (p4 &&& (3 : Int32))), .val (.long jv59), .second, .unset, .unset, .unset, .unset, .unset, .unset, .unset, .unset] [(.long q1)])) _
      refine XS.goto X0.here hx rfl (pc0 := 48) (pc' := 53) rfl (hb hby at_48) (by decide) (by decide) ?_
      exact kk
  obtain ⟨T65, h65, X65, e65, E65, A65, D65, -, st65⟩ := newO X0 hx hZ hown (hw _ (List.mem_of_getElem? (i := 1) rfl)) (hw _ (List.mem_of_getElem? (i := 2) rfl)) (hw _ (List.mem_of_getElem? (i := 3) rfl)) e0 (g := (mkF m 55 #[.val (.long q0), .second, .val (.long q1), .second, .val (.long q2), .second, .val (.long q3), .second, .val (.int p4), .val (.long (1152921504606846975 : Int64)), .second, .val (.long (q0 &&& (1152921504606846975 : Int64))), .second, .val (.long q1), .second, .val (.int (p4 &&& (3 : Int32))), .val (.long jv59), .second, .val (.long jv63), .second, .unset, .unset, .unset, .unset, .unset, .unset] [])) rfl (hb hby at_55) (by decide) (by decide)
  obtain ⟨b65, g65⟩ : ∃ z, z = h0.size := ⟨_, rfl⟩
  rw [← g65] at A65 D65 st65
  have sz_b65 : h0.size ≤ b65 := Nat.le_trans KP0.1 (Nat.le_of_eq g65.symm)
  have g_b65 : n0 ≤ b65 := Nat.le_trans Z0 (Nat.le_of_eq g65.symm)
  have KP65 : Keep h0 h65 [] := KP0.ext E65
  have Z65 : n0 ≤ h65.size := Nat.le_trans Z0 E65.1
  have O_66 : Old Z n0 h65 := O0.ext E65
  have F_first_b65 : Fld Z h65 b65 "com/example/grey_steward/greysteward/core/ObjectId" "first" "J" (.long (0 : Int64)) := D65 (Or.inr (hw _ (List.mem_of_getElem? (i := 16) rfl))) (ty := .long) (by decide)
  have F_second_b65 : Fld Z h65 b65 "com/example/grey_steward/greysteward/core/ObjectId" "second" "J" (.long (0 : Int64)) := D65 (Or.inr (hw _ (List.mem_of_getElem? (i := 18) rfl))) (ty := .long) (by decide)
  obtain ⟨_, _, ⟨T67, L67, k67, n67⟩, -, X67, ⟨Lc67, hQ67, l67, y67, z67⟩, st67⟩ := X65.specialBack hx (y := (⟨"com/example/grey_steward/greysteward/core/ObjectId", "<init>", "(JJ)V"⟩ : MethodName)) rfl hown (mvT hZ (hw _ (List.mem_of_getElem? (i := 4) rfl))) (mvT hZ (hw _ (List.mem_of_getElem? (i := 5) rfl))) (mvT hZ (hw _ (List.mem_of_getElem? (i := 6) rfl))) (by decide) (backOf (W := 1) (rm1 l Z a0 hw [] b65 (q0 &&& (1152921504606846975 : Int64)) q1 h65 n0 Z65 A65 g_b65 F_first_b65 F_second_b65 (own_60 _)) hZ (hw _ (List.mem_of_getElem? (i := 6) rfl)) (hw _ (List.mem_of_getElem? (i := 3) rfl)) (by decide) (by decide)) (g := (mkF m 63 #[.val (.long q0), .second, .val (.long q1), .second, .val (.long q2), .second, .val (.long q3), .second, .val (.int p4), .val (.long (1152921504606846975 : Int64)), .second, .val (.long (q0 &&& (1152921504606846975 : Int64))), .second, .val (.long q1), .second, .val (.int (p4 &&& (3 : Int32))), .val (.long jv59), .second, .val (.long jv63), .second, .unset, .unset, .unset, .unset, .unset, .unset] [(.long q1), (.long (q0 &&& (1152921504606846975 : Int64))), (.ref b65), (.ref b65)])) rfl (by rw [hml]; rfl) (Steps.refl _) (a := b65) (argsL := [(.long (q0 &&& (1152921504606846975 : Int64))), (.long q1)]) (rest := [(.ref b65)]) (lenOf pd__28JJ_29V rfl) rfl (by show 2 * 0 + _ ≤ _; exact Nat.le_of_eq rfl) (hb hby at_63) (fun _ _ => ⟨rfl, e65, (by decide : 1 + 0 ≤ _), (by decide : 2 + 0 ≤ _)⟩)
  dsimp only [Pt.U, Pt.locs, Pt.cells, Pt.slots] at X67 l67 y67 z67 st67 hQ67
  subst l67 y67 z67
  obtain ⟨rfl, N67q, K67, Eq67, Fq67_first, Fq67_second⟩ := hQ67
  have N67 := Fr.app N0 N67q
  have KP67 : Keep h0 T67.heap [] := KP65.trans K67 (allS (Or.inr sz_b65) all0)
  have Z67 : n0 ≤ T67.heap.size := Nat.le_trans Z65 K67.1
  have O_68 : Old Z n0 T67.heap := O_66.keep K67 (allS g_b65 all0)
  have E_b65_69 : Exa Z T67.heap b65 "com/example/grey_steward/greysteward/core/ObjectId" := A65.keep K67
  obtain ⟨T70, h70, X70, e70, E70, A70, D70, -, st70⟩ := newO X67 hx hZ hown (hw _ (List.mem_of_getElem? (i := 1) rfl)) (hw _ (List.mem_of_getElem? (i := 2) rfl)) (hw _ (List.mem_of_getElem? (i := 3) rfl)) rfl (g := (mkF m 68 #[.val (.long q0), .second, .val (.long q1), .second, .val (.long q2), .second, .val (.long q3), .second, .val (.int p4), .val (.long (1152921504606846975 : Int64)), .second, .val (.long (q0 &&& (1152921504606846975 : Int64))), .second, .val (.long q1), .second, .val (.int (p4 &&& (3 : Int32))), .val (.long jv59), .second, .val (.long jv63), .second, .val (.ref b65), .unset, .unset, .unset, .unset, .unset] [])) rfl (hb hby at_68) (by decide) (by decide)
  obtain ⟨b70, g70⟩ : ∃ z, z = T67.heap.size := ⟨_, rfl⟩
  rw [← g70] at A70 D70 st70
  have ne_b65_b70 : b65 ≠ b70 := Nat.ne_of_lt (Nat.lt_of_lt_of_le Eq67.lt (Nat.le_of_eq g70.symm))
  have sz_b70 : h0.size ≤ b70 := Nat.le_trans KP67.1 (Nat.le_of_eq g70.symm)
  have g_b70 : n0 ≤ b70 := Nat.le_trans Z67 (Nat.le_of_eq g70.symm)
  have KP70 : Keep h0 h70 [] := KP67.ext E70
  have Z70 : n0 ≤ h70.size := Nat.le_trans Z67 E70.1
  have O_71 : Old Z n0 h70 := O_68.ext E70
  have E_b65_72 : Exa Z h70 b65 "com/example/grey_steward/greysteward/core/ObjectId" := Eq67.ext E70
  have F_b65_first_73 : Fld Z h70 b65 "com/example/grey_steward/greysteward/core/ObjectId" "first" "J" (.long (q0 &&& (1152921504606846975 : Int64))) := Fq67_first.ext E70
  have F_b65_second_74 : Fld Z h70 b65 "com/example/grey_steward/greysteward/core/ObjectId" "second" "J" (.long q1) := Fq67_second.ext E70
  have F_first_b70 : Fld Z h70 b70 "com/example/grey_steward/greysteward/core/ObjectId" "first" "J" (.long (0 : Int64)) := D70 (Or.inr (hw _ (List.mem_of_getElem? (i := 16) rfl))) (ty := .long) (by decide)
  have F_second_b70 : Fld Z h70 b70 "com/example/grey_steward/greysteward/core/ObjectId" "second" "J" (.long (0 : Int64)) := D70 (Or.inr (hw _ (List.mem_of_getElem? (i := 18) rfl))) (ty := .long) (by decide)
  obtain ⟨_, _, ⟨T75, L75, k75, n75⟩, -, X75, ⟨Lc75, hQ75, l75, y75, z75⟩, st75⟩ := X70.specialBack hx (y := (⟨"com/example/grey_steward/greysteward/core/ObjectId", "<init>", "(JJ)V"⟩ : MethodName)) rfl hown (mvT hZ (hw _ (List.mem_of_getElem? (i := 4) rfl))) (mvT hZ (hw _ (List.mem_of_getElem? (i := 5) rfl))) (mvT hZ (hw _ (List.mem_of_getElem? (i := 6) rfl))) (by decide) (backOf (W := 1) (rm1 l Z a0 hw [] b70 jv59 jv63 h70 n0 Z70 A70 g_b70 F_first_b70 F_second_b70 (by rw [hj_jv59]; split <;> exact own_60 _)) hZ (hw _ (List.mem_of_getElem? (i := 6) rfl)) (hw _ (List.mem_of_getElem? (i := 3) rfl)) (by decide) (by decide)) (g := (mkF m 76 #[.val (.long q0), .second, .val (.long q1), .second, .val (.long q2), .second, .val (.long q3), .second, .val (.int p4), .val (.long (1152921504606846975 : Int64)), .second, .val (.long (q0 &&& (1152921504606846975 : Int64))), .second, .val (.long q1), .second, .val (.int (p4 &&& (3 : Int32))), .val (.long jv59), .second, .val (.long jv63), .second, .val (.ref b65), .unset, .unset, .unset, .unset, .unset] [(.long jv63), (.long jv59), (.ref b70), (.ref b70)])) rfl (by rw [hml]; rfl) (Steps.refl _) (a := b70) (argsL := [(.long jv59), (.long jv63)]) (rest := [(.ref b70)]) (lenOf pd__28JJ_29V rfl) rfl (by show 2 * 0 + _ ≤ _; exact Nat.le_of_eq rfl) (hb hby at_76) (fun _ _ => ⟨rfl, e70, (by decide : 2 + 0 ≤ _), (by decide : 4 + 0 ≤ _)⟩)
  dsimp only [Pt.U, Pt.locs, Pt.cells, Pt.slots] at X75 l75 y75 z75 st75 hQ75
  subst l75 y75 z75
  obtain ⟨rfl, N75q, K75, Eq75, Fq75_first, Fq75_second⟩ := hQ75
  have N75 := Fr.app N67 N75q
  have KP75 : Keep h0 T75.heap [] := KP70.trans K75 (allS (Or.inr sz_b70) all0)
  have Z75 : n0 ≤ T75.heap.size := Nat.le_trans Z70 K75.1
  have O_76 : Old Z n0 T75.heap := O_71.keep K75 (allS g_b70 all0)
  have E_b65_77 : Exa Z T75.heap b65 "com/example/grey_steward/greysteward/core/ObjectId" := E_b65_72.keep K75
  have F_b65_first_78 : Fld Z T75.heap b65 "com/example/grey_steward/greysteward/core/ObjectId" "first" "J" (.long (q0 &&& (1152921504606846975 : Int64))) := F_b65_first_73.keep K75 (ninS ne_b65_b70 nin0)
  have F_b65_second_79 : Fld Z T75.heap b65 "com/example/grey_steward/greysteward/core/ObjectId" "second" "J" (.long q1) := F_b65_second_74.keep K75 (ninS ne_b65_b70 nin0)
  have E_b70_80 : Exa Z T75.heap b70 "com/example/grey_steward/greysteward/core/ObjectId" := A70.keep K75
  have pre82 : ∀ t, Steps p.tables e below (T75.setTop (mkF m 91 #[.val (.long q0), .second, .val (.long q1), .second, .val (.long q2), .second, .val (.long q3), .second, .val (.int p4), .val (.long (1152921504606846975 : Int64)), .second, .val (.long (q0 &&& (1152921504606846975 : Int64))), .second, .val (.long q1), .second, .val (.int (p4 &&& (3 : Int32))), .val (.long jv59), .second, .val (.long jv63), .second, .val (.ref b65), .val (.ref b70), .val (.int (((p4.toUInt32 >>> ((2 : Int32) &&& 31).toUInt32).toInt32) &&& (3 : Int32))), .unset, .unset, .unset] [(.int (((p4.toUInt32 >>> ((2 : Int32) &&& 31).toUInt32).toInt32) &&& (3 : Int32)))])) t → Steps p.tables e below (s₁.setTop (entryFrame m #[(.long q0), (.long q1), (.long q2), (.long q3), (.int p4)] maxLocals)) t := by
    intro t kk
    refine pre64 t ?_
    show Steps p.tables e below (s₁.setTop (mkF m 53 #[.val (.long q0), .second, .val (.long q1), .second, .val (.long q2), .second, .val (.long q3), .second, .val (.int p4), .val (.long (1152921504606846975 : Int64)), .second, .val (.long (q0 &&& (1152921504606846975 : Int64))), .second, .val (.long q1), .second, .val (.int (p4 &&& (3 : Int32))), .val (.long jv59), .second, .unset, .unset, .unset, .unset, .unset, .unset, .unset, .unset] [(.long jv63)])) _
    refine XS.lstore X0.here hx rfl (hb hby at_53) rfl (l' := #[.val (.long q0), .second, .val (.long q1), .second, .val (.long q2), .second, .val (.long q3), .second, .val (.int p4), .val (.long (1152921504606846975 : Int64)), .second, .val (.long (q0 &&& (1152921504606846975 : Int64))), .second, .val (.long q1), .second, .val (.int (p4 &&& (3 : Int32))), .val (.long jv59), .second, .val (.long jv63), .second, .unset, .unset, .unset, .unset, .unset, .unset]) rfl ?_
    show Steps p.tables e below (s₁.setTop (mkF m 55 #[.val (.long q0), .second, .val (.long q1), .second, .val (.long q2), .second, .val (.long q3), .second, .val (.int p4), .val (.long (1152921504606846975 : Int64)), .second, .val (.long (q0 &&& (1152921504606846975 : Int64))), .second, .val (.long q1), .second, .val (.int (p4 &&& (3 : Int32))), .val (.long jv59), .second, .val (.long jv63), .second, .unset, .unset, .unset, .unset, .unset, .unset] [])) _
    refine st65 _ ?_
    show Steps p.tables e below (T65.setTop (mkF m 58 #[.val (.long q0), .second, .val (.long q1), .second, .val (.long q2), .second, .val (.long q3), .second, .val (.int p4), .val (.long (1152921504606846975 : Int64)), .second, .val (.long (q0 &&& (1152921504606846975 : Int64))), .second, .val (.long q1), .second, .val (.int (p4 &&& (3 : Int32))), .val (.long jv59), .second, .val (.long jv63), .second, .unset, .unset, .unset, .unset, .unset, .unset] [(.ref b65)])) _
    refine XS.dup X65.here hx rfl (hb hby at_58) rfl rfl ?_
    show Steps p.tables e below (T65.setTop (mkF m 59 #[.val (.long q0), .second, .val (.long q1), .second, .val (.long q2), .second, .val (.long q3), .second, .val (.int p4), .val (.long (1152921504606846975 : Int64)), .second, .val (.long (q0 &&& (1152921504606846975 : Int64))), .second, .val (.long q1), .second, .val (.int (p4 &&& (3 : Int32))), .val (.long jv59), .second, .val (.long jv63), .second, .unset, .unset, .unset, .unset, .unset, .unset] [(.ref b65), (.ref b65)])) _
    refine XS.lload X65.here hx rfl (hb hby at_59) rfl ?_
    show Steps p.tables e below (T65.setTop (mkF m 61 #[.val (.long q0), .second, .val (.long q1), .second, .val (.long q2), .second, .val (.long q3), .second, .val (.int p4), .val (.long (1152921504606846975 : Int64)), .second, .val (.long (q0 &&& (1152921504606846975 : Int64))), .second, .val (.long q1), .second, .val (.int (p4 &&& (3 : Int32))), .val (.long jv59), .second, .val (.long jv63), .second, .unset, .unset, .unset, .unset, .unset, .unset] [(.long (q0 &&& (1152921504606846975 : Int64))), (.ref b65), (.ref b65)])) _
    refine XS.lload X65.here hx rfl (hb hby at_61) rfl ?_
    show Steps p.tables e below (T65.setTop (mkF m 63 #[.val (.long q0), .second, .val (.long q1), .second, .val (.long q2), .second, .val (.long q3), .second, .val (.int p4), .val (.long (1152921504606846975 : Int64)), .second, .val (.long (q0 &&& (1152921504606846975 : Int64))), .second, .val (.long q1), .second, .val (.int (p4 &&& (3 : Int32))), .val (.long jv59), .second, .val (.long jv63), .second, .unset, .unset, .unset, .unset, .unset, .unset] [(.long q1), (.long (q0 &&& (1152921504606846975 : Int64))), (.ref b65), (.ref b65)])) _
    refine st67.trans ?_
    show Steps p.tables e below (T67.setTop (mkF m 66 #[.val (.long q0), .second, .val (.long q1), .second, .val (.long q2), .second, .val (.long q3), .second, .val (.int p4), .val (.long (1152921504606846975 : Int64)), .second, .val (.long (q0 &&& (1152921504606846975 : Int64))), .second, .val (.long q1), .second, .val (.int (p4 &&& (3 : Int32))), .val (.long jv59), .second, .val (.long jv63), .second, .unset, .unset, .unset, .unset, .unset, .unset] [(.ref b65)])) _
    refine XS.astore X67.here hx rfl (hb hby at_66) rfl rfl (l' := #[.val (.long q0), .second, .val (.long q1), .second, .val (.long q2), .second, .val (.long q3), .second, .val (.int p4), .val (.long (1152921504606846975 : Int64)), .second, .val (.long (q0 &&& (1152921504606846975 : Int64))), .second, .val (.long q1), .second, .val (.int (p4 &&& (3 : Int32))), .val (.long jv59), .second, .val (.long jv63), .second, .val (.ref b65), .unset, .unset, .unset, .unset, .unset]) rfl ?_
    show Steps p.tables e below (T67.setTop (mkF m 68 #[.val (.long q0), .second, .val (.long q1), .second, .val (.long q2), .second, .val (.long q3), .second, .val (.int p4), .val (.long (1152921504606846975 : Int64)), .second, .val (.long (q0 &&& (1152921504606846975 : Int64))), .second, .val (.long q1), .second, .val (.int (p4 &&& (3 : Int32))), .val (.long jv59), .second, .val (.long jv63), .second, .val (.ref b65), .unset, .unset, .unset, .unset, .unset] [])) _
    refine st70 _ ?_
    show Steps p.tables e below (T70.setTop (mkF m 71 #[.val (.long q0), .second, .val (.long q1), .second, .val (.long q2), .second, .val (.long q3), .second, .val (.int p4), .val (.long (1152921504606846975 : Int64)), .second, .val (.long (q0 &&& (1152921504606846975 : Int64))), .second, .val (.long q1), .second, .val (.int (p4 &&& (3 : Int32))), .val (.long jv59), .second, .val (.long jv63), .second, .val (.ref b65), .unset, .unset, .unset, .unset, .unset] [(.ref b70)])) _
    refine XS.dup X70.here hx rfl (hb hby at_71) rfl rfl ?_
    show Steps p.tables e below (T70.setTop (mkF m 72 #[.val (.long q0), .second, .val (.long q1), .second, .val (.long q2), .second, .val (.long q3), .second, .val (.int p4), .val (.long (1152921504606846975 : Int64)), .second, .val (.long (q0 &&& (1152921504606846975 : Int64))), .second, .val (.long q1), .second, .val (.int (p4 &&& (3 : Int32))), .val (.long jv59), .second, .val (.long jv63), .second, .val (.ref b65), .unset, .unset, .unset, .unset, .unset] [(.ref b70), (.ref b70)])) _
    refine XS.lload X70.here hx rfl (hb hby at_72) rfl ?_
    show Steps p.tables e below (T70.setTop (mkF m 74 #[.val (.long q0), .second, .val (.long q1), .second, .val (.long q2), .second, .val (.long q3), .second, .val (.int p4), .val (.long (1152921504606846975 : Int64)), .second, .val (.long (q0 &&& (1152921504606846975 : Int64))), .second, .val (.long q1), .second, .val (.int (p4 &&& (3 : Int32))), .val (.long jv59), .second, .val (.long jv63), .second, .val (.ref b65), .unset, .unset, .unset, .unset, .unset] [(.long jv59), (.ref b70), (.ref b70)])) _
    refine XS.lload X70.here hx rfl (hb hby at_74) rfl ?_
    show Steps p.tables e below (T70.setTop (mkF m 76 #[.val (.long q0), .second, .val (.long q1), .second, .val (.long q2), .second, .val (.long q3), .second, .val (.int p4), .val (.long (1152921504606846975 : Int64)), .second, .val (.long (q0 &&& (1152921504606846975 : Int64))), .second, .val (.long q1), .second, .val (.int (p4 &&& (3 : Int32))), .val (.long jv59), .second, .val (.long jv63), .second, .val (.ref b65), .unset, .unset, .unset, .unset, .unset] [(.long jv63), (.long jv59), (.ref b70), (.ref b70)])) _
    refine st75.trans ?_
    show Steps p.tables e below (T75.setTop (mkF m 79 #[.val (.long q0), .second, .val (.long q1), .second, .val (.long q2), .second, .val (.long q3), .second, .val (.int p4), .val (.long (1152921504606846975 : Int64)), .second, .val (.long (q0 &&& (1152921504606846975 : Int64))), .second, .val (.long q1), .second, .val (.int (p4 &&& (3 : Int32))), .val (.long jv59), .second, .val (.long jv63), .second, .val (.ref b65), .unset, .unset, .unset, .unset, .unset] [(.ref b70)])) _
    refine XS.astore X75.here hx rfl (hb hby at_79) rfl rfl (l' := #[.val (.long q0), .second, .val (.long q1), .second, .val (.long q2), .second, .val (.long q3), .second, .val (.int p4), .val (.long (1152921504606846975 : Int64)), .second, .val (.long (q0 &&& (1152921504606846975 : Int64))), .second, .val (.long q1), .second, .val (.int (p4 &&& (3 : Int32))), .val (.long jv59), .second, .val (.long jv63), .second, .val (.ref b65), .val (.ref b70), .unset, .unset, .unset, .unset]) rfl ?_
    show Steps p.tables e below (T75.setTop (mkF m 81 #[.val (.long q0), .second, .val (.long q1), .second, .val (.long q2), .second, .val (.long q3), .second, .val (.int p4), .val (.long (1152921504606846975 : Int64)), .second, .val (.long (q0 &&& (1152921504606846975 : Int64))), .second, .val (.long q1), .second, .val (.int (p4 &&& (3 : Int32))), .val (.long jv59), .second, .val (.long jv63), .second, .val (.ref b65), .val (.ref b70), .unset, .unset, .unset, .unset] [])) _
    refine XS.iload X75.here hx rfl (hb hby at_81) rfl ?_
    show Steps p.tables e below (T75.setTop (mkF m 83 #[.val (.long q0), .second, .val (.long q1), .second, .val (.long q2), .second, .val (.long q3), .second, .val (.int p4), .val (.long (1152921504606846975 : Int64)), .second, .val (.long (q0 &&& (1152921504606846975 : Int64))), .second, .val (.long q1), .second, .val (.int (p4 &&& (3 : Int32))), .val (.long jv59), .second, .val (.long jv63), .second, .val (.ref b65), .val (.ref b70), .unset, .unset, .unset, .unset] [(.int p4)])) _
    refine XS.iconst X75.here hx rfl (hb hby at_83) ?_
    show Steps p.tables e below (T75.setTop (mkF m 84 #[.val (.long q0), .second, .val (.long q1), .second, .val (.long q2), .second, .val (.long q3), .second, .val (.int p4), .val (.long (1152921504606846975 : Int64)), .second, .val (.long (q0 &&& (1152921504606846975 : Int64))), .second, .val (.long q1), .second, .val (.int (p4 &&& (3 : Int32))), .val (.long jv59), .second, .val (.long jv63), .second, .val (.ref b65), .val (.ref b70), .unset, .unset, .unset, .unset] [(.int (2 : Int32)), (.int p4)])) _
    refine XS.iushr X75.here hx rfl (hb hby at_84) rfl ?_
    show Steps p.tables e below (T75.setTop (mkF m 85 #[.val (.long q0), .second, .val (.long q1), .second, .val (.long q2), .second, .val (.long q3), .second, .val (.int p4), .val (.long (1152921504606846975 : Int64)), .second, .val (.long (q0 &&& (1152921504606846975 : Int64))), .second, .val (.long q1), .second, .val (.int (p4 &&& (3 : Int32))), .val (.long jv59), .second, .val (.long jv63), .second, .val (.ref b65), .val (.ref b70), .unset, .unset, .unset, .unset] [(.int ((p4.toUInt32 >>> ((2 : Int32) &&& 31).toUInt32).toInt32))])) _
    refine XS.iconst X75.here hx rfl (hb hby at_85) ?_
    show Steps p.tables e below (T75.setTop (mkF m 86 #[.val (.long q0), .second, .val (.long q1), .second, .val (.long q2), .second, .val (.long q3), .second, .val (.int p4), .val (.long (1152921504606846975 : Int64)), .second, .val (.long (q0 &&& (1152921504606846975 : Int64))), .second, .val (.long q1), .second, .val (.int (p4 &&& (3 : Int32))), .val (.long jv59), .second, .val (.long jv63), .second, .val (.ref b65), .val (.ref b70), .unset, .unset, .unset, .unset] [(.int (3 : Int32)), (.int ((p4.toUInt32 >>> ((2 : Int32) &&& 31).toUInt32).toInt32))])) _
    refine XS.iand X75.here hx rfl (hb hby at_86) rfl ?_
    show Steps p.tables e below (T75.setTop (mkF m 87 #[.val (.long q0), .second, .val (.long q1), .second, .val (.long q2), .second, .val (.long q3), .second, .val (.int p4), .val (.long (1152921504606846975 : Int64)), .second, .val (.long (q0 &&& (1152921504606846975 : Int64))), .second, .val (.long q1), .second, .val (.int (p4 &&& (3 : Int32))), .val (.long jv59), .second, .val (.long jv63), .second, .val (.ref b65), .val (.ref b70), .unset, .unset, .unset, .unset] [(.int (((p4.toUInt32 >>> ((2 : Int32) &&& 31).toUInt32).toInt32) &&& (3 : Int32)))])) _
    refine XS.istore X75.here hx rfl (hb hby at_87) rfl (l' := #[.val (.long q0), .second, .val (.long q1), .second, .val (.long q2), .second, .val (.long q3), .second, .val (.int p4), .val (.long (1152921504606846975 : Int64)), .second, .val (.long (q0 &&& (1152921504606846975 : Int64))), .second, .val (.long q1), .second, .val (.int (p4 &&& (3 : Int32))), .val (.long jv59), .second, .val (.long jv63), .second, .val (.ref b65), .val (.ref b70), .val (.int (((p4.toUInt32 >>> ((2 : Int32) &&& 31).toUInt32).toInt32) &&& (3 : Int32))), .unset, .unset, .unset]) rfl ?_
    show Steps p.tables e below (T75.setTop (mkF m 89 #[.val (.long q0), .second, .val (.long q1), .second, .val (.long q2), .second, .val (.long q3), .second, .val (.int p4), .val (.long (1152921504606846975 : Int64)), .second, .val (.long (q0 &&& (1152921504606846975 : Int64))), .second, .val (.long q1), .second, .val (.int (p4 &&& (3 : Int32))), .val (.long jv59), .second, .val (.long jv63), .second, .val (.ref b65), .val (.ref b70), .val (.int (((p4.toUInt32 >>> ((2 : Int32) &&& 31).toUInt32).toInt32) &&& (3 : Int32))), .unset, .unset, .unset] [])) _
    refine XS.iload X75.here hx rfl (hb hby at_89) rfl ?_
    exact kk
  by_cases hc91_81 : (((p4.toUInt32 >>> ((2 : Int32) &&& 31).toUInt32).toInt32) &&& (3 : Int32)) = (0 : Int32)
  · have pre84 : ∀ t, Steps p.tables e below (T75.setTop (mkF m 103 #[.val (.long q0), .second, .val (.long q1), .second, .val (.long q2), .second, .val (.long q3), .second, .val (.int p4), .val (.long (1152921504606846975 : Int64)), .second, .val (.long (q0 &&& (1152921504606846975 : Int64))), .second, .val (.long q1), .second, .val (.int (p4 &&& (3 : Int32))), .val (.long jv59), .second, .val (.long jv63), .second, .val (.ref b65), .val (.ref b70), .val (.int (((p4.toUInt32 >>> ((2 : Int32) &&& 31).toUInt32).toInt32) &&& (3 : Int32))), .val (.ref b70), .unset, .unset] [(.int (lcmpW (q0 &&& (1152921504606846975 : Int64)) jv59))])) t → Steps p.tables e below (s₁.setTop (entryFrame m #[(.long q0), (.long q1), (.long q2), (.long q3), (.int p4)] maxLocals)) t := by
      intro t kk
      refine pre82 t ?_
      show Steps p.tables e below (T75.setTop (mkF m 91 #[.val (.long q0), .second, .val (.long q1), .second, .val (.long q2), .second, .val (.long q3), .second, .val (.int p4), .val (.long (1152921504606846975 : Int64)), .second, .val (.long (q0 &&& (1152921504606846975 : Int64))), .second, .val (.long q1), .second, .val (.int (p4 &&& (3 : Int32))), .val (.long jv59), .second, .val (.long jv63), .second, .val (.ref b65), .val (.ref b70), .val (.int (((p4.toUInt32 >>> ((2 : Int32) &&& 31).toUInt32).toInt32) &&& (3 : Int32))), .unset, .unset, .unset] [(.int (((p4.toUInt32 >>> ((2 : Int32) &&& 31).toUInt32).toInt32) &&& (3 : Int32)))])) _
      refine XS.ifNo X75.here hx rfl (hb hby at_91) rfl ((if0 _ _).trans (teq hc91_81).2) ?_
      show Steps p.tables e below (T75.setTop (mkF m 94 #[.val (.long q0), .second, .val (.long q1), .second, .val (.long q2), .second, .val (.long q3), .second, .val (.int p4), .val (.long (1152921504606846975 : Int64)), .second, .val (.long (q0 &&& (1152921504606846975 : Int64))), .second, .val (.long q1), .second, .val (.int (p4 &&& (3 : Int32))), .val (.long jv59), .second, .val (.long jv63), .second, .val (.ref b65), .val (.ref b70), .val (.int (((p4.toUInt32 >>> ((2 : Int32) &&& 31).toUInt32).toInt32) &&& (3 : Int32))), .unset, .unset, .unset] [])) _
      refine XS.aload X75.here hx rfl (hb hby at_94) rfl rfl ?_
      show Steps p.tables e below (T75.setTop (mkF m 96 #[.val (.long q0), .second, .val (.long q1), .second, .val (.long q2), .second, .val (.long q3), .second, .val (.int p4), .val (.long (1152921504606846975 : Int64)), .second, .val (.long (q0 &&& (1152921504606846975 : Int64))), .second, .val (.long q1), .second, .val (.int (p4 &&& (3 : Int32))), .val (.long jv59), .second, .val (.long jv63), .second, .val (.ref b65), .val (.ref b70), .val (.int (((p4.toUInt32 >>> ((2 : Int32) &&& 31).toUInt32).toInt32) &&& (3 : Int32))), .unset, .unset, .unset] [(.ref b70)])) _
      refine XS.astore X75.here hx rfl (hb hby at_96) rfl rfl (l' := #[.val (.long q0), .second, .val (.long q1), .second, .val (.long q2), .second, .val (.long q3), .second, .val (.int p4), .val (.long (1152921504606846975 : Int64)), .second, .val (.long (q0 &&& (1152921504606846975 : Int64))), .second, .val (.long q1), .second, .val (.int (p4 &&& (3 : Int32))), .val (.long jv59), .second, .val (.long jv63), .second, .val (.ref b65), .val (.ref b70), .val (.int (((p4.toUInt32 >>> ((2 : Int32) &&& 31).toUInt32).toInt32) &&& (3 : Int32))), .val (.ref b70), .unset, .unset]) rfl ?_
      show Steps p.tables e below (T75.setTop (mkF m 98 #[.val (.long q0), .second, .val (.long q1), .second, .val (.long q2), .second, .val (.long q3), .second, .val (.int p4), .val (.long (1152921504606846975 : Int64)), .second, .val (.long (q0 &&& (1152921504606846975 : Int64))), .second, .val (.long q1), .second, .val (.int (p4 &&& (3 : Int32))), .val (.long jv59), .second, .val (.long jv63), .second, .val (.ref b65), .val (.ref b70), .val (.int (((p4.toUInt32 >>> ((2 : Int32) &&& 31).toUInt32).toInt32) &&& (3 : Int32))), .val (.ref b70), .unset, .unset] [])) _
      refine XS.lload X75.here hx rfl (hb hby at_98) rfl ?_
      show Steps p.tables e below (T75.setTop (mkF m 100 #[.val (.long q0), .second, .val (.long q1), .second, .val (.long q2), .second, .val (.long q3), .second, .val (.int p4), .val (.long (1152921504606846975 : Int64)), .second, .val (.long (q0 &&& (1152921504606846975 : Int64))), .second, .val (.long q1), .second, .val (.int (p4 &&& (3 : Int32))), .val (.long jv59), .second, .val (.long jv63), .second, .val (.ref b65), .val (.ref b70), .val (.int (((p4.toUInt32 >>> ((2 : Int32) &&& 31).toUInt32).toInt32) &&& (3 : Int32))), .val (.ref b70), .unset, .unset] [(.long (q0 &&& (1152921504606846975 : Int64)))])) _
      refine XS.lload X75.here hx rfl (hb hby at_100) rfl ?_
      show Steps p.tables e below (T75.setTop (mkF m 102 #[.val (.long q0), .second, .val (.long q1), .second, .val (.long q2), .second, .val (.long q3), .second, .val (.int p4), .val (.long (1152921504606846975 : Int64)), .second, .val (.long (q0 &&& (1152921504606846975 : Int64))), .second, .val (.long q1), .second, .val (.int (p4 &&& (3 : Int32))), .val (.long jv59), .second, .val (.long jv63), .second, .val (.ref b65), .val (.ref b70), .val (.int (((p4.toUInt32 >>> ((2 : Int32) &&& 31).toUInt32).toInt32) &&& (3 : Int32))), .val (.ref b70), .unset, .unset] [(.long jv59), (.long (q0 &&& (1152921504606846975 : Int64)))])) _
      refine XS.lcmp X75.here hx rfl (hb hby at_102) rfl ?_
      exact kk
    by_cases hc103_83 : (q0 &&& (1152921504606846975 : Int64)) = jv59
    · have pre86 : ∀ t, Steps p.tables e below (T75.setTop (mkF m 111 #[.val (.long q0), .second, .val (.long q1), .second, .val (.long q2), .second, .val (.long q3), .second, .val (.int p4), .val (.long (1152921504606846975 : Int64)), .second, .val (.long (q0 &&& (1152921504606846975 : Int64))), .second, .val (.long q1), .second, .val (.int (p4 &&& (3 : Int32))), .val (.long jv59), .second, .val (.long jv63), .second, .val (.ref b65), .val (.ref b70), .val (.int (((p4.toUInt32 >>> ((2 : Int32) &&& 31).toUInt32).toInt32) &&& (3 : Int32))), .val (.ref b70), .unset, .unset] [(.int (lcmpW q1 jv63))])) t → Steps p.tables e below (s₁.setTop (entryFrame m #[(.long q0), (.long q1), (.long q2), (.long q3), (.int p4)] maxLocals)) t := by
        intro t kk
        refine pre84 t ?_
        show Steps p.tables e below (T75.setTop (mkF m 103 #[.val (.long q0), .second, .val (.long q1), .second, .val (.long q2), .second, .val (.long q3), .second, .val (.int p4), .val (.long (1152921504606846975 : Int64)), .second, .val (.long (q0 &&& (1152921504606846975 : Int64))), .second, .val (.long q1), .second, .val (.int (p4 &&& (3 : Int32))), .val (.long jv59), .second, .val (.long jv63), .second, .val (.ref b65), .val (.ref b70), .val (.int (((p4.toUInt32 >>> ((2 : Int32) &&& 31).toUInt32).toInt32) &&& (3 : Int32))), .val (.ref b70), .unset, .unset] [(.int (lcmpW (q0 &&& (1152921504606846975 : Int64)) jv59))])) _
        refine XS.ifNo X75.here hx rfl (hb hby at_103) rfl ((if0 _ _).trans (teq ((lw_eq (q0 &&& (1152921504606846975 : Int64)) jv59).mpr hc103_83)).2) ?_
        show Steps p.tables e below (T75.setTop (mkF m 106 #[.val (.long q0), .second, .val (.long q1), .second, .val (.long q2), .second, .val (.long q3), .second, .val (.int p4), .val (.long (1152921504606846975 : Int64)), .second, .val (.long (q0 &&& (1152921504606846975 : Int64))), .second, .val (.long q1), .second, .val (.int (p4 &&& (3 : Int32))), .val (.long jv59), .second, .val (.long jv63), .second, .val (.ref b65), .val (.ref b70), .val (.int (((p4.toUInt32 >>> ((2 : Int32) &&& 31).toUInt32).toInt32) &&& (3 : Int32))), .val (.ref b70), .unset, .unset] [])) _
        refine XS.lload X75.here hx rfl (hb hby at_106) rfl ?_
        show Steps p.tables e below (T75.setTop (mkF m 108 #[.val (.long q0), .second, .val (.long q1), .second, .val (.long q2), .second, .val (.long q3), .second, .val (.int p4), .val (.long (1152921504606846975 : Int64)), .second, .val (.long (q0 &&& (1152921504606846975 : Int64))), .second, .val (.long q1), .second, .val (.int (p4 &&& (3 : Int32))), .val (.long jv59), .second, .val (.long jv63), .second, .val (.ref b65), .val (.ref b70), .val (.int (((p4.toUInt32 >>> ((2 : Int32) &&& 31).toUInt32).toInt32) &&& (3 : Int32))), .val (.ref b70), .unset, .unset] [(.long q1)])) _
        refine XS.lload X75.here hx rfl (hb hby at_108) rfl ?_
        show Steps p.tables e below (T75.setTop (mkF m 110 #[.val (.long q0), .second, .val (.long q1), .second, .val (.long q2), .second, .val (.long q3), .second, .val (.int p4), .val (.long (1152921504606846975 : Int64)), .second, .val (.long (q0 &&& (1152921504606846975 : Int64))), .second, .val (.long q1), .second, .val (.int (p4 &&& (3 : Int32))), .val (.long jv59), .second, .val (.long jv63), .second, .val (.ref b65), .val (.ref b70), .val (.int (((p4.toUInt32 >>> ((2 : Int32) &&& 31).toUInt32).toInt32) &&& (3 : Int32))), .val (.ref b70), .unset, .unset] [(.long jv63), (.long q1)])) _
        refine XS.lcmp X75.here hx rfl (hb hby at_110) rfl ?_
        exact kk
      by_cases hc111_85 : q1 = jv63
      · obtain ⟨cq87, kq87, q87a, q87b, q87c⟩ := isOf hZ rfl Eq75
        obtain ⟨_, _, ⟨T87, L87, k87, n87⟩, -, X87, ⟨Lc87, hQ87, l87, y87, z87⟩, st87⟩ := X75.virtualBack hx (y := (⟨"com/example/grey_steward/greysteward/core/ObjectId", "equals", "(Ljava/lang/Object;)Z"⟩ : MethodName)) (z := (⟨"com/example/grey_steward/greysteward/core/ObjectId", "equals", "(Ljava/lang/Object;)Z"⟩ : MethodName)) hown (mvT hZ (hw _ (List.mem_of_getElem? (i := 19) rfl))) (mvT hZ (hw _ (List.mem_of_getElem? (i := 20) rfl))) (notFace_of_selects (args := #[]) (mvT hZ (hw _ (List.mem_of_getElem? (i := 22) rfl)))) (mvT hZ (hw _ (List.mem_of_getElem? (i := 22) rfl))) (mvT hZ (hw _ (List.mem_of_getElem? (i := 21) rfl))) (by decide) (backOf (W := 0) (rm4o l Z a0 hw [] b70 b65 jv59 jv63 (q0 &&& (1152921504606846975 : Int64)) q1 T75.heap n0 Z75 E_b65_77 Fq75_first Fq75_second F_b65_first_78 F_b65_second_79) hZ (hw _ (List.mem_of_getElem? (i := 23) rfl)) (hw _ (List.mem_of_getElem? (i := 3) rfl)) (by decide) (by decide)) q87a q87c (g := (mkF m 174 #[.val (.long q0), .second, .val (.long q1), .second, .val (.long q2), .second, .val (.long q3), .second, .val (.int p4), .val (.long (1152921504606846975 : Int64)), .second, .val (.long (q0 &&& (1152921504606846975 : Int64))), .second, .val (.long q1), .second, .val (.int (p4 &&& (3 : Int32))), .val (.long jv59), .second, .val (.long jv63), .second, .val (.ref b65), .val (.ref b70), .val (.int (((p4.toUInt32 >>> ((2 : Int32) &&& 31).toUInt32).toInt32) &&& (3 : Int32))), .val (.ref b70), .val (.int (1 : Int32)), .unset] [(.ref b65), (.ref b70)])) rfl (by rw [hml]; rfl) (Steps.refl _) (argsL := [(.ref b65)]) (rest := []) (lenOf pd__28Ljava_2flang_2fObject_3b_29Z rfl) rfl (by show 2 * 0 + _ ≤ _; exact Nat.le_of_eq rfl) (hb hby at_174) (fun _ _ => ⟨rfl, rfl, (by decide : 2 + 0 ≤ _), (by decide : 4 + 0 ≤ _)⟩)
        dsimp only [Pt.U, Pt.locs, Pt.cells, Pt.slots] at X87 l87 y87 z87 st87 hQ87
        subst l87 y87 z87
        obtain ⟨rfl, N87q, e87⟩ := hQ87
        have N87 := Fr.app N75 N87q
        obtain ⟨cq88, kq88, q88a, q88b, q88c⟩ := isOf hZ e87 E_b65_77
        obtain ⟨_, _, ⟨T88, L88, k88, n88⟩, -, X88, ⟨Lc88, hQ88, l88, y88, z88⟩, st88⟩ := X87.virtualBack hx (y := (⟨"com/example/grey_steward/greysteward/core/ObjectId", "equals", "(Ljava/lang/Object;)Z"⟩ : MethodName)) (z := (⟨"com/example/grey_steward/greysteward/core/ObjectId", "equals", "(Ljava/lang/Object;)Z"⟩ : MethodName)) hown (mvT hZ (hw _ (List.mem_of_getElem? (i := 19) rfl))) (mvT hZ (hw _ (List.mem_of_getElem? (i := 20) rfl))) (notFace_of_selects (args := #[]) (mvT hZ (hw _ (List.mem_of_getElem? (i := 22) rfl)))) (mvT hZ (hw _ (List.mem_of_getElem? (i := 22) rfl))) (mvT hZ (hw _ (List.mem_of_getElem? (i := 21) rfl))) (by decide) (backOf (W := 0) (rm4o l Z a0 hw [] b65 b70 (q0 &&& (1152921504606846975 : Int64)) q1 jv59 jv63 T75.heap n0 Z75 Eq75 F_b65_first_78 F_b65_second_79 Fq75_first Fq75_second) hZ (hw _ (List.mem_of_getElem? (i := 23) rfl)) (hw _ (List.mem_of_getElem? (i := 3) rfl)) (by decide) (by decide)) q88a q88c (g := (mkF m 193 #[.val (.long q0), .second, .val (.long q1), .second, .val (.long q2), .second, .val (.long q3), .second, .val (.int p4), .val (.long (1152921504606846975 : Int64)), .second, .val (.long (q0 &&& (1152921504606846975 : Int64))), .second, .val (.long q1), .second, .val (.int (p4 &&& (3 : Int32))), .val (.long jv59), .second, .val (.long jv63), .second, .val (.ref b65), .val (.ref b70), .val (.int (((p4.toUInt32 >>> ((2 : Int32) &&& 31).toUInt32).toInt32) &&& (3 : Int32))), .val (.ref b70), .val (.int (1 : Int32)), .val (.int (1 : Int32))] [(.ref b70), (.ref b65)])) rfl (by rw [hml]; rfl) (Steps.refl _) (argsL := [(.ref b70)]) (rest := []) (lenOf pd__28Ljava_2flang_2fObject_3b_29Z rfl) rfl (by show 2 * 0 + _ ≤ _; exact Nat.le_of_eq rfl) (hb hby at_193) (fun _ _ => ⟨rfl, e87, (by decide : 2 + 0 ≤ _), (by decide : 4 + 0 ≤ _)⟩)
        dsimp only [Pt.U, Pt.locs, Pt.cells, Pt.slots] at X88 l88 y88 z88 st88 hQ88
        subst l88 y88 z88
        obtain ⟨rfl, N88q, e88⟩ := hQ88
        have N88 := Fr.app N87 N88q
        have pre89 : ∀ t, Steps p.tables e below (T88.setTop (mkF m 211 #[.val (.long q0), .second, .val (.long q1), .second, .val (.long q2), .second, .val (.long q3), .second, .val (.int p4), .val (.long (1152921504606846975 : Int64)), .second, .val (.long (q0 &&& (1152921504606846975 : Int64))), .second, .val (.long q1), .second, .val (.int (p4 &&& (3 : Int32))), .val (.long jv59), .second, .val (.long jv63), .second, .val (.ref b65), .val (.ref b70), .val (.int (((p4.toUInt32 >>> ((2 : Int32) &&& 31).toUInt32).toInt32) &&& (3 : Int32))), .val (.ref b70), .val (.int (1 : Int32)), .val (.int (1 : Int32))] [(.int (1 : Int32))])) t → Steps p.tables e below (s₁.setTop (entryFrame m #[(.long q0), (.long q1), (.long q2), (.long q3), (.int p4)] maxLocals)) t := by
          intro t kk
          refine pre86 t ?_
          show Steps p.tables e below (T75.setTop (mkF m 111 #[.val (.long q0), .second, .val (.long q1), .second, .val (.long q2), .second, .val (.long q3), .second, .val (.int p4), .val (.long (1152921504606846975 : Int64)), .second, .val (.long (q0 &&& (1152921504606846975 : Int64))), .second, .val (.long q1), .second, .val (.int (p4 &&& (3 : Int32))), .val (.long jv59), .second, .val (.long jv63), .second, .val (.ref b65), .val (.ref b70), .val (.int (((p4.toUInt32 >>> ((2 : Int32) &&& 31).toUInt32).toInt32) &&& (3 : Int32))), .val (.ref b70), .unset, .unset] [(.int (lcmpW q1 jv63))])) _
          refine XS.ifNo X75.here hx rfl (hb hby at_111) rfl ((if0 _ _).trans (teq ((lw_eq q1 jv63).mpr hc111_85)).2) ?_
          show Steps p.tables e below (T75.setTop (mkF m 114 #[.val (.long q0), .second, .val (.long q1), .second, .val (.long q2), .second, .val (.long q3), .second, .val (.int p4), .val (.long (1152921504606846975 : Int64)), .second, .val (.long (q0 &&& (1152921504606846975 : Int64))), .second, .val (.long q1), .second, .val (.int (p4 &&& (3 : Int32))), .val (.long jv59), .second, .val (.long jv63), .second, .val (.ref b65), .val (.ref b70), .val (.int (((p4.toUInt32 >>> ((2 : Int32) &&& 31).toUInt32).toInt32) &&& (3 : Int32))), .val (.ref b70), .unset, .unset] [])) _
          refine XS.iconst X75.here hx rfl (hb hby at_114) ?_
          show Steps p.tables e below (T75.setTop (mkF m 115 #[.val (.long q0), .second, .val (.long q1), .second, .val (.long q2), .second, .val (.long q3), .second, .val (.int p4), .val (.long (1152921504606846975 : Int64)), .second, .val (.long (q0 &&& (1152921504606846975 : Int64))), .second, .val (.long q1), .second, .val (.int (p4 &&& (3 : Int32))), .val (.long jv59), .second, .val (.long jv63), .second, .val (.ref b65), .val (.ref b70), .val (.int (((p4.toUInt32 >>> ((2 : Int32) &&& 31).toUInt32).toInt32) &&& (3 : Int32))), .val (.ref b70), .unset, .unset] [(.int (1 : Int32))])) _
          refine XS.goto X75.here hx rfl (pc0 := 115) (pc' := 119) rfl (hb hby at_115) (by decide) (by decide) ?_
          show Steps p.tables e below (T75.setTop (mkF m 119 #[.val (.long q0), .second, .val (.long q1), .second, .val (.long q2), .second, .val (.long q3), .second, .val (.int p4), .val (.long (1152921504606846975 : Int64)), .second, .val (.long (q0 &&& (1152921504606846975 : Int64))), .second, .val (.long q1), .second, .val (.int (p4 &&& (3 : Int32))), .val (.long jv59), .second, .val (.long jv63), .second, .val (.ref b65), .val (.ref b70), .val (.int (((p4.toUInt32 >>> ((2 : Int32) &&& 31).toUInt32).toInt32) &&& (3 : Int32))), .val (.ref b70), .unset, .unset] [(.int (1 : Int32))])) _
          refine XS.istore X75.here hx rfl (hb hby at_119) rfl (l' := #[.val (.long q0), .second, .val (.long q1), .second, .val (.long q2), .second, .val (.long q3), .second, .val (.int p4), .val (.long (1152921504606846975 : Int64)), .second, .val (.long (q0 &&& (1152921504606846975 : Int64))), .second, .val (.long q1), .second, .val (.int (p4 &&& (3 : Int32))), .val (.long jv59), .second, .val (.long jv63), .second, .val (.ref b65), .val (.ref b70), .val (.int (((p4.toUInt32 >>> ((2 : Int32) &&& 31).toUInt32).toInt32) &&& (3 : Int32))), .val (.ref b70), .val (.int (1 : Int32)), .unset]) rfl ?_
          show Steps p.tables e below (T75.setTop (mkF m 121 #[.val (.long q0), .second, .val (.long q1), .second, .val (.long q2), .second, .val (.long q3), .second, .val (.int p4), .val (.long (1152921504606846975 : Int64)), .second, .val (.long (q0 &&& (1152921504606846975 : Int64))), .second, .val (.long q1), .second, .val (.int (p4 &&& (3 : Int32))), .val (.long jv59), .second, .val (.long jv63), .second, .val (.ref b65), .val (.ref b70), .val (.int (((p4.toUInt32 >>> ((2 : Int32) &&& 31).toUInt32).toInt32) &&& (3 : Int32))), .val (.ref b70), .val (.int (1 : Int32)), .unset] [])) _
          refine XS.goto X75.here hx rfl (pc0 := 121) (pc' := 165) rfl (hb hby at_121) (by decide) (by decide) ?_
          show Steps p.tables e below (T75.setTop (mkF m 165 #[.val (.long q0), .second, .val (.long q1), .second, .val (.long q2), .second, .val (.long q3), .second, .val (.int p4), .val (.long (1152921504606846975 : Int64)), .second, .val (.long (q0 &&& (1152921504606846975 : Int64))), .second, .val (.long q1), .second, .val (.int (p4 &&& (3 : Int32))), .val (.long jv59), .second, .val (.long jv63), .second, .val (.ref b65), .val (.ref b70), .val (.int (((p4.toUInt32 >>> ((2 : Int32) &&& 31).toUInt32).toInt32) &&& (3 : Int32))), .val (.ref b70), .val (.int (1 : Int32)), .unset] [])) _
          refine XS.iload X75.here hx rfl (hb hby at_165) rfl ?_
          show Steps p.tables e below (T75.setTop (mkF m 167 #[.val (.long q0), .second, .val (.long q1), .second, .val (.long q2), .second, .val (.long q3), .second, .val (.int p4), .val (.long (1152921504606846975 : Int64)), .second, .val (.long (q0 &&& (1152921504606846975 : Int64))), .second, .val (.long q1), .second, .val (.int (p4 &&& (3 : Int32))), .val (.long jv59), .second, .val (.long jv63), .second, .val (.ref b65), .val (.ref b70), .val (.int (((p4.toUInt32 >>> ((2 : Int32) &&& 31).toUInt32).toInt32) &&& (3 : Int32))), .val (.ref b70), .val (.int (1 : Int32)), .unset] [(.int (((p4.toUInt32 >>> ((2 : Int32) &&& 31).toUInt32).toInt32) &&& (3 : Int32)))])) _
          refine XS.ifNo X75.here hx rfl (hb hby at_167) rfl ((if0 _ _).trans (teq hc91_81).2) ?_
          show Steps p.tables e below (T75.setTop (mkF m 170 #[.val (.long q0), .second, .val (.long q1), .second, .val (.long q2), .second, .val (.long q3), .second, .val (.int p4), .val (.long (1152921504606846975 : Int64)), .second, .val (.long (q0 &&& (1152921504606846975 : Int64))), .second, .val (.long q1), .second, .val (.int (p4 &&& (3 : Int32))), .val (.long jv59), .second, .val (.long jv63), .second, .val (.ref b65), .val (.ref b70), .val (.int (((p4.toUInt32 >>> ((2 : Int32) &&& 31).toUInt32).toInt32) &&& (3 : Int32))), .val (.ref b70), .val (.int (1 : Int32)), .unset] [])) _
          refine XS.aload X75.here hx rfl (hb hby at_170) rfl rfl ?_
          show Steps p.tables e below (T75.setTop (mkF m 172 #[.val (.long q0), .second, .val (.long q1), .second, .val (.long q2), .second, .val (.long q3), .second, .val (.int p4), .val (.long (1152921504606846975 : Int64)), .second, .val (.long (q0 &&& (1152921504606846975 : Int64))), .second, .val (.long q1), .second, .val (.int (p4 &&& (3 : Int32))), .val (.long jv59), .second, .val (.long jv63), .second, .val (.ref b65), .val (.ref b70), .val (.int (((p4.toUInt32 >>> ((2 : Int32) &&& 31).toUInt32).toInt32) &&& (3 : Int32))), .val (.ref b70), .val (.int (1 : Int32)), .unset] [(.ref b70)])) _
          refine XS.aload X75.here hx rfl (hb hby at_172) rfl rfl ?_
          show Steps p.tables e below (T75.setTop (mkF m 174 #[.val (.long q0), .second, .val (.long q1), .second, .val (.long q2), .second, .val (.long q3), .second, .val (.int p4), .val (.long (1152921504606846975 : Int64)), .second, .val (.long (q0 &&& (1152921504606846975 : Int64))), .second, .val (.long q1), .second, .val (.int (p4 &&& (3 : Int32))), .val (.long jv59), .second, .val (.long jv63), .second, .val (.ref b65), .val (.ref b70), .val (.int (((p4.toUInt32 >>> ((2 : Int32) &&& 31).toUInt32).toInt32) &&& (3 : Int32))), .val (.ref b70), .val (.int (1 : Int32)), .unset] [(.ref b65), (.ref b70)])) _
          refine st87.trans ?_
          show Steps p.tables e below (T87.setTop (mkF m 177 #[.val (.long q0), .second, .val (.long q1), .second, .val (.long q2), .second, .val (.long q3), .second, .val (.int p4), .val (.long (1152921504606846975 : Int64)), .second, .val (.long (q0 &&& (1152921504606846975 : Int64))), .second, .val (.long q1), .second, .val (.int (p4 &&& (3 : Int32))), .val (.long jv59), .second, .val (.long jv63), .second, .val (.ref b65), .val (.ref b70), .val (.int (((p4.toUInt32 >>> ((2 : Int32) &&& 31).toUInt32).toInt32) &&& (3 : Int32))), .val (.ref b70), .val (.int (1 : Int32)), .unset] [(.int (F4o b70 b65 jv59 jv63 (q0 &&& (1152921504606846975 : Int64)) q1))])) _
          refine XS.iload X87.here hx rfl (hb hby at_177) rfl ?_
          show Steps p.tables e below (T87.setTop (mkF m 179 #[.val (.long q0), .second, .val (.long q1), .second, .val (.long q2), .second, .val (.long q3), .second, .val (.int p4), .val (.long (1152921504606846975 : Int64)), .second, .val (.long (q0 &&& (1152921504606846975 : Int64))), .second, .val (.long q1), .second, .val (.int (p4 &&& (3 : Int32))), .val (.long jv59), .second, .val (.long jv63), .second, .val (.ref b65), .val (.ref b70), .val (.int (((p4.toUInt32 >>> ((2 : Int32) &&& 31).toUInt32).toInt32) &&& (3 : Int32))), .val (.ref b70), .val (.int (1 : Int32)), .unset] [(.int (1 : Int32)), (.int (F4o b70 b65 jv59 jv63 (q0 &&& (1152921504606846975 : Int64)) q1))])) _
          refine XS.icmpNo X87.here hx rfl (hb hby at_179) rfl (teq (show (F4o b70 b65 jv59 jv63 (q0 &&& (1152921504606846975 : Int64)) q1) = (1 : Int32) from (if_pos hc103_83.symm).trans (if_pos hc111_85.symm))).2 ?_
          show Steps p.tables e below (T87.setTop (mkF m 182 #[.val (.long q0), .second, .val (.long q1), .second, .val (.long q2), .second, .val (.long q3), .second, .val (.int p4), .val (.long (1152921504606846975 : Int64)), .second, .val (.long (q0 &&& (1152921504606846975 : Int64))), .second, .val (.long q1), .second, .val (.int (p4 &&& (3 : Int32))), .val (.long jv59), .second, .val (.long jv63), .second, .val (.ref b65), .val (.ref b70), .val (.int (((p4.toUInt32 >>> ((2 : Int32) &&& 31).toUInt32).toInt32) &&& (3 : Int32))), .val (.ref b70), .val (.int (1 : Int32)), .unset] [])) _
          refine XS.iconst X87.here hx rfl (hb hby at_182) ?_
          show Steps p.tables e below (T87.setTop (mkF m 183 #[.val (.long q0), .second, .val (.long q1), .second, .val (.long q2), .second, .val (.long q3), .second, .val (.int p4), .val (.long (1152921504606846975 : Int64)), .second, .val (.long (q0 &&& (1152921504606846975 : Int64))), .second, .val (.long q1), .second, .val (.int (p4 &&& (3 : Int32))), .val (.long jv59), .second, .val (.long jv63), .second, .val (.ref b65), .val (.ref b70), .val (.int (((p4.toUInt32 >>> ((2 : Int32) &&& 31).toUInt32).toInt32) &&& (3 : Int32))), .val (.ref b70), .val (.int (1 : Int32)), .unset] [(.int (1 : Int32))])) _
          refine XS.goto X87.here hx rfl (pc0 := 183) (pc' := 187) rfl (hb hby at_183) (by decide) (by decide) ?_
          show Steps p.tables e below (T87.setTop (mkF m 187 #[.val (.long q0), .second, .val (.long q1), .second, .val (.long q2), .second, .val (.long q3), .second, .val (.int p4), .val (.long (1152921504606846975 : Int64)), .second, .val (.long (q0 &&& (1152921504606846975 : Int64))), .second, .val (.long q1), .second, .val (.int (p4 &&& (3 : Int32))), .val (.long jv59), .second, .val (.long jv63), .second, .val (.ref b65), .val (.ref b70), .val (.int (((p4.toUInt32 >>> ((2 : Int32) &&& 31).toUInt32).toInt32) &&& (3 : Int32))), .val (.ref b70), .val (.int (1 : Int32)), .unset] [(.int (1 : Int32))])) _
          refine XS.istore X87.here hx rfl (hb hby at_187) rfl (l' := #[.val (.long q0), .second, .val (.long q1), .second, .val (.long q2), .second, .val (.long q3), .second, .val (.int p4), .val (.long (1152921504606846975 : Int64)), .second, .val (.long (q0 &&& (1152921504606846975 : Int64))), .second, .val (.long q1), .second, .val (.int (p4 &&& (3 : Int32))), .val (.long jv59), .second, .val (.long jv63), .second, .val (.ref b65), .val (.ref b70), .val (.int (((p4.toUInt32 >>> ((2 : Int32) &&& 31).toUInt32).toInt32) &&& (3 : Int32))), .val (.ref b70), .val (.int (1 : Int32)), .val (.int (1 : Int32))]) rfl ?_
          show Steps p.tables e below (T87.setTop (mkF m 189 #[.val (.long q0), .second, .val (.long q1), .second, .val (.long q2), .second, .val (.long q3), .second, .val (.int p4), .val (.long (1152921504606846975 : Int64)), .second, .val (.long (q0 &&& (1152921504606846975 : Int64))), .second, .val (.long q1), .second, .val (.int (p4 &&& (3 : Int32))), .val (.long jv59), .second, .val (.long jv63), .second, .val (.ref b65), .val (.ref b70), .val (.int (((p4.toUInt32 >>> ((2 : Int32) &&& 31).toUInt32).toInt32) &&& (3 : Int32))), .val (.ref b70), .val (.int (1 : Int32)), .val (.int (1 : Int32))] [])) _
          refine XS.aload X87.here hx rfl (hb hby at_189) rfl rfl ?_
          show Steps p.tables e below (T87.setTop (mkF m 191 #[.val (.long q0), .second, .val (.long q1), .second, .val (.long q2), .second, .val (.long q3), .second, .val (.int p4), .val (.long (1152921504606846975 : Int64)), .second, .val (.long (q0 &&& (1152921504606846975 : Int64))), .second, .val (.long q1), .second, .val (.int (p4 &&& (3 : Int32))), .val (.long jv59), .second, .val (.long jv63), .second, .val (.ref b65), .val (.ref b70), .val (.int (((p4.toUInt32 >>> ((2 : Int32) &&& 31).toUInt32).toInt32) &&& (3 : Int32))), .val (.ref b70), .val (.int (1 : Int32)), .val (.int (1 : Int32))] [(.ref b65)])) _
          refine XS.aload X87.here hx rfl (hb hby at_191) rfl rfl ?_
          show Steps p.tables e below (T87.setTop (mkF m 193 #[.val (.long q0), .second, .val (.long q1), .second, .val (.long q2), .second, .val (.long q3), .second, .val (.int p4), .val (.long (1152921504606846975 : Int64)), .second, .val (.long (q0 &&& (1152921504606846975 : Int64))), .second, .val (.long q1), .second, .val (.int (p4 &&& (3 : Int32))), .val (.long jv59), .second, .val (.long jv63), .second, .val (.ref b65), .val (.ref b70), .val (.int (((p4.toUInt32 >>> ((2 : Int32) &&& 31).toUInt32).toInt32) &&& (3 : Int32))), .val (.ref b70), .val (.int (1 : Int32)), .val (.int (1 : Int32))] [(.ref b70), (.ref b65)])) _
          refine st88.trans ?_
          show Steps p.tables e below (T88.setTop (mkF m 196 #[.val (.long q0), .second, .val (.long q1), .second, .val (.long q2), .second, .val (.long q3), .second, .val (.int p4), .val (.long (1152921504606846975 : Int64)), .second, .val (.long (q0 &&& (1152921504606846975 : Int64))), .second, .val (.long q1), .second, .val (.int (p4 &&& (3 : Int32))), .val (.long jv59), .second, .val (.long jv63), .second, .val (.ref b65), .val (.ref b70), .val (.int (((p4.toUInt32 >>> ((2 : Int32) &&& 31).toUInt32).toInt32) &&& (3 : Int32))), .val (.ref b70), .val (.int (1 : Int32)), .val (.int (1 : Int32))] [(.int (F4o b65 b70 (q0 &&& (1152921504606846975 : Int64)) q1 jv59 jv63))])) _
          refine XS.iload X88.here hx rfl (hb hby at_196) rfl ?_
          show Steps p.tables e below (T88.setTop (mkF m 198 #[.val (.long q0), .second, .val (.long q1), .second, .val (.long q2), .second, .val (.long q3), .second, .val (.int p4), .val (.long (1152921504606846975 : Int64)), .second, .val (.long (q0 &&& (1152921504606846975 : Int64))), .second, .val (.long q1), .second, .val (.int (p4 &&& (3 : Int32))), .val (.long jv59), .second, .val (.long jv63), .second, .val (.ref b65), .val (.ref b70), .val (.int (((p4.toUInt32 >>> ((2 : Int32) &&& 31).toUInt32).toInt32) &&& (3 : Int32))), .val (.ref b70), .val (.int (1 : Int32)), .val (.int (1 : Int32))] [(.int (1 : Int32)), (.int (F4o b65 b70 (q0 &&& (1152921504606846975 : Int64)) q1 jv59 jv63))])) _
          refine XS.icmpNo X88.here hx rfl (hb hby at_198) rfl (teq (show (F4o b65 b70 (q0 &&& (1152921504606846975 : Int64)) q1 jv59 jv63) = (1 : Int32) from (if_pos hc103_83).trans (if_pos hc111_85))).2 ?_
          show Steps p.tables e below (T88.setTop (mkF m 201 #[.val (.long q0), .second, .val (.long q1), .second, .val (.long q2), .second, .val (.long q3), .second, .val (.int p4), .val (.long (1152921504606846975 : Int64)), .second, .val (.long (q0 &&& (1152921504606846975 : Int64))), .second, .val (.long q1), .second, .val (.int (p4 &&& (3 : Int32))), .val (.long jv59), .second, .val (.long jv63), .second, .val (.ref b65), .val (.ref b70), .val (.int (((p4.toUInt32 >>> ((2 : Int32) &&& 31).toUInt32).toInt32) &&& (3 : Int32))), .val (.ref b70), .val (.int (1 : Int32)), .val (.int (1 : Int32))] [])) _
          refine XS.iload X88.here hx rfl (hb hby at_201) rfl ?_
          show Steps p.tables e below (T88.setTop (mkF m 203 #[.val (.long q0), .second, .val (.long q1), .second, .val (.long q2), .second, .val (.long q3), .second, .val (.int p4), .val (.long (1152921504606846975 : Int64)), .second, .val (.long (q0 &&& (1152921504606846975 : Int64))), .second, .val (.long q1), .second, .val (.int (p4 &&& (3 : Int32))), .val (.long jv59), .second, .val (.long jv63), .second, .val (.ref b65), .val (.ref b70), .val (.int (((p4.toUInt32 >>> ((2 : Int32) &&& 31).toUInt32).toInt32) &&& (3 : Int32))), .val (.ref b70), .val (.int (1 : Int32)), .val (.int (1 : Int32))] [(.int (1 : Int32))])) _
          refine XS.ifNo X88.here hx rfl (hb hby at_203) rfl ((if0 _ _).trans (feq (by decide : ¬ ((1 : Int32) = (0 : Int32)))).1) ?_
          show Steps p.tables e below (T88.setTop (mkF m 206 #[.val (.long q0), .second, .val (.long q1), .second, .val (.long q2), .second, .val (.long q3), .second, .val (.int p4), .val (.long (1152921504606846975 : Int64)), .second, .val (.long (q0 &&& (1152921504606846975 : Int64))), .second, .val (.long q1), .second, .val (.int (p4 &&& (3 : Int32))), .val (.long jv59), .second, .val (.long jv63), .second, .val (.ref b65), .val (.ref b70), .val (.int (((p4.toUInt32 >>> ((2 : Int32) &&& 31).toUInt32).toInt32) &&& (3 : Int32))), .val (.ref b70), .val (.int (1 : Int32)), .val (.int (1 : Int32))] [])) _
          refine XS.iconst X88.here hx rfl (hb hby at_206) ?_
          show Steps p.tables e below (T88.setTop (mkF m 207 #[.val (.long q0), .second, .val (.long q1), .second, .val (.long q2), .second, .val (.long q3), .second, .val (.int p4), .val (.long (1152921504606846975 : Int64)), .second, .val (.long (q0 &&& (1152921504606846975 : Int64))), .second, .val (.long q1), .second, .val (.int (p4 &&& (3 : Int32))), .val (.long jv59), .second, .val (.long jv63), .second, .val (.ref b65), .val (.ref b70), .val (.int (((p4.toUInt32 >>> ((2 : Int32) &&& 31).toUInt32).toInt32) &&& (3 : Int32))), .val (.ref b70), .val (.int (1 : Int32)), .val (.int (1 : Int32))] [(.int (1 : Int32))])) _
          refine XS.goto X88.here hx rfl (pc0 := 207) (pc' := 211) rfl (hb hby at_207) (by decide) (by decide) ?_
          exact kk
        obtain ⟨fs, hr, hrun, hended, hW, hsame⟩ := X88.leave (v := some (.int (1 : Int32))) (fun h => by rw [Bd.returns] at h; cases h)
        refine ⟨_, _, pre89 _ ?_, hrun, hended, _, _, rfl, ?_, ⟨_, rfl⟩, hW, hsame.mono (by decide) (by decide)⟩
        · show Steps p.tables e below (T88.setTop (mkF m 211 #[.val (.long q0), .second, .val (.long q1), .second, .val (.long q2), .second, .val (.long q3), .second, .val (.int p4), .val (.long (1152921504606846975 : Int64)), .second, .val (.long (q0 &&& (1152921504606846975 : Int64))), .second, .val (.long q1), .second, .val (.int (p4 &&& (3 : Int32))), .val (.long jv59), .second, .val (.long jv63), .second, .val (.ref b65), .val (.ref b70), .val (.int (((p4.toUInt32 >>> ((2 : Int32) &&& 31).toUInt32).toInt32) &&& (3 : Int32))), .val (.ref b70), .val (.int (1 : Int32)), .val (.int (1 : Int32))] [(.int (1 : Int32))])) _
          exact retN X88 hx (t := .boolean) Bd.returns (by simp) (hb hby at_211) hr
        · show Q0 Z q0 q1 q2 q3 p4 ca h0 n0 _ T88.heap _
          rw [e88]
          exact ⟨rfl, N88⟩
      · obtain ⟨cq90, kq90, q90a, q90b, q90c⟩ := isOf hZ rfl Eq75
        obtain ⟨_, _, ⟨T90, L90, k90, n90⟩, -, X90, ⟨Lc90, hQ90, l90, y90, z90⟩, st90⟩ := X75.virtualBack hx (y := (⟨"com/example/grey_steward/greysteward/core/ObjectId", "equals", "(Ljava/lang/Object;)Z"⟩ : MethodName)) (z := (⟨"com/example/grey_steward/greysteward/core/ObjectId", "equals", "(Ljava/lang/Object;)Z"⟩ : MethodName)) hown (mvT hZ (hw _ (List.mem_of_getElem? (i := 19) rfl))) (mvT hZ (hw _ (List.mem_of_getElem? (i := 20) rfl))) (notFace_of_selects (args := #[]) (mvT hZ (hw _ (List.mem_of_getElem? (i := 22) rfl)))) (mvT hZ (hw _ (List.mem_of_getElem? (i := 22) rfl))) (mvT hZ (hw _ (List.mem_of_getElem? (i := 21) rfl))) (by decide) (backOf (W := 0) (rm4o l Z a0 hw [] b70 b65 jv59 jv63 (q0 &&& (1152921504606846975 : Int64)) q1 T75.heap n0 Z75 E_b65_77 Fq75_first Fq75_second F_b65_first_78 F_b65_second_79) hZ (hw _ (List.mem_of_getElem? (i := 23) rfl)) (hw _ (List.mem_of_getElem? (i := 3) rfl)) (by decide) (by decide)) q90a q90c (g := (mkF m 174 #[.val (.long q0), .second, .val (.long q1), .second, .val (.long q2), .second, .val (.long q3), .second, .val (.int p4), .val (.long (1152921504606846975 : Int64)), .second, .val (.long (q0 &&& (1152921504606846975 : Int64))), .second, .val (.long q1), .second, .val (.int (p4 &&& (3 : Int32))), .val (.long jv59), .second, .val (.long jv63), .second, .val (.ref b65), .val (.ref b70), .val (.int (((p4.toUInt32 >>> ((2 : Int32) &&& 31).toUInt32).toInt32) &&& (3 : Int32))), .val (.ref b70), .val (.int (0 : Int32)), .unset] [(.ref b65), (.ref b70)])) rfl (by rw [hml]; rfl) (Steps.refl _) (argsL := [(.ref b65)]) (rest := []) (lenOf pd__28Ljava_2flang_2fObject_3b_29Z rfl) rfl (by show 2 * 0 + _ ≤ _; exact Nat.le_of_eq rfl) (hb hby at_174) (fun _ _ => ⟨rfl, rfl, (by decide : 2 + 0 ≤ _), (by decide : 4 + 0 ≤ _)⟩)
        dsimp only [Pt.U, Pt.locs, Pt.cells, Pt.slots] at X90 l90 y90 z90 st90 hQ90
        subst l90 y90 z90
        obtain ⟨rfl, N90q, e90⟩ := hQ90
        have N90 := Fr.app N75 N90q
        obtain ⟨cq91, kq91, q91a, q91b, q91c⟩ := isOf hZ e90 E_b65_77
        obtain ⟨_, _, ⟨T91, L91, k91, n91⟩, -, X91, ⟨Lc91, hQ91, l91, y91, z91⟩, st91⟩ := X90.virtualBack hx (y := (⟨"com/example/grey_steward/greysteward/core/ObjectId", "equals", "(Ljava/lang/Object;)Z"⟩ : MethodName)) (z := (⟨"com/example/grey_steward/greysteward/core/ObjectId", "equals", "(Ljava/lang/Object;)Z"⟩ : MethodName)) hown (mvT hZ (hw _ (List.mem_of_getElem? (i := 19) rfl))) (mvT hZ (hw _ (List.mem_of_getElem? (i := 20) rfl))) (notFace_of_selects (args := #[]) (mvT hZ (hw _ (List.mem_of_getElem? (i := 22) rfl)))) (mvT hZ (hw _ (List.mem_of_getElem? (i := 22) rfl))) (mvT hZ (hw _ (List.mem_of_getElem? (i := 21) rfl))) (by decide) (backOf (W := 0) (rm4o l Z a0 hw [] b65 b70 (q0 &&& (1152921504606846975 : Int64)) q1 jv59 jv63 T75.heap n0 Z75 Eq75 F_b65_first_78 F_b65_second_79 Fq75_first Fq75_second) hZ (hw _ (List.mem_of_getElem? (i := 23) rfl)) (hw _ (List.mem_of_getElem? (i := 3) rfl)) (by decide) (by decide)) q91a q91c (g := (mkF m 193 #[.val (.long q0), .second, .val (.long q1), .second, .val (.long q2), .second, .val (.long q3), .second, .val (.int p4), .val (.long (1152921504606846975 : Int64)), .second, .val (.long (q0 &&& (1152921504606846975 : Int64))), .second, .val (.long q1), .second, .val (.int (p4 &&& (3 : Int32))), .val (.long jv59), .second, .val (.long jv63), .second, .val (.ref b65), .val (.ref b70), .val (.int (((p4.toUInt32 >>> ((2 : Int32) &&& 31).toUInt32).toInt32) &&& (3 : Int32))), .val (.ref b70), .val (.int (0 : Int32)), .val (.int (1 : Int32))] [(.ref b70), (.ref b65)])) rfl (by rw [hml]; rfl) (Steps.refl _) (argsL := [(.ref b70)]) (rest := []) (lenOf pd__28Ljava_2flang_2fObject_3b_29Z rfl) rfl (by show 2 * 0 + _ ≤ _; exact Nat.le_of_eq rfl) (hb hby at_193) (fun _ _ => ⟨rfl, e90, (by decide : 2 + 0 ≤ _), (by decide : 4 + 0 ≤ _)⟩)
        dsimp only [Pt.U, Pt.locs, Pt.cells, Pt.slots] at X91 l91 y91 z91 st91 hQ91
        subst l91 y91 z91
        obtain ⟨rfl, N91q, e91⟩ := hQ91
        have N91 := Fr.app N90 N91q
        have pre92 : ∀ t, Steps p.tables e below (T91.setTop (mkF m 211 #[.val (.long q0), .second, .val (.long q1), .second, .val (.long q2), .second, .val (.long q3), .second, .val (.int p4), .val (.long (1152921504606846975 : Int64)), .second, .val (.long (q0 &&& (1152921504606846975 : Int64))), .second, .val (.long q1), .second, .val (.int (p4 &&& (3 : Int32))), .val (.long jv59), .second, .val (.long jv63), .second, .val (.ref b65), .val (.ref b70), .val (.int (((p4.toUInt32 >>> ((2 : Int32) &&& 31).toUInt32).toInt32) &&& (3 : Int32))), .val (.ref b70), .val (.int (0 : Int32)), .val (.int (1 : Int32))] [(.int (1 : Int32))])) t → Steps p.tables e below (s₁.setTop (entryFrame m #[(.long q0), (.long q1), (.long q2), (.long q3), (.int p4)] maxLocals)) t := by
          intro t kk
          refine pre86 t ?_
          show Steps p.tables e below (T75.setTop (mkF m 111 #[.val (.long q0), .second, .val (.long q1), .second, .val (.long q2), .second, .val (.long q3), .second, .val (.int p4), .val (.long (1152921504606846975 : Int64)), .second, .val (.long (q0 &&& (1152921504606846975 : Int64))), .second, .val (.long q1), .second, .val (.int (p4 &&& (3 : Int32))), .val (.long jv59), .second, .val (.long jv63), .second, .val (.ref b65), .val (.ref b70), .val (.int (((p4.toUInt32 >>> ((2 : Int32) &&& 31).toUInt32).toInt32) &&& (3 : Int32))), .val (.ref b70), .unset, .unset] [(.int (lcmpW q1 jv63))])) _
          refine XS.ifYes X75.here hx rfl (pc0 := 111) (pc' := 118) rfl (hb hby at_111) rfl ((if0 _ _).trans (feq (fun q => hc111_85 ((lw_eq q1 jv63).mp q))).2) (by decide) (by decide) ?_
          show Steps p.tables e below (T75.setTop (mkF m 118 #[.val (.long q0), .second, .val (.long q1), .second, .val (.long q2), .second, .val (.long q3), .second, .val (.int p4), .val (.long (1152921504606846975 : Int64)), .second, .val (.long (q0 &&& (1152921504606846975 : Int64))), .second, .val (.long q1), .second, .val (.int (p4 &&& (3 : Int32))), .val (.long jv59), .second, .val (.long jv63), .second, .val (.ref b65), .val (.ref b70), .val (.int (((p4.toUInt32 >>> ((2 : Int32) &&& 31).toUInt32).toInt32) &&& (3 : Int32))), .val (.ref b70), .unset, .unset] [])) _
          refine XS.iconst X75.here hx rfl (hb hby at_118) ?_
          show Steps p.tables e below (T75.setTop (mkF m 119 #[.val (.long q0), .second, .val (.long q1), .second, .val (.long q2), .second, .val (.long q3), .second, .val (.int p4), .val (.long (1152921504606846975 : Int64)), .second, .val (.long (q0 &&& (1152921504606846975 : Int64))), .second, .val (.long q1), .second, .val (.int (p4 &&& (3 : Int32))), .val (.long jv59), .second, .val (.long jv63), .second, .val (.ref b65), .val (.ref b70), .val (.int (((p4.toUInt32 >>> ((2 : Int32) &&& 31).toUInt32).toInt32) &&& (3 : Int32))), .val (.ref b70), .unset, .unset] [(.int (0 : Int32))])) _
          refine XS.istore X75.here hx rfl (hb hby at_119) rfl (l' := #[.val (.long q0), .second, .val (.long q1), .second, .val (.long q2), .second, .val (.long q3), .second, .val (.int p4), .val (.long (1152921504606846975 : Int64)), .second, .val (.long (q0 &&& (1152921504606846975 : Int64))), .second, .val (.long q1), .second, .val (.int (p4 &&& (3 : Int32))), .val (.long jv59), .second, .val (.long jv63), .second, .val (.ref b65), .val (.ref b70), .val (.int (((p4.toUInt32 >>> ((2 : Int32) &&& 31).toUInt32).toInt32) &&& (3 : Int32))), .val (.ref b70), .val (.int (0 : Int32)), .unset]) rfl ?_
          show Steps p.tables e below (T75.setTop (mkF m 121 #[.val (.long q0), .second, .val (.long q1), .second, .val (.long q2), .second, .val (.long q3), .second, .val (.int p4), .val (.long (1152921504606846975 : Int64)), .second, .val (.long (q0 &&& (1152921504606846975 : Int64))), .second, .val (.long q1), .second, .val (.int (p4 &&& (3 : Int32))), .val (.long jv59), .second, .val (.long jv63), .second, .val (.ref b65), .val (.ref b70), .val (.int (((p4.toUInt32 >>> ((2 : Int32) &&& 31).toUInt32).toInt32) &&& (3 : Int32))), .val (.ref b70), .val (.int (0 : Int32)), .unset] [])) _
          refine XS.goto X75.here hx rfl (pc0 := 121) (pc' := 165) rfl (hb hby at_121) (by decide) (by decide) ?_
          show Steps p.tables e below (T75.setTop (mkF m 165 #[.val (.long q0), .second, .val (.long q1), .second, .val (.long q2), .second, .val (.long q3), .second, .val (.int p4), .val (.long (1152921504606846975 : Int64)), .second, .val (.long (q0 &&& (1152921504606846975 : Int64))), .second, .val (.long q1), .second, .val (.int (p4 &&& (3 : Int32))), .val (.long jv59), .second, .val (.long jv63), .second, .val (.ref b65), .val (.ref b70), .val (.int (((p4.toUInt32 >>> ((2 : Int32) &&& 31).toUInt32).toInt32) &&& (3 : Int32))), .val (.ref b70), .val (.int (0 : Int32)), .unset] [])) _
          refine XS.iload X75.here hx rfl (hb hby at_165) rfl ?_
          show Steps p.tables e below (T75.setTop (mkF m 167 #[.val (.long q0), .second, .val (.long q1), .second, .val (.long q2), .second, .val (.long q3), .second, .val (.int p4), .val (.long (1152921504606846975 : Int64)), .second, .val (.long (q0 &&& (1152921504606846975 : Int64))), .second, .val (.long q1), .second, .val (.int (p4 &&& (3 : Int32))), .val (.long jv59), .second, .val (.long jv63), .second, .val (.ref b65), .val (.ref b70), .val (.int (((p4.toUInt32 >>> ((2 : Int32) &&& 31).toUInt32).toInt32) &&& (3 : Int32))), .val (.ref b70), .val (.int (0 : Int32)), .unset] [(.int (((p4.toUInt32 >>> ((2 : Int32) &&& 31).toUInt32).toInt32) &&& (3 : Int32)))])) _
          refine XS.ifNo X75.here hx rfl (hb hby at_167) rfl ((if0 _ _).trans (teq hc91_81).2) ?_
          show Steps p.tables e below (T75.setTop (mkF m 170 #[.val (.long q0), .second, .val (.long q1), .second, .val (.long q2), .second, .val (.long q3), .second, .val (.int p4), .val (.long (1152921504606846975 : Int64)), .second, .val (.long (q0 &&& (1152921504606846975 : Int64))), .second, .val (.long q1), .second, .val (.int (p4 &&& (3 : Int32))), .val (.long jv59), .second, .val (.long jv63), .second, .val (.ref b65), .val (.ref b70), .val (.int (((p4.toUInt32 >>> ((2 : Int32) &&& 31).toUInt32).toInt32) &&& (3 : Int32))), .val (.ref b70), .val (.int (0 : Int32)), .unset] [])) _
          refine XS.aload X75.here hx rfl (hb hby at_170) rfl rfl ?_
          show Steps p.tables e below (T75.setTop (mkF m 172 #[.val (.long q0), .second, .val (.long q1), .second, .val (.long q2), .second, .val (.long q3), .second, .val (.int p4), .val (.long (1152921504606846975 : Int64)), .second, .val (.long (q0 &&& (1152921504606846975 : Int64))), .second, .val (.long q1), .second, .val (.int (p4 &&& (3 : Int32))), .val (.long jv59), .second, .val (.long jv63), .second, .val (.ref b65), .val (.ref b70), .val (.int (((p4.toUInt32 >>> ((2 : Int32) &&& 31).toUInt32).toInt32) &&& (3 : Int32))), .val (.ref b70), .val (.int (0 : Int32)), .unset] [(.ref b70)])) _
          refine XS.aload X75.here hx rfl (hb hby at_172) rfl rfl ?_
          show Steps p.tables e below (T75.setTop (mkF m 174 #[.val (.long q0), .second, .val (.long q1), .second, .val (.long q2), .second, .val (.long q3), .second, .val (.int p4), .val (.long (1152921504606846975 : Int64)), .second, .val (.long (q0 &&& (1152921504606846975 : Int64))), .second, .val (.long q1), .second, .val (.int (p4 &&& (3 : Int32))), .val (.long jv59), .second, .val (.long jv63), .second, .val (.ref b65), .val (.ref b70), .val (.int (((p4.toUInt32 >>> ((2 : Int32) &&& 31).toUInt32).toInt32) &&& (3 : Int32))), .val (.ref b70), .val (.int (0 : Int32)), .unset] [(.ref b65), (.ref b70)])) _
          refine st90.trans ?_
          show Steps p.tables e below (T90.setTop (mkF m 177 #[.val (.long q0), .second, .val (.long q1), .second, .val (.long q2), .second, .val (.long q3), .second, .val (.int p4), .val (.long (1152921504606846975 : Int64)), .second, .val (.long (q0 &&& (1152921504606846975 : Int64))), .second, .val (.long q1), .second, .val (.int (p4 &&& (3 : Int32))), .val (.long jv59), .second, .val (.long jv63), .second, .val (.ref b65), .val (.ref b70), .val (.int (((p4.toUInt32 >>> ((2 : Int32) &&& 31).toUInt32).toInt32) &&& (3 : Int32))), .val (.ref b70), .val (.int (0 : Int32)), .unset] [(.int (F4o b70 b65 jv59 jv63 (q0 &&& (1152921504606846975 : Int64)) q1))])) _
          refine XS.iload X90.here hx rfl (hb hby at_177) rfl ?_
          show Steps p.tables e below (T90.setTop (mkF m 179 #[.val (.long q0), .second, .val (.long q1), .second, .val (.long q2), .second, .val (.long q3), .second, .val (.int p4), .val (.long (1152921504606846975 : Int64)), .second, .val (.long (q0 &&& (1152921504606846975 : Int64))), .second, .val (.long q1), .second, .val (.int (p4 &&& (3 : Int32))), .val (.long jv59), .second, .val (.long jv63), .second, .val (.ref b65), .val (.ref b70), .val (.int (((p4.toUInt32 >>> ((2 : Int32) &&& 31).toUInt32).toInt32) &&& (3 : Int32))), .val (.ref b70), .val (.int (0 : Int32)), .unset] [(.int (0 : Int32)), (.int (F4o b70 b65 jv59 jv63 (q0 &&& (1152921504606846975 : Int64)) q1))])) _
          refine XS.icmpNo X90.here hx rfl (hb hby at_179) rfl (teq (show (F4o b70 b65 jv59 jv63 (q0 &&& (1152921504606846975 : Int64)) q1) = (0 : Int32) from (if_pos hc103_83.symm).trans (if_neg (fun q => hc111_85 q.symm)))).2 ?_
          show Steps p.tables e below (T90.setTop (mkF m 182 #[.val (.long q0), .second, .val (.long q1), .second, .val (.long q2), .second, .val (.long q3), .second, .val (.int p4), .val (.long (1152921504606846975 : Int64)), .second, .val (.long (q0 &&& (1152921504606846975 : Int64))), .second, .val (.long q1), .second, .val (.int (p4 &&& (3 : Int32))), .val (.long jv59), .second, .val (.long jv63), .second, .val (.ref b65), .val (.ref b70), .val (.int (((p4.toUInt32 >>> ((2 : Int32) &&& 31).toUInt32).toInt32) &&& (3 : Int32))), .val (.ref b70), .val (.int (0 : Int32)), .unset] [])) _
          refine XS.iconst X90.here hx rfl (hb hby at_182) ?_
          show Steps p.tables e below (T90.setTop (mkF m 183 #[.val (.long q0), .second, .val (.long q1), .second, .val (.long q2), .second, .val (.long q3), .second, .val (.int p4), .val (.long (1152921504606846975 : Int64)), .second, .val (.long (q0 &&& (1152921504606846975 : Int64))), .second, .val (.long q1), .second, .val (.int (p4 &&& (3 : Int32))), .val (.long jv59), .second, .val (.long jv63), .second, .val (.ref b65), .val (.ref b70), .val (.int (((p4.toUInt32 >>> ((2 : Int32) &&& 31).toUInt32).toInt32) &&& (3 : Int32))), .val (.ref b70), .val (.int (0 : Int32)), .unset] [(.int (1 : Int32))])) _
          refine XS.goto X90.here hx rfl (pc0 := 183) (pc' := 187) rfl (hb hby at_183) (by decide) (by decide) ?_
          show Steps p.tables e below (T90.setTop (mkF m 187 #[.val (.long q0), .second, .val (.long q1), .second, .val (.long q2), .second, .val (.long q3), .second, .val (.int p4), .val (.long (1152921504606846975 : Int64)), .second, .val (.long (q0 &&& (1152921504606846975 : Int64))), .second, .val (.long q1), .second, .val (.int (p4 &&& (3 : Int32))), .val (.long jv59), .second, .val (.long jv63), .second, .val (.ref b65), .val (.ref b70), .val (.int (((p4.toUInt32 >>> ((2 : Int32) &&& 31).toUInt32).toInt32) &&& (3 : Int32))), .val (.ref b70), .val (.int (0 : Int32)), .unset] [(.int (1 : Int32))])) _
          refine XS.istore X90.here hx rfl (hb hby at_187) rfl (l' := #[.val (.long q0), .second, .val (.long q1), .second, .val (.long q2), .second, .val (.long q3), .second, .val (.int p4), .val (.long (1152921504606846975 : Int64)), .second, .val (.long (q0 &&& (1152921504606846975 : Int64))), .second, .val (.long q1), .second, .val (.int (p4 &&& (3 : Int32))), .val (.long jv59), .second, .val (.long jv63), .second, .val (.ref b65), .val (.ref b70), .val (.int (((p4.toUInt32 >>> ((2 : Int32) &&& 31).toUInt32).toInt32) &&& (3 : Int32))), .val (.ref b70), .val (.int (0 : Int32)), .val (.int (1 : Int32))]) rfl ?_
          show Steps p.tables e below (T90.setTop (mkF m 189 #[.val (.long q0), .second, .val (.long q1), .second, .val (.long q2), .second, .val (.long q3), .second, .val (.int p4), .val (.long (1152921504606846975 : Int64)), .second, .val (.long (q0 &&& (1152921504606846975 : Int64))), .second, .val (.long q1), .second, .val (.int (p4 &&& (3 : Int32))), .val (.long jv59), .second, .val (.long jv63), .second, .val (.ref b65), .val (.ref b70), .val (.int (((p4.toUInt32 >>> ((2 : Int32) &&& 31).toUInt32).toInt32) &&& (3 : Int32))), .val (.ref b70), .val (.int (0 : Int32)), .val (.int (1 : Int32))] [])) _
          refine XS.aload X90.here hx rfl (hb hby at_189) rfl rfl ?_
          show Steps p.tables e below (T90.setTop (mkF m 191 #[.val (.long q0), .second, .val (.long q1), .second, .val (.long q2), .second, .val (.long q3), .second, .val (.int p4), .val (.long (1152921504606846975 : Int64)), .second, .val (.long (q0 &&& (1152921504606846975 : Int64))), .second, .val (.long q1), .second, .val (.int (p4 &&& (3 : Int32))), .val (.long jv59), .second, .val (.long jv63), .second, .val (.ref b65), .val (.ref b70), .val (.int (((p4.toUInt32 >>> ((2 : Int32) &&& 31).toUInt32).toInt32) &&& (3 : Int32))), .val (.ref b70), .val (.int (0 : Int32)), .val (.int (1 : Int32))] [(.ref b65)])) _
          refine XS.aload X90.here hx rfl (hb hby at_191) rfl rfl ?_
          show Steps p.tables e below (T90.setTop (mkF m 193 #[.val (.long q0), .second, .val (.long q1), .second, .val (.long q2), .second, .val (.long q3), .second, .val (.int p4), .val (.long (1152921504606846975 : Int64)), .second, .val (.long (q0 &&& (1152921504606846975 : Int64))), .second, .val (.long q1), .second, .val (.int (p4 &&& (3 : Int32))), .val (.long jv59), .second, .val (.long jv63), .second, .val (.ref b65), .val (.ref b70), .val (.int (((p4.toUInt32 >>> ((2 : Int32) &&& 31).toUInt32).toInt32) &&& (3 : Int32))), .val (.ref b70), .val (.int (0 : Int32)), .val (.int (1 : Int32))] [(.ref b70), (.ref b65)])) _
          refine st91.trans ?_
          show Steps p.tables e below (T91.setTop (mkF m 196 #[.val (.long q0), .second, .val (.long q1), .second, .val (.long q2), .second, .val (.long q3), .second, .val (.int p4), .val (.long (1152921504606846975 : Int64)), .second, .val (.long (q0 &&& (1152921504606846975 : Int64))), .second, .val (.long q1), .second, .val (.int (p4 &&& (3 : Int32))), .val (.long jv59), .second, .val (.long jv63), .second, .val (.ref b65), .val (.ref b70), .val (.int (((p4.toUInt32 >>> ((2 : Int32) &&& 31).toUInt32).toInt32) &&& (3 : Int32))), .val (.ref b70), .val (.int (0 : Int32)), .val (.int (1 : Int32))] [(.int (F4o b65 b70 (q0 &&& (1152921504606846975 : Int64)) q1 jv59 jv63))])) _
          refine XS.iload X91.here hx rfl (hb hby at_196) rfl ?_
          show Steps p.tables e below (T91.setTop (mkF m 198 #[.val (.long q0), .second, .val (.long q1), .second, .val (.long q2), .second, .val (.long q3), .second, .val (.int p4), .val (.long (1152921504606846975 : Int64)), .second, .val (.long (q0 &&& (1152921504606846975 : Int64))), .second, .val (.long q1), .second, .val (.int (p4 &&& (3 : Int32))), .val (.long jv59), .second, .val (.long jv63), .second, .val (.ref b65), .val (.ref b70), .val (.int (((p4.toUInt32 >>> ((2 : Int32) &&& 31).toUInt32).toInt32) &&& (3 : Int32))), .val (.ref b70), .val (.int (0 : Int32)), .val (.int (1 : Int32))] [(.int (0 : Int32)), (.int (F4o b65 b70 (q0 &&& (1152921504606846975 : Int64)) q1 jv59 jv63))])) _
          refine XS.icmpNo X91.here hx rfl (hb hby at_198) rfl (teq (show (F4o b65 b70 (q0 &&& (1152921504606846975 : Int64)) q1 jv59 jv63) = (0 : Int32) from (if_pos hc103_83).trans (if_neg hc111_85))).2 ?_
          show Steps p.tables e below (T91.setTop (mkF m 201 #[.val (.long q0), .second, .val (.long q1), .second, .val (.long q2), .second, .val (.long q3), .second, .val (.int p4), .val (.long (1152921504606846975 : Int64)), .second, .val (.long (q0 &&& (1152921504606846975 : Int64))), .second, .val (.long q1), .second, .val (.int (p4 &&& (3 : Int32))), .val (.long jv59), .second, .val (.long jv63), .second, .val (.ref b65), .val (.ref b70), .val (.int (((p4.toUInt32 >>> ((2 : Int32) &&& 31).toUInt32).toInt32) &&& (3 : Int32))), .val (.ref b70), .val (.int (0 : Int32)), .val (.int (1 : Int32))] [])) _
          refine XS.iload X91.here hx rfl (hb hby at_201) rfl ?_
          show Steps p.tables e below (T91.setTop (mkF m 203 #[.val (.long q0), .second, .val (.long q1), .second, .val (.long q2), .second, .val (.long q3), .second, .val (.int p4), .val (.long (1152921504606846975 : Int64)), .second, .val (.long (q0 &&& (1152921504606846975 : Int64))), .second, .val (.long q1), .second, .val (.int (p4 &&& (3 : Int32))), .val (.long jv59), .second, .val (.long jv63), .second, .val (.ref b65), .val (.ref b70), .val (.int (((p4.toUInt32 >>> ((2 : Int32) &&& 31).toUInt32).toInt32) &&& (3 : Int32))), .val (.ref b70), .val (.int (0 : Int32)), .val (.int (1 : Int32))] [(.int (1 : Int32))])) _
          refine XS.ifNo X91.here hx rfl (hb hby at_203) rfl ((if0 _ _).trans (feq (by decide : ¬ ((1 : Int32) = (0 : Int32)))).1) ?_
          show Steps p.tables e below (T91.setTop (mkF m 206 #[.val (.long q0), .second, .val (.long q1), .second, .val (.long q2), .second, .val (.long q3), .second, .val (.int p4), .val (.long (1152921504606846975 : Int64)), .second, .val (.long (q0 &&& (1152921504606846975 : Int64))), .second, .val (.long q1), .second, .val (.int (p4 &&& (3 : Int32))), .val (.long jv59), .second, .val (.long jv63), .second, .val (.ref b65), .val (.ref b70), .val (.int (((p4.toUInt32 >>> ((2 : Int32) &&& 31).toUInt32).toInt32) &&& (3 : Int32))), .val (.ref b70), .val (.int (0 : Int32)), .val (.int (1 : Int32))] [])) _
          refine XS.iconst X91.here hx rfl (hb hby at_206) ?_
          show Steps p.tables e below (T91.setTop (mkF m 207 #[.val (.long q0), .second, .val (.long q1), .second, .val (.long q2), .second, .val (.long q3), .second, .val (.int p4), .val (.long (1152921504606846975 : Int64)), .second, .val (.long (q0 &&& (1152921504606846975 : Int64))), .second, .val (.long q1), .second, .val (.int (p4 &&& (3 : Int32))), .val (.long jv59), .second, .val (.long jv63), .second, .val (.ref b65), .val (.ref b70), .val (.int (((p4.toUInt32 >>> ((2 : Int32) &&& 31).toUInt32).toInt32) &&& (3 : Int32))), .val (.ref b70), .val (.int (0 : Int32)), .val (.int (1 : Int32))] [(.int (1 : Int32))])) _
          refine XS.goto X91.here hx rfl (pc0 := 207) (pc' := 211) rfl (hb hby at_207) (by decide) (by decide) ?_
          exact kk
        obtain ⟨fs, hr, hrun, hended, hW, hsame⟩ := X91.leave (v := some (.int (1 : Int32))) (fun h => by rw [Bd.returns] at h; cases h)
        refine ⟨_, _, pre92 _ ?_, hrun, hended, _, _, rfl, ?_, ⟨_, rfl⟩, hW, hsame.mono (by decide) (by decide)⟩
        · show Steps p.tables e below (T91.setTop (mkF m 211 #[.val (.long q0), .second, .val (.long q1), .second, .val (.long q2), .second, .val (.long q3), .second, .val (.int p4), .val (.long (1152921504606846975 : Int64)), .second, .val (.long (q0 &&& (1152921504606846975 : Int64))), .second, .val (.long q1), .second, .val (.int (p4 &&& (3 : Int32))), .val (.long jv59), .second, .val (.long jv63), .second, .val (.ref b65), .val (.ref b70), .val (.int (((p4.toUInt32 >>> ((2 : Int32) &&& 31).toUInt32).toInt32) &&& (3 : Int32))), .val (.ref b70), .val (.int (0 : Int32)), .val (.int (1 : Int32))] [(.int (1 : Int32))])) _
          exact retN X91 hx (t := .boolean) Bd.returns (by simp) (hb hby at_211) hr
        · show Q0 Z q0 q1 q2 q3 p4 ca h0 n0 _ T91.heap _
          rw [e91]
          exact ⟨rfl, N91⟩
    · obtain ⟨cq93, kq93, q93a, q93b, q93c⟩ := isOf hZ rfl Eq75
      obtain ⟨_, _, ⟨T93, L93, k93, n93⟩, -, X93, ⟨Lc93, hQ93, l93, y93, z93⟩, st93⟩ := X75.virtualBack hx (y := (⟨"com/example/grey_steward/greysteward/core/ObjectId", "equals", "(Ljava/lang/Object;)Z"⟩ : MethodName)) (z := (⟨"com/example/grey_steward/greysteward/core/ObjectId", "equals", "(Ljava/lang/Object;)Z"⟩ : MethodName)) hown (mvT hZ (hw _ (List.mem_of_getElem? (i := 19) rfl))) (mvT hZ (hw _ (List.mem_of_getElem? (i := 20) rfl))) (notFace_of_selects (args := #[]) (mvT hZ (hw _ (List.mem_of_getElem? (i := 22) rfl)))) (mvT hZ (hw _ (List.mem_of_getElem? (i := 22) rfl))) (mvT hZ (hw _ (List.mem_of_getElem? (i := 21) rfl))) (by decide) (backOf (W := 0) (rm4o l Z a0 hw [] b70 b65 jv59 jv63 (q0 &&& (1152921504606846975 : Int64)) q1 T75.heap n0 Z75 E_b65_77 Fq75_first Fq75_second F_b65_first_78 F_b65_second_79) hZ (hw _ (List.mem_of_getElem? (i := 23) rfl)) (hw _ (List.mem_of_getElem? (i := 3) rfl)) (by decide) (by decide)) q93a q93c (g := (mkF m 174 #[.val (.long q0), .second, .val (.long q1), .second, .val (.long q2), .second, .val (.long q3), .second, .val (.int p4), .val (.long (1152921504606846975 : Int64)), .second, .val (.long (q0 &&& (1152921504606846975 : Int64))), .second, .val (.long q1), .second, .val (.int (p4 &&& (3 : Int32))), .val (.long jv59), .second, .val (.long jv63), .second, .val (.ref b65), .val (.ref b70), .val (.int (((p4.toUInt32 >>> ((2 : Int32) &&& 31).toUInt32).toInt32) &&& (3 : Int32))), .val (.ref b70), .val (.int (0 : Int32)), .unset] [(.ref b65), (.ref b70)])) rfl (by rw [hml]; rfl) (Steps.refl _) (argsL := [(.ref b65)]) (rest := []) (lenOf pd__28Ljava_2flang_2fObject_3b_29Z rfl) rfl (by show 2 * 0 + _ ≤ _; exact Nat.le_of_eq rfl) (hb hby at_174) (fun _ _ => ⟨rfl, rfl, (by decide : 2 + 0 ≤ _), (by decide : 4 + 0 ≤ _)⟩)
      dsimp only [Pt.U, Pt.locs, Pt.cells, Pt.slots] at X93 l93 y93 z93 st93 hQ93
      subst l93 y93 z93
      obtain ⟨rfl, N93q, e93⟩ := hQ93
      have N93 := Fr.app N75 N93q
      obtain ⟨cq94, kq94, q94a, q94b, q94c⟩ := isOf hZ e93 E_b65_77
      obtain ⟨_, _, ⟨T94, L94, k94, n94⟩, -, X94, ⟨Lc94, hQ94, l94, y94, z94⟩, st94⟩ := X93.virtualBack hx (y := (⟨"com/example/grey_steward/greysteward/core/ObjectId", "equals", "(Ljava/lang/Object;)Z"⟩ : MethodName)) (z := (⟨"com/example/grey_steward/greysteward/core/ObjectId", "equals", "(Ljava/lang/Object;)Z"⟩ : MethodName)) hown (mvT hZ (hw _ (List.mem_of_getElem? (i := 19) rfl))) (mvT hZ (hw _ (List.mem_of_getElem? (i := 20) rfl))) (notFace_of_selects (args := #[]) (mvT hZ (hw _ (List.mem_of_getElem? (i := 22) rfl)))) (mvT hZ (hw _ (List.mem_of_getElem? (i := 22) rfl))) (mvT hZ (hw _ (List.mem_of_getElem? (i := 21) rfl))) (by decide) (backOf (W := 0) (rm4o l Z a0 hw [] b65 b70 (q0 &&& (1152921504606846975 : Int64)) q1 jv59 jv63 T75.heap n0 Z75 Eq75 F_b65_first_78 F_b65_second_79 Fq75_first Fq75_second) hZ (hw _ (List.mem_of_getElem? (i := 23) rfl)) (hw _ (List.mem_of_getElem? (i := 3) rfl)) (by decide) (by decide)) q94a q94c (g := (mkF m 193 #[.val (.long q0), .second, .val (.long q1), .second, .val (.long q2), .second, .val (.long q3), .second, .val (.int p4), .val (.long (1152921504606846975 : Int64)), .second, .val (.long (q0 &&& (1152921504606846975 : Int64))), .second, .val (.long q1), .second, .val (.int (p4 &&& (3 : Int32))), .val (.long jv59), .second, .val (.long jv63), .second, .val (.ref b65), .val (.ref b70), .val (.int (((p4.toUInt32 >>> ((2 : Int32) &&& 31).toUInt32).toInt32) &&& (3 : Int32))), .val (.ref b70), .val (.int (0 : Int32)), .val (.int (1 : Int32))] [(.ref b70), (.ref b65)])) rfl (by rw [hml]; rfl) (Steps.refl _) (argsL := [(.ref b70)]) (rest := []) (lenOf pd__28Ljava_2flang_2fObject_3b_29Z rfl) rfl (by show 2 * 0 + _ ≤ _; exact Nat.le_of_eq rfl) (hb hby at_193) (fun _ _ => ⟨rfl, e93, (by decide : 2 + 0 ≤ _), (by decide : 4 + 0 ≤ _)⟩)
      dsimp only [Pt.U, Pt.locs, Pt.cells, Pt.slots] at X94 l94 y94 z94 st94 hQ94
      subst l94 y94 z94
      obtain ⟨rfl, N94q, e94⟩ := hQ94
      have N94 := Fr.app N93 N94q
      have pre95 : ∀ t, Steps p.tables e below (T94.setTop (mkF m 211 #[.val (.long q0), .second, .val (.long q1), .second, .val (.long q2), .second, .val (.long q3), .second, .val (.int p4), .val (.long (1152921504606846975 : Int64)), .second, .val (.long (q0 &&& (1152921504606846975 : Int64))), .second, .val (.long q1), .second, .val (.int (p4 &&& (3 : Int32))), .val (.long jv59), .second, .val (.long jv63), .second, .val (.ref b65), .val (.ref b70), .val (.int (((p4.toUInt32 >>> ((2 : Int32) &&& 31).toUInt32).toInt32) &&& (3 : Int32))), .val (.ref b70), .val (.int (0 : Int32)), .val (.int (1 : Int32))] [(.int (1 : Int32))])) t → Steps p.tables e below (s₁.setTop (entryFrame m #[(.long q0), (.long q1), (.long q2), (.long q3), (.int p4)] maxLocals)) t := by
        intro t kk
        refine pre84 t ?_
        show Steps p.tables e below (T75.setTop (mkF m 103 #[.val (.long q0), .second, .val (.long q1), .second, .val (.long q2), .second, .val (.long q3), .second, .val (.int p4), .val (.long (1152921504606846975 : Int64)), .second, .val (.long (q0 &&& (1152921504606846975 : Int64))), .second, .val (.long q1), .second, .val (.int (p4 &&& (3 : Int32))), .val (.long jv59), .second, .val (.long jv63), .second, .val (.ref b65), .val (.ref b70), .val (.int (((p4.toUInt32 >>> ((2 : Int32) &&& 31).toUInt32).toInt32) &&& (3 : Int32))), .val (.ref b70), .unset, .unset] [(.int (lcmpW (q0 &&& (1152921504606846975 : Int64)) jv59))])) _
        refine XS.ifYes X75.here hx rfl (pc0 := 103) (pc' := 118) rfl (hb hby at_103) rfl ((if0 _ _).trans (feq (fun q => hc103_83 ((lw_eq (q0 &&& (1152921504606846975 : Int64)) jv59).mp q))).2) (by decide) (by decide) ?_
        show Steps p.tables e below (T75.setTop (mkF m 118 #[.val (.long q0), .second, .val (.long q1), .second, .val (.long q2), .second, .val (.long q3), .second, .val (.int p4), .val (.long (1152921504606846975 : Int64)), .second, .val (.long (q0 &&& (1152921504606846975 : Int64))), .second, .val (.long q1), .second, .val (.int (p4 &&& (3 : Int32))), .val (.long jv59), .second, .val (.long jv63), .second, .val (.ref b65), .val (.ref b70), .val (.int (((p4.toUInt32 >>> ((2 : Int32) &&& 31).toUInt32).toInt32) &&& (3 : Int32))), .val (.ref b70), .unset, .unset] [])) _
        refine XS.iconst X75.here hx rfl (hb hby at_118) ?_
        show Steps p.tables e below (T75.setTop (mkF m 119 #[.val (.long q0), .second, .val (.long q1), .second, .val (.long q2), .second, .val (.long q3), .second, .val (.int p4), .val (.long (1152921504606846975 : Int64)), .second, .val (.long (q0 &&& (1152921504606846975 : Int64))), .second, .val (.long q1), .second, .val (.int (p4 &&& (3 : Int32))), .val (.long jv59), .second, .val (.long jv63), .second, .val (.ref b65), .val (.ref b70), .val (.int (((p4.toUInt32 >>> ((2 : Int32) &&& 31).toUInt32).toInt32) &&& (3 : Int32))), .val (.ref b70), .unset, .unset] [(.int (0 : Int32))])) _
        refine XS.istore X75.here hx rfl (hb hby at_119) rfl (l' := #[.val (.long q0), .second, .val (.long q1), .second, .val (.long q2), .second, .val (.long q3), .second, .val (.int p4), .val (.long (1152921504606846975 : Int64)), .second, .val (.long (q0 &&& (1152921504606846975 : Int64))), .second, .val (.long q1), .second, .val (.int (p4 &&& (3 : Int32))), .val (.long jv59), .second, .val (.long jv63), .second, .val (.ref b65), .val (.ref b70), .val (.int (((p4.toUInt32 >>> ((2 : Int32) &&& 31).toUInt32).toInt32) &&& (3 : Int32))), .val (.ref b70), .val (.int (0 : Int32)), .unset]) rfl ?_
        show Steps p.tables e below (T75.setTop (mkF m 121 #[.val (.long q0), .second, .val (.long q1), .second, .val (.long q2), .second, .val (.long q3), .second, .val (.int p4), .val (.long (1152921504606846975 : Int64)), .second, .val (.long (q0 &&& (1152921504606846975 : Int64))), .second, .val (.long q1), .second, .val (.int (p4 &&& (3 : Int32))), .val (.long jv59), .second, .val (.long jv63), .second, .val (.ref b65), .val (.ref b70), .val (.int (((p4.toUInt32 >>> ((2 : Int32) &&& 31).toUInt32).toInt32) &&& (3 : Int32))), .val (.ref b70), .val (.int (0 : Int32)), .unset] [])) _
        refine XS.goto X75.here hx rfl (pc0 := 121) (pc' := 165) rfl (hb hby at_121) (by decide) (by decide) ?_
        show Steps p.tables e below (T75.setTop (mkF m 165 #[.val (.long q0), .second, .val (.long q1), .second, .val (.long q2), .second, .val (.long q3), .second, .val (.int p4), .val (.long (1152921504606846975 : Int64)), .second, .val (.long (q0 &&& (1152921504606846975 : Int64))), .second, .val (.long q1), .second, .val (.int (p4 &&& (3 : Int32))), .val (.long jv59), .second, .val (.long jv63), .second, .val (.ref b65), .val (.ref b70), .val (.int (((p4.toUInt32 >>> ((2 : Int32) &&& 31).toUInt32).toInt32) &&& (3 : Int32))), .val (.ref b70), .val (.int (0 : Int32)), .unset] [])) _
        refine XS.iload X75.here hx rfl (hb hby at_165) rfl ?_
        show Steps p.tables e below (T75.setTop (mkF m 167 #[.val (.long q0), .second, .val (.long q1), .second, .val (.long q2), .second, .val (.long q3), .second, .val (.int p4), .val (.long (1152921504606846975 : Int64)), .second, .val (.long (q0 &&& (1152921504606846975 : Int64))), .second, .val (.long q1), .second, .val (.int (p4 &&& (3 : Int32))), .val (.long jv59), .second, .val (.long jv63), .second, .val (.ref b65), .val (.ref b70), .val (.int (((p4.toUInt32 >>> ((2 : Int32) &&& 31).toUInt32).toInt32) &&& (3 : Int32))), .val (.ref b70), .val (.int (0 : Int32)), .unset] [(.int (((p4.toUInt32 >>> ((2 : Int32) &&& 31).toUInt32).toInt32) &&& (3 : Int32)))])) _
        refine XS.ifNo X75.here hx rfl (hb hby at_167) rfl ((if0 _ _).trans (teq hc91_81).2) ?_
        show Steps p.tables e below (T75.setTop (mkF m 170 #[.val (.long q0), .second, .val (.long q1), .second, .val (.long q2), .second, .val (.long q3), .second, .val (.int p4), .val (.long (1152921504606846975 : Int64)), .second, .val (.long (q0 &&& (1152921504606846975 : Int64))), .second, .val (.long q1), .second, .val (.int (p4 &&& (3 : Int32))), .val (.long jv59), .second, .val (.long jv63), .second, .val (.ref b65), .val (.ref b70), .val (.int (((p4.toUInt32 >>> ((2 : Int32) &&& 31).toUInt32).toInt32) &&& (3 : Int32))), .val (.ref b70), .val (.int (0 : Int32)), .unset] [])) _
        refine XS.aload X75.here hx rfl (hb hby at_170) rfl rfl ?_
        show Steps p.tables e below (T75.setTop (mkF m 172 #[.val (.long q0), .second, .val (.long q1), .second, .val (.long q2), .second, .val (.long q3), .second, .val (.int p4), .val (.long (1152921504606846975 : Int64)), .second, .val (.long (q0 &&& (1152921504606846975 : Int64))), .second, .val (.long q1), .second, .val (.int (p4 &&& (3 : Int32))), .val (.long jv59), .second, .val (.long jv63), .second, .val (.ref b65), .val (.ref b70), .val (.int (((p4.toUInt32 >>> ((2 : Int32) &&& 31).toUInt32).toInt32) &&& (3 : Int32))), .val (.ref b70), .val (.int (0 : Int32)), .unset] [(.ref b70)])) _
        refine XS.aload X75.here hx rfl (hb hby at_172) rfl rfl ?_
        show Steps p.tables e below (T75.setTop (mkF m 174 #[.val (.long q0), .second, .val (.long q1), .second, .val (.long q2), .second, .val (.long q3), .second, .val (.int p4), .val (.long (1152921504606846975 : Int64)), .second, .val (.long (q0 &&& (1152921504606846975 : Int64))), .second, .val (.long q1), .second, .val (.int (p4 &&& (3 : Int32))), .val (.long jv59), .second, .val (.long jv63), .second, .val (.ref b65), .val (.ref b70), .val (.int (((p4.toUInt32 >>> ((2 : Int32) &&& 31).toUInt32).toInt32) &&& (3 : Int32))), .val (.ref b70), .val (.int (0 : Int32)), .unset] [(.ref b65), (.ref b70)])) _
        refine st93.trans ?_
        show Steps p.tables e below (T93.setTop (mkF m 177 #[.val (.long q0), .second, .val (.long q1), .second, .val (.long q2), .second, .val (.long q3), .second, .val (.int p4), .val (.long (1152921504606846975 : Int64)), .second, .val (.long (q0 &&& (1152921504606846975 : Int64))), .second, .val (.long q1), .second, .val (.int (p4 &&& (3 : Int32))), .val (.long jv59), .second, .val (.long jv63), .second, .val (.ref b65), .val (.ref b70), .val (.int (((p4.toUInt32 >>> ((2 : Int32) &&& 31).toUInt32).toInt32) &&& (3 : Int32))), .val (.ref b70), .val (.int (0 : Int32)), .unset] [(.int (F4o b70 b65 jv59 jv63 (q0 &&& (1152921504606846975 : Int64)) q1))])) _
        refine XS.iload X93.here hx rfl (hb hby at_177) rfl ?_
        show Steps p.tables e below (T93.setTop (mkF m 179 #[.val (.long q0), .second, .val (.long q1), .second, .val (.long q2), .second, .val (.long q3), .second, .val (.int p4), .val (.long (1152921504606846975 : Int64)), .second, .val (.long (q0 &&& (1152921504606846975 : Int64))), .second, .val (.long q1), .second, .val (.int (p4 &&& (3 : Int32))), .val (.long jv59), .second, .val (.long jv63), .second, .val (.ref b65), .val (.ref b70), .val (.int (((p4.toUInt32 >>> ((2 : Int32) &&& 31).toUInt32).toInt32) &&& (3 : Int32))), .val (.ref b70), .val (.int (0 : Int32)), .unset] [(.int (0 : Int32)), (.int (F4o b70 b65 jv59 jv63 (q0 &&& (1152921504606846975 : Int64)) q1))])) _
        refine XS.icmpNo X93.here hx rfl (hb hby at_179) rfl (teq (show (F4o b70 b65 jv59 jv63 (q0 &&& (1152921504606846975 : Int64)) q1) = (0 : Int32) from (if_neg (fun q => hc103_83 q.symm)))).2 ?_
        show Steps p.tables e below (T93.setTop (mkF m 182 #[.val (.long q0), .second, .val (.long q1), .second, .val (.long q2), .second, .val (.long q3), .second, .val (.int p4), .val (.long (1152921504606846975 : Int64)), .second, .val (.long (q0 &&& (1152921504606846975 : Int64))), .second, .val (.long q1), .second, .val (.int (p4 &&& (3 : Int32))), .val (.long jv59), .second, .val (.long jv63), .second, .val (.ref b65), .val (.ref b70), .val (.int (((p4.toUInt32 >>> ((2 : Int32) &&& 31).toUInt32).toInt32) &&& (3 : Int32))), .val (.ref b70), .val (.int (0 : Int32)), .unset] [])) _
        refine XS.iconst X93.here hx rfl (hb hby at_182) ?_
        show Steps p.tables e below (T93.setTop (mkF m 183 #[.val (.long q0), .second, .val (.long q1), .second, .val (.long q2), .second, .val (.long q3), .second, .val (.int p4), .val (.long (1152921504606846975 : Int64)), .second, .val (.long (q0 &&& (1152921504606846975 : Int64))), .second, .val (.long q1), .second, .val (.int (p4 &&& (3 : Int32))), .val (.long jv59), .second, .val (.long jv63), .second, .val (.ref b65), .val (.ref b70), .val (.int (((p4.toUInt32 >>> ((2 : Int32) &&& 31).toUInt32).toInt32) &&& (3 : Int32))), .val (.ref b70), .val (.int (0 : Int32)), .unset] [(.int (1 : Int32))])) _
        refine XS.goto X93.here hx rfl (pc0 := 183) (pc' := 187) rfl (hb hby at_183) (by decide) (by decide) ?_
        show Steps p.tables e below (T93.setTop (mkF m 187 #[.val (.long q0), .second, .val (.long q1), .second, .val (.long q2), .second, .val (.long q3), .second, .val (.int p4), .val (.long (1152921504606846975 : Int64)), .second, .val (.long (q0 &&& (1152921504606846975 : Int64))), .second, .val (.long q1), .second, .val (.int (p4 &&& (3 : Int32))), .val (.long jv59), .second, .val (.long jv63), .second, .val (.ref b65), .val (.ref b70), .val (.int (((p4.toUInt32 >>> ((2 : Int32) &&& 31).toUInt32).toInt32) &&& (3 : Int32))), .val (.ref b70), .val (.int (0 : Int32)), .unset] [(.int (1 : Int32))])) _
        refine XS.istore X93.here hx rfl (hb hby at_187) rfl (l' := #[.val (.long q0), .second, .val (.long q1), .second, .val (.long q2), .second, .val (.long q3), .second, .val (.int p4), .val (.long (1152921504606846975 : Int64)), .second, .val (.long (q0 &&& (1152921504606846975 : Int64))), .second, .val (.long q1), .second, .val (.int (p4 &&& (3 : Int32))), .val (.long jv59), .second, .val (.long jv63), .second, .val (.ref b65), .val (.ref b70), .val (.int (((p4.toUInt32 >>> ((2 : Int32) &&& 31).toUInt32).toInt32) &&& (3 : Int32))), .val (.ref b70), .val (.int (0 : Int32)), .val (.int (1 : Int32))]) rfl ?_
        show Steps p.tables e below (T93.setTop (mkF m 189 #[.val (.long q0), .second, .val (.long q1), .second, .val (.long q2), .second, .val (.long q3), .second, .val (.int p4), .val (.long (1152921504606846975 : Int64)), .second, .val (.long (q0 &&& (1152921504606846975 : Int64))), .second, .val (.long q1), .second, .val (.int (p4 &&& (3 : Int32))), .val (.long jv59), .second, .val (.long jv63), .second, .val (.ref b65), .val (.ref b70), .val (.int (((p4.toUInt32 >>> ((2 : Int32) &&& 31).toUInt32).toInt32) &&& (3 : Int32))), .val (.ref b70), .val (.int (0 : Int32)), .val (.int (1 : Int32))] [])) _
        refine XS.aload X93.here hx rfl (hb hby at_189) rfl rfl ?_
        show Steps p.tables e below (T93.setTop (mkF m 191 #[.val (.long q0), .second, .val (.long q1), .second, .val (.long q2), .second, .val (.long q3), .second, .val (.int p4), .val (.long (1152921504606846975 : Int64)), .second, .val (.long (q0 &&& (1152921504606846975 : Int64))), .second, .val (.long q1), .second, .val (.int (p4 &&& (3 : Int32))), .val (.long jv59), .second, .val (.long jv63), .second, .val (.ref b65), .val (.ref b70), .val (.int (((p4.toUInt32 >>> ((2 : Int32) &&& 31).toUInt32).toInt32) &&& (3 : Int32))), .val (.ref b70), .val (.int (0 : Int32)), .val (.int (1 : Int32))] [(.ref b65)])) _
        refine XS.aload X93.here hx rfl (hb hby at_191) rfl rfl ?_
        show Steps p.tables e below (T93.setTop (mkF m 193 #[.val (.long q0), .second, .val (.long q1), .second, .val (.long q2), .second, .val (.long q3), .second, .val (.int p4), .val (.long (1152921504606846975 : Int64)), .second, .val (.long (q0 &&& (1152921504606846975 : Int64))), .second, .val (.long q1), .second, .val (.int (p4 &&& (3 : Int32))), .val (.long jv59), .second, .val (.long jv63), .second, .val (.ref b65), .val (.ref b70), .val (.int (((p4.toUInt32 >>> ((2 : Int32) &&& 31).toUInt32).toInt32) &&& (3 : Int32))), .val (.ref b70), .val (.int (0 : Int32)), .val (.int (1 : Int32))] [(.ref b70), (.ref b65)])) _
        refine st94.trans ?_
        show Steps p.tables e below (T94.setTop (mkF m 196 #[.val (.long q0), .second, .val (.long q1), .second, .val (.long q2), .second, .val (.long q3), .second, .val (.int p4), .val (.long (1152921504606846975 : Int64)), .second, .val (.long (q0 &&& (1152921504606846975 : Int64))), .second, .val (.long q1), .second, .val (.int (p4 &&& (3 : Int32))), .val (.long jv59), .second, .val (.long jv63), .second, .val (.ref b65), .val (.ref b70), .val (.int (((p4.toUInt32 >>> ((2 : Int32) &&& 31).toUInt32).toInt32) &&& (3 : Int32))), .val (.ref b70), .val (.int (0 : Int32)), .val (.int (1 : Int32))] [(.int (F4o b65 b70 (q0 &&& (1152921504606846975 : Int64)) q1 jv59 jv63))])) _
        refine XS.iload X94.here hx rfl (hb hby at_196) rfl ?_
        show Steps p.tables e below (T94.setTop (mkF m 198 #[.val (.long q0), .second, .val (.long q1), .second, .val (.long q2), .second, .val (.long q3), .second, .val (.int p4), .val (.long (1152921504606846975 : Int64)), .second, .val (.long (q0 &&& (1152921504606846975 : Int64))), .second, .val (.long q1), .second, .val (.int (p4 &&& (3 : Int32))), .val (.long jv59), .second, .val (.long jv63), .second, .val (.ref b65), .val (.ref b70), .val (.int (((p4.toUInt32 >>> ((2 : Int32) &&& 31).toUInt32).toInt32) &&& (3 : Int32))), .val (.ref b70), .val (.int (0 : Int32)), .val (.int (1 : Int32))] [(.int (0 : Int32)), (.int (F4o b65 b70 (q0 &&& (1152921504606846975 : Int64)) q1 jv59 jv63))])) _
        refine XS.icmpNo X94.here hx rfl (hb hby at_198) rfl (teq (show (F4o b65 b70 (q0 &&& (1152921504606846975 : Int64)) q1 jv59 jv63) = (0 : Int32) from (if_neg hc103_83))).2 ?_
        show Steps p.tables e below (T94.setTop (mkF m 201 #[.val (.long q0), .second, .val (.long q1), .second, .val (.long q2), .second, .val (.long q3), .second, .val (.int p4), .val (.long (1152921504606846975 : Int64)), .second, .val (.long (q0 &&& (1152921504606846975 : Int64))), .second, .val (.long q1), .second, .val (.int (p4 &&& (3 : Int32))), .val (.long jv59), .second, .val (.long jv63), .second, .val (.ref b65), .val (.ref b70), .val (.int (((p4.toUInt32 >>> ((2 : Int32) &&& 31).toUInt32).toInt32) &&& (3 : Int32))), .val (.ref b70), .val (.int (0 : Int32)), .val (.int (1 : Int32))] [])) _
        refine XS.iload X94.here hx rfl (hb hby at_201) rfl ?_
        show Steps p.tables e below (T94.setTop (mkF m 203 #[.val (.long q0), .second, .val (.long q1), .second, .val (.long q2), .second, .val (.long q3), .second, .val (.int p4), .val (.long (1152921504606846975 : Int64)), .second, .val (.long (q0 &&& (1152921504606846975 : Int64))), .second, .val (.long q1), .second, .val (.int (p4 &&& (3 : Int32))), .val (.long jv59), .second, .val (.long jv63), .second, .val (.ref b65), .val (.ref b70), .val (.int (((p4.toUInt32 >>> ((2 : Int32) &&& 31).toUInt32).toInt32) &&& (3 : Int32))), .val (.ref b70), .val (.int (0 : Int32)), .val (.int (1 : Int32))] [(.int (1 : Int32))])) _
        refine XS.ifNo X94.here hx rfl (hb hby at_203) rfl ((if0 _ _).trans (feq (by decide : ¬ ((1 : Int32) = (0 : Int32)))).1) ?_
        show Steps p.tables e below (T94.setTop (mkF m 206 #[.val (.long q0), .second, .val (.long q1), .second, .val (.long q2), .second, .val (.long q3), .second, .val (.int p4), .val (.long (1152921504606846975 : Int64)), .second, .val (.long (q0 &&& (1152921504606846975 : Int64))), .second, .val (.long q1), .second, .val (.int (p4 &&& (3 : Int32))), .val (.long jv59), .second, .val (.long jv63), .second, .val (.ref b65), .val (.ref b70), .val (.int (((p4.toUInt32 >>> ((2 : Int32) &&& 31).toUInt32).toInt32) &&& (3 : Int32))), .val (.ref b70), .val (.int (0 : Int32)), .val (.int (1 : Int32))] [])) _
        refine XS.iconst X94.here hx rfl (hb hby at_206) ?_
        show Steps p.tables e below (T94.setTop (mkF m 207 #[.val (.long q0), .second, .val (.long q1), .second, .val (.long q2), .second, .val (.long q3), .second, .val (.int p4), .val (.long (1152921504606846975 : Int64)), .second, .val (.long (q0 &&& (1152921504606846975 : Int64))), .second, .val (.long q1), .second, .val (.int (p4 &&& (3 : Int32))), .val (.long jv59), .second, .val (.long jv63), .second, .val (.ref b65), .val (.ref b70), .val (.int (((p4.toUInt32 >>> ((2 : Int32) &&& 31).toUInt32).toInt32) &&& (3 : Int32))), .val (.ref b70), .val (.int (0 : Int32)), .val (.int (1 : Int32))] [(.int (1 : Int32))])) _
        refine XS.goto X94.here hx rfl (pc0 := 207) (pc' := 211) rfl (hb hby at_207) (by decide) (by decide) ?_
        exact kk
      obtain ⟨fs, hr, hrun, hended, hW, hsame⟩ := X94.leave (v := some (.int (1 : Int32))) (fun h => by rw [Bd.returns] at h; cases h)
      refine ⟨_, _, pre95 _ ?_, hrun, hended, _, _, rfl, ?_, ⟨_, rfl⟩, hW, hsame.mono (by decide) (by decide)⟩
      · show Steps p.tables e below (T94.setTop (mkF m 211 #[.val (.long q0), .second, .val (.long q1), .second, .val (.long q2), .second, .val (.long q3), .second, .val (.int p4), .val (.long (1152921504606846975 : Int64)), .second, .val (.long (q0 &&& (1152921504606846975 : Int64))), .second, .val (.long q1), .second, .val (.int (p4 &&& (3 : Int32))), .val (.long jv59), .second, .val (.long jv63), .second, .val (.ref b65), .val (.ref b70), .val (.int (((p4.toUInt32 >>> ((2 : Int32) &&& 31).toUInt32).toInt32) &&& (3 : Int32))), .val (.ref b70), .val (.int (0 : Int32)), .val (.int (1 : Int32))] [(.int (1 : Int32))])) _
        exact retN X94 hx (t := .boolean) Bd.returns (by simp) (hb hby at_211) hr
      · show Q0 Z q0 q1 q2 q3 p4 ca h0 n0 _ T94.heap _
        rw [e94]
        exact ⟨rfl, N94⟩
  · have pre97 : ∀ t, Steps p.tables e below (T75.setTop (mkF m 127 #[.val (.long q0), .second, .val (.long q1), .second, .val (.long q2), .second, .val (.long q3), .second, .val (.int p4), .val (.long (1152921504606846975 : Int64)), .second, .val (.long (q0 &&& (1152921504606846975 : Int64))), .second, .val (.long q1), .second, .val (.int (p4 &&& (3 : Int32))), .val (.long jv59), .second, .val (.long jv63), .second, .val (.ref b65), .val (.ref b70), .val (.int (((p4.toUInt32 >>> ((2 : Int32) &&& 31).toUInt32).toInt32) &&& (3 : Int32))), .unset, .unset, .unset] [(.int (1 : Int32)), (.int (((p4.toUInt32 >>> ((2 : Int32) &&& 31).toUInt32).toInt32) &&& (3 : Int32)))])) t → Steps p.tables e below (s₁.setTop (entryFrame m #[(.long q0), (.long q1), (.long q2), (.long q3), (.int p4)] maxLocals)) t := by
      intro t kk
      refine pre82 t ?_
      show Steps p.tables e below (T75.setTop (mkF m 91 #[.val (.long q0), .second, .val (.long q1), .second, .val (.long q2), .second, .val (.long q3), .second, .val (.int p4), .val (.long (1152921504606846975 : Int64)), .second, .val (.long (q0 &&& (1152921504606846975 : Int64))), .second, .val (.long q1), .second, .val (.int (p4 &&& (3 : Int32))), .val (.long jv59), .second, .val (.long jv63), .second, .val (.ref b65), .val (.ref b70), .val (.int (((p4.toUInt32 >>> ((2 : Int32) &&& 31).toUInt32).toInt32) &&& (3 : Int32))), .unset, .unset, .unset] [(.int (((p4.toUInt32 >>> ((2 : Int32) &&& 31).toUInt32).toInt32) &&& (3 : Int32)))])) _
      refine XS.ifYes X75.here hx rfl (pc0 := 91) (pc' := 124) rfl (hb hby at_91) rfl ((if0 _ _).trans (feq hc91_81).2) (by decide) (by decide) ?_
      show Steps p.tables e below (T75.setTop (mkF m 124 #[.val (.long q0), .second, .val (.long q1), .second, .val (.long q2), .second, .val (.long q3), .second, .val (.int p4), .val (.long (1152921504606846975 : Int64)), .second, .val (.long (q0 &&& (1152921504606846975 : Int64))), .second, .val (.long q1), .second, .val (.int (p4 &&& (3 : Int32))), .val (.long jv59), .second, .val (.long jv63), .second, .val (.ref b65), .val (.ref b70), .val (.int (((p4.toUInt32 >>> ((2 : Int32) &&& 31).toUInt32).toInt32) &&& (3 : Int32))), .unset, .unset, .unset] [])) _
      refine XS.iload X75.here hx rfl (hb hby at_124) rfl ?_
      show Steps p.tables e below (T75.setTop (mkF m 126 #[.val (.long q0), .second, .val (.long q1), .second, .val (.long q2), .second, .val (.long q3), .second, .val (.int p4), .val (.long (1152921504606846975 : Int64)), .second, .val (.long (q0 &&& (1152921504606846975 : Int64))), .second, .val (.long q1), .second, .val (.int (p4 &&& (3 : Int32))), .val (.long jv59), .second, .val (.long jv63), .second, .val (.ref b65), .val (.ref b70), .val (.int (((p4.toUInt32 >>> ((2 : Int32) &&& 31).toUInt32).toInt32) &&& (3 : Int32))), .unset, .unset, .unset] [(.int (((p4.toUInt32 >>> ((2 : Int32) &&& 31).toUInt32).toInt32) &&& (3 : Int32)))])) _
      refine XS.iconst X75.here hx rfl (hb hby at_126) ?_
      exact kk
    by_cases hc127_96 : (((p4.toUInt32 >>> ((2 : Int32) &&& 31).toUInt32).toInt32) &&& (3 : Int32)) = (1 : Int32)
    · obtain ⟨cq98, kq98, q98a, q98b, q98c⟩ := isOf hZ rfl E_b65_77
      obtain ⟨_, _, ⟨T98, L98, k98, n98⟩, -, X98, ⟨Lc98, hQ98, l98, y98, z98⟩, st98⟩ := X75.virtualBack hx (y := (⟨"com/example/grey_steward/greysteward/core/ObjectId", "equals", "(Ljava/lang/Object;)Z"⟩ : MethodName)) (z := (⟨"com/example/grey_steward/greysteward/core/ObjectId", "equals", "(Ljava/lang/Object;)Z"⟩ : MethodName)) hown (mvT hZ (hw _ (List.mem_of_getElem? (i := 19) rfl))) (mvT hZ (hw _ (List.mem_of_getElem? (i := 20) rfl))) (notFace_of_selects (args := #[]) (mvT hZ (hw _ (List.mem_of_getElem? (i := 22) rfl)))) (mvT hZ (hw _ (List.mem_of_getElem? (i := 22) rfl))) (mvT hZ (hw _ (List.mem_of_getElem? (i := 21) rfl))) (by decide) (backOf (W := 0) (rm4n l Z a0 hw [] b65  T75.heap n0 Z75 ) hZ (hw _ (List.mem_of_getElem? (i := 23) rfl)) (hw _ (List.mem_of_getElem? (i := 3) rfl)) (by decide) (by decide)) q98a q98c (g := (mkF m 193 #[.val (.long q0), .second, .val (.long q1), .second, .val (.long q2), .second, .val (.long q3), .second, .val (.int p4), .val (.long (1152921504606846975 : Int64)), .second, .val (.long (q0 &&& (1152921504606846975 : Int64))), .second, .val (.long q1), .second, .val (.int (p4 &&& (3 : Int32))), .val (.long jv59), .second, .val (.long jv63), .second, .val (.ref b65), .val (.ref b70), .val (.int (((p4.toUInt32 >>> ((2 : Int32) &&& 31).toUInt32).toInt32) &&& (3 : Int32))), .val .null, .val (.int (0 : Int32)), .val (.int (1 : Int32))] [.null, (.ref b65)])) rfl (by rw [hml]; rfl) (Steps.refl _) (argsL := [.null]) (rest := []) (lenOf pd__28Ljava_2flang_2fObject_3b_29Z rfl) rfl (by show 2 * 0 + _ ≤ _; exact Nat.le_of_eq rfl) (hb hby at_193) (fun _ _ => ⟨rfl, rfl, (by decide : 2 + 0 ≤ _), (by decide : 4 + 0 ≤ _)⟩)
      dsimp only [Pt.U, Pt.locs, Pt.cells, Pt.slots] at X98 l98 y98 z98 st98 hQ98
      subst l98 y98 z98
      obtain ⟨rfl, N98q, e98⟩ := hQ98
      have N98 := Fr.app N75 N98q
      have pre99 : ∀ t, Steps p.tables e below (T98.setTop (mkF m 211 #[.val (.long q0), .second, .val (.long q1), .second, .val (.long q2), .second, .val (.long q3), .second, .val (.int p4), .val (.long (1152921504606846975 : Int64)), .second, .val (.long (q0 &&& (1152921504606846975 : Int64))), .second, .val (.long q1), .second, .val (.int (p4 &&& (3 : Int32))), .val (.long jv59), .second, .val (.long jv63), .second, .val (.ref b65), .val (.ref b70), .val (.int (((p4.toUInt32 >>> ((2 : Int32) &&& 31).toUInt32).toInt32) &&& (3 : Int32))), .val .null, .val (.int (0 : Int32)), .val (.int (1 : Int32))] [(.int (1 : Int32))])) t → Steps p.tables e below (s₁.setTop (entryFrame m #[(.long q0), (.long q1), (.long q2), (.long q3), (.int p4)] maxLocals)) t := by
        intro t kk
        refine pre97 t ?_
        show Steps p.tables e below (T75.setTop (mkF m 127 #[.val (.long q0), .second, .val (.long q1), .second, .val (.long q2), .second, .val (.long q3), .second, .val (.int p4), .val (.long (1152921504606846975 : Int64)), .second, .val (.long (q0 &&& (1152921504606846975 : Int64))), .second, .val (.long q1), .second, .val (.int (p4 &&& (3 : Int32))), .val (.long jv59), .second, .val (.long jv63), .second, .val (.ref b65), .val (.ref b70), .val (.int (((p4.toUInt32 >>> ((2 : Int32) &&& 31).toUInt32).toInt32) &&& (3 : Int32))), .unset, .unset, .unset] [(.int (1 : Int32)), (.int (((p4.toUInt32 >>> ((2 : Int32) &&& 31).toUInt32).toInt32) &&& (3 : Int32)))])) _
        refine XS.icmpNo X75.here hx rfl (hb hby at_127) rfl (teq hc127_96).2 ?_
        show Steps p.tables e below (T75.setTop (mkF m 130 #[.val (.long q0), .second, .val (.long q1), .second, .val (.long q2), .second, .val (.long q3), .second, .val (.int p4), .val (.long (1152921504606846975 : Int64)), .second, .val (.long (q0 &&& (1152921504606846975 : Int64))), .second, .val (.long q1), .second, .val (.int (p4 &&& (3 : Int32))), .val (.long jv59), .second, .val (.long jv63), .second, .val (.ref b65), .val (.ref b70), .val (.int (((p4.toUInt32 >>> ((2 : Int32) &&& 31).toUInt32).toInt32) &&& (3 : Int32))), .unset, .unset, .unset] [])) _
        refine XS.aconstNull X75.here hx rfl (hb hby at_130) ?_
        show Steps p.tables e below (T75.setTop (mkF m 131 #[.val (.long q0), .second, .val (.long q1), .second, .val (.long q2), .second, .val (.long q3), .second, .val (.int p4), .val (.long (1152921504606846975 : Int64)), .second, .val (.long (q0 &&& (1152921504606846975 : Int64))), .second, .val (.long q1), .second, .val (.int (p4 &&& (3 : Int32))), .val (.long jv59), .second, .val (.long jv63), .second, .val (.ref b65), .val (.ref b70), .val (.int (((p4.toUInt32 >>> ((2 : Int32) &&& 31).toUInt32).toInt32) &&& (3 : Int32))), .unset, .unset, .unset] [.null])) _
        refine XS.astore X75.here hx rfl (hb hby at_131) rfl rfl (l' := #[.val (.long q0), .second, .val (.long q1), .second, .val (.long q2), .second, .val (.long q3), .second, .val (.int p4), .val (.long (1152921504606846975 : Int64)), .second, .val (.long (q0 &&& (1152921504606846975 : Int64))), .second, .val (.long q1), .second, .val (.int (p4 &&& (3 : Int32))), .val (.long jv59), .second, .val (.long jv63), .second, .val (.ref b65), .val (.ref b70), .val (.int (((p4.toUInt32 >>> ((2 : Int32) &&& 31).toUInt32).toInt32) &&& (3 : Int32))), .val .null, .unset, .unset]) rfl ?_
        show Steps p.tables e below (T75.setTop (mkF m 133 #[.val (.long q0), .second, .val (.long q1), .second, .val (.long q2), .second, .val (.long q3), .second, .val (.int p4), .val (.long (1152921504606846975 : Int64)), .second, .val (.long (q0 &&& (1152921504606846975 : Int64))), .second, .val (.long q1), .second, .val (.int (p4 &&& (3 : Int32))), .val (.long jv59), .second, .val (.long jv63), .second, .val (.ref b65), .val (.ref b70), .val (.int (((p4.toUInt32 >>> ((2 : Int32) &&& 31).toUInt32).toInt32) &&& (3 : Int32))), .val .null, .unset, .unset] [])) _
        refine XS.iconst X75.here hx rfl (hb hby at_133) ?_
        show Steps p.tables e below (T75.setTop (mkF m 134 #[.val (.long q0), .second, .val (.long q1), .second, .val (.long q2), .second, .val (.long q3), .second, .val (.int p4), .val (.long (1152921504606846975 : Int64)), .second, .val (.long (q0 &&& (1152921504606846975 : Int64))), .second, .val (.long q1), .second, .val (.int (p4 &&& (3 : Int32))), .val (.long jv59), .second, .val (.long jv63), .second, .val (.ref b65), .val (.ref b70), .val (.int (((p4.toUInt32 >>> ((2 : Int32) &&& 31).toUInt32).toInt32) &&& (3 : Int32))), .val .null, .unset, .unset] [(.int (0 : Int32))])) _
        refine XS.istore X75.here hx rfl (hb hby at_134) rfl (l' := #[.val (.long q0), .second, .val (.long q1), .second, .val (.long q2), .second, .val (.long q3), .second, .val (.int p4), .val (.long (1152921504606846975 : Int64)), .second, .val (.long (q0 &&& (1152921504606846975 : Int64))), .second, .val (.long q1), .second, .val (.int (p4 &&& (3 : Int32))), .val (.long jv59), .second, .val (.long jv63), .second, .val (.ref b65), .val (.ref b70), .val (.int (((p4.toUInt32 >>> ((2 : Int32) &&& 31).toUInt32).toInt32) &&& (3 : Int32))), .val .null, .val (.int (0 : Int32)), .unset]) rfl ?_
        show Steps p.tables e below (T75.setTop (mkF m 136 #[.val (.long q0), .second, .val (.long q1), .second, .val (.long q2), .second, .val (.long q3), .second, .val (.int p4), .val (.long (1152921504606846975 : Int64)), .second, .val (.long (q0 &&& (1152921504606846975 : Int64))), .second, .val (.long q1), .second, .val (.int (p4 &&& (3 : Int32))), .val (.long jv59), .second, .val (.long jv63), .second, .val (.ref b65), .val (.ref b70), .val (.int (((p4.toUInt32 >>> ((2 : Int32) &&& 31).toUInt32).toInt32) &&& (3 : Int32))), .val .null, .val (.int (0 : Int32)), .unset] [])) _
        refine XS.goto X75.here hx rfl (pc0 := 136) (pc' := 165) rfl (hb hby at_136) (by decide) (by decide) ?_
        show Steps p.tables e below (T75.setTop (mkF m 165 #[.val (.long q0), .second, .val (.long q1), .second, .val (.long q2), .second, .val (.long q3), .second, .val (.int p4), .val (.long (1152921504606846975 : Int64)), .second, .val (.long (q0 &&& (1152921504606846975 : Int64))), .second, .val (.long q1), .second, .val (.int (p4 &&& (3 : Int32))), .val (.long jv59), .second, .val (.long jv63), .second, .val (.ref b65), .val (.ref b70), .val (.int (((p4.toUInt32 >>> ((2 : Int32) &&& 31).toUInt32).toInt32) &&& (3 : Int32))), .val .null, .val (.int (0 : Int32)), .unset] [])) _
        refine XS.iload X75.here hx rfl (hb hby at_165) rfl ?_
        show Steps p.tables e below (T75.setTop (mkF m 167 #[.val (.long q0), .second, .val (.long q1), .second, .val (.long q2), .second, .val (.long q3), .second, .val (.int p4), .val (.long (1152921504606846975 : Int64)), .second, .val (.long (q0 &&& (1152921504606846975 : Int64))), .second, .val (.long q1), .second, .val (.int (p4 &&& (3 : Int32))), .val (.long jv59), .second, .val (.long jv63), .second, .val (.ref b65), .val (.ref b70), .val (.int (((p4.toUInt32 >>> ((2 : Int32) &&& 31).toUInt32).toInt32) &&& (3 : Int32))), .val .null, .val (.int (0 : Int32)), .unset] [(.int (((p4.toUInt32 >>> ((2 : Int32) &&& 31).toUInt32).toInt32) &&& (3 : Int32)))])) _
        refine XS.ifYes X75.here hx rfl (pc0 := 167) (pc' := 182) rfl (hb hby at_167) rfl ((if0 _ _).trans (feq hc91_81).2) (by decide) (by decide) ?_
        show Steps p.tables e below (T75.setTop (mkF m 182 #[.val (.long q0), .second, .val (.long q1), .second, .val (.long q2), .second, .val (.long q3), .second, .val (.int p4), .val (.long (1152921504606846975 : Int64)), .second, .val (.long (q0 &&& (1152921504606846975 : Int64))), .second, .val (.long q1), .second, .val (.int (p4 &&& (3 : Int32))), .val (.long jv59), .second, .val (.long jv63), .second, .val (.ref b65), .val (.ref b70), .val (.int (((p4.toUInt32 >>> ((2 : Int32) &&& 31).toUInt32).toInt32) &&& (3 : Int32))), .val .null, .val (.int (0 : Int32)), .unset] [])) _
        refine XS.iconst X75.here hx rfl (hb hby at_182) ?_
        show Steps p.tables e below (T75.setTop (mkF m 183 #[.val (.long q0), .second, .val (.long q1), .second, .val (.long q2), .second, .val (.long q3), .second, .val (.int p4), .val (.long (1152921504606846975 : Int64)), .second, .val (.long (q0 &&& (1152921504606846975 : Int64))), .second, .val (.long q1), .second, .val (.int (p4 &&& (3 : Int32))), .val (.long jv59), .second, .val (.long jv63), .second, .val (.ref b65), .val (.ref b70), .val (.int (((p4.toUInt32 >>> ((2 : Int32) &&& 31).toUInt32).toInt32) &&& (3 : Int32))), .val .null, .val (.int (0 : Int32)), .unset] [(.int (1 : Int32))])) _
        refine XS.goto X75.here hx rfl (pc0 := 183) (pc' := 187) rfl (hb hby at_183) (by decide) (by decide) ?_
        show Steps p.tables e below (T75.setTop (mkF m 187 #[.val (.long q0), .second, .val (.long q1), .second, .val (.long q2), .second, .val (.long q3), .second, .val (.int p4), .val (.long (1152921504606846975 : Int64)), .second, .val (.long (q0 &&& (1152921504606846975 : Int64))), .second, .val (.long q1), .second, .val (.int (p4 &&& (3 : Int32))), .val (.long jv59), .second, .val (.long jv63), .second, .val (.ref b65), .val (.ref b70), .val (.int (((p4.toUInt32 >>> ((2 : Int32) &&& 31).toUInt32).toInt32) &&& (3 : Int32))), .val .null, .val (.int (0 : Int32)), .unset] [(.int (1 : Int32))])) _
        refine XS.istore X75.here hx rfl (hb hby at_187) rfl (l' := #[.val (.long q0), .second, .val (.long q1), .second, .val (.long q2), .second, .val (.long q3), .second, .val (.int p4), .val (.long (1152921504606846975 : Int64)), .second, .val (.long (q0 &&& (1152921504606846975 : Int64))), .second, .val (.long q1), .second, .val (.int (p4 &&& (3 : Int32))), .val (.long jv59), .second, .val (.long jv63), .second, .val (.ref b65), .val (.ref b70), .val (.int (((p4.toUInt32 >>> ((2 : Int32) &&& 31).toUInt32).toInt32) &&& (3 : Int32))), .val .null, .val (.int (0 : Int32)), .val (.int (1 : Int32))]) rfl ?_
        show Steps p.tables e below (T75.setTop (mkF m 189 #[.val (.long q0), .second, .val (.long q1), .second, .val (.long q2), .second, .val (.long q3), .second, .val (.int p4), .val (.long (1152921504606846975 : Int64)), .second, .val (.long (q0 &&& (1152921504606846975 : Int64))), .second, .val (.long q1), .second, .val (.int (p4 &&& (3 : Int32))), .val (.long jv59), .second, .val (.long jv63), .second, .val (.ref b65), .val (.ref b70), .val (.int (((p4.toUInt32 >>> ((2 : Int32) &&& 31).toUInt32).toInt32) &&& (3 : Int32))), .val .null, .val (.int (0 : Int32)), .val (.int (1 : Int32))] [])) _
        refine XS.aload X75.here hx rfl (hb hby at_189) rfl rfl ?_
        show Steps p.tables e below (T75.setTop (mkF m 191 #[.val (.long q0), .second, .val (.long q1), .second, .val (.long q2), .second, .val (.long q3), .second, .val (.int p4), .val (.long (1152921504606846975 : Int64)), .second, .val (.long (q0 &&& (1152921504606846975 : Int64))), .second, .val (.long q1), .second, .val (.int (p4 &&& (3 : Int32))), .val (.long jv59), .second, .val (.long jv63), .second, .val (.ref b65), .val (.ref b70), .val (.int (((p4.toUInt32 >>> ((2 : Int32) &&& 31).toUInt32).toInt32) &&& (3 : Int32))), .val .null, .val (.int (0 : Int32)), .val (.int (1 : Int32))] [(.ref b65)])) _
        refine XS.aload X75.here hx rfl (hb hby at_191) rfl rfl ?_
        show Steps p.tables e below (T75.setTop (mkF m 193 #[.val (.long q0), .second, .val (.long q1), .second, .val (.long q2), .second, .val (.long q3), .second, .val (.int p4), .val (.long (1152921504606846975 : Int64)), .second, .val (.long (q0 &&& (1152921504606846975 : Int64))), .second, .val (.long q1), .second, .val (.int (p4 &&& (3 : Int32))), .val (.long jv59), .second, .val (.long jv63), .second, .val (.ref b65), .val (.ref b70), .val (.int (((p4.toUInt32 >>> ((2 : Int32) &&& 31).toUInt32).toInt32) &&& (3 : Int32))), .val .null, .val (.int (0 : Int32)), .val (.int (1 : Int32))] [.null, (.ref b65)])) _
        refine st98.trans ?_
        show Steps p.tables e below (T98.setTop (mkF m 196 #[.val (.long q0), .second, .val (.long q1), .second, .val (.long q2), .second, .val (.long q3), .second, .val (.int p4), .val (.long (1152921504606846975 : Int64)), .second, .val (.long (q0 &&& (1152921504606846975 : Int64))), .second, .val (.long q1), .second, .val (.int (p4 &&& (3 : Int32))), .val (.long jv59), .second, .val (.long jv63), .second, .val (.ref b65), .val (.ref b70), .val (.int (((p4.toUInt32 >>> ((2 : Int32) &&& 31).toUInt32).toInt32) &&& (3 : Int32))), .val .null, .val (.int (0 : Int32)), .val (.int (1 : Int32))] [(.int (F4n b65))])) _
        refine XS.iload X98.here hx rfl (hb hby at_196) rfl ?_
        show Steps p.tables e below (T98.setTop (mkF m 198 #[.val (.long q0), .second, .val (.long q1), .second, .val (.long q2), .second, .val (.long q3), .second, .val (.int p4), .val (.long (1152921504606846975 : Int64)), .second, .val (.long (q0 &&& (1152921504606846975 : Int64))), .second, .val (.long q1), .second, .val (.int (p4 &&& (3 : Int32))), .val (.long jv59), .second, .val (.long jv63), .second, .val (.ref b65), .val (.ref b70), .val (.int (((p4.toUInt32 >>> ((2 : Int32) &&& 31).toUInt32).toInt32) &&& (3 : Int32))), .val .null, .val (.int (0 : Int32)), .val (.int (1 : Int32))] [(.int (0 : Int32)), (.int (F4n b65))])) _
        refine XS.icmpNo X98.here hx rfl (hb hby at_198) rfl (teq (rfl : (F4n b65) = (0 : Int32))).2 ?_
        show Steps p.tables e below (T98.setTop (mkF m 201 #[.val (.long q0), .second, .val (.long q1), .second, .val (.long q2), .second, .val (.long q3), .second, .val (.int p4), .val (.long (1152921504606846975 : Int64)), .second, .val (.long (q0 &&& (1152921504606846975 : Int64))), .second, .val (.long q1), .second, .val (.int (p4 &&& (3 : Int32))), .val (.long jv59), .second, .val (.long jv63), .second, .val (.ref b65), .val (.ref b70), .val (.int (((p4.toUInt32 >>> ((2 : Int32) &&& 31).toUInt32).toInt32) &&& (3 : Int32))), .val .null, .val (.int (0 : Int32)), .val (.int (1 : Int32))] [])) _
        refine XS.iload X98.here hx rfl (hb hby at_201) rfl ?_
        show Steps p.tables e below (T98.setTop (mkF m 203 #[.val (.long q0), .second, .val (.long q1), .second, .val (.long q2), .second, .val (.long q3), .second, .val (.int p4), .val (.long (1152921504606846975 : Int64)), .second, .val (.long (q0 &&& (1152921504606846975 : Int64))), .second, .val (.long q1), .second, .val (.int (p4 &&& (3 : Int32))), .val (.long jv59), .second, .val (.long jv63), .second, .val (.ref b65), .val (.ref b70), .val (.int (((p4.toUInt32 >>> ((2 : Int32) &&& 31).toUInt32).toInt32) &&& (3 : Int32))), .val .null, .val (.int (0 : Int32)), .val (.int (1 : Int32))] [(.int (1 : Int32))])) _
        refine XS.ifNo X98.here hx rfl (hb hby at_203) rfl ((if0 _ _).trans (feq (by decide : ¬ ((1 : Int32) = (0 : Int32)))).1) ?_
        show Steps p.tables e below (T98.setTop (mkF m 206 #[.val (.long q0), .second, .val (.long q1), .second, .val (.long q2), .second, .val (.long q3), .second, .val (.int p4), .val (.long (1152921504606846975 : Int64)), .second, .val (.long (q0 &&& (1152921504606846975 : Int64))), .second, .val (.long q1), .second, .val (.int (p4 &&& (3 : Int32))), .val (.long jv59), .second, .val (.long jv63), .second, .val (.ref b65), .val (.ref b70), .val (.int (((p4.toUInt32 >>> ((2 : Int32) &&& 31).toUInt32).toInt32) &&& (3 : Int32))), .val .null, .val (.int (0 : Int32)), .val (.int (1 : Int32))] [])) _
        refine XS.iconst X98.here hx rfl (hb hby at_206) ?_
        show Steps p.tables e below (T98.setTop (mkF m 207 #[.val (.long q0), .second, .val (.long q1), .second, .val (.long q2), .second, .val (.long q3), .second, .val (.int p4), .val (.long (1152921504606846975 : Int64)), .second, .val (.long (q0 &&& (1152921504606846975 : Int64))), .second, .val (.long q1), .second, .val (.int (p4 &&& (3 : Int32))), .val (.long jv59), .second, .val (.long jv63), .second, .val (.ref b65), .val (.ref b70), .val (.int (((p4.toUInt32 >>> ((2 : Int32) &&& 31).toUInt32).toInt32) &&& (3 : Int32))), .val .null, .val (.int (0 : Int32)), .val (.int (1 : Int32))] [(.int (1 : Int32))])) _
        refine XS.goto X98.here hx rfl (pc0 := 207) (pc' := 211) rfl (hb hby at_207) (by decide) (by decide) ?_
        exact kk
      obtain ⟨fs, hr, hrun, hended, hW, hsame⟩ := X98.leave (v := some (.int (1 : Int32))) (fun h => by rw [Bd.returns] at h; cases h)
      refine ⟨_, _, pre99 _ ?_, hrun, hended, _, _, rfl, ?_, ⟨_, rfl⟩, hW, hsame.mono (by decide) (by decide)⟩
      · show Steps p.tables e below (T98.setTop (mkF m 211 #[.val (.long q0), .second, .val (.long q1), .second, .val (.long q2), .second, .val (.long q3), .second, .val (.int p4), .val (.long (1152921504606846975 : Int64)), .second, .val (.long (q0 &&& (1152921504606846975 : Int64))), .second, .val (.long q1), .second, .val (.int (p4 &&& (3 : Int32))), .val (.long jv59), .second, .val (.long jv63), .second, .val (.ref b65), .val (.ref b70), .val (.int (((p4.toUInt32 >>> ((2 : Int32) &&& 31).toUInt32).toInt32) &&& (3 : Int32))), .val .null, .val (.int (0 : Int32)), .val (.int (1 : Int32))] [(.int (1 : Int32))])) _
        exact retN X98 hx (t := .boolean) Bd.returns (by simp) (hb hby at_211) hr
      · show Q0 Z q0 q1 q2 q3 p4 ca h0 n0 _ T98.heap _
        rw [e98]
        exact ⟨rfl, N98⟩
    · have pre101 : ∀ t, Steps p.tables e below (T75.setTop (mkF m 142 #[.val (.long q0), .second, .val (.long q1), .second, .val (.long q2), .second, .val (.long q3), .second, .val (.int p4), .val (.long (1152921504606846975 : Int64)), .second, .val (.long (q0 &&& (1152921504606846975 : Int64))), .second, .val (.long q1), .second, .val (.int (p4 &&& (3 : Int32))), .val (.long jv59), .second, .val (.long jv63), .second, .val (.ref b65), .val (.ref b70), .val (.int (((p4.toUInt32 >>> ((2 : Int32) &&& 31).toUInt32).toInt32) &&& (3 : Int32))), .unset, .unset, .unset] [(.int (2 : Int32)), (.int (((p4.toUInt32 >>> ((2 : Int32) &&& 31).toUInt32).toInt32) &&& (3 : Int32)))])) t → Steps p.tables e below (s₁.setTop (entryFrame m #[(.long q0), (.long q1), (.long q2), (.long q3), (.int p4)] maxLocals)) t := by
        intro t kk
        refine pre97 t ?_
        show Steps p.tables e below (T75.setTop (mkF m 127 #[.val (.long q0), .second, .val (.long q1), .second, .val (.long q2), .second, .val (.long q3), .second, .val (.int p4), .val (.long (1152921504606846975 : Int64)), .second, .val (.long (q0 &&& (1152921504606846975 : Int64))), .second, .val (.long q1), .second, .val (.int (p4 &&& (3 : Int32))), .val (.long jv59), .second, .val (.long jv63), .second, .val (.ref b65), .val (.ref b70), .val (.int (((p4.toUInt32 >>> ((2 : Int32) &&& 31).toUInt32).toInt32) &&& (3 : Int32))), .unset, .unset, .unset] [(.int (1 : Int32)), (.int (((p4.toUInt32 >>> ((2 : Int32) &&& 31).toUInt32).toInt32) &&& (3 : Int32)))])) _
        refine XS.icmpYes X75.here hx rfl (pc0 := 127) (pc' := 139) rfl (hb hby at_127) rfl (feq hc127_96).2 (by decide) (by decide) ?_
        show Steps p.tables e below (T75.setTop (mkF m 139 #[.val (.long q0), .second, .val (.long q1), .second, .val (.long q2), .second, .val (.long q3), .second, .val (.int p4), .val (.long (1152921504606846975 : Int64)), .second, .val (.long (q0 &&& (1152921504606846975 : Int64))), .second, .val (.long q1), .second, .val (.int (p4 &&& (3 : Int32))), .val (.long jv59), .second, .val (.long jv63), .second, .val (.ref b65), .val (.ref b70), .val (.int (((p4.toUInt32 >>> ((2 : Int32) &&& 31).toUInt32).toInt32) &&& (3 : Int32))), .unset, .unset, .unset] [])) _
        refine XS.iload X75.here hx rfl (hb hby at_139) rfl ?_
        show Steps p.tables e below (T75.setTop (mkF m 141 #[.val (.long q0), .second, .val (.long q1), .second, .val (.long q2), .second, .val (.long q3), .second, .val (.int p4), .val (.long (1152921504606846975 : Int64)), .second, .val (.long (q0 &&& (1152921504606846975 : Int64))), .second, .val (.long q1), .second, .val (.int (p4 &&& (3 : Int32))), .val (.long jv59), .second, .val (.long jv63), .second, .val (.ref b65), .val (.ref b70), .val (.int (((p4.toUInt32 >>> ((2 : Int32) &&& 31).toUInt32).toInt32) &&& (3 : Int32))), .unset, .unset, .unset] [(.int (((p4.toUInt32 >>> ((2 : Int32) &&& 31).toUInt32).toInt32) &&& (3 : Int32)))])) _
        refine XS.iconst X75.here hx rfl (hb hby at_141) ?_
        exact kk
      by_cases hc142_100 : (((p4.toUInt32 >>> ((2 : Int32) &&& 31).toUInt32).toInt32) &&& (3 : Int32)) = (2 : Int32)
      · obtain ⟨_, _, ⟨T102, L102, k102, n102⟩, -, X102, ⟨Lc102, hQ102, l102, y102, z102⟩, st102⟩ := Jvm.LawKit.callS X75 hx (y := (⟨"java/lang/Long", "valueOf", "(J)Ljava/lang/Long;"⟩ : MethodName)) hown (mvT hZ (hw _ (List.mem_of_getElem? (i := 26) rfl))) (mvT hZ (hw _ (List.mem_of_getElem? (i := 27) rfl))) (mvT hZ (hw _ (List.mem_of_getElem? (i := 28) rfl))) (mvT hZ (hw _ (List.mem_of_getElem? (i := 29) rfl))) (by decide) (backOf (W := 0) (rm5 l Z a0 hw [] (q0 &&& (1152921504606846975 : Int64)) ca T75.heap n0 Z75 O_76 S_cache C_cache) hZ (hw _ (List.mem_of_getElem? (i := 29) rfl)) (hw _ (List.mem_of_getElem? (i := 28) rfl)) (by decide) (by decide)) (g := (mkF m 147 #[.val (.long q0), .second, .val (.long q1), .second, .val (.long q2), .second, .val (.long q3), .second, .val (.int p4), .val (.long (1152921504606846975 : Int64)), .second, .val (.long (q0 &&& (1152921504606846975 : Int64))), .second, .val (.long q1), .second, .val (.int (p4 &&& (3 : Int32))), .val (.long jv59), .second, .val (.long jv63), .second, .val (.ref b65), .val (.ref b70), .val (.int (((p4.toUInt32 >>> ((2 : Int32) &&& 31).toUInt32).toInt32) &&& (3 : Int32))), .unset, .unset, .unset] [(.long (q0 &&& (1152921504606846975 : Int64)))])) rfl (by rw [hml]; rfl) (argsL := [(.long (q0 &&& (1152921504606846975 : Int64)))]) (rest := []) (lenOf pd__28J_29Ljava_2flang_2fLong_3b rfl) rfl (by show 2 * 0 + _ ≤ _; exact Nat.le_of_eq rfl) (hb hby at_147) (fun _ _ => ⟨rfl, rfl, (by decide : 2 + 1 ≤ _), (by decide : 4 + 1 ≤ _)⟩)
        dsimp only [Pt.U, Pt.locs, Pt.cells, Pt.slots] at X102 l102 y102 z102 st102 hQ102
        subst l102 y102 z102
        obtain ⟨b102, rfl, N102q, K102, Eq102, Fq102⟩ := hQ102
        have N102 := Fr.app N75 N102q
        have KP102 : Keep h0 T102.heap [] := KP75.trans K102 all0
        have Z102 : n0 ≤ T102.heap.size := Nat.le_trans Z75 K102.1
        have O_103 : Old Z n0 T102.heap := O_76.keep K102 all0
        have E_b65_104 : Exa Z T102.heap b65 "com/example/grey_steward/greysteward/core/ObjectId" := E_b65_77.keep K102
        have F_b65_first_105 : Fld Z T102.heap b65 "com/example/grey_steward/greysteward/core/ObjectId" "first" "J" (.long (q0 &&& (1152921504606846975 : Int64))) := F_b65_first_78.keep K102 nin0
        have F_b65_second_106 : Fld Z T102.heap b65 "com/example/grey_steward/greysteward/core/ObjectId" "second" "J" (.long q1) := F_b65_second_79.keep K102 nin0
        have E_b70_107 : Exa Z T102.heap b70 "com/example/grey_steward/greysteward/core/ObjectId" := Eq75.keep K102
        have F_b70_first_108 : Fld Z T102.heap b70 "com/example/grey_steward/greysteward/core/ObjectId" "first" "J" (.long jv59) := Fq75_first.keep K102 nin0
        have F_b70_second_109 : Fld Z T102.heap b70 "com/example/grey_steward/greysteward/core/ObjectId" "second" "J" (.long jv63) := Fq75_second.keep K102 nin0
        obtain ⟨cq110, kq110, q110a, q110b, q110c⟩ := isOf hZ rfl E_b65_104
        obtain ⟨_, _, ⟨T110, L110, k110, n110⟩, -, X110, ⟨Lc110, hQ110, l110, y110, z110⟩, st110⟩ := X102.virtualBack hx (y := (⟨"com/example/grey_steward/greysteward/core/ObjectId", "equals", "(Ljava/lang/Object;)Z"⟩ : MethodName)) (z := (⟨"com/example/grey_steward/greysteward/core/ObjectId", "equals", "(Ljava/lang/Object;)Z"⟩ : MethodName)) hown (mvT hZ (hw _ (List.mem_of_getElem? (i := 19) rfl))) (mvT hZ (hw _ (List.mem_of_getElem? (i := 20) rfl))) (notFace_of_selects (args := #[]) (mvT hZ (hw _ (List.mem_of_getElem? (i := 22) rfl)))) (mvT hZ (hw _ (List.mem_of_getElem? (i := 22) rfl))) (mvT hZ (hw _ (List.mem_of_getElem? (i := 21) rfl))) (by decide) (backOf (W := 0) (rm4l l Z a0 hw [] b65 b102  T102.heap n0 Z102 Eq102) hZ (hw _ (List.mem_of_getElem? (i := 23) rfl)) (hw _ (List.mem_of_getElem? (i := 3) rfl)) (by decide) (by decide)) q110a q110c (g := (mkF m 193 #[.val (.long q0), .second, .val (.long q1), .second, .val (.long q2), .second, .val (.long q3), .second, .val (.int p4), .val (.long (1152921504606846975 : Int64)), .second, .val (.long (q0 &&& (1152921504606846975 : Int64))), .second, .val (.long q1), .second, .val (.int (p4 &&& (3 : Int32))), .val (.long jv59), .second, .val (.long jv63), .second, .val (.ref b65), .val (.ref b70), .val (.int (((p4.toUInt32 >>> ((2 : Int32) &&& 31).toUInt32).toInt32) &&& (3 : Int32))), .val (.ref b102), .val (.int (0 : Int32)), .val (.int (1 : Int32))] [(.ref b102), (.ref b65)])) rfl (by rw [hml]; rfl) (Steps.refl _) (argsL := [(.ref b102)]) (rest := []) (lenOf pd__28Ljava_2flang_2fObject_3b_29Z rfl) rfl (by show 2 * 0 + _ ≤ _; exact Nat.le_of_eq rfl) (hb hby at_193) (fun _ _ => ⟨rfl, rfl, (by decide : 3 + 0 ≤ _), (by decide : 5 + 0 ≤ _)⟩)
        dsimp only [Pt.U, Pt.locs, Pt.cells, Pt.slots] at X110 l110 y110 z110 st110 hQ110
        subst l110 y110 z110
        obtain ⟨rfl, N110q, e110⟩ := hQ110
        have N110 := Fr.app N102 N110q
        have pre111 : ∀ t, Steps p.tables e below (T110.setTop (mkF m 211 #[.val (.long q0), .second, .val (.long q1), .second, .val (.long q2), .second, .val (.long q3), .second, .val (.int p4), .val (.long (1152921504606846975 : Int64)), .second, .val (.long (q0 &&& (1152921504606846975 : Int64))), .second, .val (.long q1), .second, .val (.int (p4 &&& (3 : Int32))), .val (.long jv59), .second, .val (.long jv63), .second, .val (.ref b65), .val (.ref b70), .val (.int (((p4.toUInt32 >>> ((2 : Int32) &&& 31).toUInt32).toInt32) &&& (3 : Int32))), .val (.ref b102), .val (.int (0 : Int32)), .val (.int (1 : Int32))] [(.int (1 : Int32))])) t → Steps p.tables e below (s₁.setTop (entryFrame m #[(.long q0), (.long q1), (.long q2), (.long q3), (.int p4)] maxLocals)) t := by
          intro t kk
          refine pre101 t ?_
          show Steps p.tables e below (T75.setTop (mkF m 142 #[.val (.long q0), .second, .val (.long q1), .second, .val (.long q2), .second, .val (.long q3), .second, .val (.int p4), .val (.long (1152921504606846975 : Int64)), .second, .val (.long (q0 &&& (1152921504606846975 : Int64))), .second, .val (.long q1), .second, .val (.int (p4 &&& (3 : Int32))), .val (.long jv59), .second, .val (.long jv63), .second, .val (.ref b65), .val (.ref b70), .val (.int (((p4.toUInt32 >>> ((2 : Int32) &&& 31).toUInt32).toInt32) &&& (3 : Int32))), .unset, .unset, .unset] [(.int (2 : Int32)), (.int (((p4.toUInt32 >>> ((2 : Int32) &&& 31).toUInt32).toInt32) &&& (3 : Int32)))])) _
          refine XS.icmpNo X75.here hx rfl (hb hby at_142) rfl (teq hc142_100).2 ?_
          show Steps p.tables e below (T75.setTop (mkF m 145 #[.val (.long q0), .second, .val (.long q1), .second, .val (.long q2), .second, .val (.long q3), .second, .val (.int p4), .val (.long (1152921504606846975 : Int64)), .second, .val (.long (q0 &&& (1152921504606846975 : Int64))), .second, .val (.long q1), .second, .val (.int (p4 &&& (3 : Int32))), .val (.long jv59), .second, .val (.long jv63), .second, .val (.ref b65), .val (.ref b70), .val (.int (((p4.toUInt32 >>> ((2 : Int32) &&& 31).toUInt32).toInt32) &&& (3 : Int32))), .unset, .unset, .unset] [])) _
          refine XS.lload X75.here hx rfl (hb hby at_145) rfl ?_
          show Steps p.tables e below (T75.setTop (mkF m 147 #[.val (.long q0), .second, .val (.long q1), .second, .val (.long q2), .second, .val (.long q3), .second, .val (.int p4), .val (.long (1152921504606846975 : Int64)), .second, .val (.long (q0 &&& (1152921504606846975 : Int64))), .second, .val (.long q1), .second, .val (.int (p4 &&& (3 : Int32))), .val (.long jv59), .second, .val (.long jv63), .second, .val (.ref b65), .val (.ref b70), .val (.int (((p4.toUInt32 >>> ((2 : Int32) &&& 31).toUInt32).toInt32) &&& (3 : Int32))), .unset, .unset, .unset] [(.long (q0 &&& (1152921504606846975 : Int64)))])) _
          refine st102 _ ?_
          show Steps p.tables e below (T102.setTop (mkF m 150 #[.val (.long q0), .second, .val (.long q1), .second, .val (.long q2), .second, .val (.long q3), .second, .val (.int p4), .val (.long (1152921504606846975 : Int64)), .second, .val (.long (q0 &&& (1152921504606846975 : Int64))), .second, .val (.long q1), .second, .val (.int (p4 &&& (3 : Int32))), .val (.long jv59), .second, .val (.long jv63), .second, .val (.ref b65), .val (.ref b70), .val (.int (((p4.toUInt32 >>> ((2 : Int32) &&& 31).toUInt32).toInt32) &&& (3 : Int32))), .unset, .unset, .unset] [(.ref b102)])) _
          refine XS.astore X102.here hx rfl (hb hby at_150) rfl rfl (l' := #[.val (.long q0), .second, .val (.long q1), .second, .val (.long q2), .second, .val (.long q3), .second, .val (.int p4), .val (.long (1152921504606846975 : Int64)), .second, .val (.long (q0 &&& (1152921504606846975 : Int64))), .second, .val (.long q1), .second, .val (.int (p4 &&& (3 : Int32))), .val (.long jv59), .second, .val (.long jv63), .second, .val (.ref b65), .val (.ref b70), .val (.int (((p4.toUInt32 >>> ((2 : Int32) &&& 31).toUInt32).toInt32) &&& (3 : Int32))), .val (.ref b102), .unset, .unset]) rfl ?_
          show Steps p.tables e below (T102.setTop (mkF m 152 #[.val (.long q0), .second, .val (.long q1), .second, .val (.long q2), .second, .val (.long q3), .second, .val (.int p4), .val (.long (1152921504606846975 : Int64)), .second, .val (.long (q0 &&& (1152921504606846975 : Int64))), .second, .val (.long q1), .second, .val (.int (p4 &&& (3 : Int32))), .val (.long jv59), .second, .val (.long jv63), .second, .val (.ref b65), .val (.ref b70), .val (.int (((p4.toUInt32 >>> ((2 : Int32) &&& 31).toUInt32).toInt32) &&& (3 : Int32))), .val (.ref b102), .unset, .unset] [])) _
          refine XS.iconst X102.here hx rfl (hb hby at_152) ?_
          show Steps p.tables e below (T102.setTop (mkF m 153 #[.val (.long q0), .second, .val (.long q1), .second, .val (.long q2), .second, .val (.long q3), .second, .val (.int p4), .val (.long (1152921504606846975 : Int64)), .second, .val (.long (q0 &&& (1152921504606846975 : Int64))), .second, .val (.long q1), .second, .val (.int (p4 &&& (3 : Int32))), .val (.long jv59), .second, .val (.long jv63), .second, .val (.ref b65), .val (.ref b70), .val (.int (((p4.toUInt32 >>> ((2 : Int32) &&& 31).toUInt32).toInt32) &&& (3 : Int32))), .val (.ref b102), .unset, .unset] [(.int (0 : Int32))])) _
          refine XS.istore X102.here hx rfl (hb hby at_153) rfl (l' := #[.val (.long q0), .second, .val (.long q1), .second, .val (.long q2), .second, .val (.long q3), .second, .val (.int p4), .val (.long (1152921504606846975 : Int64)), .second, .val (.long (q0 &&& (1152921504606846975 : Int64))), .second, .val (.long q1), .second, .val (.int (p4 &&& (3 : Int32))), .val (.long jv59), .second, .val (.long jv63), .second, .val (.ref b65), .val (.ref b70), .val (.int (((p4.toUInt32 >>> ((2 : Int32) &&& 31).toUInt32).toInt32) &&& (3 : Int32))), .val (.ref b102), .val (.int (0 : Int32)), .unset]) rfl ?_
          show Steps p.tables e below (T102.setTop (mkF m 155 #[.val (.long q0), .second, .val (.long q1), .second, .val (.long q2), .second, .val (.long q3), .second, .val (.int p4), .val (.long (1152921504606846975 : Int64)), .second, .val (.long (q0 &&& (1152921504606846975 : Int64))), .second, .val (.long q1), .second, .val (.int (p4 &&& (3 : Int32))), .val (.long jv59), .second, .val (.long jv63), .second, .val (.ref b65), .val (.ref b70), .val (.int (((p4.toUInt32 >>> ((2 : Int32) &&& 31).toUInt32).toInt32) &&& (3 : Int32))), .val (.ref b102), .val (.int (0 : Int32)), .unset] [])) _
          refine XS.goto X102.here hx rfl (pc0 := 155) (pc' := 165) rfl (hb hby at_155) (by decide) (by decide) ?_
          show Steps p.tables e below (T102.setTop (mkF m 165 #[.val (.long q0), .second, .val (.long q1), .second, .val (.long q2), .second, .val (.long q3), .second, .val (.int p4), .val (.long (1152921504606846975 : Int64)), .second, .val (.long (q0 &&& (1152921504606846975 : Int64))), .second, .val (.long q1), .second, .val (.int (p4 &&& (3 : Int32))), .val (.long jv59), .second, .val (.long jv63), .second, .val (.ref b65), .val (.ref b70), .val (.int (((p4.toUInt32 >>> ((2 : Int32) &&& 31).toUInt32).toInt32) &&& (3 : Int32))), .val (.ref b102), .val (.int (0 : Int32)), .unset] [])) _
          refine XS.iload X102.here hx rfl (hb hby at_165) rfl ?_
          show Steps p.tables e below (T102.setTop (mkF m 167 #[.val (.long q0), .second, .val (.long q1), .second, .val (.long q2), .second, .val (.long q3), .second, .val (.int p4), .val (.long (1152921504606846975 : Int64)), .second, .val (.long (q0 &&& (1152921504606846975 : Int64))), .second, .val (.long q1), .second, .val (.int (p4 &&& (3 : Int32))), .val (.long jv59), .second, .val (.long jv63), .second, .val (.ref b65), .val (.ref b70), .val (.int (((p4.toUInt32 >>> ((2 : Int32) &&& 31).toUInt32).toInt32) &&& (3 : Int32))), .val (.ref b102), .val (.int (0 : Int32)), .unset] [(.int (((p4.toUInt32 >>> ((2 : Int32) &&& 31).toUInt32).toInt32) &&& (3 : Int32)))])) _
          refine XS.ifYes X102.here hx rfl (pc0 := 167) (pc' := 182) rfl (hb hby at_167) rfl ((if0 _ _).trans (feq hc91_81).2) (by decide) (by decide) ?_
          show Steps p.tables e below (T102.setTop (mkF m 182 #[.val (.long q0), .second, .val (.long q1), .second, .val (.long q2), .second, .val (.long q3), .second, .val (.int p4), .val (.long (1152921504606846975 : Int64)), .second, .val (.long (q0 &&& (1152921504606846975 : Int64))), .second, .val (.long q1), .second, .val (.int (p4 &&& (3 : Int32))), .val (.long jv59), .second, .val (.long jv63), .second, .val (.ref b65), .val (.ref b70), .val (.int (((p4.toUInt32 >>> ((2 : Int32) &&& 31).toUInt32).toInt32) &&& (3 : Int32))), .val (.ref b102), .val (.int (0 : Int32)), .unset] [])) _
          refine XS.iconst X102.here hx rfl (hb hby at_182) ?_
          show Steps p.tables e below (T102.setTop (mkF m 183 #[.val (.long q0), .second, .val (.long q1), .second, .val (.long q2), .second, .val (.long q3), .second, .val (.int p4), .val (.long (1152921504606846975 : Int64)), .second, .val (.long (q0 &&& (1152921504606846975 : Int64))), .second, .val (.long q1), .second, .val (.int (p4 &&& (3 : Int32))), .val (.long jv59), .second, .val (.long jv63), .second, .val (.ref b65), .val (.ref b70), .val (.int (((p4.toUInt32 >>> ((2 : Int32) &&& 31).toUInt32).toInt32) &&& (3 : Int32))), .val (.ref b102), .val (.int (0 : Int32)), .unset] [(.int (1 : Int32))])) _
          refine XS.goto X102.here hx rfl (pc0 := 183) (pc' := 187) rfl (hb hby at_183) (by decide) (by decide) ?_
          show Steps p.tables e below (T102.setTop (mkF m 187 #[.val (.long q0), .second, .val (.long q1), .second, .val (.long q2), .second, .val (.long q3), .second, .val (.int p4), .val (.long (1152921504606846975 : Int64)), .second, .val (.long (q0 &&& (1152921504606846975 : Int64))), .second, .val (.long q1), .second, .val (.int (p4 &&& (3 : Int32))), .val (.long jv59), .second, .val (.long jv63), .second, .val (.ref b65), .val (.ref b70), .val (.int (((p4.toUInt32 >>> ((2 : Int32) &&& 31).toUInt32).toInt32) &&& (3 : Int32))), .val (.ref b102), .val (.int (0 : Int32)), .unset] [(.int (1 : Int32))])) _
          refine XS.istore X102.here hx rfl (hb hby at_187) rfl (l' := #[.val (.long q0), .second, .val (.long q1), .second, .val (.long q2), .second, .val (.long q3), .second, .val (.int p4), .val (.long (1152921504606846975 : Int64)), .second, .val (.long (q0 &&& (1152921504606846975 : Int64))), .second, .val (.long q1), .second, .val (.int (p4 &&& (3 : Int32))), .val (.long jv59), .second, .val (.long jv63), .second, .val (.ref b65), .val (.ref b70), .val (.int (((p4.toUInt32 >>> ((2 : Int32) &&& 31).toUInt32).toInt32) &&& (3 : Int32))), .val (.ref b102), .val (.int (0 : Int32)), .val (.int (1 : Int32))]) rfl ?_
          show Steps p.tables e below (T102.setTop (mkF m 189 #[.val (.long q0), .second, .val (.long q1), .second, .val (.long q2), .second, .val (.long q3), .second, .val (.int p4), .val (.long (1152921504606846975 : Int64)), .second, .val (.long (q0 &&& (1152921504606846975 : Int64))), .second, .val (.long q1), .second, .val (.int (p4 &&& (3 : Int32))), .val (.long jv59), .second, .val (.long jv63), .second, .val (.ref b65), .val (.ref b70), .val (.int (((p4.toUInt32 >>> ((2 : Int32) &&& 31).toUInt32).toInt32) &&& (3 : Int32))), .val (.ref b102), .val (.int (0 : Int32)), .val (.int (1 : Int32))] [])) _
          refine XS.aload X102.here hx rfl (hb hby at_189) rfl rfl ?_
          show Steps p.tables e below (T102.setTop (mkF m 191 #[.val (.long q0), .second, .val (.long q1), .second, .val (.long q2), .second, .val (.long q3), .second, .val (.int p4), .val (.long (1152921504606846975 : Int64)), .second, .val (.long (q0 &&& (1152921504606846975 : Int64))), .second, .val (.long q1), .second, .val (.int (p4 &&& (3 : Int32))), .val (.long jv59), .second, .val (.long jv63), .second, .val (.ref b65), .val (.ref b70), .val (.int (((p4.toUInt32 >>> ((2 : Int32) &&& 31).toUInt32).toInt32) &&& (3 : Int32))), .val (.ref b102), .val (.int (0 : Int32)), .val (.int (1 : Int32))] [(.ref b65)])) _
          refine XS.aload X102.here hx rfl (hb hby at_191) rfl rfl ?_
          show Steps p.tables e below (T102.setTop (mkF m 193 #[.val (.long q0), .second, .val (.long q1), .second, .val (.long q2), .second, .val (.long q3), .second, .val (.int p4), .val (.long (1152921504606846975 : Int64)), .second, .val (.long (q0 &&& (1152921504606846975 : Int64))), .second, .val (.long q1), .second, .val (.int (p4 &&& (3 : Int32))), .val (.long jv59), .second, .val (.long jv63), .second, .val (.ref b65), .val (.ref b70), .val (.int (((p4.toUInt32 >>> ((2 : Int32) &&& 31).toUInt32).toInt32) &&& (3 : Int32))), .val (.ref b102), .val (.int (0 : Int32)), .val (.int (1 : Int32))] [(.ref b102), (.ref b65)])) _
          refine st110.trans ?_
          show Steps p.tables e below (T110.setTop (mkF m 196 #[.val (.long q0), .second, .val (.long q1), .second, .val (.long q2), .second, .val (.long q3), .second, .val (.int p4), .val (.long (1152921504606846975 : Int64)), .second, .val (.long (q0 &&& (1152921504606846975 : Int64))), .second, .val (.long q1), .second, .val (.int (p4 &&& (3 : Int32))), .val (.long jv59), .second, .val (.long jv63), .second, .val (.ref b65), .val (.ref b70), .val (.int (((p4.toUInt32 >>> ((2 : Int32) &&& 31).toUInt32).toInt32) &&& (3 : Int32))), .val (.ref b102), .val (.int (0 : Int32)), .val (.int (1 : Int32))] [(.int (F4l b65 b102))])) _
          refine XS.iload X110.here hx rfl (hb hby at_196) rfl ?_
          show Steps p.tables e below (T110.setTop (mkF m 198 #[.val (.long q0), .second, .val (.long q1), .second, .val (.long q2), .second, .val (.long q3), .second, .val (.int p4), .val (.long (1152921504606846975 : Int64)), .second, .val (.long (q0 &&& (1152921504606846975 : Int64))), .second, .val (.long q1), .second, .val (.int (p4 &&& (3 : Int32))), .val (.long jv59), .second, .val (.long jv63), .second, .val (.ref b65), .val (.ref b70), .val (.int (((p4.toUInt32 >>> ((2 : Int32) &&& 31).toUInt32).toInt32) &&& (3 : Int32))), .val (.ref b102), .val (.int (0 : Int32)), .val (.int (1 : Int32))] [(.int (0 : Int32)), (.int (F4l b65 b102))])) _
          refine XS.icmpNo X110.here hx rfl (hb hby at_198) rfl (teq (rfl : (F4l b65 b102) = (0 : Int32))).2 ?_
          show Steps p.tables e below (T110.setTop (mkF m 201 #[.val (.long q0), .second, .val (.long q1), .second, .val (.long q2), .second, .val (.long q3), .second, .val (.int p4), .val (.long (1152921504606846975 : Int64)), .second, .val (.long (q0 &&& (1152921504606846975 : Int64))), .second, .val (.long q1), .second, .val (.int (p4 &&& (3 : Int32))), .val (.long jv59), .second, .val (.long jv63), .second, .val (.ref b65), .val (.ref b70), .val (.int (((p4.toUInt32 >>> ((2 : Int32) &&& 31).toUInt32).toInt32) &&& (3 : Int32))), .val (.ref b102), .val (.int (0 : Int32)), .val (.int (1 : Int32))] [])) _
          refine XS.iload X110.here hx rfl (hb hby at_201) rfl ?_
          show Steps p.tables e below (T110.setTop (mkF m 203 #[.val (.long q0), .second, .val (.long q1), .second, .val (.long q2), .second, .val (.long q3), .second, .val (.int p4), .val (.long (1152921504606846975 : Int64)), .second, .val (.long (q0 &&& (1152921504606846975 : Int64))), .second, .val (.long q1), .second, .val (.int (p4 &&& (3 : Int32))), .val (.long jv59), .second, .val (.long jv63), .second, .val (.ref b65), .val (.ref b70), .val (.int (((p4.toUInt32 >>> ((2 : Int32) &&& 31).toUInt32).toInt32) &&& (3 : Int32))), .val (.ref b102), .val (.int (0 : Int32)), .val (.int (1 : Int32))] [(.int (1 : Int32))])) _
          refine XS.ifNo X110.here hx rfl (hb hby at_203) rfl ((if0 _ _).trans (feq (by decide : ¬ ((1 : Int32) = (0 : Int32)))).1) ?_
          show Steps p.tables e below (T110.setTop (mkF m 206 #[.val (.long q0), .second, .val (.long q1), .second, .val (.long q2), .second, .val (.long q3), .second, .val (.int p4), .val (.long (1152921504606846975 : Int64)), .second, .val (.long (q0 &&& (1152921504606846975 : Int64))), .second, .val (.long q1), .second, .val (.int (p4 &&& (3 : Int32))), .val (.long jv59), .second, .val (.long jv63), .second, .val (.ref b65), .val (.ref b70), .val (.int (((p4.toUInt32 >>> ((2 : Int32) &&& 31).toUInt32).toInt32) &&& (3 : Int32))), .val (.ref b102), .val (.int (0 : Int32)), .val (.int (1 : Int32))] [])) _
          refine XS.iconst X110.here hx rfl (hb hby at_206) ?_
          show Steps p.tables e below (T110.setTop (mkF m 207 #[.val (.long q0), .second, .val (.long q1), .second, .val (.long q2), .second, .val (.long q3), .second, .val (.int p4), .val (.long (1152921504606846975 : Int64)), .second, .val (.long (q0 &&& (1152921504606846975 : Int64))), .second, .val (.long q1), .second, .val (.int (p4 &&& (3 : Int32))), .val (.long jv59), .second, .val (.long jv63), .second, .val (.ref b65), .val (.ref b70), .val (.int (((p4.toUInt32 >>> ((2 : Int32) &&& 31).toUInt32).toInt32) &&& (3 : Int32))), .val (.ref b102), .val (.int (0 : Int32)), .val (.int (1 : Int32))] [(.int (1 : Int32))])) _
          refine XS.goto X110.here hx rfl (pc0 := 207) (pc' := 211) rfl (hb hby at_207) (by decide) (by decide) ?_
          exact kk
        obtain ⟨fs, hr, hrun, hended, hW, hsame⟩ := X110.leave (v := some (.int (1 : Int32))) (fun h => by rw [Bd.returns] at h; cases h)
        refine ⟨_, _, pre111 _ ?_, hrun, hended, _, _, rfl, ?_, ⟨_, rfl⟩, hW, hsame.mono (by decide) (by decide)⟩
        · show Steps p.tables e below (T110.setTop (mkF m 211 #[.val (.long q0), .second, .val (.long q1), .second, .val (.long q2), .second, .val (.long q3), .second, .val (.int p4), .val (.long (1152921504606846975 : Int64)), .second, .val (.long (q0 &&& (1152921504606846975 : Int64))), .second, .val (.long q1), .second, .val (.int (p4 &&& (3 : Int32))), .val (.long jv59), .second, .val (.long jv63), .second, .val (.ref b65), .val (.ref b70), .val (.int (((p4.toUInt32 >>> ((2 : Int32) &&& 31).toUInt32).toInt32) &&& (3 : Int32))), .val (.ref b102), .val (.int (0 : Int32)), .val (.int (1 : Int32))] [(.int (1 : Int32))])) _
          exact retN X110 hx (t := .boolean) Bd.returns (by simp) (hb hby at_211) hr
        · show Q0 Z q0 q1 q2 q3 p4 ca h0 n0 _ T110.heap _
          rw [e110]
          exact ⟨rfl, N110⟩
      · obtain ⟨cq112, kq112, q112a, q112b, q112c⟩ := isOf hZ rfl E_b65_77
        obtain ⟨_, _, ⟨T112, L112, k112, n112⟩, -, X112, ⟨Lc112, hQ112, l112, y112, z112⟩, st112⟩ := X75.virtualBack hx (y := (⟨"com/example/grey_steward/greysteward/core/ObjectId", "equals", "(Ljava/lang/Object;)Z"⟩ : MethodName)) (z := (⟨"com/example/grey_steward/greysteward/core/ObjectId", "equals", "(Ljava/lang/Object;)Z"⟩ : MethodName)) hown (mvT hZ (hw _ (List.mem_of_getElem? (i := 19) rfl))) (mvT hZ (hw _ (List.mem_of_getElem? (i := 20) rfl))) (notFace_of_selects (args := #[]) (mvT hZ (hw _ (List.mem_of_getElem? (i := 22) rfl)))) (mvT hZ (hw _ (List.mem_of_getElem? (i := 22) rfl))) (mvT hZ (hw _ (List.mem_of_getElem? (i := 21) rfl))) (by decide) (backOf (W := 0) (rm4o l Z a0 hw [] b65 b65 (q0 &&& (1152921504606846975 : Int64)) q1 (q0 &&& (1152921504606846975 : Int64)) q1 T75.heap n0 Z75 E_b65_77 F_b65_first_78 F_b65_second_79 F_b65_first_78 F_b65_second_79) hZ (hw _ (List.mem_of_getElem? (i := 23) rfl)) (hw _ (List.mem_of_getElem? (i := 3) rfl)) (by decide) (by decide)) q112a q112c (g := (mkF m 193 #[.val (.long q0), .second, .val (.long q1), .second, .val (.long q2), .second, .val (.long q3), .second, .val (.int p4), .val (.long (1152921504606846975 : Int64)), .second, .val (.long (q0 &&& (1152921504606846975 : Int64))), .second, .val (.long q1), .second, .val (.int (p4 &&& (3 : Int32))), .val (.long jv59), .second, .val (.long jv63), .second, .val (.ref b65), .val (.ref b70), .val (.int (((p4.toUInt32 >>> ((2 : Int32) &&& 31).toUInt32).toInt32) &&& (3 : Int32))), .val (.ref b65), .val (.int (1 : Int32)), .val (.int (1 : Int32))] [(.ref b65), (.ref b65)])) rfl (by rw [hml]; rfl) (Steps.refl _) (argsL := [(.ref b65)]) (rest := []) (lenOf pd__28Ljava_2flang_2fObject_3b_29Z rfl) rfl (by show 2 * 0 + _ ≤ _; exact Nat.le_of_eq rfl) (hb hby at_193) (fun _ _ => ⟨rfl, rfl, (by decide : 2 + 0 ≤ _), (by decide : 4 + 0 ≤ _)⟩)
        dsimp only [Pt.U, Pt.locs, Pt.cells, Pt.slots] at X112 l112 y112 z112 st112 hQ112
        subst l112 y112 z112
        obtain ⟨rfl, N112q, e112⟩ := hQ112
        have N112 := Fr.app N75 N112q
        have pre113 : ∀ t, Steps p.tables e below (T112.setTop (mkF m 211 #[.val (.long q0), .second, .val (.long q1), .second, .val (.long q2), .second, .val (.long q3), .second, .val (.int p4), .val (.long (1152921504606846975 : Int64)), .second, .val (.long (q0 &&& (1152921504606846975 : Int64))), .second, .val (.long q1), .second, .val (.int (p4 &&& (3 : Int32))), .val (.long jv59), .second, .val (.long jv63), .second, .val (.ref b65), .val (.ref b70), .val (.int (((p4.toUInt32 >>> ((2 : Int32) &&& 31).toUInt32).toInt32) &&& (3 : Int32))), .val (.ref b65), .val (.int (1 : Int32)), .val (.int (1 : Int32))] [(.int (1 : Int32))])) t → Steps p.tables e below (s₁.setTop (entryFrame m #[(.long q0), (.long q1), (.long q2), (.long q3), (.int p4)] maxLocals)) t := by
          intro t kk
          refine pre101 t ?_
          show Steps p.tables e below (T75.setTop (mkF m 142 #[.val (.long q0), .second, .val (.long q1), .second, .val (.long q2), .second, .val (.long q3), .second, .val (.int p4), .val (.long (1152921504606846975 : Int64)), .second, .val (.long (q0 &&& (1152921504606846975 : Int64))), .second, .val (.long q1), .second, .val (.int (p4 &&& (3 : Int32))), .val (.long jv59), .second, .val (.long jv63), .second, .val (.ref b65), .val (.ref b70), .val (.int (((p4.toUInt32 >>> ((2 : Int32) &&& 31).toUInt32).toInt32) &&& (3 : Int32))), .unset, .unset, .unset] [(.int (2 : Int32)), (.int (((p4.toUInt32 >>> ((2 : Int32) &&& 31).toUInt32).toInt32) &&& (3 : Int32)))])) _
          refine XS.icmpYes X75.here hx rfl (pc0 := 142) (pc' := 158) rfl (hb hby at_142) rfl (feq hc142_100).2 (by decide) (by decide) ?_
          show Steps p.tables e below (T75.setTop (mkF m 158 #[.val (.long q0), .second, .val (.long q1), .second, .val (.long q2), .second, .val (.long q3), .second, .val (.int p4), .val (.long (1152921504606846975 : Int64)), .second, .val (.long (q0 &&& (1152921504606846975 : Int64))), .second, .val (.long q1), .second, .val (.int (p4 &&& (3 : Int32))), .val (.long jv59), .second, .val (.long jv63), .second, .val (.ref b65), .val (.ref b70), .val (.int (((p4.toUInt32 >>> ((2 : Int32) &&& 31).toUInt32).toInt32) &&& (3 : Int32))), .unset, .unset, .unset] [])) _
          refine XS.aload X75.here hx rfl (hb hby at_158) rfl rfl ?_
          show Steps p.tables e below (T75.setTop (mkF m 160 #[.val (.long q0), .second, .val (.long q1), .second, .val (.long q2), .second, .val (.long q3), .second, .val (.int p4), .val (.long (1152921504606846975 : Int64)), .second, .val (.long (q0 &&& (1152921504606846975 : Int64))), .second, .val (.long q1), .second, .val (.int (p4 &&& (3 : Int32))), .val (.long jv59), .second, .val (.long jv63), .second, .val (.ref b65), .val (.ref b70), .val (.int (((p4.toUInt32 >>> ((2 : Int32) &&& 31).toUInt32).toInt32) &&& (3 : Int32))), .unset, .unset, .unset] [(.ref b65)])) _
          refine XS.astore X75.here hx rfl (hb hby at_160) rfl rfl (l' := #[.val (.long q0), .second, .val (.long q1), .second, .val (.long q2), .second, .val (.long q3), .second, .val (.int p4), .val (.long (1152921504606846975 : Int64)), .second, .val (.long (q0 &&& (1152921504606846975 : Int64))), .second, .val (.long q1), .second, .val (.int (p4 &&& (3 : Int32))), .val (.long jv59), .second, .val (.long jv63), .second, .val (.ref b65), .val (.ref b70), .val (.int (((p4.toUInt32 >>> ((2 : Int32) &&& 31).toUInt32).toInt32) &&& (3 : Int32))), .val (.ref b65), .unset, .unset]) rfl ?_
          show Steps p.tables e below (T75.setTop (mkF m 162 #[.val (.long q0), .second, .val (.long q1), .second, .val (.long q2), .second, .val (.long q3), .second, .val (.int p4), .val (.long (1152921504606846975 : Int64)), .second, .val (.long (q0 &&& (1152921504606846975 : Int64))), .second, .val (.long q1), .second, .val (.int (p4 &&& (3 : Int32))), .val (.long jv59), .second, .val (.long jv63), .second, .val (.ref b65), .val (.ref b70), .val (.int (((p4.toUInt32 >>> ((2 : Int32) &&& 31).toUInt32).toInt32) &&& (3 : Int32))), .val (.ref b65), .unset, .unset] [])) _
          refine XS.iconst X75.here hx rfl (hb hby at_162) ?_
          show Steps p.tables e below (T75.setTop (mkF m 163 #[.val (.long q0), .second, .val (.long q1), .second, .val (.long q2), .second, .val (.long q3), .second, .val (.int p4), .val (.long (1152921504606846975 : Int64)), .second, .val (.long (q0 &&& (1152921504606846975 : Int64))), .second, .val (.long q1), .second, .val (.int (p4 &&& (3 : Int32))), .val (.long jv59), .second, .val (.long jv63), .second, .val (.ref b65), .val (.ref b70), .val (.int (((p4.toUInt32 >>> ((2 : Int32) &&& 31).toUInt32).toInt32) &&& (3 : Int32))), .val (.ref b65), .unset, .unset] [(.int (1 : Int32))])) _
          refine XS.istore X75.here hx rfl (hb hby at_163) rfl (l' := #[.val (.long q0), .second, .val (.long q1), .second, .val (.long q2), .second, .val (.long q3), .second, .val (.int p4), .val (.long (1152921504606846975 : Int64)), .second, .val (.long (q0 &&& (1152921504606846975 : Int64))), .second, .val (.long q1), .second, .val (.int (p4 &&& (3 : Int32))), .val (.long jv59), .second, .val (.long jv63), .second, .val (.ref b65), .val (.ref b70), .val (.int (((p4.toUInt32 >>> ((2 : Int32) &&& 31).toUInt32).toInt32) &&& (3 : Int32))), .val (.ref b65), .val (.int (1 : Int32)), .unset]) rfl ?_
          show Steps p.tables e below (T75.setTop (mkF m 165 #[.val (.long q0), .second, .val (.long q1), .second, .val (.long q2), .second, .val (.long q3), .second, .val (.int p4), .val (.long (1152921504606846975 : Int64)), .second, .val (.long (q0 &&& (1152921504606846975 : Int64))), .second, .val (.long q1), .second, .val (.int (p4 &&& (3 : Int32))), .val (.long jv59), .second, .val (.long jv63), .second, .val (.ref b65), .val (.ref b70), .val (.int (((p4.toUInt32 >>> ((2 : Int32) &&& 31).toUInt32).toInt32) &&& (3 : Int32))), .val (.ref b65), .val (.int (1 : Int32)), .unset] [])) _
          refine XS.iload X75.here hx rfl (hb hby at_165) rfl ?_
          show Steps p.tables e below (T75.setTop (mkF m 167 #[.val (.long q0), .second, .val (.long q1), .second, .val (.long q2), .second, .val (.long q3), .second, .val (.int p4), .val (.long (1152921504606846975 : Int64)), .second, .val (.long (q0 &&& (1152921504606846975 : Int64))), .second, .val (.long q1), .second, .val (.int (p4 &&& (3 : Int32))), .val (.long jv59), .second, .val (.long jv63), .second, .val (.ref b65), .val (.ref b70), .val (.int (((p4.toUInt32 >>> ((2 : Int32) &&& 31).toUInt32).toInt32) &&& (3 : Int32))), .val (.ref b65), .val (.int (1 : Int32)), .unset] [(.int (((p4.toUInt32 >>> ((2 : Int32) &&& 31).toUInt32).toInt32) &&& (3 : Int32)))])) _
          refine XS.ifYes X75.here hx rfl (pc0 := 167) (pc' := 182) rfl (hb hby at_167) rfl ((if0 _ _).trans (feq hc91_81).2) (by decide) (by decide) ?_
          show Steps p.tables e below (T75.setTop (mkF m 182 #[.val (.long q0), .second, .val (.long q1), .second, .val (.long q2), .second, .val (.long q3), .second, .val (.int p4), .val (.long (1152921504606846975 : Int64)), .second, .val (.long (q0 &&& (1152921504606846975 : Int64))), .second, .val (.long q1), .second, .val (.int (p4 &&& (3 : Int32))), .val (.long jv59), .second, .val (.long jv63), .second, .val (.ref b65), .val (.ref b70), .val (.int (((p4.toUInt32 >>> ((2 : Int32) &&& 31).toUInt32).toInt32) &&& (3 : Int32))), .val (.ref b65), .val (.int (1 : Int32)), .unset] [])) _
          refine XS.iconst X75.here hx rfl (hb hby at_182) ?_
          show Steps p.tables e below (T75.setTop (mkF m 183 #[.val (.long q0), .second, .val (.long q1), .second, .val (.long q2), .second, .val (.long q3), .second, .val (.int p4), .val (.long (1152921504606846975 : Int64)), .second, .val (.long (q0 &&& (1152921504606846975 : Int64))), .second, .val (.long q1), .second, .val (.int (p4 &&& (3 : Int32))), .val (.long jv59), .second, .val (.long jv63), .second, .val (.ref b65), .val (.ref b70), .val (.int (((p4.toUInt32 >>> ((2 : Int32) &&& 31).toUInt32).toInt32) &&& (3 : Int32))), .val (.ref b65), .val (.int (1 : Int32)), .unset] [(.int (1 : Int32))])) _
          refine XS.goto X75.here hx rfl (pc0 := 183) (pc' := 187) rfl (hb hby at_183) (by decide) (by decide) ?_
          show Steps p.tables e below (T75.setTop (mkF m 187 #[.val (.long q0), .second, .val (.long q1), .second, .val (.long q2), .second, .val (.long q3), .second, .val (.int p4), .val (.long (1152921504606846975 : Int64)), .second, .val (.long (q0 &&& (1152921504606846975 : Int64))), .second, .val (.long q1), .second, .val (.int (p4 &&& (3 : Int32))), .val (.long jv59), .second, .val (.long jv63), .second, .val (.ref b65), .val (.ref b70), .val (.int (((p4.toUInt32 >>> ((2 : Int32) &&& 31).toUInt32).toInt32) &&& (3 : Int32))), .val (.ref b65), .val (.int (1 : Int32)), .unset] [(.int (1 : Int32))])) _
          refine XS.istore X75.here hx rfl (hb hby at_187) rfl (l' := #[.val (.long q0), .second, .val (.long q1), .second, .val (.long q2), .second, .val (.long q3), .second, .val (.int p4), .val (.long (1152921504606846975 : Int64)), .second, .val (.long (q0 &&& (1152921504606846975 : Int64))), .second, .val (.long q1), .second, .val (.int (p4 &&& (3 : Int32))), .val (.long jv59), .second, .val (.long jv63), .second, .val (.ref b65), .val (.ref b70), .val (.int (((p4.toUInt32 >>> ((2 : Int32) &&& 31).toUInt32).toInt32) &&& (3 : Int32))), .val (.ref b65), .val (.int (1 : Int32)), .val (.int (1 : Int32))]) rfl ?_
          show Steps p.tables e below (T75.setTop (mkF m 189 #[.val (.long q0), .second, .val (.long q1), .second, .val (.long q2), .second, .val (.long q3), .second, .val (.int p4), .val (.long (1152921504606846975 : Int64)), .second, .val (.long (q0 &&& (1152921504606846975 : Int64))), .second, .val (.long q1), .second, .val (.int (p4 &&& (3 : Int32))), .val (.long jv59), .second, .val (.long jv63), .second, .val (.ref b65), .val (.ref b70), .val (.int (((p4.toUInt32 >>> ((2 : Int32) &&& 31).toUInt32).toInt32) &&& (3 : Int32))), .val (.ref b65), .val (.int (1 : Int32)), .val (.int (1 : Int32))] [])) _
          refine XS.aload X75.here hx rfl (hb hby at_189) rfl rfl ?_
          show Steps p.tables e below (T75.setTop (mkF m 191 #[.val (.long q0), .second, .val (.long q1), .second, .val (.long q2), .second, .val (.long q3), .second, .val (.int p4), .val (.long (1152921504606846975 : Int64)), .second, .val (.long (q0 &&& (1152921504606846975 : Int64))), .second, .val (.long q1), .second, .val (.int (p4 &&& (3 : Int32))), .val (.long jv59), .second, .val (.long jv63), .second, .val (.ref b65), .val (.ref b70), .val (.int (((p4.toUInt32 >>> ((2 : Int32) &&& 31).toUInt32).toInt32) &&& (3 : Int32))), .val (.ref b65), .val (.int (1 : Int32)), .val (.int (1 : Int32))] [(.ref b65)])) _
          refine XS.aload X75.here hx rfl (hb hby at_191) rfl rfl ?_
          show Steps p.tables e below (T75.setTop (mkF m 193 #[.val (.long q0), .second, .val (.long q1), .second, .val (.long q2), .second, .val (.long q3), .second, .val (.int p4), .val (.long (1152921504606846975 : Int64)), .second, .val (.long (q0 &&& (1152921504606846975 : Int64))), .second, .val (.long q1), .second, .val (.int (p4 &&& (3 : Int32))), .val (.long jv59), .second, .val (.long jv63), .second, .val (.ref b65), .val (.ref b70), .val (.int (((p4.toUInt32 >>> ((2 : Int32) &&& 31).toUInt32).toInt32) &&& (3 : Int32))), .val (.ref b65), .val (.int (1 : Int32)), .val (.int (1 : Int32))] [(.ref b65), (.ref b65)])) _
          refine st112.trans ?_
          show Steps p.tables e below (T112.setTop (mkF m 196 #[.val (.long q0), .second, .val (.long q1), .second, .val (.long q2), .second, .val (.long q3), .second, .val (.int p4), .val (.long (1152921504606846975 : Int64)), .second, .val (.long (q0 &&& (1152921504606846975 : Int64))), .second, .val (.long q1), .second, .val (.int (p4 &&& (3 : Int32))), .val (.long jv59), .second, .val (.long jv63), .second, .val (.ref b65), .val (.ref b70), .val (.int (((p4.toUInt32 >>> ((2 : Int32) &&& 31).toUInt32).toInt32) &&& (3 : Int32))), .val (.ref b65), .val (.int (1 : Int32)), .val (.int (1 : Int32))] [(.int (F4o b65 b65 (q0 &&& (1152921504606846975 : Int64)) q1 (q0 &&& (1152921504606846975 : Int64)) q1))])) _
          refine XS.iload X112.here hx rfl (hb hby at_196) rfl ?_
          show Steps p.tables e below (T112.setTop (mkF m 198 #[.val (.long q0), .second, .val (.long q1), .second, .val (.long q2), .second, .val (.long q3), .second, .val (.int p4), .val (.long (1152921504606846975 : Int64)), .second, .val (.long (q0 &&& (1152921504606846975 : Int64))), .second, .val (.long q1), .second, .val (.int (p4 &&& (3 : Int32))), .val (.long jv59), .second, .val (.long jv63), .second, .val (.ref b65), .val (.ref b70), .val (.int (((p4.toUInt32 >>> ((2 : Int32) &&& 31).toUInt32).toInt32) &&& (3 : Int32))), .val (.ref b65), .val (.int (1 : Int32)), .val (.int (1 : Int32))] [(.int (1 : Int32)), (.int (F4o b65 b65 (q0 &&& (1152921504606846975 : Int64)) q1 (q0 &&& (1152921504606846975 : Int64)) q1))])) _
          refine XS.icmpNo X112.here hx rfl (hb hby at_198) rfl (teq (show (F4o b65 b65 (q0 &&& (1152921504606846975 : Int64)) q1 (q0 &&& (1152921504606846975 : Int64)) q1) = (1 : Int32) from (if_pos rfl).trans (if_pos rfl))).2 ?_
          show Steps p.tables e below (T112.setTop (mkF m 201 #[.val (.long q0), .second, .val (.long q1), .second, .val (.long q2), .second, .val (.long q3), .second, .val (.int p4), .val (.long (1152921504606846975 : Int64)), .second, .val (.long (q0 &&& (1152921504606846975 : Int64))), .second, .val (.long q1), .second, .val (.int (p4 &&& (3 : Int32))), .val (.long jv59), .second, .val (.long jv63), .second, .val (.ref b65), .val (.ref b70), .val (.int (((p4.toUInt32 >>> ((2 : Int32) &&& 31).toUInt32).toInt32) &&& (3 : Int32))), .val (.ref b65), .val (.int (1 : Int32)), .val (.int (1 : Int32))] [])) _
          refine XS.iload X112.here hx rfl (hb hby at_201) rfl ?_
          show Steps p.tables e below (T112.setTop (mkF m 203 #[.val (.long q0), .second, .val (.long q1), .second, .val (.long q2), .second, .val (.long q3), .second, .val (.int p4), .val (.long (1152921504606846975 : Int64)), .second, .val (.long (q0 &&& (1152921504606846975 : Int64))), .second, .val (.long q1), .second, .val (.int (p4 &&& (3 : Int32))), .val (.long jv59), .second, .val (.long jv63), .second, .val (.ref b65), .val (.ref b70), .val (.int (((p4.toUInt32 >>> ((2 : Int32) &&& 31).toUInt32).toInt32) &&& (3 : Int32))), .val (.ref b65), .val (.int (1 : Int32)), .val (.int (1 : Int32))] [(.int (1 : Int32))])) _
          refine XS.ifNo X112.here hx rfl (hb hby at_203) rfl ((if0 _ _).trans (feq (by decide : ¬ ((1 : Int32) = (0 : Int32)))).1) ?_
          show Steps p.tables e below (T112.setTop (mkF m 206 #[.val (.long q0), .second, .val (.long q1), .second, .val (.long q2), .second, .val (.long q3), .second, .val (.int p4), .val (.long (1152921504606846975 : Int64)), .second, .val (.long (q0 &&& (1152921504606846975 : Int64))), .second, .val (.long q1), .second, .val (.int (p4 &&& (3 : Int32))), .val (.long jv59), .second, .val (.long jv63), .second, .val (.ref b65), .val (.ref b70), .val (.int (((p4.toUInt32 >>> ((2 : Int32) &&& 31).toUInt32).toInt32) &&& (3 : Int32))), .val (.ref b65), .val (.int (1 : Int32)), .val (.int (1 : Int32))] [])) _
          refine XS.iconst X112.here hx rfl (hb hby at_206) ?_
          show Steps p.tables e below (T112.setTop (mkF m 207 #[.val (.long q0), .second, .val (.long q1), .second, .val (.long q2), .second, .val (.long q3), .second, .val (.int p4), .val (.long (1152921504606846975 : Int64)), .second, .val (.long (q0 &&& (1152921504606846975 : Int64))), .second, .val (.long q1), .second, .val (.int (p4 &&& (3 : Int32))), .val (.long jv59), .second, .val (.long jv63), .second, .val (.ref b65), .val (.ref b70), .val (.int (((p4.toUInt32 >>> ((2 : Int32) &&& 31).toUInt32).toInt32) &&& (3 : Int32))), .val (.ref b65), .val (.int (1 : Int32)), .val (.int (1 : Int32))] [(.int (1 : Int32))])) _
          refine XS.goto X112.here hx rfl (pc0 := 207) (pc' := 211) rfl (hb hby at_207) (by decide) (by decide) ?_
          exact kk
        obtain ⟨fs, hr, hrun, hended, hW, hsame⟩ := X112.leave (v := some (.int (1 : Int32))) (fun h => by rw [Bd.returns] at h; cases h)
        refine ⟨_, _, pre113 _ ?_, hrun, hended, _, _, rfl, ?_, ⟨_, rfl⟩, hW, hsame.mono (by decide) (by decide)⟩
        · show Steps p.tables e below (T112.setTop (mkF m 211 #[.val (.long q0), .second, .val (.long q1), .second, .val (.long q2), .second, .val (.long q3), .second, .val (.int p4), .val (.long (1152921504606846975 : Int64)), .second, .val (.long (q0 &&& (1152921504606846975 : Int64))), .second, .val (.long q1), .second, .val (.int (p4 &&& (3 : Int32))), .val (.long jv59), .second, .val (.long jv63), .second, .val (.ref b65), .val (.ref b70), .val (.int (((p4.toUInt32 >>> ((2 : Int32) &&& 31).toUInt32).toInt32) &&& (3 : Int32))), .val (.ref b65), .val (.int (1 : Int32)), .val (.int (1 : Int32))] [(.int (1 : Int32))])) _
          exact retN X112 hx (t := .boolean) Bd.returns (by simp) (hb hby at_211) hr
        · show Q0 Z q0 q1 q2 q3 p4 ca h0 n0 _ T112.heap _
          rw [e112]
          exact ⟨rfl, N112⟩
set_option maxRecDepth 65536 in
set_option maxHeartbeats 40000000 in
theorem comes_1 {Post : Tables → Env → Array Value → State → Outcome → State → Prop} (hpost : ∀ tb e args s v u, (limb_1_1.after args s (.returned v) u = true ∧ limb_1_2.after args s (.returned v) u = true ∧ True) → FrameEnd s (.returned v) u (Jvm.fieldLocs frame_1_writes args s ++ Jvm.arrayLocs frame_1_arrays args s ++ Jvm.staticLocs frame_1_statics s) 16 128 → Post tb e args s (.returned v) u) :
    ArmFor flags0 classFile x code maxLocals ret World_1 tables_1 room_1 Calls_1 rest_1 Pre_1 Post := by
  intro l hfl _ _ p e ha hc hk s m args below hf hA hF happ hP
  obtain ⟨hcalls, hrest, hpre⟩ := hP
  obtain ⟨-, -, -, hnamed, -, -, -, hat⟩ := (Spec.applies_iff hf).mp happ
  obtain ⟨hg, hn⟩ := and_e (Cond.before_iff.mp (show (Jvm.Cond.and given_1 narrow_1).before args s = true from hpre))
  obtain ⟨hcount, hg0⟩ := and_e hg
  obtain ⟨ga0, hg1⟩ := and_e hg0
  obtain ⟨ga1, hg2⟩ := and_e hg1
  obtain ⟨ga2, hg3⟩ := and_e hg2
  obtain ⟨ga3, hg4⟩ := and_e hg3
  have ga4 := hg4
  obtain ⟨w0, w1, w2, w3, w4, rfl⟩ : ∃ w0 w1 w2 w3 w4 : Value, args = #[w0, w1, w2, w3, w4] := by
    have hs : args.size = 5 := by simpa [Cond.value, given_1] using hcount
    obtain ⟨L⟩ := args
    match L, hs with
    | [w0, w1, w2, w3, w4], _ => exact ⟨w0, w1, w2, w3, w4, rfl⟩
  have hw := fun d (hd : d ∈ tables_1) => atoms_spec (ws := Jvm.Cond.code x code maxLocals ret :: tables_1) hat d (List.mem_cons_of_mem _ hd)
  have hfit : Fit s := fun {y c} hc i hi => by
    obtain ⟨ha, rfl⟩ := Array.getElem?_eq_some_iff.mp hc
    have q := List.all_eq_true.mp ((Array.all_eq_true_iff_forall_mem.mp hF) _ (Array.getElem_mem ha)) i (List.mem_range.mpr hi)
    simpa [Array.getElem?_eq_getElem hi] using q
  obtain ⟨hsets, hown0⟩ := atoms_of _ (rest_1_c_eq ▸ (show rest_1_c.before _ s = true from hrest))
  have hr0 := Cond.before_iff.mp hown0
  obtain ⟨i0, ei0⟩ := isL_v ga0
  obtain rfl : w0 = (.long i0) := Option.some.inj ei0
  obtain ⟨i1, ei1⟩ := isL_v ga1
  obtain rfl : w1 = (.long i1) := Option.some.inj ei1
  obtain ⟨i2, ei2⟩ := isL_v ga2
  obtain rfl : w2 = (.long i2) := Option.some.inj ei2
  obtain ⟨i3, ei3⟩ := isL_v ga3
  obtain rfl : w3 = (.long i3) := Option.some.inj ei3
  obtain ⟨i4, ei4⟩ := is_v ga4
  obtain rfl : w4 = (.int i4) := Option.some.inj ei4
  obtain ⟨ca, vca⟩ := arr_v (Cond.before_iff.mp (hsets _ (List.mem_of_getElem? (i := 2) rfl)))
  obtain ⟨cla, Aca⟩ := Arr.start vca (Cond.before_iff.mp (hsets _ (List.mem_of_getElem? (i := 2) rfl)))
  have S_cache : Sta s s.heap "java/lang/Long$LongCache" "cache" "[Ljava/lang/Long;" (.ref ca) := Sta.start vca (Or.inl (hsets _ (List.mem_of_getElem? (i := 1) rfl)))
  have hArr : s.arrayAt? ca = some cla := Aca.fin (Vm.Alike.refl _)
  obtain ⟨lv, l1, l2⟩ := Cond.eq_worth (Cond.before_iff.mp (hsets _ (List.mem_of_getElem? (i := 4) rfl)))
  have l3 : lv = .int (256 : Int32) := (Option.some.inj l2).symm
  subst l3
  obtain ⟨l4, l5⟩ := own_len l1 vca hArr
  have l6 : cla.slots.size = 256 := by
    have q := len_toInt l4
    rw [l5] at q
    have q2 : (256 : Int32).toInt = 256 := by decide
    rw [q2] at q
    omega
  have C_cache : own_Cache s s.heap ca := by
    refine ⟨cla, Aca, l6, fun j hj => ?_⟩
    have hlt : j.toNatClampNeg < cla.slots.size := Nat.lt_of_not_le fun q => hj (Or.inr q)
    have qa := Cond.all_elim vca hArr (Cond.before_iff.mp (hsets _ (List.mem_of_getElem? (i := 5) rfl))) j.toNatClampNeg hlt
    obtain ⟨q1, q2⟩ := and_e qa
    obtain ⟨b, vb⟩ := exa_v q1
    refine ⟨b, (elem_in vb vca (idx_at (fun q => hj (Or.inl q))) Aca.1).2, exa_at vb q1, ?_⟩
    exact Fld.start (by
        obtain ⟨vv, f1, f2⟩ := Cond.eq_worth q2
        rw [fld_at vb] at f1
        have f3 : (Term.op1 Jvm.Unary.i2l (Term.sub (Term.index 0) (Term.int (128 : Int32)))).eval #[(.long i0), (.long i1), (.long i2), (.long i3), (.int i4)] s none [j.toNatClampNeg] s = some (.long ((j - 128).toInt64)) := op1_f (own_sub (idx_at (fun q => hj (Or.inl q))) rfl)
        exact f1.trans (f2.symm.trans f3))
  obtain ⟨n, o, h1, h2, h3, _, L, rfl, ⟨rfl, N⟩, hq⟩ := rm0 l s _ hw tables_1 i0 i1 i2 i3 i4 ca s.heap s.heap.size (Nat.le_refl _) (Old.start s) S_cache C_cache p e ha hc hk s m _ below hf ((Spec.applies_iff_loose hf).mp happ).1 ⟨rfl, State.Warmed39.refl s, rfl⟩ trivial
  refine ⟨n, _, h1, h2, h3, hpost _ _ _ _ _ _ ⟨Cond.after_iff.mpr rfl, Cond.after_iff.mpr (eq_i res_at (Term.int_eval (1)) rfl), trivial⟩ ⟨hq.1, hq.2.1, (hq.2.2.sift fun y hy => Or.inr (N y hy)).mono (by decide) (by decide)⟩⟩
theorem main_1_1 : Claimed_1_1 := comes_1 fun _ _ _ _ _ _ h hF => ⟨h.1, hF⟩
theorem main_1_2 : Claimed_1_2 := comes_1 fun _ _ _ _ _ _ h hF => ⟨h.2.1, hF⟩
end Jvm.Pilot.@@N@@
namespace Jvm.Pilot.@@N@@
open Jvm Jvm.ClassFile Sem Op Lib Jvm.Free Jvm.Stand Jvm.Pilot.@@N@@.Jvm.D
/-! MADE BY PROGRAM (witnessworld.py) out of the Statement's table words and the real class files: 17 classes; the members and pool entries that the words name. The judged class is class 1, her method 1. -/
namespace start1
open Jvm.ClassFile
def u (s : String) : CpInfo := .utf8 (stringToUtf16 s)
/-- a pool by its gaps: so many unusable entries, then the entry; so many at the end -/
def gap : Nat → List CpInfo → List CpInfo
  | 0, r => r
  | n + 1, r => .unusable :: gap n r
def poolList (es : List (Nat × CpInfo)) (last : Nat) : List CpInfo := es.foldr (fun e r => gap e.1 (e.2 :: r)) (gap last [])
def pool (es : List (Nat × CpInfo)) (last : Nat) : Array CpInfo := ⟨poolList es last⟩
def fileOf (pool : Array CpInfo) (this : Nat) (attrs : Array Attribute := #[]) (ms : Array MethodInfo := #[]) (fl : Nat := 33) (sup : Nat := 0) (ifs : Array Nat := #[]) (fds : Array FieldInfo := #[]) : ClassFile where
  minorVersion := 0
  majorVersion := 65
  constantPool := pool
  accessFlags := fl
  thisClass := this
  superClass := sup
  interfaces := ifs
  fields := fds
  methods := ms
  attributes := attrs
def plain (name : String) (sup : Option ClassId) : Class where
  name := name
  kind := .ordinary
  loader := none
  accessFlags := 33
  super := sup
  interfaces := #[]
  cf := none
  fields := #[]
  methods := #[]
  instanceTypes := #[]
  staticTypes := #[]
  resolved := #[]
  callSites := []
  init := .initialized
  statics := none
  mirror := none

def pool0 : Array CpInfo := pool [(5, u "<init>"), (0, u "()V"), (1, .class_ 10), (1, u "java/lang/Object")] 113

def k0c0 : Code := { maxStack := 0, maxLocals := 1, code := object_method_1_code, exceptionTable := #[], attributes := #[] }
def k0m0 : Method := { name := "<init>", desc := "()V", sig := { parameters := [], returnType := none }, accessFlags := 1, code := some k0c0 }
/-- java/lang/Object -/
def k0 : Class := { plain "java/lang/Object" none with
  accessFlags := 33
  interfaces := #[]
  cf := some (fileOf pool0 8 #[] #[{ accessFlags := 1, nameIndex := 5, descriptorIndex := 6, attributes := #[] }] 33 0 #[] #[])
  fields := #[]
  methods := #[k0m0]
  instanceTypes := #[]
  staticTypes := #[]
  resolved := Array.replicate 124 none
  statics := none }

def pool1 : Array CpInfo := pool [(2, .class_ 4), (1, u "java/lang/Object"), (0, u "<init>"), (0, u "()V"), (0, .long 1152921504606846975), (1, .class_ 10), (0, u "com/example/grey_steward/greysteward/core/ObjectId"), (0, .methodref 9 12), (0, .nameAndType 5 13), (0, u "(JJ)V"), (0, .methodref 15 16), (0, .class_ 17), (0, .nameAndType 18 19), (0, u "java/lang/Long"), (0, u "valueOf"), (0, u "(J)Ljava/lang/Long;"), (0, .methodref 9 21), (0, .nameAndType 22 23), (0, u "equals"), (0, u "(Ljava/lang/Object;)Z"), (0, .class_ 25), (0, u "com/example/grey_steward/greysteward/core/ObjectIdEqualsPinLaw"), (2, u "law"), (0, u "(JJJJI)Z")] 3

def k1m0 : Method := { name := "<init>", desc := "()V", sig := { parameters := [], returnType := none }, accessFlags := 1, code := none }
def k1c1 : Code := { maxStack := 6, maxLocals := 26, code := code, exceptionTable := #[], attributes := #[] }
def k1m1 : Method := { name := "law", desc := "(JJJJI)Z", sig := { parameters := [.long, .long, .long, .long, .int], returnType := some .boolean }, accessFlags := 9, code := some k1c1 }
/-- com/example/grey_steward/greysteward/core/ObjectIdEqualsPinLaw -/
def k1 : Class := { plain "com/example/grey_steward/greysteward/core/ObjectIdEqualsPinLaw" (some 0) with
  accessFlags := 49
  interfaces := #[]
  cf := some (fileOf pool1 24 #[] #[{ accessFlags := 1, nameIndex := 5, descriptorIndex := 6, attributes := #[] }, { accessFlags := 9, nameIndex := 28, descriptorIndex := 29, attributes := #[] }] 49 2 #[] #[])
  fields := #[]
  methods := #[k1m0, k1m1]
  instanceTypes := #[]
  staticTypes := #[]
  resolved := Array.replicate 33 none
  statics := none }

def pool2 : Array CpInfo := pool [(1, .methodref 2 3), (0, .class_ 4), (0, .nameAndType 5 6), (0, u "java/lang/Object"), (0, u "<init>"), (0, u "()V"), (0, .class_ 8), (0, u "java/lang/Record")] 13

def k2c0 : Code := { maxStack := 1, maxLocals := 1, code := jdk_30_method_1_code, exceptionTable := #[], attributes := #[] }
def k2m0 : Method := { name := "<init>", desc := "()V", sig := { parameters := [], returnType := none }, accessFlags := 4, code := some k2c0 }
/-- java/lang/Record -/
def k2 : Class := { plain "java/lang/Record" (some 0) with
  accessFlags := 1057
  interfaces := #[]
  cf := some (fileOf pool2 7 #[] #[{ accessFlags := 4, nameIndex := 5, descriptorIndex := 6, attributes := #[] }] 1057 2 #[] #[])
  fields := #[]
  methods := #[k2m0]
  instanceTypes := #[]
  staticTypes := #[]
  resolved := Array.replicate 22 none
  statics := none }

def pool3 : Array CpInfo := pool [(1, .class_ 2), (0, u "java/lang/Comparable"), (0, .class_ 4), (0, u "java/lang/Object")] 7

/-- java/lang/Comparable -/
def k3 : Class := { plain "java/lang/Comparable" (some 0) with
  accessFlags := 1537
  interfaces := #[]
  cf := some (fileOf pool3 1 #[] #[] 1537 3 #[] #[])
  fields := #[]
  methods := #[]
  instanceTypes := #[]
  staticTypes := #[]
  resolved := Array.replicate 12 none
  statics := none }

def pool4 : Array CpInfo := pool [(1, .methodref 2 3), (0, .class_ 4), (0, .nameAndType 5 6), (0, u "java/lang/Record"), (0, u "<init>"), (0, u "()V"), (0, .class_ 8), (0, u "com/example/grey_steward/greysteward/core/ObjectId"), (13, .fieldref 7 23), (0, .nameAndType 24 25), (0, u "first"), (0, u "J"), (0, .fieldref 7 27), (0, .nameAndType 28 25), (0, u "second"), (2, u "BOOT_SEQUENCE"), (0, u "Lcom/example/grey_steward/greysteward/core/ObjectId$Field;"), (1, .class_ 36), (1, u "com/example/grey_steward/greysteward/core/ObjectId$Field"), (4, u "BROKER_BANK"), (2, u "AGENT_BANK"), (2, u "(JJ)V"), (22, u "FIELDS"), (0, u "Ljava/util/List;"), (66, u "HEX"), (0, u "Ljava/util/HexFormat;"), (43, .class_ 184), (0, u "java/lang/Comparable"), (0, u "MAX_BOOT_SEQUENCE"), (0, u "I"), (2, u "MAX_BROKER_BANK"), (0, u "MAX_AGENT_BANK"), (0, u "FLAGS_SHIFT"), (1, u "BOOT_SEQUENCE_SHIFT"), (1, u "BROKER_BANK_SHIFT"), (1, u "HEX_DIGITS"), (1, u "SEPARATOR"), (0, u "C"), (17, u "equals"), (0, u "(Ljava/lang/Object;)Z")] 31

def k4c0 : Code := { maxStack := 6, maxLocals := 5, code := prog_64_method_1_code, exceptionTable := #[], attributes := #[] }
def k4m0 : Method := { name := "<init>", desc := "(JJ)V", sig := { parameters := [.long, .long], returnType := none }, accessFlags := 1, code := some k4c0 }
def k4c1 : Code := { maxStack := 4, maxLocals := 3, code := prog_64_method_9_code, exceptionTable := #[], attributes := #[] }
def k4m1 : Method := { name := "equals", desc := "(Ljava/lang/Object;)Z", sig := { parameters := [(.object "java/lang/Object")], returnType := some .boolean }, accessFlags := 1, code := some k4c1 }
/-- com/example/grey_steward/greysteward/core/ObjectId -/
def k4 : Class := { plain "com/example/grey_steward/greysteward/core/ObjectId" (some 2) with
  accessFlags := 49
  interfaces := #[3]
  cf := some (fileOf pool4 7 #[.nestMembers #[34]] #[{ accessFlags := 1, nameIndex := 5, descriptorIndex := 47, attributes := #[] }, { accessFlags := 1, nameIndex := 218, descriptorIndex := 219, attributes := #[] }] 49 2 #[183] #[{ accessFlags := 18, nameIndex := 24, descriptorIndex := 25, attributes := #[] }, { accessFlags := 18, nameIndex := 28, descriptorIndex := 25, attributes := #[] }, { accessFlags := 25, nameIndex := 185, descriptorIndex := 186, attributes := #[] }, { accessFlags := 25, nameIndex := 189, descriptorIndex := 186, attributes := #[] }, { accessFlags := 25, nameIndex := 190, descriptorIndex := 186, attributes := #[] }, { accessFlags := 26, nameIndex := 191, descriptorIndex := 186, attributes := #[] }, { accessFlags := 26, nameIndex := 193, descriptorIndex := 186, attributes := #[] }, { accessFlags := 26, nameIndex := 195, descriptorIndex := 186, attributes := #[] }, { accessFlags := 26, nameIndex := 197, descriptorIndex := 186, attributes := #[] }, { accessFlags := 26, nameIndex := 199, descriptorIndex := 200, attributes := #[] }, { accessFlags := 26, nameIndex := 138, descriptorIndex := 139, attributes := #[] }, { accessFlags := 26, nameIndex := 31, descriptorIndex := 32, attributes := #[] }, { accessFlags := 26, nameIndex := 41, descriptorIndex := 32, attributes := #[] }, { accessFlags := 26, nameIndex := 44, descriptorIndex := 32, attributes := #[] }, { accessFlags := 26, nameIndex := 70, descriptorIndex := 71, attributes := #[] }])
  fields := #[{ name := "first", type := .long, accessFlags := 18, slot := 0, constantValue := 0 }, { name := "second", type := .long, accessFlags := 18, slot := 1, constantValue := 0 }, { name := "MAX_BOOT_SEQUENCE", type := .int, accessFlags := 25, slot := 0, constantValue := 0 }, { name := "MAX_BROKER_BANK", type := .int, accessFlags := 25, slot := 1, constantValue := 0 }, { name := "MAX_AGENT_BANK", type := .int, accessFlags := 25, slot := 2, constantValue := 0 }, { name := "FLAGS_SHIFT", type := .int, accessFlags := 26, slot := 3, constantValue := 0 }, { name := "BOOT_SEQUENCE_SHIFT", type := .int, accessFlags := 26, slot := 4, constantValue := 0 }, { name := "BROKER_BANK_SHIFT", type := .int, accessFlags := 26, slot := 5, constantValue := 0 }, { name := "HEX_DIGITS", type := .int, accessFlags := 26, slot := 6, constantValue := 0 }, { name := "SEPARATOR", type := .char, accessFlags := 26, slot := 7, constantValue := 0 }, { name := "HEX", type := (.object "java/util/HexFormat"), accessFlags := 26, slot := 8, constantValue := 0 }, { name := "BOOT_SEQUENCE", type := (.object "com/example/grey_steward/greysteward/core/ObjectId$Field"), accessFlags := 26, slot := 9, constantValue := 0 }, { name := "BROKER_BANK", type := (.object "com/example/grey_steward/greysteward/core/ObjectId$Field"), accessFlags := 26, slot := 10, constantValue := 0 }, { name := "AGENT_BANK", type := (.object "com/example/grey_steward/greysteward/core/ObjectId$Field"), accessFlags := 26, slot := 11, constantValue := 0 }, { name := "FIELDS", type := (.object "java/util/List"), accessFlags := 26, slot := 12, constantValue := 0 }]
  methods := #[k4m0, k4m1]
  instanceTypes := #[.long, .long]
  staticTypes := #[.int, .int, .int, .int, .int, .int, .int, .char, (.object "java/util/HexFormat"), (.object "com/example/grey_steward/greysteward/core/ObjectId$Field"), (.object "com/example/grey_steward/greysteward/core/ObjectId$Field"), (.object "com/example/grey_steward/greysteward/core/ObjectId$Field"), (.object "java/util/List")]
  resolved := Array.replicate 251 none
  statics := none }

def pool5 : Array CpInfo := pool [(1, .class_ 2), (0, u "java/io/Serializable"), (0, .class_ 4), (0, u "java/lang/Object")] 2

/-- java/io/Serializable -/
def k5 : Class := { plain "java/io/Serializable" (some 0) with
  accessFlags := 1537
  interfaces := #[]
  cf := some (fileOf pool5 1 #[] #[] 1537 3 #[] #[])
  fields := #[]
  methods := #[]
  instanceTypes := #[]
  staticTypes := #[]
  resolved := Array.replicate 7 none
  statics := none }

def pool6 : Array CpInfo := pool [(1, .methodref 2 3), (0, .class_ 4), (0, .nameAndType 5 6), (0, u "java/lang/Object"), (0, u "<init>"), (0, u "()V"), (1, .class_ 10), (1, u "java/lang/Number"), (2, .class_ 14), (0, u "java/io/Serializable"), (0, u "serialVersionUID"), (0, u "J")] 20

def k6c0 : Code := { maxStack := 1, maxLocals := 1, code := jdk_18_method_1_code, exceptionTable := #[], attributes := #[] }
def k6m0 : Method := { name := "<init>", desc := "()V", sig := { parameters := [], returnType := none }, accessFlags := 1, code := some k6c0 }
/-- java/lang/Number -/
def k6 : Class := { plain "java/lang/Number" (some 0) with
  accessFlags := 1057
  interfaces := #[5]
  cf := some (fileOf pool6 8 #[] #[{ accessFlags := 1, nameIndex := 5, descriptorIndex := 6, attributes := #[] }] 1057 2 #[13] #[{ accessFlags := 26, nameIndex := 15, descriptorIndex := 16, attributes := #[] }])
  fields := #[{ name := "serialVersionUID", type := .long, accessFlags := 26, slot := 0, constantValue := 0 }]
  methods := #[k6m0]
  instanceTypes := #[]
  staticTypes := #[.long]
  resolved := Array.replicate 37 none
  statics := none }

def pool7 : Array CpInfo := pool [(1, .class_ 2), (0, u "java/lang/constant/Constable"), (0, .class_ 4), (0, u "java/lang/Object")] 6

/-- java/lang/constant/Constable -/
def k7 : Class := { plain "java/lang/constant/Constable" (some 0) with
  accessFlags := 1537
  interfaces := #[]
  cf := some (fileOf pool7 1 #[] #[] 1537 3 #[] #[])
  fields := #[]
  methods := #[]
  instanceTypes := #[]
  staticTypes := #[]
  resolved := Array.replicate 11 none
  statics := none }

def pool8 : Array CpInfo := pool [(1, .class_ 2), (0, u "java/lang/constant/ConstantDesc"), (0, .class_ 4), (0, u "java/lang/Object")] 32

/-- java/lang/constant/ConstantDesc -/
def k8 : Class := { plain "java/lang/constant/ConstantDesc" (some 0) with
  accessFlags := 1537
  interfaces := #[]
  cf := some (fileOf pool8 1 #[] #[] 1537 3 #[] #[])
  fields := #[]
  methods := #[]
  instanceTypes := #[]
  staticTypes := #[]
  resolved := Array.replicate 37 none
  statics := none }

def pool9 : Array CpInfo := pool [(1, .class_ 2), (0, u "java/lang/Long"), (55, .nameAndType 59 60), (0, u "<init>"), (0, u "()V"), (24, u "valueOf"), (143, u "(J)Ljava/lang/Long;"), (0, .long 18446744073709551488), (1, .long 127), (1, .fieldref 235 236), (0, .class_ 237), (0, .nameAndType 238 239), (0, u "java/lang/Long$LongCache"), (0, u "cache"), (0, u "[Ljava/lang/Long;"), (0, .methodref 1 241), (0, .nameAndType 59 242), (0, u "(J)V"), (27, .methodref 271 58), (0, .class_ 272), (0, u "java/lang/Number"), (0, .fieldref 1 274), (0, .nameAndType 275 276), (0, u "value"), (0, u "J"), (84, u "TYPE"), (0, u "Ljava/lang/Class;"), (0, .class_ 364), (0, u "java/lang/Comparable"), (0, .class_ 366), (0, u "java/lang/constant/Constable"), (0, .class_ 368), (0, u "java/lang/constant/ConstantDesc"), (0, u "MIN_VALUE"), (1, u "MAX_VALUE"), (4, u "SIZE"), (0, u "I"), (1, u "BYTES"), (1, u "serialVersionUID")] 142

def k9c0 : Code := { maxStack := 4, maxLocals := 3, code := jdk_35_method_24_code, exceptionTable := #[], attributes := #[] }
def k9m0 : Method := { name := "valueOf", desc := "(J)Ljava/lang/Long;", sig := { parameters := [.long], returnType := some (.object "java/lang/Long") }, accessFlags := 9, code := some k9c0 }
def k9c1 : Code := { maxStack := 3, maxLocals := 3, code := jdk_35_method_26_code, exceptionTable := #[], attributes := #[] }
def k9m1 : Method := { name := "<init>", desc := "(J)V", sig := { parameters := [.long], returnType := none }, accessFlags := 1, code := some k9c1 }
/-- java/lang/Long -/
def k9 : Class := { plain "java/lang/Long" (some 6) with
  accessFlags := 49
  interfaces := #[3, 7, 8]
  cf := some (fileOf pool9 1 #[.nestMembers #[235]] #[{ accessFlags := 9, nameIndex := 85, descriptorIndex := 229, attributes := #[] }, { accessFlags := 1, nameIndex := 59, descriptorIndex := 242, attributes := #[] }] 49 271 #[363, 365, 367] #[{ accessFlags := 25, nameIndex := 369, descriptorIndex := 276, attributes := #[] }, { accessFlags := 25, nameIndex := 371, descriptorIndex := 276, attributes := #[] }, { accessFlags := 25, nameIndex := 361, descriptorIndex := 362, attributes := #[] }, { accessFlags := 18, nameIndex := 275, descriptorIndex := 276, attributes := #[] }, { accessFlags := 25, nameIndex := 376, descriptorIndex := 377, attributes := #[] }, { accessFlags := 25, nameIndex := 379, descriptorIndex := 377, attributes := #[] }, { accessFlags := 26, nameIndex := 381, descriptorIndex := 276, attributes := #[] }])
  fields := #[{ name := "MIN_VALUE", type := .long, accessFlags := 25, slot := 0, constantValue := 0 }, { name := "MAX_VALUE", type := .long, accessFlags := 25, slot := 1, constantValue := 0 }, { name := "TYPE", type := (.object "java/lang/Class"), accessFlags := 25, slot := 2, constantValue := 0 }, { name := "value", type := .long, accessFlags := 18, slot := 0, constantValue := 0 }, { name := "SIZE", type := .int, accessFlags := 25, slot := 3, constantValue := 0 }, { name := "BYTES", type := .int, accessFlags := 25, slot := 4, constantValue := 0 }, { name := "serialVersionUID", type := .long, accessFlags := 26, slot := 5, constantValue := 0 }]
  methods := #[k9m0, k9m1]
  instanceTypes := #[.long]
  staticTypes := #[.long, .long, (.object "java/lang/Class"), .int, .int, .long]
  resolved := Array.replicate 524 none
  statics := none }

def pool10 : Array CpInfo := pool [(2, .class_ 4), (1, u "java/lang/Object"), (0, u "<init>"), (0, u "()V"), (0, .class_ 8), (0, u "java/lang/Long"), (7, .class_ 18), (1, u "java/lang/Long$LongCache"), (0, u "$assertionsDisabled"), (0, u "Z"), (8, u "archivedCache"), (0, u "[Ljava/lang/Long;"), (7, u "cache")] 24

def k10m0 : Method := { name := "<init>", desc := "()V", sig := { parameters := [], returnType := none }, accessFlags := 2, code := none }
/-- java/lang/Long$LongCache -/
def k10 : Class := { plain "java/lang/Long$LongCache" (some 0) with
  accessFlags := 48
  interfaces := #[]
  cf := some (fileOf pool10 16 #[.nestHost 7] #[{ accessFlags := 2, nameIndex := 5, descriptorIndex := 6, attributes := #[] }] 48 2 #[] #[{ accessFlags := 24, nameIndex := 38, descriptorIndex := 30, attributes := #[] }, { accessFlags := 8, nameIndex := 29, descriptorIndex := 30, attributes := #[] }, { accessFlags := 4120, nameIndex := 19, descriptorIndex := 20, attributes := #[] }])
  fields := #[{ name := "cache", type := (.array (.object "java/lang/Long")), accessFlags := 24, slot := 0, constantValue := 0 }, { name := "archivedCache", type := (.array (.object "java/lang/Long")), accessFlags := 8, slot := 1, constantValue := 0 }, { name := "$assertionsDisabled", type := .boolean, accessFlags := 4120, slot := 2, constantValue := 0 }]
  methods := #[k10m0]
  instanceTypes := #[]
  staticTypes := #[(.array (.object "java/lang/Long")), (.array (.object "java/lang/Long")), .boolean]
  resolved := Array.replicate 63 none
  statics := some 0 }

def pool11 : Array CpInfo := pool [(1, u "java/lang/Cloneable"), (0, .class_ 1), (0, u "java/lang/Object"), (0, .class_ 3)] 3

/-- java/lang/Cloneable -/
def k11 : Class := { plain "java/lang/Cloneable" (some 0) with
  accessFlags := 1537
  interfaces := #[]
  cf := some (fileOf pool11 2 #[] #[] 1537 4 #[] #[])
  fields := #[]
  methods := #[]
  instanceTypes := #[]
  staticTypes := #[]
  resolved := Array.replicate 8 none
  statics := none }

/-- the primitive byte -/
def k12 : Class := { plain "byte" none with kind := .primitive 'B', accessFlags := 0x411 }
/-- [B -/
def k13 : Class := { plain "[B" (some 0) with kind := .array 12 .byte, interfaces := #[11, 5], accessFlags := 1041 }

/-- the primitive int -/
def k14 : Class := { plain "int" none with kind := .primitive 'I', accessFlags := 0x411 }
/-- [I -/
def k15 : Class := { plain "[I" (some 0) with kind := .array 14 .int, interfaces := #[11, 5], accessFlags := 1041 }

/-- [Ljava/lang/Long; -/
def k16 : Class := { plain "[Ljava/lang/Long;" (some 0) with kind := .array 9 (.object "java/lang/Long"), interfaces := #[11, 5], accessFlags := 1041 }

def heap : Heap := #[{ cls := 10, slots := #[.ref 1, .null, .int 0], vm := .statics 10 },
  { cls := 16, slots := #[.ref 2, .ref 3, .ref 4, .ref 5, .ref 6, .ref 7, .ref 8, .ref 9, .ref 10, .ref 11, .ref 12, .ref 13, .ref 14, .ref 15, .ref 16, .ref 17, .ref 18, .ref 19, .ref 20, .ref 21, .ref 22, .ref 23, .ref 24, .ref 25, .ref 26, .ref 27, .ref 28, .ref 29, .ref 30, .ref 31, .ref 32, .ref 33, .ref 34, .ref 35, .ref 36, .ref 37, .ref 38, .ref 39, .ref 40, .ref 41, .ref 42, .ref 43, .ref 44, .ref 45, .ref 46, .ref 47, .ref 48, .ref 49, .ref 50, .ref 51, .ref 52, .ref 53, .ref 54, .ref 55, .ref 56, .ref 57, .ref 58, .ref 59, .ref 60, .ref 61, .ref 62, .ref 63, .ref 64, .ref 65, .ref 66, .ref 67, .ref 68, .ref 69, .ref 70, .ref 71, .ref 72, .ref 73, .ref 74, .ref 75, .ref 76, .ref 77, .ref 78, .ref 79, .ref 80, .ref 81, .ref 82, .ref 83, .ref 84, .ref 85, .ref 86, .ref 87, .ref 88, .ref 89, .ref 90, .ref 91, .ref 92, .ref 93, .ref 94, .ref 95, .ref 96, .ref 97, .ref 98, .ref 99, .ref 100, .ref 101, .ref 102, .ref 103, .ref 104, .ref 105, .ref 106, .ref 107, .ref 108, .ref 109, .ref 110, .ref 111, .ref 112, .ref 113, .ref 114, .ref 115, .ref 116, .ref 117, .ref 118, .ref 119, .ref 120, .ref 121, .ref 122, .ref 123, .ref 124, .ref 125, .ref 126, .ref 127, .ref 128, .ref 129, .ref 130, .ref 131, .ref 132, .ref 133, .ref 134, .ref 135, .ref 136, .ref 137, .ref 138, .ref 139, .ref 140, .ref 141, .ref 142, .ref 143, .ref 144, .ref 145, .ref 146, .ref 147, .ref 148, .ref 149, .ref 150, .ref 151, .ref 152, .ref 153, .ref 154, .ref 155, .ref 156, .ref 157, .ref 158, .ref 159, .ref 160, .ref 161, .ref 162, .ref 163, .ref 164, .ref 165, .ref 166, .ref 167, .ref 168, .ref 169, .ref 170, .ref 171, .ref 172, .ref 173, .ref 174, .ref 175, .ref 176, .ref 177, .ref 178, .ref 179, .ref 180, .ref 181, .ref 182, .ref 183, .ref 184, .ref 185, .ref 186, .ref 187, .ref 188, .ref 189, .ref 190, .ref 191, .ref 192, .ref 193, .ref 194, .ref 195, .ref 196, .ref 197, .ref 198, .ref 199, .ref 200, .ref 201, .ref 202, .ref 203, .ref 204, .ref 205, .ref 206, .ref 207, .ref 208, .ref 209, .ref 210, .ref 211, .ref 212, .ref 213, .ref 214, .ref 215, .ref 216, .ref 217, .ref 218, .ref 219, .ref 220, .ref 221, .ref 222, .ref 223, .ref 224, .ref 225, .ref 226, .ref 227, .ref 228, .ref 229, .ref 230, .ref 231, .ref 232, .ref 233, .ref 234, .ref 235, .ref 236, .ref 237, .ref 238, .ref 239, .ref 240, .ref 241, .ref 242, .ref 243, .ref 244, .ref 245, .ref 246, .ref 247, .ref 248, .ref 249, .ref 250, .ref 251, .ref 252, .ref 253, .ref 254, .ref 255, .ref 256, .ref 257], vm := .none },
  { cls := 9, slots := #[.long (-128)], vm := .none },
  { cls := 9, slots := #[.long (-127)], vm := .none },
  { cls := 9, slots := #[.long (-126)], vm := .none },
  { cls := 9, slots := #[.long (-125)], vm := .none },
  { cls := 9, slots := #[.long (-124)], vm := .none },
  { cls := 9, slots := #[.long (-123)], vm := .none },
  { cls := 9, slots := #[.long (-122)], vm := .none },
  { cls := 9, slots := #[.long (-121)], vm := .none },
  { cls := 9, slots := #[.long (-120)], vm := .none },
  { cls := 9, slots := #[.long (-119)], vm := .none },
  { cls := 9, slots := #[.long (-118)], vm := .none },
  { cls := 9, slots := #[.long (-117)], vm := .none },
  { cls := 9, slots := #[.long (-116)], vm := .none },
  { cls := 9, slots := #[.long (-115)], vm := .none },
  { cls := 9, slots := #[.long (-114)], vm := .none },
  { cls := 9, slots := #[.long (-113)], vm := .none },
  { cls := 9, slots := #[.long (-112)], vm := .none },
  { cls := 9, slots := #[.long (-111)], vm := .none },
  { cls := 9, slots := #[.long (-110)], vm := .none },
  { cls := 9, slots := #[.long (-109)], vm := .none },
  { cls := 9, slots := #[.long (-108)], vm := .none },
  { cls := 9, slots := #[.long (-107)], vm := .none },
  { cls := 9, slots := #[.long (-106)], vm := .none },
  { cls := 9, slots := #[.long (-105)], vm := .none },
  { cls := 9, slots := #[.long (-104)], vm := .none },
  { cls := 9, slots := #[.long (-103)], vm := .none },
  { cls := 9, slots := #[.long (-102)], vm := .none },
  { cls := 9, slots := #[.long (-101)], vm := .none },
  { cls := 9, slots := #[.long (-100)], vm := .none },
  { cls := 9, slots := #[.long (-99)], vm := .none },
  { cls := 9, slots := #[.long (-98)], vm := .none },
  { cls := 9, slots := #[.long (-97)], vm := .none },
  { cls := 9, slots := #[.long (-96)], vm := .none },
  { cls := 9, slots := #[.long (-95)], vm := .none },
  { cls := 9, slots := #[.long (-94)], vm := .none },
  { cls := 9, slots := #[.long (-93)], vm := .none },
  { cls := 9, slots := #[.long (-92)], vm := .none },
  { cls := 9, slots := #[.long (-91)], vm := .none },
  { cls := 9, slots := #[.long (-90)], vm := .none },
  { cls := 9, slots := #[.long (-89)], vm := .none },
  { cls := 9, slots := #[.long (-88)], vm := .none },
  { cls := 9, slots := #[.long (-87)], vm := .none },
  { cls := 9, slots := #[.long (-86)], vm := .none },
  { cls := 9, slots := #[.long (-85)], vm := .none },
  { cls := 9, slots := #[.long (-84)], vm := .none },
  { cls := 9, slots := #[.long (-83)], vm := .none },
  { cls := 9, slots := #[.long (-82)], vm := .none },
  { cls := 9, slots := #[.long (-81)], vm := .none },
  { cls := 9, slots := #[.long (-80)], vm := .none },
  { cls := 9, slots := #[.long (-79)], vm := .none },
  { cls := 9, slots := #[.long (-78)], vm := .none },
  { cls := 9, slots := #[.long (-77)], vm := .none },
  { cls := 9, slots := #[.long (-76)], vm := .none },
  { cls := 9, slots := #[.long (-75)], vm := .none },
  { cls := 9, slots := #[.long (-74)], vm := .none },
  { cls := 9, slots := #[.long (-73)], vm := .none },
  { cls := 9, slots := #[.long (-72)], vm := .none },
  { cls := 9, slots := #[.long (-71)], vm := .none },
  { cls := 9, slots := #[.long (-70)], vm := .none },
  { cls := 9, slots := #[.long (-69)], vm := .none },
  { cls := 9, slots := #[.long (-68)], vm := .none },
  { cls := 9, slots := #[.long (-67)], vm := .none },
  { cls := 9, slots := #[.long (-66)], vm := .none },
  { cls := 9, slots := #[.long (-65)], vm := .none },
  { cls := 9, slots := #[.long (-64)], vm := .none },
  { cls := 9, slots := #[.long (-63)], vm := .none },
  { cls := 9, slots := #[.long (-62)], vm := .none },
  { cls := 9, slots := #[.long (-61)], vm := .none },
  { cls := 9, slots := #[.long (-60)], vm := .none },
  { cls := 9, slots := #[.long (-59)], vm := .none },
  { cls := 9, slots := #[.long (-58)], vm := .none },
  { cls := 9, slots := #[.long (-57)], vm := .none },
  { cls := 9, slots := #[.long (-56)], vm := .none },
  { cls := 9, slots := #[.long (-55)], vm := .none },
  { cls := 9, slots := #[.long (-54)], vm := .none },
  { cls := 9, slots := #[.long (-53)], vm := .none },
  { cls := 9, slots := #[.long (-52)], vm := .none },
  { cls := 9, slots := #[.long (-51)], vm := .none },
  { cls := 9, slots := #[.long (-50)], vm := .none },
  { cls := 9, slots := #[.long (-49)], vm := .none },
  { cls := 9, slots := #[.long (-48)], vm := .none },
  { cls := 9, slots := #[.long (-47)], vm := .none },
  { cls := 9, slots := #[.long (-46)], vm := .none },
  { cls := 9, slots := #[.long (-45)], vm := .none },
  { cls := 9, slots := #[.long (-44)], vm := .none },
  { cls := 9, slots := #[.long (-43)], vm := .none },
  { cls := 9, slots := #[.long (-42)], vm := .none },
  { cls := 9, slots := #[.long (-41)], vm := .none },
  { cls := 9, slots := #[.long (-40)], vm := .none },
  { cls := 9, slots := #[.long (-39)], vm := .none },
  { cls := 9, slots := #[.long (-38)], vm := .none },
  { cls := 9, slots := #[.long (-37)], vm := .none },
  { cls := 9, slots := #[.long (-36)], vm := .none },
  { cls := 9, slots := #[.long (-35)], vm := .none },
  { cls := 9, slots := #[.long (-34)], vm := .none },
  { cls := 9, slots := #[.long (-33)], vm := .none },
  { cls := 9, slots := #[.long (-32)], vm := .none },
  { cls := 9, slots := #[.long (-31)], vm := .none },
  { cls := 9, slots := #[.long (-30)], vm := .none },
  { cls := 9, slots := #[.long (-29)], vm := .none },
  { cls := 9, slots := #[.long (-28)], vm := .none },
  { cls := 9, slots := #[.long (-27)], vm := .none },
  { cls := 9, slots := #[.long (-26)], vm := .none },
  { cls := 9, slots := #[.long (-25)], vm := .none },
  { cls := 9, slots := #[.long (-24)], vm := .none },
  { cls := 9, slots := #[.long (-23)], vm := .none },
  { cls := 9, slots := #[.long (-22)], vm := .none },
  { cls := 9, slots := #[.long (-21)], vm := .none },
  { cls := 9, slots := #[.long (-20)], vm := .none },
  { cls := 9, slots := #[.long (-19)], vm := .none },
  { cls := 9, slots := #[.long (-18)], vm := .none },
  { cls := 9, slots := #[.long (-17)], vm := .none },
  { cls := 9, slots := #[.long (-16)], vm := .none },
  { cls := 9, slots := #[.long (-15)], vm := .none },
  { cls := 9, slots := #[.long (-14)], vm := .none },
  { cls := 9, slots := #[.long (-13)], vm := .none },
  { cls := 9, slots := #[.long (-12)], vm := .none },
  { cls := 9, slots := #[.long (-11)], vm := .none },
  { cls := 9, slots := #[.long (-10)], vm := .none },
  { cls := 9, slots := #[.long (-9)], vm := .none },
  { cls := 9, slots := #[.long (-8)], vm := .none },
  { cls := 9, slots := #[.long (-7)], vm := .none },
  { cls := 9, slots := #[.long (-6)], vm := .none },
  { cls := 9, slots := #[.long (-5)], vm := .none },
  { cls := 9, slots := #[.long (-4)], vm := .none },
  { cls := 9, slots := #[.long (-3)], vm := .none },
  { cls := 9, slots := #[.long (-2)], vm := .none },
  { cls := 9, slots := #[.long (-1)], vm := .none },
  { cls := 9, slots := #[.long 0], vm := .none },
  { cls := 9, slots := #[.long 1], vm := .none },
  { cls := 9, slots := #[.long 2], vm := .none },
  { cls := 9, slots := #[.long 3], vm := .none },
  { cls := 9, slots := #[.long 4], vm := .none },
  { cls := 9, slots := #[.long 5], vm := .none },
  { cls := 9, slots := #[.long 6], vm := .none },
  { cls := 9, slots := #[.long 7], vm := .none },
  { cls := 9, slots := #[.long 8], vm := .none },
  { cls := 9, slots := #[.long 9], vm := .none },
  { cls := 9, slots := #[.long 10], vm := .none },
  { cls := 9, slots := #[.long 11], vm := .none },
  { cls := 9, slots := #[.long 12], vm := .none },
  { cls := 9, slots := #[.long 13], vm := .none },
  { cls := 9, slots := #[.long 14], vm := .none },
  { cls := 9, slots := #[.long 15], vm := .none },
  { cls := 9, slots := #[.long 16], vm := .none },
  { cls := 9, slots := #[.long 17], vm := .none },
  { cls := 9, slots := #[.long 18], vm := .none },
  { cls := 9, slots := #[.long 19], vm := .none },
  { cls := 9, slots := #[.long 20], vm := .none },
  { cls := 9, slots := #[.long 21], vm := .none },
  { cls := 9, slots := #[.long 22], vm := .none },
  { cls := 9, slots := #[.long 23], vm := .none },
  { cls := 9, slots := #[.long 24], vm := .none },
  { cls := 9, slots := #[.long 25], vm := .none },
  { cls := 9, slots := #[.long 26], vm := .none },
  { cls := 9, slots := #[.long 27], vm := .none },
  { cls := 9, slots := #[.long 28], vm := .none },
  { cls := 9, slots := #[.long 29], vm := .none },
  { cls := 9, slots := #[.long 30], vm := .none },
  { cls := 9, slots := #[.long 31], vm := .none },
  { cls := 9, slots := #[.long 32], vm := .none },
  { cls := 9, slots := #[.long 33], vm := .none },
  { cls := 9, slots := #[.long 34], vm := .none },
  { cls := 9, slots := #[.long 35], vm := .none },
  { cls := 9, slots := #[.long 36], vm := .none },
  { cls := 9, slots := #[.long 37], vm := .none },
  { cls := 9, slots := #[.long 38], vm := .none },
  { cls := 9, slots := #[.long 39], vm := .none },
  { cls := 9, slots := #[.long 40], vm := .none },
  { cls := 9, slots := #[.long 41], vm := .none },
  { cls := 9, slots := #[.long 42], vm := .none },
  { cls := 9, slots := #[.long 43], vm := .none },
  { cls := 9, slots := #[.long 44], vm := .none },
  { cls := 9, slots := #[.long 45], vm := .none },
  { cls := 9, slots := #[.long 46], vm := .none },
  { cls := 9, slots := #[.long 47], vm := .none },
  { cls := 9, slots := #[.long 48], vm := .none },
  { cls := 9, slots := #[.long 49], vm := .none },
  { cls := 9, slots := #[.long 50], vm := .none },
  { cls := 9, slots := #[.long 51], vm := .none },
  { cls := 9, slots := #[.long 52], vm := .none },
  { cls := 9, slots := #[.long 53], vm := .none },
  { cls := 9, slots := #[.long 54], vm := .none },
  { cls := 9, slots := #[.long 55], vm := .none },
  { cls := 9, slots := #[.long 56], vm := .none },
  { cls := 9, slots := #[.long 57], vm := .none },
  { cls := 9, slots := #[.long 58], vm := .none },
  { cls := 9, slots := #[.long 59], vm := .none },
  { cls := 9, slots := #[.long 60], vm := .none },
  { cls := 9, slots := #[.long 61], vm := .none },
  { cls := 9, slots := #[.long 62], vm := .none },
  { cls := 9, slots := #[.long 63], vm := .none },
  { cls := 9, slots := #[.long 64], vm := .none },
  { cls := 9, slots := #[.long 65], vm := .none },
  { cls := 9, slots := #[.long 66], vm := .none },
  { cls := 9, slots := #[.long 67], vm := .none },
  { cls := 9, slots := #[.long 68], vm := .none },
  { cls := 9, slots := #[.long 69], vm := .none },
  { cls := 9, slots := #[.long 70], vm := .none },
  { cls := 9, slots := #[.long 71], vm := .none },
  { cls := 9, slots := #[.long 72], vm := .none },
  { cls := 9, slots := #[.long 73], vm := .none },
  { cls := 9, slots := #[.long 74], vm := .none },
  { cls := 9, slots := #[.long 75], vm := .none },
  { cls := 9, slots := #[.long 76], vm := .none },
  { cls := 9, slots := #[.long 77], vm := .none },
  { cls := 9, slots := #[.long 78], vm := .none },
  { cls := 9, slots := #[.long 79], vm := .none },
  { cls := 9, slots := #[.long 80], vm := .none },
  { cls := 9, slots := #[.long 81], vm := .none },
  { cls := 9, slots := #[.long 82], vm := .none },
  { cls := 9, slots := #[.long 83], vm := .none },
  { cls := 9, slots := #[.long 84], vm := .none },
  { cls := 9, slots := #[.long 85], vm := .none },
  { cls := 9, slots := #[.long 86], vm := .none },
  { cls := 9, slots := #[.long 87], vm := .none },
  { cls := 9, slots := #[.long 88], vm := .none },
  { cls := 9, slots := #[.long 89], vm := .none },
  { cls := 9, slots := #[.long 90], vm := .none },
  { cls := 9, slots := #[.long 91], vm := .none },
  { cls := 9, slots := #[.long 92], vm := .none },
  { cls := 9, slots := #[.long 93], vm := .none },
  { cls := 9, slots := #[.long 94], vm := .none },
  { cls := 9, slots := #[.long 95], vm := .none },
  { cls := 9, slots := #[.long 96], vm := .none },
  { cls := 9, slots := #[.long 97], vm := .none },
  { cls := 9, slots := #[.long 98], vm := .none },
  { cls := 9, slots := #[.long 99], vm := .none },
  { cls := 9, slots := #[.long 100], vm := .none },
  { cls := 9, slots := #[.long 101], vm := .none },
  { cls := 9, slots := #[.long 102], vm := .none },
  { cls := 9, slots := #[.long 103], vm := .none },
  { cls := 9, slots := #[.long 104], vm := .none },
  { cls := 9, slots := #[.long 105], vm := .none },
  { cls := 9, slots := #[.long 106], vm := .none },
  { cls := 9, slots := #[.long 107], vm := .none },
  { cls := 9, slots := #[.long 108], vm := .none },
  { cls := 9, slots := #[.long 109], vm := .none },
  { cls := 9, slots := #[.long 110], vm := .none },
  { cls := 9, slots := #[.long 111], vm := .none },
  { cls := 9, slots := #[.long 112], vm := .none },
  { cls := 9, slots := #[.long 113], vm := .none },
  { cls := 9, slots := #[.long 114], vm := .none },
  { cls := 9, slots := #[.long 115], vm := .none },
  { cls := 9, slots := #[.long 116], vm := .none },
  { cls := 9, slots := #[.long 117], vm := .none },
  { cls := 9, slots := #[.long 118], vm := .none },
  { cls := 9, slots := #[.long 119], vm := .none },
  { cls := 9, slots := #[.long 120], vm := .none },
  { cls := 9, slots := #[.long 121], vm := .none },
  { cls := 9, slots := #[.long 122], vm := .none },
  { cls := 9, slots := #[.long 123], vm := .none },
  { cls := 9, slots := #[.long 124], vm := .none },
  { cls := 9, slots := #[.long 125], vm := .none },
  { cls := 9, slots := #[.long 126], vm := .none },
  { cls := 9, slots := #[.long 127], vm := .none }]
def classes : Array Class := #[k0, k1, k2, k3, k4, k5, k6, k7, k8, k9, k10, k11, k12, k13, k14, k15, k16]
def interned : List (Array UInt16 × Addr) := []
def slotsUsed : Nat := 515
def theMethod : MethodId := ⟨1, 1⟩
def args0 : Array Value := #[.long 1, .long 2, .long 3, .long 4, .int 0]
def aboutOver (below : List Frame) : State where
  vm := { classes := classes, interned := interned.toArray }
  heap := heap
  slotsUsed := slotsUsed
  threads := #[{ frames := .invoking theMethod args0 :: below }]
def below0 : List Frame := [.native { method := ⟨0, 0⟩, args := #[] }]
def about1 : State := aboutOver below0
def p0 : Program := .bare "" "" ""
def e0 : Env := launch0.env 0 0 0
theorem w_frames : about1.frames = Frame.invoking theMethod args0 :: below0 := rfl
set_option maxRecDepth 65536 in
theorem w_args : argsFit about1.vm theMethod args0 = true := by decide +kernel
set_option maxRecDepth 65536 in
theorem w_heap : heapFits about1 = true := by decide +kernel
set_option maxRecDepth 65536 in
theorem w_runnable : about1.curStatus? = some .runnable := by decide +kernel
set_option maxRecDepth 65536 in
theorem w_alone : about1.alone = true := by decide +kernel
set_option maxRecDepth 65536 in
theorem w_named : about1.methodNamed? x = some theMethod := by decide +kernel
set_option maxRecDepth 65536 in
theorem w_hears : about1.hears theMethod below0 = true := by decide +kernel
set_option maxRecDepth 65536 in
theorem w_ripe : about1.ripe theMethod args0 below0 = true := by decide +kernel
theorem w_running : about1.status = .running := rfl
set_option maxRecDepth 65536 in
theorem w_room : about1.hasRoom e0.platform room_1 = true :=
  launch0.hasRoom_least _ room_1 (by decide +kernel) (by decide +kernel) (by decide +kernel) (by decide +kernel) (by decide +kernel) (by decide +kernel)
theorem allAtoms_all (ts : List Jvm.Cond) (a : Array Jvm.Value) (st : Jvm.State) : (allAtoms ts).before a st = ts.all (fun c => c.before a st) := by
  induction ts with
  | nil => rfl
  | cons c t ih =>
    show (Jvm.Cond.and c (allAtoms t)).before a st = _
    rw [Jvm.Cond.before_and, ih, List.all_cons]
def words1 : List Jvm.Cond := Jvm.Cond.code x code maxLocals ret :: tables_1
/-- a 'code' word, met by the world's own term for the bytes: nothing is compared byte by byte -/
theorem code_word {y : MethodName} {bytes : ByteArray} {mx : Nat} {rt : Option FieldType} {a : Array Value} {s : State} {m : MethodId} {meth : Method} {c : Code} (h1 : s.methodNamed? y = some m) (h2 : s.vm.method? m = some meth) (h3 : meth.code = some c) (h4 : c.code = bytes)
    (h5 : (c.maxLocals == mx && c.exceptionTable.isEmpty && decide (c.maxStack ≤ mostOperands) && decide (meth.sig.returnType = rt) && !meth.locks && decide (parseMethodDescriptor y.desc = some meth.sig)) = true) : (Jvm.Cond.code y bytes mx rt).before a s = true := by
  simp only [Bool.and_eq_true, beq_iff_eq, Bool.not_eq_true', decide_eq_true_eq] at h5
  obtain ⟨⟨⟨⟨⟨g1, g2⟩, g3⟩, g4⟩, g5⟩, g6⟩ := h5
  simp [Cond.before, Cond.holds, Cond.value, h1, h2, h3, h4, g1, g2, g3, g4, g5, g6]
def isCode : Jvm.Cond → Bool
  | .code _ _ _ _ => true
  | _ => false
theorem all_split {L : List Jvm.Cond} {P : Jvm.Cond → Bool} (h1 : L.all (fun c => isCode c || P c) = true) (h2 : ∀ c ∈ L.filter isCode, P c = true) : L.all P = true := by
  refine List.all_eq_true.mpr fun c hc => ?_
  have h := List.all_eq_true.mp h1 c hc
  rcases Bool.eq_false_or_eq_true (isCode c) with hi | hi
  · exact h2 c (List.mem_filter.mpr ⟨hc, hi⟩)
  · simpa [hi] using h
set_option maxRecDepth 65536 in
theorem w_c0 : (Jvm.Cond.code x code maxLocals ret).before args0 about1 = true := code_word (m := ⟨1, 1⟩) (meth := k1m1) (c := k1c1) (by decide +kernel) rfl rfl rfl (by decide +kernel)
set_option maxRecDepth 65536 in
theorem w_c1 : (Jvm.Cond.code ({ cls := "com/example/grey_steward/greysteward/core/ObjectId", name := "<init>", desc := "(JJ)V" } : Jvm.MethodName) prog_64_method_1_code (5 : Nat) (Option.none : Option Jvm.ClassFile.FieldType)).before args0 about1 = true := code_word (m := ⟨4, 0⟩) (meth := k4m0) (c := k4c0) (by decide +kernel) rfl rfl rfl (by decide +kernel)
set_option maxRecDepth 65536 in
theorem w_c2 : (Jvm.Cond.code ({ cls := "java/lang/Record", name := "<init>", desc := "()V" } : Jvm.MethodName) jdk_30_method_1_code (1 : Nat) (Option.none : Option Jvm.ClassFile.FieldType)).before args0 about1 = true := code_word (m := ⟨2, 0⟩) (meth := k2m0) (c := k2c0) (by decide +kernel) rfl rfl rfl (by decide +kernel)
set_option maxRecDepth 65536 in
theorem w_c3 : (Jvm.Cond.code ({ cls := "java/lang/Object", name := "<init>", desc := "()V" } : Jvm.MethodName) object_method_1_code (1 : Nat) (Option.none : Option Jvm.ClassFile.FieldType)).before args0 about1 = true := code_word (m := ⟨0, 0⟩) (meth := k0m0) (c := k0c0) (by decide +kernel) rfl rfl rfl (by decide +kernel)
set_option maxRecDepth 65536 in
theorem w_c4 : (Jvm.Cond.code ({ cls := "com/example/grey_steward/greysteward/core/ObjectId", name := "equals", desc := "(Ljava/lang/Object;)Z" } : Jvm.MethodName) prog_64_method_9_code (3 : Nat) (Option.some Jvm.ClassFile.FieldType.boolean)).before args0 about1 = true := code_word (m := ⟨4, 1⟩) (meth := k4m1) (c := k4c1) (by decide +kernel) rfl rfl rfl (by decide +kernel)
set_option maxRecDepth 65536 in
theorem w_c5 : (Jvm.Cond.code ({ cls := "java/lang/Long", name := "valueOf", desc := "(J)Ljava/lang/Long;" } : Jvm.MethodName) jdk_35_method_24_code (3 : Nat) (Option.some (Jvm.ClassFile.FieldType.object "java/lang/Long"))).before args0 about1 = true := code_word (m := ⟨9, 0⟩) (meth := k9m0) (c := k9c0) (by decide +kernel) rfl rfl rfl (by decide +kernel)
set_option maxRecDepth 65536 in
theorem w_c6 : (Jvm.Cond.code ({ cls := "java/lang/Long", name := "<init>", desc := "(J)V" } : Jvm.MethodName) jdk_35_method_26_code (3 : Nat) (Option.none : Option Jvm.ClassFile.FieldType)).before args0 about1 = true := code_word (m := ⟨9, 1⟩) (meth := k9m1) (c := k9c1) (by decide +kernel) rfl rfl rfl (by decide +kernel)
set_option maxRecDepth 65536 in
theorem w_c7 : (Jvm.Cond.code ({ cls := "java/lang/Number", name := "<init>", desc := "()V" } : Jvm.MethodName) jdk_18_method_1_code (1 : Nat) (Option.none : Option Jvm.ClassFile.FieldType)).before args0 about1 = true := code_word (m := ⟨6, 0⟩) (meth := k6m0) (c := k6c0) (by decide +kernel) rfl rfl rfl (by decide +kernel)
def codes1 : List Jvm.Cond := [Jvm.Cond.code x code maxLocals ret, Jvm.Cond.code ({ cls := "com/example/grey_steward/greysteward/core/ObjectId", name := "<init>", desc := "(JJ)V" } : Jvm.MethodName) prog_64_method_1_code (5 : Nat) (Option.none : Option Jvm.ClassFile.FieldType), Jvm.Cond.code ({ cls := "java/lang/Record", name := "<init>", desc := "()V" } : Jvm.MethodName) jdk_30_method_1_code (1 : Nat) (Option.none : Option Jvm.ClassFile.FieldType), Jvm.Cond.code ({ cls := "java/lang/Object", name := "<init>", desc := "()V" } : Jvm.MethodName) object_method_1_code (1 : Nat) (Option.none : Option Jvm.ClassFile.FieldType), Jvm.Cond.code ({ cls := "com/example/grey_steward/greysteward/core/ObjectId", name := "equals", desc := "(Ljava/lang/Object;)Z" } : Jvm.MethodName) prog_64_method_9_code (3 : Nat) (Option.some Jvm.ClassFile.FieldType.boolean), Jvm.Cond.code ({ cls := "java/lang/Long", name := "valueOf", desc := "(J)Ljava/lang/Long;" } : Jvm.MethodName) jdk_35_method_24_code (3 : Nat) (Option.some (Jvm.ClassFile.FieldType.object "java/lang/Long")), Jvm.Cond.code ({ cls := "java/lang/Long", name := "<init>", desc := "(J)V" } : Jvm.MethodName) jdk_35_method_26_code (3 : Nat) (Option.none : Option Jvm.ClassFile.FieldType), Jvm.Cond.code ({ cls := "java/lang/Number", name := "<init>", desc := "()V" } : Jvm.MethodName) jdk_18_method_1_code (1 : Nat) (Option.none : Option Jvm.ClassFile.FieldType)]
set_option maxRecDepth 65536 in
theorem codes_eq : words1.filter isCode = codes1 := rfl
theorem w_codes : ∀ c ∈ words1.filter isCode, c.before args0 about1 = true := by
  rw [codes_eq]
  intro c hc
  simp only [codes1, List.mem_cons, List.not_mem_nil, or_false] at hc
  rcases hc with rfl | rfl | rfl | rfl | rfl | rfl | rfl | rfl
  · exact w_c0
  · exact w_c1
  · exact w_c2
  · exact w_c3
  · exact w_c4
  · exact w_c5
  · exact w_c6
  · exact w_c7
set_option maxRecDepth 65536 in
theorem w_t1 : (words1.take 24).all (fun c => isCode c || c.before args0 about1) = true := by decide +kernel
set_option maxRecDepth 65536 in
theorem w_t2 : ((words1.drop 24).take 24).all (fun c => isCode c || c.before args0 about1) = true := by decide +kernel
set_option maxRecDepth 65536 in
theorem w_t3 : ((words1.drop 24).drop 24).all (fun c => isCode c || c.before args0 about1) = true := by decide +kernel
theorem w_tables : (allAtoms (Jvm.Cond.code x code maxLocals ret :: tables_1)).before args0 about1 = true := by
  rw [allAtoms_all]
  show words1.all (fun c => c.before args0 about1) = true
  refine all_split ?_ w_codes
  rw [← List.take_append_drop 24 words1, List.all_append, w_t1, ← List.take_append_drop 24 (words1.drop 24), List.all_append, w_t2, w_t3]
  rfl
set_option maxRecDepth 65536 in
theorem w_rest : rest_1_c.before args0 about1 = true := by decide +kernel
set_option maxRecDepth 65536 in
theorem w_case : (Jvm.Cond.and given_1 narrow_1).before args0 about1 = true := by decide +kernel
theorem w_applies : (headSpec (Jvm.Cond.code x code maxLocals ret :: tables_1) room_1).applies x e0.platform about1 = true :=
  (Spec.applies_iff w_frames).mpr ⟨w_running, w_runnable, w_alone, w_named, w_hears, w_ripe, w_room, w_tables⟩
theorem atStart : AtStart classFile x code maxLocals ret World_1 tables_1 room_1 Calls_1 rest_1 Pre_1 launch0 p0 e0 about1 theMethod args0 below0 :=
  ⟨lists_1, trivial, launch0.admits_env _ _ _, launch0.least_env, fairChoices_fair.cas, fairChoices_fair.clock, w_frames, w_args, w_heap, w_applies, trivial, w_rest, w_case⟩
end start1
theorem witness_1 : WitnessClaimed_1 := ⟨start1.p0, start1.e0, start1.about1, start1.theMethod, start1.args0, start1.below0, start1.atStart⟩
end Jvm.Pilot.@@N@@
