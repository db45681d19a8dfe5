import JvmDerived
import JvmDerived.Pilot.@@N@@Statement
import JvmDerived.Pilot.@@N@@Code
set_option linter.unusedVariables false
set_option linter.unusedSimpArgs false
namespace Jvm.Pilot.@@N@@
open Jvm Jvm.ClassFile Sem Op Lib Jvm.Free Jvm.Stand Jvm.LawKit Jvm.RoadKit Bundle Jvm.Pilot.@@N@@.Jvm.D
theorem own_fld {s : State} {args : Array Value} {t : Term} {a : Addr} {C f d : String} {z : Int32} (ev : t.eval args s none [] s = some (.ref a)) (h : (Jvm.Cond.eq (Term.field t C f d) (Term.int z)).value args s none s [] = some true) : Fld s s.heap a C f d (.int z) := by
  obtain ⟨v, h1, h2⟩ := Cond.eq_worth h
  rw [fld_at ev] at h1
  have h3 : some (Value.int z) = some v := h2
  cases h3
  exact Fld.start h1
def own_Cache (Z : State) (h : Heap) (a : Addr) : Prop := ∃ cl : Cell, Arr Z h a cl (.object "java/lang/Integer") ∧ cl.slots.size = 256 ∧ ∀ j : Int32, ¬ (j < 0 ∨ cl.slots.size ≤ j.toNatClampNeg) → ∃ b : Addr, cl.slots[j.toNatClampNeg]? = some (.ref b) ∧ Exa Z h b "java/lang/Integer" ∧ Fld Z h b "java/lang/Integer" "value" "I" (.int (j - 128))
theorem own_Cache_ext {Z : State} {h h' : Heap} {a : Addr} (F : own_Cache Z h a) (E : Ext h h') : own_Cache Z h' a := by
  obtain ⟨cl, A, S, H⟩ := F
  refine ⟨cl, A.ext E, S, fun j hj => ?_⟩
  obtain ⟨b, h1, h2, h3⟩ := H j hj
  exact ⟨b, h1, h2.ext E, h3.ext E⟩
theorem own_len {s : State} {args : Array Value} {t : Term} {n : Int32} {a : Addr} {cl : Cell} (h : (Term.length t).eval args s none [] s = some (.int n)) (ht : t.eval args s none [] s = some (.ref a)) (hA : s.arrayAt? a = some cl) : cl.slots.size < 2 ^ 31 ∧ cl.slots.size.toInt32 = n := by
  simp only [Term.eval, ht, hA, Option.bind_eq_bind, Option.bind_some] at h
  split at h
  · rename_i q
    refine ⟨q, ?_⟩
    have h2 : some (Value.int cl.slots.size.toInt32) = some (Value.int n) := h
    cases h2
    rfl
  · cases h
theorem own_sub {args : Array Value} {first s : State} {o : Option Outcome} {idx : List Nat} {a b : Term} {x y : Int32} (ha : a.eval args first o idx s = some (.int x)) (hb : b.eval args first o idx s = some (.int y)) : (Term.sub a b).eval args first o idx s = some (.int (x - y)) := by simp [Term.eval, ha, hb]
theorem own_idx (p0 : Int32) (h1 : ¬ p0 < (-128 : Int32)) (h2 : ¬ (127 : Int32) < p0) : ¬ ((p0 + (128 : Int32)) < 0 ∨ 256 ≤ (p0 + (128 : Int32)).toNatClampNeg) := by
  rw [Int32.lt_iff_toInt_lt, show (-128 : Int32).toInt = -128 by decide] at h1
  rw [Int32.lt_iff_toInt_lt, show (127 : Int32).toInt = 127 by decide] at h2
  have a2 := c_iadd p0 (128 : Int32)
  rw [show (128 : Int32).toInt = 128 by decide] at a2
  have r2 := rng32 (p0 + (128 : Int32))
  rw [Int32.lt_iff_toInt_lt, show (0 : Int32).toInt = 0 by decide]
  show ¬ (_ ∨ 256 ≤ (p0 + (128 : Int32)).toInt.toNat)
  omega
theorem own_val (p0 : Int32) : (p0 + (128 : Int32)) - 128 = p0 := by
  apply Int32.toInt_inj.mp
  have a2 := c_iadd p0 (128 : Int32)
  have a3 := c_isub (p0 + (128 : Int32)) (128 : Int32)
  rw [show (128 : Int32).toInt = 128 by decide] at a2 a3
  have r1 := rng32 p0
  have r2 := rng32 (p0 + (128 : Int32))
  have r3 := rng32 (p0 + (128 : Int32) - (128 : Int32))
  omega
theorem d5_0 : decode jdk_18_method_1_code 0 = .ok (.aload_n 0, 1) := by decide +kernel
theorem d5_1 : decode jdk_18_method_1_code 1 = .ok (.invokespecial 1, 3) := by decide +kernel
theorem d5_4 : decode jdk_18_method_1_code 4 = .ok (.return_, 1) := by decide +kernel
theorem pn_java_lang_Number : plainName "java/lang/Number" = true := by first | (simp [plainName, overriddenIn]; done) | decide +kernel
theorem ef_5_R (m : MethodId) (x0 : Addr) : entryFrame m #[(.ref x0)] 1 = mkF m 0 #[.val (.ref x0)] [] := by first | (simp [entryFrame, mkF, argsToLocals, Value.category]; done) | rfl
def Q5 (Z : State) (a0_ : Addr) (h0 : Heap) (n0 : Nat) (v : Option Value) (h : Heap) (L : List Loc) : Prop := v = none ∧ Fr n0 L ∧ h = h0
set_option maxRecDepth 65536 in
set_option maxHeartbeats 40000000 in
theorem rm5 (l : Launch) (Z : State) (aA : Array Value) (hw : ∀ d ∈ tables_1, d.before aA Z = true) (ws : List Jvm.Cond) (a0_ : Addr) (h0 : Heap) (n0 : Nat) (Z0 : n0 ≤ h0.size) :
    MetFree l (⟨"java/lang/Number", "<init>", "()V"⟩ : MethodName) (head1 (Jvm.Cond.code (⟨"java/lang/Number", "<init>", "()V"⟩ : MethodName) jdk_18_method_1_code 1 none :: ws) ({ frames := 1, cells := 0, slots := 0, locals := 12 } : Room)) (fun a U => a = #[(.ref a0_)] ∧ Z.Warmed39 U.vm ∧ U.heap = h0) (fun _ _ _ _ _ => True) (fun _ U o U' => ∃ v L, o = .returned v ∧ Q5 Z a0_ h0 n0 v U'.heap L ∧ FrameEnd U o U' L ({ frames := 1, cells := 0, slots := 0, locals := 12 } : Room).cells ({ frames := 1, cells := 0, slots := 0, locals := 12 } : Room).slots) := by
  refine MetFree.of_bodySF (plainFor_of_name pn_java_lang_Number) hisR ?_
  intro p e s m args below meth c s₁ Bd hml0 hP hK
  obtain ⟨rfl, hZ, hh⟩ := hP
  have hx := Bd.exec
  have hby := Bd.bytes
  have hml : c.maxLocals = 1 := hml0
  have hown : s.vm.findClass "java/lang/Number" = some m.cls := findClass_of_methodNamed Bd.named
  have hnm := (name_of_methodNamed Bd.named Bd.method).1
  have X0 : Stand p l e ({ frames := 1, cells := 0, slots := 0, locals := 12 } : Room) s m #[(.ref a0_)] below meth c s₁ [] 0 0 := Stand.of_body Bd
  have e0 : s₁.heap = h0 := by rw [← hh, Bd.state]; rfl
  have N0 := Fr.nil n0
  have KP0 : Keep h0 h0 [] := Keep.refl h0 _
  have pre0 : ∀ t, Steps p.tables e below (s₁.setTop (mkF m 0 #[.val (.ref a0_)] [])) t → Steps p.tables e below (s₁.setTop (entryFrame m #[(.ref a0_)] 1)) t := fun t k => castTop (ef_5_R m a0_) k
  obtain ⟨T1, X1, e1, st1⟩ := initO X0 hx hZ hown (hw _ (List.mem_of_getElem? (i := 30) rfl)) (hw _ (List.mem_of_getElem? (i := 31) rfl)) (hw _ (List.mem_of_getElem? (i := 32) rfl)) e0 (g := (mkF m 1 #[.val (.ref a0_)] [(.ref a0_)])) rfl (by rw [hml]; rfl) rfl (hb hby d5_1) (by decide) (W := 0) (by show 2 * 0 + _ ≤ _; exact Nat.le_of_eq rfl) (by decide)
  have pre2 : ∀ t, Steps p.tables e below (T1.setTop (mkF m 4 #[.val (.ref a0_)] [])) t → Steps p.tables e below (s₁.setTop (entryFrame m #[(.ref a0_)] 1)) t := by
    intro t kk
    refine pre0 t ?_
    show Steps p.tables e below (s₁.setTop (mkF m 0 #[.val (.ref a0_)] [])) _
    refine XS.aloadN X0.here hx rfl (hb hby d5_0) rfl rfl ?_
    show Steps p.tables e below (s₁.setTop (mkF m 1 #[.val (.ref a0_)] [(.ref a0_)])) _
    refine st1 _ ?_
    exact kk
  obtain ⟨fs, hr, hrun, hended, hW, hsame⟩ := X1.leave (v := none) (fun _ => rfl)
  refine ⟨_, _, pre2 _ ?_, hrun, hended, _, _, rfl, ?_, ⟨_, rfl⟩, hW, hsame.mono (by decide) (by decide)⟩
  · show Steps p.tables e below (T1.setTop (mkF m 4 #[.val (.ref a0_)] [])) _
    exact X1.returnOut hx Bd.returns (hb hby d5_4) hr
  · show Q5 Z a0_ h0 n0 _ T1.heap _
    rw [e1]
    exact ⟨rfl, N0, rfl⟩
theorem pd__28_29V : parseMethodDescriptor "()V" = some ⟨[], none⟩ := by decide +kernel
theorem d4_0 : decode jdk_33_method_23_code 0 = .ok (.aload_n 0, 1) := by decide +kernel
theorem d4_1 : decode jdk_33_method_23_code 1 = .ok (.invokespecial 202, 3) := by decide +kernel
theorem d4_4 : decode jdk_33_method_23_code 4 = .ok (.aload_n 0, 1) := by decide +kernel
theorem d4_5 : decode jdk_33_method_23_code 5 = .ok (.iload_n 1, 1) := by decide +kernel
theorem d4_6 : decode jdk_33_method_23_code 6 = .ok (.putfield 205, 3) := by decide +kernel
theorem d4_9 : decode jdk_33_method_23_code 9 = .ok (.return_, 1) := by decide +kernel
theorem pn_java_lang_Integer : plainName "java/lang/Integer" = true := by first | (simp [plainName, overriddenIn]; done) | decide +kernel
theorem ef_4_RI (m : MethodId) (x0 : Addr) (x1 : Int32) : entryFrame m #[(.ref x0), (.int x1)] 2 = mkF m 0 #[.val (.ref x0), .val (.int x1)] [] := by first | (simp [entryFrame, mkF, argsToLocals, Value.category]; done) | rfl
def Q4 (Z : State) (a_ : Addr) (p1 : Int32) (h0 : Heap) (n0 : Nat) (v : Option Value) (h : Heap) (L : List Loc) : Prop := v = none ∧ Fr n0 L ∧ Keep h0 h [a_] ∧ Exa Z h a_ "java/lang/Integer" ∧ Fld Z h a_ "java/lang/Integer" "value" "I" (.int p1)
set_option maxRecDepth 65536 in
set_option maxHeartbeats 40000000 in
theorem rm4 (l : Launch) (Z : State) (aA : Array Value) (hw : ∀ d ∈ tables_1, d.before aA Z = true) (ws : List Jvm.Cond) (a_ : Addr) (p1 : Int32) (h0 : Heap) (n0 : Nat) (Z0 : n0 ≤ h0.size) (E_a : Exa Z h0 a_ "java/lang/Integer") (g_a_ : n0 ≤ a_) (F_value : Fld Z h0 a_ "java/lang/Integer" "value" "I" (.int (0 : Int32))) :
    MetFree l (⟨"java/lang/Integer", "<init>", "(I)V"⟩ : MethodName) (head1 (Jvm.Cond.code (⟨"java/lang/Integer", "<init>", "(I)V"⟩ : MethodName) jdk_33_method_23_code 2 none :: ws) ({ frames := 2, cells := 0, slots := 0, locals := 24 } : Room)) (fun a U => a = #[(.ref a_), (.int p1)] ∧ Z.Warmed39 U.vm ∧ U.heap = h0) (fun _ _ _ _ _ => True) (fun _ U o U' => ∃ v L, o = .returned v ∧ Q4 Z a_ p1 h0 n0 v U'.heap L ∧ FrameEnd U o U' L ({ frames := 2, cells := 0, slots := 0, locals := 24 } : Room).cells ({ frames := 2, cells := 0, slots := 0, locals := 24 } : Room).slots) := by
  refine MetFree.of_bodySF (plainFor_of_name pn_java_lang_Integer) hisR ?_
  intro p e s m args below meth c s₁ Bd hml0 hP hK
  obtain ⟨rfl, hZ, hh⟩ := hP
  have hx := Bd.exec
  have hby := Bd.bytes
  have hml : c.maxLocals = 2 := hml0
  have hown : s.vm.findClass "java/lang/Integer" = some m.cls := findClass_of_methodNamed Bd.named
  have hnm := (name_of_methodNamed Bd.named Bd.method).1
  have X0 : Stand p l e ({ frames := 2, cells := 0, slots := 0, locals := 24 } : Room) s m #[(.ref a_), (.int p1)] below meth c s₁ [] 0 0 := Stand.of_body Bd
  have e0 : s₁.heap = h0 := by rw [← hh, Bd.state]; rfl
  have N0 := Fr.nil n0
  have KP0 : Keep h0 h0 [a_] := Keep.refl h0 _
  have pre0 : ∀ t, Steps p.tables e below (s₁.setTop (mkF m 0 #[.val (.ref a_), .val (.int p1)] [])) t → Steps p.tables e below (s₁.setTop (entryFrame m #[(.ref a_), (.int p1)] 2)) t := fun t k => castTop (ef_4_RI m a_ p1) k
  obtain ⟨_, _, ⟨T3, L3, k3, n3⟩, -, X3, ⟨Lc3, hQ3, l3, y3, z3⟩, st3⟩ := X0.specialBack hx (y := (⟨"java/lang/Number", "<init>", "()V"⟩ : MethodName)) rfl hown (mvT hZ (hw _ (List.mem_of_getElem? (i := 24) rfl))) (mvT hZ (hw _ (List.mem_of_getElem? (i := 25) rfl))) (mvT hZ (hw _ (List.mem_of_getElem? (i := 29) rfl))) (by decide) (backOf (W := 0) (rm5 l Z aA hw [] a_ h0 n0 Z0) hZ (hw _ (List.mem_of_getElem? (i := 29) rfl)) (hw _ (List.mem_of_getElem? (i := 28) rfl)) (by decide) (by decide)) (g := (mkF m 1 #[.val (.ref a_), .val (.int p1)] [(.ref a_)])) rfl (by rw [hml]; rfl) (Steps.refl _) (a := a_) (argsL := []) (rest := []) (lenOf pd__28_29V rfl) rfl (by show 2 * 0 + _ ≤ _; exact Nat.le_of_eq rfl) (hb hby d4_1) (fun _ _ => ⟨rfl, e0, (by decide : 0 + 0 ≤ _), (by decide : 0 + 0 ≤ _)⟩)
  dsimp only [Pt.U, Pt.locs, Pt.cells, Pt.slots] at X3 l3 y3 z3 st3 hQ3
  subst l3 y3 z3
  obtain ⟨rfl, N3q, e3⟩ := hQ3
  have N3 := Fr.app N0 N3q
  obtain ⟨T4, h4, X4, e4, W4, st4⟩ := putF X3 hx hZ hown (host := "") (Or.inl (hw _ (List.mem_of_getElem? (i := 33) rfl))) Via.refl e3 F_value E_a (Or.inr ⟨(hw _ (List.mem_of_getElem? (i := 34) rfl)), rfl, hnm⟩) (hw _ (List.mem_of_getElem? (i := 19) rfl)) (ty := .int) (by decide) rfl rfl (g := (mkF m 6 #[.val (.ref a_), .val (.int p1)] [(.int p1), (.ref a_)])) rfl rfl (hb hby d4_6)
  have Fw4 := F_value.same W4
  have KP4 : Keep h0 h4 [a_] := KP0.wr W4 (Or.inl (List.mem_of_getElem? (i := 0) rfl))
  have Z4 : n0 ≤ h4.size := Nat.le_trans Z0 (Nat.le_of_eq W4.size.symm)
  have N4 := Fr.snoc X4 N3 g_a_
  have E_a__5 : Exa Z h4 a_ "java/lang/Integer" := E_a.wr W4
  have pre6 : ∀ t, Steps p.tables e below (T4.setTop (mkF m 9 #[.val (.ref a_), .val (.int p1)] [])) t → Steps p.tables e below (s₁.setTop (entryFrame m #[(.ref a_), (.int p1)] 2)) t := by
    intro t kk
    refine pre0 t ?_
    show Steps p.tables e below (s₁.setTop (mkF m 0 #[.val (.ref a_), .val (.int p1)] [])) _
    refine XS.aloadN X0.here hx rfl (hb hby d4_0) rfl rfl ?_
    show Steps p.tables e below (s₁.setTop (mkF m 1 #[.val (.ref a_), .val (.int p1)] [(.ref a_)])) _
    refine st3.trans ?_
    show Steps p.tables e below (T3.setTop (mkF m 4 #[.val (.ref a_), .val (.int p1)] [])) _
    refine XS.aloadN X3.here hx rfl (hb hby d4_4) rfl rfl ?_
    show Steps p.tables e below (T3.setTop (mkF m 5 #[.val (.ref a_), .val (.int p1)] [(.ref a_)])) _
    refine XS.iloadN X3.here hx rfl (hb hby d4_5) rfl ?_
    show Steps p.tables e below (T3.setTop (mkF m 6 #[.val (.ref a_), .val (.int p1)] [(.int p1), (.ref a_)])) _
    refine st4 _ ?_
    exact kk
  obtain ⟨fs, hr, hrun, hended, hW, hsame⟩ := X4.leave (v := none) (fun _ => rfl)
  refine ⟨_, _, pre6 _ ?_, hrun, hended, _, _, rfl, ?_, ⟨_, rfl⟩, hW, hsame.mono (by decide) (by decide)⟩
  · show Steps p.tables e below (T4.setTop (mkF m 9 #[.val (.ref a_), .val (.int p1)] [])) _
    exact X4.returnOut hx Bd.returns (hb hby d4_9) hr
  · show Q4 Z a_ p1 h0 n0 _ T4.heap _
    rw [e4]
    exact ⟨rfl, N4, KP4, E_a__5, Fw4⟩
theorem pd__28I_29V : parseMethodDescriptor "(I)V" = some ⟨[.int], none⟩ := by decide +kernel
theorem d3_0 : decode jdk_33_method_22_code 0 = .ok (.iload_n 0, 1) := by decide +kernel
theorem d3_1 : decode jdk_33_method_22_code 1 = .ok (.bipush (-128), 2) := by decide +kernel
theorem d3_3 : decode jdk_33_method_22_code 3 = .ok (.if_icmp .lt 20, 3) := by decide +kernel
theorem d3_6 : decode jdk_33_method_22_code 6 = .ok (.iload_n 0, 1) := by decide +kernel
theorem d3_7 : decode jdk_33_method_22_code 7 = .ok (.getstatic 191, 3) := by decide +kernel
theorem d3_10 : decode jdk_33_method_22_code 10 = .ok (.if_icmp .gt 13, 3) := by decide +kernel
theorem d3_13 : decode jdk_33_method_22_code 13 = .ok (.getstatic 195, 3) := by decide +kernel
theorem d3_16 : decode jdk_33_method_22_code 16 = .ok (.iload_n 0, 1) := by decide +kernel
theorem d3_17 : decode jdk_33_method_22_code 17 = .ok (.sipush 128, 3) := by decide +kernel
theorem d3_20 : decode jdk_33_method_22_code 20 = .ok (.iadd, 1) := by decide +kernel
theorem d3_21 : decode jdk_33_method_22_code 21 = .ok (.aaload, 1) := by decide +kernel
theorem d3_22 : decode jdk_33_method_22_code 22 = .ok (.areturn, 1) := by decide +kernel
theorem d3_23 : decode jdk_33_method_22_code 23 = .ok (.new 1, 3) := by decide +kernel
theorem d3_26 : decode jdk_33_method_22_code 26 = .ok (.dup, 1) := by decide +kernel
theorem d3_27 : decode jdk_33_method_22_code 27 = .ok (.iload_n 0, 1) := by decide +kernel
theorem d3_28 : decode jdk_33_method_22_code 28 = .ok (.invokespecial 199, 3) := by decide +kernel
theorem d3_31 : decode jdk_33_method_22_code 31 = .ok (.areturn, 1) := by decide +kernel
theorem ef_3_I (m : MethodId) (x0 : Int32) : entryFrame m #[(.int x0)] 1 = mkF m 0 #[.val (.int x0)] [] := by first | (simp [entryFrame, mkF, argsToLocals, Value.category]; done) | rfl
def Q3 (Z : State) (p0 : Int32) (ca : Addr) (h0 : Heap) (n0 : Nat) (v : Option Value) (h : Heap) (L : List Loc) : Prop := ∃ b : Addr, v = some (.ref b) ∧ Fr n0 L ∧ Keep h0 h [] ∧ Exa Z h b "java/lang/Integer" ∧ Fld Z h b "java/lang/Integer" "value" "I" (.int p0)
set_option maxRecDepth 65536 in
set_option maxHeartbeats 40000000 in
theorem rm3 (l : Launch) (Z : State) (aA : Array Value) (hw : ∀ d ∈ tables_1, d.before aA Z = true) (ws : List Jvm.Cond) (p0 : Int32) (ca : Addr) (h0 : Heap) (n0 : Nat) (Z0 : n0 ≤ h0.size) (O0 : Old Z n0 h0) (S_high : Sta Z Z.heap "java/lang/Integer$IntegerCache" "high" "I" (.int (127 : Int32))) (S_cache : Sta Z Z.heap "java/lang/Integer$IntegerCache" "cache" "[Ljava/lang/Integer;" (.ref ca)) (C_cache : own_Cache Z Z.heap ca) :
    MetFree l (⟨"java/lang/Integer", "valueOf", "(I)Ljava/lang/Integer;"⟩ : MethodName) (head1 (Jvm.Cond.code (⟨"java/lang/Integer", "valueOf", "(I)Ljava/lang/Integer;"⟩ : MethodName) jdk_33_method_22_code 1 (some (.object "java/lang/Integer")) :: ws) ({ frames := 3, cells := 1, slots := 1, locals := 38 } : Room)) (fun a U => a = #[(.int p0)] ∧ Z.Warmed39 U.vm ∧ U.heap = h0) (fun _ _ _ _ _ => True) (fun _ U o U' => ∃ v L, o = .returned v ∧ Q3 Z p0 ca h0 n0 v U'.heap L ∧ FrameEnd U o U' L ({ frames := 3, cells := 1, slots := 1, locals := 38 } : Room).cells ({ frames := 3, cells := 1, slots := 1, locals := 38 } : Room).slots) := by
  refine MetFree.of_bodySF (plainFor_of_name pn_java_lang_Integer) hisR ?_
  intro p e s m args below meth c s₁ Bd hml0 hP hK
  obtain ⟨rfl, hZ, hh⟩ := hP
  have hx := Bd.exec
  have hby := Bd.bytes
  have hml : c.maxLocals = 1 := hml0
  have hown : s.vm.findClass "java/lang/Integer" = some m.cls := findClass_of_methodNamed Bd.named
  have hnm := (name_of_methodNamed Bd.named Bd.method).1
  have X0 : Stand p l e ({ frames := 3, cells := 1, slots := 1, locals := 38 } : Room) s m #[(.int p0)] below meth c s₁ [] 0 0 := Stand.of_body Bd
  have e0 : s₁.heap = h0 := by rw [← hh, Bd.state]; rfl
  have N0 := Fr.nil n0
  have KP0 : Keep h0 h0 [] := Keep.refl h0 _
  have pre0 : ∀ t, Steps p.tables e below (s₁.setTop (mkF m 0 #[.val (.int p0)] [])) t → Steps p.tables e below (s₁.setTop (entryFrame m #[(.int p0)] 1)) t := fun t k => castTop (ef_3_I m p0) k
  have pre8 : ∀ t, Steps p.tables e below (s₁.setTop (mkF m 3 #[.val (.int p0)] [(.int (-128 : Int32)), (.int p0)])) t → Steps p.tables e below (s₁.setTop (entryFrame m #[(.int p0)] 1)) t := by
    intro t kk
    refine pre0 t ?_
    show Steps p.tables e below (s₁.setTop (mkF m 0 #[.val (.int p0)] [])) _
    refine XS.iloadN X0.here hx rfl (hb hby d3_0) rfl ?_
    show Steps p.tables e below (s₁.setTop (mkF m 1 #[.val (.int p0)] [(.int p0)])) _
    refine XS.bipush X0.here hx rfl (hb hby d3_1) ?_
    exact kk
  by_cases hc3_7 : p0 < (-128 : Int32)
  · obtain ⟨T9, h9, X9, e9, E9, A9, D9, -, st9⟩ := newO X0 hx hZ hown (hw _ (List.mem_of_getElem? (i := 18) rfl)) (hw _ (List.mem_of_getElem? (i := 19) rfl)) (hw _ (List.mem_of_getElem? (i := 14) rfl)) e0 (g := (mkF m 23 #[.val (.int p0)] [])) rfl (hb hby d3_23) (by decide) (by decide)
    obtain ⟨b9, g9⟩ : ∃ z, z = h0.size := ⟨_, rfl⟩
    rw [← g9] at A9 D9 st9
    have sz_b9 : h0.size ≤ b9 := Nat.le_trans KP0.1 (Nat.le_of_eq g9.symm)
    have g_b9 : n0 ≤ b9 := Nat.le_trans Z0 (Nat.le_of_eq g9.symm)
    have KP9 : Keep h0 h9 [] := KP0.ext E9
    have Z9 : n0 ≤ h9.size := Nat.le_trans Z0 E9.1
    have O_10 : Old Z n0 h9 := O0.ext E9
    have F_value_b9 : Fld Z h9 b9 "java/lang/Integer" "value" "I" (.int (0 : Int32)) := D9 (Or.inr (hw _ (List.mem_of_getElem? (i := 34) rfl))) (ty := .int) (by decide)
    obtain ⟨_, _, ⟨T11, L11, k11, n11⟩, -, X11, ⟨Lc11, hQ11, l11, y11, z11⟩, st11⟩ := X9.specialBack hx (y := (⟨"java/lang/Integer", "<init>", "(I)V"⟩ : MethodName)) rfl hown (mvT hZ (hw _ (List.mem_of_getElem? (i := 20) rfl))) (mvT hZ (hw _ (List.mem_of_getElem? (i := 21) rfl))) (mvT hZ (hw _ (List.mem_of_getElem? (i := 23) rfl))) (by decide) (backOf (W := 1) (rm4 l Z aA hw [] b9 p0 h9 n0 Z9 A9 g_b9 F_value_b9) hZ (hw _ (List.mem_of_getElem? (i := 23) rfl)) (hw _ (List.mem_of_getElem? (i := 14) rfl)) (by decide) (by decide)) (g := (mkF m 28 #[.val (.int p0)] [(.int p0), (.ref b9), (.ref b9)])) rfl (by rw [hml]; rfl) (Steps.refl _) (a := b9) (argsL := [(.int p0)]) (rest := [(.ref b9)]) (lenOf pd__28I_29V rfl) rfl (by show 2 * 0 + _ ≤ _; exact Nat.le_of_eq rfl) (hb hby d3_28) (fun _ _ => ⟨rfl, e9, (by decide : 1 + 0 ≤ _), (by decide : 1 + 0 ≤ _)⟩)
    dsimp only [Pt.U, Pt.locs, Pt.cells, Pt.slots] at X11 l11 y11 z11 st11 hQ11
    subst l11 y11 z11
    obtain ⟨rfl, N11q, K11, Eq11, Fq11_value⟩ := hQ11
    have N11 := Fr.app N0 N11q
    have KP11 : Keep h0 T11.heap [] := KP9.trans K11 (allS (Or.inr sz_b9) all0)
    have Z11 : n0 ≤ T11.heap.size := Nat.le_trans Z9 K11.1
    have O_12 : Old Z n0 T11.heap := O_10.keep K11 (allS g_b9 all0)
    have E_b9_13 : Exa Z T11.heap b9 "java/lang/Integer" := A9.keep K11
    have pre14 : ∀ t, Steps p.tables e below (T11.setTop (mkF m 31 #[.val (.int p0)] [(.ref b9)])) t → Steps p.tables e below (s₁.setTop (entryFrame m #[(.int p0)] 1)) t := by
      intro t kk
      refine pre8 t ?_
      show Steps p.tables e below (s₁.setTop (mkF m 3 #[.val (.int p0)] [(.int (-128 : Int32)), (.int p0)])) _
      refine XS.icmpYes X0.here hx rfl (pc0 := 3) (pc' := 23) rfl (hb hby d3_3) rfl (tlt hc3_7).1 (by decide) (by decide) ?_
      show Steps p.tables e below (s₁.setTop (mkF m 23 #[.val (.int p0)] [])) _
      refine st9 _ ?_
      show Steps p.tables e below (T9.setTop (mkF m 26 #[.val (.int p0)] [(.ref b9)])) _
      refine XS.dup X9.here hx rfl (hb hby d3_26) rfl rfl ?_
      show Steps p.tables e below (T9.setTop (mkF m 27 #[.val (.int p0)] [(.ref b9), (.ref b9)])) _
      refine XS.iloadN X9.here hx rfl (hb hby d3_27) rfl ?_
      show Steps p.tables e below (T9.setTop (mkF m 28 #[.val (.int p0)] [(.int p0), (.ref b9), (.ref b9)])) _
      refine st11.trans ?_
      exact kk
    obtain ⟨fs, hr, hrun, hended, hW, hsame⟩ := X11.leave (v := some (.ref b9)) (fun h => by rw [Bd.returns] at h; cases h)
    refine ⟨_, _, pre14 _ ?_, hrun, hended, _, _, rfl, ?_, ⟨_, rfl⟩, hW, hsame.mono (by decide) (by decide)⟩
    · show Steps p.tables e below (T11.setTop (mkF m 31 #[.val (.int p0)] [(.ref b9)])) _
      exact retOut X11 hx Bd.returns rfl (Or.inr (Or.inr (Or.inr (Or.inr ⟨rfl, rfl, rfl⟩)))) (hb hby d3_31) hr
    · show Q3 Z p0 ca h0 n0 _ T11.heap _
      exact ⟨_, rfl, N11, KP11, Eq11, Fq11_value⟩
  · obtain ⟨T15, X15, e15, st15⟩ := getS2 X0 hx hZ hown (host := "") (Or.inl (hw _ (List.mem_of_getElem? (i := 16) rfl))) Via.refl e0 (S_high.ext O0.2) (g := (mkF m 7 #[.val (.int p0)] [(.int p0)])) rfl (hb hby d3_7)
    have pre17 : ∀ t, Steps p.tables e below (T15.setTop (mkF m 10 #[.val (.int p0)] [(.int (127 : Int32)), (.int p0)])) t → Steps p.tables e below (s₁.setTop (entryFrame m #[(.int p0)] 1)) t := by
      intro t kk
      refine pre8 t ?_
      show Steps p.tables e below (s₁.setTop (mkF m 3 #[.val (.int p0)] [(.int (-128 : Int32)), (.int p0)])) _
      refine XS.icmpNo X0.here hx rfl (hb hby d3_3) rfl (flt hc3_7).1 ?_
      show Steps p.tables e below (s₁.setTop (mkF m 6 #[.val (.int p0)] [])) _
      refine XS.iloadN X0.here hx rfl (hb hby d3_6) rfl ?_
      show Steps p.tables e below (s₁.setTop (mkF m 7 #[.val (.int p0)] [(.int p0)])) _
      refine st15 _ ?_
      exact kk
    by_cases hc10_16 : (127 : Int32) < p0
    · obtain ⟨T18, h18, X18, e18, E18, A18, D18, -, st18⟩ := newO X15 hx hZ hown (hw _ (List.mem_of_getElem? (i := 18) rfl)) (hw _ (List.mem_of_getElem? (i := 19) rfl)) (hw _ (List.mem_of_getElem? (i := 14) rfl)) e15 (g := (mkF m 23 #[.val (.int p0)] [])) rfl (hb hby d3_23) (by decide) (by decide)
      obtain ⟨b18, g18⟩ : ∃ z, z = h0.size := ⟨_, rfl⟩
      rw [← g18] at A18 D18 st18
      have sz_b18 : h0.size ≤ b18 := Nat.le_trans KP0.1 (Nat.le_of_eq g18.symm)
      have g_b18 : n0 ≤ b18 := Nat.le_trans Z0 (Nat.le_of_eq g18.symm)
      have KP18 : Keep h0 h18 [] := KP0.ext E18
      have Z18 : n0 ≤ h18.size := Nat.le_trans Z0 E18.1
      have O_19 : Old Z n0 h18 := O0.ext E18
      have F_value_b18 : Fld Z h18 b18 "java/lang/Integer" "value" "I" (.int (0 : Int32)) := D18 (Or.inr (hw _ (List.mem_of_getElem? (i := 34) rfl))) (ty := .int) (by decide)
      obtain ⟨_, _, ⟨T20, L20, k20, n20⟩, -, X20, ⟨Lc20, hQ20, l20, y20, z20⟩, st20⟩ := X18.specialBack hx (y := (⟨"java/lang/Integer", "<init>", "(I)V"⟩ : MethodName)) rfl hown (mvT hZ (hw _ (List.mem_of_getElem? (i := 20) rfl))) (mvT hZ (hw _ (List.mem_of_getElem? (i := 21) rfl))) (mvT hZ (hw _ (List.mem_of_getElem? (i := 23) rfl))) (by decide) (backOf (W := 1) (rm4 l Z aA hw [] b18 p0 h18 n0 Z18 A18 g_b18 F_value_b18) hZ (hw _ (List.mem_of_getElem? (i := 23) rfl)) (hw _ (List.mem_of_getElem? (i := 14) rfl)) (by decide) (by decide)) (g := (mkF m 28 #[.val (.int p0)] [(.int p0), (.ref b18), (.ref b18)])) rfl (by rw [hml]; rfl) (Steps.refl _) (a := b18) (argsL := [(.int p0)]) (rest := [(.ref b18)]) (lenOf pd__28I_29V rfl) rfl (by show 2 * 0 + _ ≤ _; exact Nat.le_of_eq rfl) (hb hby d3_28) (fun _ _ => ⟨rfl, e18, (by decide : 1 + 0 ≤ _), (by decide : 1 + 0 ≤ _)⟩)
      dsimp only [Pt.U, Pt.locs, Pt.cells, Pt.slots] at X20 l20 y20 z20 st20 hQ20
      subst l20 y20 z20
      obtain ⟨rfl, N20q, K20, Eq20, Fq20_value⟩ := hQ20
      have N20 := Fr.app N0 N20q
      have KP20 : Keep h0 T20.heap [] := KP18.trans K20 (allS (Or.inr sz_b18) all0)
      have Z20 : n0 ≤ T20.heap.size := Nat.le_trans Z18 K20.1
      have O_21 : Old Z n0 T20.heap := O_19.keep K20 (allS g_b18 all0)
      have E_b18_22 : Exa Z T20.heap b18 "java/lang/Integer" := A18.keep K20
      have pre23 : ∀ t, Steps p.tables e below (T20.setTop (mkF m 31 #[.val (.int p0)] [(.ref b18)])) t → Steps p.tables e below (s₁.setTop (entryFrame m #[(.int p0)] 1)) t := by
        intro t kk
        refine pre17 t ?_
        show Steps p.tables e below (T15.setTop (mkF m 10 #[.val (.int p0)] [(.int (127 : Int32)), (.int p0)])) _
        refine XS.icmpYes X15.here hx rfl (pc0 := 10) (pc' := 23) rfl (hb hby d3_10) rfl (tlt hc10_16).2.2.1 (by decide) (by decide) ?_
        show Steps p.tables e below (T15.setTop (mkF m 23 #[.val (.int p0)] [])) _
        refine st18 _ ?_
        show Steps p.tables e below (T18.setTop (mkF m 26 #[.val (.int p0)] [(.ref b18)])) _
        refine XS.dup X18.here hx rfl (hb hby d3_26) rfl rfl ?_
        show Steps p.tables e below (T18.setTop (mkF m 27 #[.val (.int p0)] [(.ref b18), (.ref b18)])) _
        refine XS.iloadN X18.here hx rfl (hb hby d3_27) rfl ?_
        show Steps p.tables e below (T18.setTop (mkF m 28 #[.val (.int p0)] [(.int p0), (.ref b18), (.ref b18)])) _
        refine st20.trans ?_
        exact kk
      obtain ⟨fs, hr, hrun, hended, hW, hsame⟩ := X20.leave (v := some (.ref b18)) (fun h => by rw [Bd.returns] at h; cases h)
      refine ⟨_, _, pre23 _ ?_, hrun, hended, _, _, rfl, ?_, ⟨_, rfl⟩, hW, hsame.mono (by decide) (by decide)⟩
      · show Steps p.tables e below (T20.setTop (mkF m 31 #[.val (.int p0)] [(.ref b18)])) _
        exact retOut X20 hx Bd.returns rfl (Or.inr (Or.inr (Or.inr (Or.inr ⟨rfl, rfl, rfl⟩)))) (hb hby d3_31) hr
      · show Q3 Z p0 ca h0 n0 _ T20.heap _
        exact ⟨_, rfl, N20, KP20, Eq20, Fq20_value⟩
    · obtain ⟨T24, X24, e24, st24⟩ := getS2 X15 hx hZ hown (host := "") (Or.inl (hw _ (List.mem_of_getElem? (i := 46) rfl))) Via.refl e15 (S_cache.ext O0.2) (g := (mkF m 13 #[.val (.int p0)] [])) rfl (hb hby d3_13)
      obtain ⟨cl25, Ar25, Sz25, Hl25⟩ := own_Cache_ext C_cache O0.2
      have hin25 : ¬ ((p0 + (128 : Int32)) < 0 ∨ cl25.slots.size ≤ ((p0 + (128 : Int32))).toNatClampNeg) := by rw [Sz25]; exact own_idx p0 hc3_7 hc10_16
      obtain ⟨b25, hat25, Eb25, Fb25⟩ := Hl25 _ hin25
      rw [own_val p0] at Fb25
      have pre26 : ∀ t, Steps p.tables e below (T24.setTop (mkF m 22 #[.val (.int p0)] [(.ref b25)])) t → Steps p.tables e below (s₁.setTop (entryFrame m #[(.int p0)] 1)) t := by
        intro t kk
        refine pre17 t ?_
        show Steps p.tables e below (T15.setTop (mkF m 10 #[.val (.int p0)] [(.int (127 : Int32)), (.int p0)])) _
        refine XS.icmpNo X15.here hx rfl (hb hby d3_10) rfl (flt hc10_16).2.2.1 ?_
        show Steps p.tables e below (T15.setTop (mkF m 13 #[.val (.int p0)] [])) _
        refine st24 _ ?_
        show Steps p.tables e below (T24.setTop (mkF m 16 #[.val (.int p0)] [(.ref ca)])) _
        refine XS.iloadN X24.here hx rfl (hb hby d3_16) rfl ?_
        show Steps p.tables e below (T24.setTop (mkF m 17 #[.val (.int p0)] [(.int p0), (.ref ca)])) _
        refine XS.sipush X24.here hx rfl (hb hby d3_17) ?_
        show Steps p.tables e below (T24.setTop (mkF m 20 #[.val (.int p0)] [(.int (128 : Int32)), (.int p0), (.ref ca)])) _
        refine XS.iadd X24.here hx rfl (hb hby d3_20) rfl ?_
        show Steps p.tables e below (T24.setTop (mkF m 21 #[.val (.int p0)] [(.int (p0 + (128 : Int32))), (.ref ca)])) _
        refine X24.aaload hx (j := (p0 + (128 : Int32))) (v := .ref b25) (by rw [e24]; exact Ar25.1) (State.isArrayOf_alike hZ.alike Ar25.2.1) rfl Ar25.2.2 hin25 hat25 (g := (mkF m 21 #[.val (.int p0)] [(.int (p0 + (128 : Int32))), (.ref ca)])) rfl rfl (hb hby d3_21) _ ?_
        exact kk
      obtain ⟨fs, hr, hrun, hended, hW, hsame⟩ := X24.leave (v := some (.ref b25)) (fun h => by rw [Bd.returns] at h; cases h)
      refine ⟨_, _, pre26 _ ?_, hrun, hended, _, _, rfl, ?_, ⟨_, rfl⟩, hW, hsame.mono (by decide) (by decide)⟩
      · show Steps p.tables e below (T24.setTop (mkF m 22 #[.val (.int p0)] [(.ref b25)])) _
        exact retOut X24 hx Bd.returns rfl (Or.inr (Or.inr (Or.inr (Or.inr ⟨rfl, rfl, rfl⟩)))) (hb hby d3_22) hr
      · show Q3 Z p0 ca h0 n0 _ T24.heap _
        rw [e24]
        exact ⟨_, rfl, N0, KP0, Eb25, Fb25⟩
theorem d7_0 : decode jdk_33_method_27_code 0 = .ok (.aload_n 0, 1) := by decide +kernel
theorem d7_1 : decode jdk_33_method_27_code 1 = .ok (.getfield 205, 3) := by decide +kernel
theorem d7_4 : decode jdk_33_method_27_code 4 = .ok (.ireturn, 1) := by decide +kernel
theorem ef_7_R (m : MethodId) (x0 : Addr) : entryFrame m #[(.ref x0)] 1 = mkF m 0 #[.val (.ref x0)] [] := by first | (simp [entryFrame, mkF, argsToLocals, Value.category]; done) | rfl
def Q7 (Z : State) (a_ : Addr) (w_ : Int32) (h0 : Heap) (n0 : Nat) (v : Option Value) (h : Heap) (L : List Loc) : Prop := v = some (.int w_) ∧ Fr n0 L ∧ h = h0
set_option maxRecDepth 65536 in
set_option maxHeartbeats 40000000 in
theorem rm7 (l : Launch) (Z : State) (aA : Array Value) (hw : ∀ d ∈ tables_1, d.before aA Z = true) (ws : List Jvm.Cond) (a_ : Addr) (w_ : Int32) (h0 : Heap) (n0 : Nat) (Z0 : n0 ≤ h0.size) (F_ : Fld Z h0 a_ "java/lang/Integer" "value" "I" (.int w_)) :
    MetFree l (⟨"java/lang/Integer", "intValue", "()I"⟩ : MethodName) (head1 (Jvm.Cond.code (⟨"java/lang/Integer", "intValue", "()I"⟩ : MethodName) jdk_33_method_27_code 1 (some .int) :: ws) ({ frames := 0, cells := 0, slots := 0, locals := 0 } : Room)) (fun a U => a = #[(.ref a_)] ∧ Z.Warmed39 U.vm ∧ U.heap = h0) (fun _ _ _ _ _ => True) (fun _ U o U' => ∃ v L, o = .returned v ∧ Q7 Z a_ w_ h0 n0 v U'.heap L ∧ FrameEnd U o U' L ({ frames := 0, cells := 0, slots := 0, locals := 0 } : Room).cells ({ frames := 0, cells := 0, slots := 0, locals := 0 } : Room).slots) := by
  refine MetFree.of_bodySF (plainFor_of_name pn_java_lang_Integer) hisR ?_
  intro p e s m args below meth c s₁ Bd hml0 hP hK
  obtain ⟨rfl, hZ, hh⟩ := hP
  have hx := Bd.exec
  have hby := Bd.bytes
  have hml : c.maxLocals = 1 := hml0
  have hown : s.vm.findClass "java/lang/Integer" = some m.cls := findClass_of_methodNamed Bd.named
  have hnm := (name_of_methodNamed Bd.named Bd.method).1
  have X0 : Stand p l e ({ frames := 0, cells := 0, slots := 0, locals := 0 } : Room) s m #[(.ref a_)] below meth c s₁ [] 0 0 := Stand.of_body Bd
  have e0 : s₁.heap = h0 := by rw [← hh, Bd.state]; rfl
  have N0 := Fr.nil n0
  have KP0 : Keep h0 h0 [] := Keep.refl h0 _
  have pre0 : ∀ t, Steps p.tables e below (s₁.setTop (mkF m 0 #[.val (.ref a_)] [])) t → Steps p.tables e below (s₁.setTop (entryFrame m #[(.ref a_)] 1)) t := fun t k => castTop (ef_7_R m a_) k
  obtain ⟨T27, X27, e27, st27⟩ := getF X0 hx hZ hown (host := "") (Or.inl (hw _ (List.mem_of_getElem? (i := 33) rfl))) Via.refl e0 F_ (g := (mkF m 1 #[.val (.ref a_)] [(.ref a_)])) rfl rfl (hb hby d7_1)
  have pre28 : ∀ t, Steps p.tables e below (T27.setTop (mkF m 4 #[.val (.ref a_)] [(.int w_)])) t → Steps p.tables e below (s₁.setTop (entryFrame m #[(.ref a_)] 1)) t := by
    intro t kk
    refine pre0 t ?_
    show Steps p.tables e below (s₁.setTop (mkF m 0 #[.val (.ref a_)] [])) _
    refine XS.aloadN X0.here hx rfl (hb hby d7_0) rfl rfl ?_
    show Steps p.tables e below (s₁.setTop (mkF m 1 #[.val (.ref a_)] [(.ref a_)])) _
    refine st27 _ ?_
    exact kk
  obtain ⟨fs, hr, hrun, hended, hW, hsame⟩ := X27.leave (v := some (.int w_)) (fun h => by rw [Bd.returns] at h; cases h)
  refine ⟨_, _, pre28 _ ?_, hrun, hended, _, _, rfl, ?_, ⟨_, rfl⟩, hW, hsame.mono (by decide) (by decide)⟩
  · show Steps p.tables e below (T27.setTop (mkF m 4 #[.val (.ref a_)] [(.int w_)])) _
    exact retOut X27 hx Bd.returns rfl (Or.inl ⟨rfl, Or.inl rfl, _, rfl⟩) (hb hby d7_4) hr
  · show Q7 Z a_ w_ h0 n0 _ T27.heap _
    rw [e27]
    exact ⟨rfl, N0, rfl⟩
def F1n (wUNANSWERED : Addr) (wACCEPTED : Addr) (wREDIRECTED : Addr) (wREJECTED : Addr) : Addr := wUNANSWERED
theorem d1_0 : decode prog_23_method_5_code 0 = .ok (.aload_n 0, 1) := by decide +kernel
theorem d1_1 : decode prog_23_method_5_code 1 = .ok (.ifnonnull 10, 3) := by decide +kernel
theorem d1_4 : decode prog_23_method_5_code 4 = .ok (.getstatic 13, 3) := by decide +kernel
theorem d1_7 : decode prog_23_method_5_code 7 = .ok (.astore_n 1, 1) := by decide +kernel
theorem d1_8 : decode prog_23_method_5_code 8 = .ok (.goto 88, 3) := by decide +kernel
theorem d1_96 : decode prog_23_method_5_code 96 = .ok (.aload_n 1, 1) := by decide +kernel
theorem d1_97 : decode prog_23_method_5_code 97 = .ok (.areturn, 1) := by decide +kernel
theorem pn_com_example_tidewheel_tidewheel_model_Delivery_Answer : plainName "com/example/tidewheel/tidewheel/model/Delivery$Answer" = true := by first | (simp [plainName, overriddenIn]; done) | decide +kernel
theorem ef_1_n (m : MethodId)  : entryFrame m #[.null] 2 = mkF m 0 #[.val .null, .unset] [] := by first | (simp [entryFrame, mkF, argsToLocals, Value.category]; done) | rfl
def Q1n (Z : State) (wUNANSWERED : Addr) (wACCEPTED : Addr) (wREDIRECTED : Addr) (wREJECTED : Addr) (h0 : Heap) (n0 : Nat) (v : Option Value) (h : Heap) (L : List Loc) : Prop := v = some (.ref (F1n wUNANSWERED wACCEPTED wREDIRECTED wREJECTED)) ∧ Fr n0 L ∧ h = h0
set_option maxRecDepth 65536 in
set_option maxHeartbeats 40000000 in
theorem rm1n (l : Launch) (Z : State) (aA : Array Value) (hw : ∀ d ∈ tables_1, d.before aA Z = true) (ws : List Jvm.Cond) (wUNANSWERED : Addr) (wACCEPTED : Addr) (wREDIRECTED : Addr) (wREJECTED : Addr) (h0 : Heap) (n0 : Nat) (Z0 : n0 ≤ h0.size) (O0 : Old Z n0 h0) (S_UNANSWERED : Sta Z Z.heap "com/example/tidewheel/tidewheel/model/Delivery$Answer" "UNANSWERED" "Lcom/example/tidewheel/tidewheel/model/Delivery$Answer;" (.ref wUNANSWERED)) (S_ACCEPTED : Sta Z Z.heap "com/example/tidewheel/tidewheel/model/Delivery$Answer" "ACCEPTED" "Lcom/example/tidewheel/tidewheel/model/Delivery$Answer;" (.ref wACCEPTED)) (S_REDIRECTED : Sta Z Z.heap "com/example/tidewheel/tidewheel/model/Delivery$Answer" "REDIRECTED" "Lcom/example/tidewheel/tidewheel/model/Delivery$Answer;" (.ref wREDIRECTED)) (S_REJECTED : Sta Z Z.heap "com/example/tidewheel/tidewheel/model/Delivery$Answer" "REJECTED" "Lcom/example/tidewheel/tidewheel/model/Delivery$Answer;" (.ref wREJECTED)) :
    MetFree l (⟨"com/example/tidewheel/tidewheel/model/Delivery$Answer", "of", "(Ljava/lang/Integer;)Lcom/example/tidewheel/tidewheel/model/Delivery$Answer;"⟩ : MethodName) (head1 (Jvm.Cond.code (⟨"com/example/tidewheel/tidewheel/model/Delivery$Answer", "of", "(Ljava/lang/Integer;)Lcom/example/tidewheel/tidewheel/model/Delivery$Answer;"⟩ : MethodName) prog_23_method_5_code 2 (some (.object "com/example/tidewheel/tidewheel/model/Delivery$Answer")) :: ws) ({ frames := 0, cells := 0, slots := 0, locals := 0 } : Room)) (fun a U => a = #[.null] ∧ Z.Warmed39 U.vm ∧ U.heap = h0) (fun _ _ _ _ _ => True) (fun _ U o U' => ∃ v L, o = .returned v ∧ Q1n Z wUNANSWERED wACCEPTED wREDIRECTED wREJECTED h0 n0 v U'.heap L ∧ FrameEnd U o U' L ({ frames := 0, cells := 0, slots := 0, locals := 0 } : Room).cells ({ frames := 0, cells := 0, slots := 0, locals := 0 } : Room).slots) := by
  refine MetFree.of_bodySF (plainFor_of_name pn_com_example_tidewheel_tidewheel_model_Delivery_Answer) hisR ?_
  intro p e s m args below meth c s₁ Bd hml0 hP hK
  obtain ⟨rfl, hZ, hh⟩ := hP
  have hx := Bd.exec
  have hby := Bd.bytes
  have hml : c.maxLocals = 2 := hml0
  have hown : s.vm.findClass "com/example/tidewheel/tidewheel/model/Delivery$Answer" = some m.cls := findClass_of_methodNamed Bd.named
  have hnm := (name_of_methodNamed Bd.named Bd.method).1
  have X0 : Stand p l e ({ frames := 0, cells := 0, slots := 0, locals := 0 } : Room) s m #[.null] below meth c s₁ [] 0 0 := Stand.of_body Bd
  have e0 : s₁.heap = h0 := by rw [← hh, Bd.state]; rfl
  have N0 := Fr.nil n0
  have KP0 : Keep h0 h0 [] := Keep.refl h0 _
  have pre0 : ∀ t, Steps p.tables e below (s₁.setTop (mkF m 0 #[.val .null, .unset] [])) t → Steps p.tables e below (s₁.setTop (entryFrame m #[.null] 2)) t := fun t k => castTop (ef_1_n m ) k
  obtain ⟨T29, X29, e29, st29⟩ := getS2 X0 hx hZ hown (host := "") (Or.inl (hw _ (List.mem_of_getElem? (i := 4) rfl))) Via.refl e0 (S_UNANSWERED.ext O0.2) (g := (mkF m 4 #[.val .null, .unset] [])) rfl (hb hby d1_4)
  have hF30 : (F1n wUNANSWERED wACCEPTED wREDIRECTED wREJECTED) = wUNANSWERED := rfl
  have pre31 : ∀ t, Steps p.tables e below (T29.setTop (mkF m 97 #[.val .null, .val (.ref wUNANSWERED)] [(.ref wUNANSWERED)])) t → Steps p.tables e below (s₁.setTop (entryFrame m #[.null] 2)) t := by
    intro t kk
    refine pre0 t ?_
    show Steps p.tables e below (s₁.setTop (mkF m 0 #[.val .null, .unset] [])) _
    refine XS.aloadN X0.here hx rfl (hb hby d1_0) rfl rfl ?_
    show Steps p.tables e below (s₁.setTop (mkF m 1 #[.val .null, .unset] [.null])) _
    refine XS.ifnonnullNo X0.here hx rfl (hb hby d1_1) rfl ?_
    show Steps p.tables e below (s₁.setTop (mkF m 4 #[.val .null, .unset] [])) _
    refine st29 _ ?_
    show Steps p.tables e below (T29.setTop (mkF m 7 #[.val .null, .unset] [(.ref wUNANSWERED)])) _
    refine XS.astoreN X29.here hx rfl (hb hby d1_7) rfl rfl (l' := #[.val .null, .val (.ref wUNANSWERED)]) rfl ?_
    show Steps p.tables e below (T29.setTop (mkF m 8 #[.val .null, .val (.ref wUNANSWERED)] [])) _
    refine XS.goto X29.here hx rfl (pc0 := 8) (pc' := 96) rfl (hb hby d1_8) (by decide) (by decide) ?_
    show Steps p.tables e below (T29.setTop (mkF m 96 #[.val .null, .val (.ref wUNANSWERED)] [])) _
    refine XS.aloadN X29.here hx rfl (hb hby d1_96) rfl rfl ?_
    exact kk
  obtain ⟨fs, hr, hrun, hended, hW, hsame⟩ := X29.leave (v := some (.ref wUNANSWERED)) (fun h => by rw [Bd.returns] at h; cases h)
  refine ⟨_, _, pre31 _ ?_, hrun, hended, _, _, rfl, ?_, ⟨_, rfl⟩, hW, hsame.mono (by decide) (by decide)⟩
  · show Steps p.tables e below (T29.setTop (mkF m 97 #[.val .null, .val (.ref wUNANSWERED)] [(.ref wUNANSWERED)])) _
    exact retOut X29 hx Bd.returns rfl (Or.inr (Or.inr (Or.inr (Or.inr ⟨rfl, rfl, rfl⟩)))) (hb hby d1_97) hr
  · show Q1n Z wUNANSWERED wACCEPTED wREDIRECTED wREJECTED h0 n0 _ T29.heap _
    rw [e29]
    exact ⟨congrArg (fun z => some (Value.ref z)) hF30.symm, N0, rfl⟩
def F1o (a0 : Addr) (wUNANSWERED : Addr) (wACCEPTED : Addr) (wREDIRECTED : Addr) (wREJECTED : Addr) (z_ : Int32) : Addr := (if z_ < (200 : Int32) then (if z_ < (300 : Int32) then (if z_ < (400 : Int32) then wUNANSWERED else (if (502 : Int32) < z_ then wUNANSWERED else wREJECTED)) else (if (399 : Int32) < z_ then (if z_ < (400 : Int32) then wUNANSWERED else (if (502 : Int32) < z_ then wUNANSWERED else wREJECTED)) else wREDIRECTED)) else (if (299 : Int32) < z_ then (if z_ < (300 : Int32) then (if z_ < (400 : Int32) then wUNANSWERED else (if (502 : Int32) < z_ then wUNANSWERED else wREJECTED)) else (if (399 : Int32) < z_ then (if z_ < (400 : Int32) then wUNANSWERED else (if (502 : Int32) < z_ then wUNANSWERED else wREJECTED)) else wREDIRECTED)) else wACCEPTED))
theorem pd__28_29I : parseMethodDescriptor "()I" = some ⟨[], some .int⟩ := by decide +kernel
theorem d1_11 : decode prog_23_method_5_code 11 = .ok (.aload_n 0, 1) := by decide +kernel
theorem d1_12 : decode prog_23_method_5_code 12 = .ok (.invokevirtual 42, 3) := by decide +kernel
theorem d1_15 : decode prog_23_method_5_code 15 = .ok (.sipush 200, 3) := by decide +kernel
theorem d1_18 : decode prog_23_method_5_code 18 = .ok (.if_icmp .lt 20, 3) := by decide +kernel
theorem d1_21 : decode prog_23_method_5_code 21 = .ok (.aload_n 0, 1) := by decide +kernel
theorem d1_22 : decode prog_23_method_5_code 22 = .ok (.invokevirtual 42, 3) := by decide +kernel
theorem d1_25 : decode prog_23_method_5_code 25 = .ok (.sipush 299, 3) := by decide +kernel
theorem d1_28 : decode prog_23_method_5_code 28 = .ok (.if_icmp .gt 10, 3) := by decide +kernel
theorem d1_31 : decode prog_23_method_5_code 31 = .ok (.getstatic 3, 3) := by decide +kernel
theorem d1_34 : decode prog_23_method_5_code 34 = .ok (.astore_n 1, 1) := by decide +kernel
theorem d1_35 : decode prog_23_method_5_code 35 = .ok (.goto 61, 3) := by decide +kernel
theorem d1_38 : decode prog_23_method_5_code 38 = .ok (.aload_n 0, 1) := by decide +kernel
theorem d1_39 : decode prog_23_method_5_code 39 = .ok (.invokevirtual 42, 3) := by decide +kernel
theorem d1_42 : decode prog_23_method_5_code 42 = .ok (.sipush 300, 3) := by decide +kernel
theorem d1_45 : decode prog_23_method_5_code 45 = .ok (.if_icmp .lt 20, 3) := by decide +kernel
theorem d1_48 : decode prog_23_method_5_code 48 = .ok (.aload_n 0, 1) := by decide +kernel
theorem d1_49 : decode prog_23_method_5_code 49 = .ok (.invokevirtual 42, 3) := by decide +kernel
theorem d1_52 : decode prog_23_method_5_code 52 = .ok (.sipush 399, 3) := by decide +kernel
theorem d1_55 : decode prog_23_method_5_code 55 = .ok (.if_icmp .gt 10, 3) := by decide +kernel
theorem d1_58 : decode prog_23_method_5_code 58 = .ok (.getstatic 7, 3) := by decide +kernel
theorem d1_61 : decode prog_23_method_5_code 61 = .ok (.astore_n 1, 1) := by decide +kernel
theorem d1_62 : decode prog_23_method_5_code 62 = .ok (.goto 34, 3) := by decide +kernel
theorem d1_65 : decode prog_23_method_5_code 65 = .ok (.aload_n 0, 1) := by decide +kernel
theorem d1_66 : decode prog_23_method_5_code 66 = .ok (.invokevirtual 42, 3) := by decide +kernel
theorem d1_69 : decode prog_23_method_5_code 69 = .ok (.sipush 400, 3) := by decide +kernel
theorem d1_72 : decode prog_23_method_5_code 72 = .ok (.if_icmp .lt 20, 3) := by decide +kernel
theorem d1_75 : decode prog_23_method_5_code 75 = .ok (.aload_n 0, 1) := by decide +kernel
theorem d1_76 : decode prog_23_method_5_code 76 = .ok (.invokevirtual 42, 3) := by decide +kernel
theorem d1_79 : decode prog_23_method_5_code 79 = .ok (.sipush 502, 3) := by decide +kernel
theorem d1_82 : decode prog_23_method_5_code 82 = .ok (.if_icmp .gt 10, 3) := by decide +kernel
theorem d1_85 : decode prog_23_method_5_code 85 = .ok (.getstatic 10, 3) := by decide +kernel
theorem d1_88 : decode prog_23_method_5_code 88 = .ok (.astore_n 1, 1) := by decide +kernel
theorem d1_89 : decode prog_23_method_5_code 89 = .ok (.goto 7, 3) := by decide +kernel
theorem d1_92 : decode prog_23_method_5_code 92 = .ok (.getstatic 13, 3) := by decide +kernel
theorem d1_95 : decode prog_23_method_5_code 95 = .ok (.astore_n 1, 1) := by decide +kernel
theorem ef_1_R (m : MethodId) (x0 : Addr) : entryFrame m #[(.ref x0)] 2 = mkF m 0 #[.val (.ref x0), .unset] [] := by first | (simp [entryFrame, mkF, argsToLocals, Value.category]; done) | rfl
def Q1o (Z : State) (a0 : Addr) (wUNANSWERED : Addr) (wACCEPTED : Addr) (wREDIRECTED : Addr) (wREJECTED : Addr) (z_ : Int32) (h0 : Heap) (n0 : Nat) (v : Option Value) (h : Heap) (L : List Loc) : Prop := v = some (.ref (F1o a0 wUNANSWERED wACCEPTED wREDIRECTED wREJECTED z_)) ∧ Fr n0 L ∧ h = h0
set_option maxRecDepth 65536 in
set_option maxHeartbeats 40000000 in
theorem rm1o (l : Launch) (Z : State) (aA : Array Value) (hw : ∀ d ∈ tables_1, d.before aA Z = true) (ws : List Jvm.Cond) (a0 : Addr) (wUNANSWERED : Addr) (wACCEPTED : Addr) (wREDIRECTED : Addr) (wREJECTED : Addr) (z_ : Int32) (h0 : Heap) (n0 : Nat) (Z0 : n0 ≤ h0.size) (O0 : Old Z n0 h0) (S_UNANSWERED : Sta Z Z.heap "com/example/tidewheel/tidewheel/model/Delivery$Answer" "UNANSWERED" "Lcom/example/tidewheel/tidewheel/model/Delivery$Answer;" (.ref wUNANSWERED)) (S_ACCEPTED : Sta Z Z.heap "com/example/tidewheel/tidewheel/model/Delivery$Answer" "ACCEPTED" "Lcom/example/tidewheel/tidewheel/model/Delivery$Answer;" (.ref wACCEPTED)) (S_REDIRECTED : Sta Z Z.heap "com/example/tidewheel/tidewheel/model/Delivery$Answer" "REDIRECTED" "Lcom/example/tidewheel/tidewheel/model/Delivery$Answer;" (.ref wREDIRECTED)) (S_REJECTED : Sta Z Z.heap "com/example/tidewheel/tidewheel/model/Delivery$Answer" "REJECTED" "Lcom/example/tidewheel/tidewheel/model/Delivery$Answer;" (.ref wREJECTED)) (E_a0 : Exa Z h0 a0 "java/lang/Integer") (F_a0 : Fld Z h0 a0 "java/lang/Integer" "value" "I" (.int z_)) :
    MetFree l (⟨"com/example/tidewheel/tidewheel/model/Delivery$Answer", "of", "(Ljava/lang/Integer;)Lcom/example/tidewheel/tidewheel/model/Delivery$Answer;"⟩ : MethodName) (head1 (Jvm.Cond.code (⟨"com/example/tidewheel/tidewheel/model/Delivery$Answer", "of", "(Ljava/lang/Integer;)Lcom/example/tidewheel/tidewheel/model/Delivery$Answer;"⟩ : MethodName) prog_23_method_5_code 2 (some (.object "com/example/tidewheel/tidewheel/model/Delivery$Answer")) :: ws) ({ frames := 1, cells := 0, slots := 0, locals := 12 } : Room)) (fun a U => a = #[(.ref a0)] ∧ Z.Warmed39 U.vm ∧ U.heap = h0) (fun _ _ _ _ _ => True) (fun _ U o U' => ∃ v L, o = .returned v ∧ Q1o Z a0 wUNANSWERED wACCEPTED wREDIRECTED wREJECTED z_ h0 n0 v U'.heap L ∧ FrameEnd U o U' L ({ frames := 1, cells := 0, slots := 0, locals := 12 } : Room).cells ({ frames := 1, cells := 0, slots := 0, locals := 12 } : Room).slots) := by
  refine MetFree.of_bodySF (plainFor_of_name pn_com_example_tidewheel_tidewheel_model_Delivery_Answer) hisR ?_
  intro p e s m args below meth c s₁ Bd hml0 hP hK
  obtain ⟨rfl, hZ, hh⟩ := hP
  have hx := Bd.exec
  have hby := Bd.bytes
  have hml : c.maxLocals = 2 := hml0
  have hown : s.vm.findClass "com/example/tidewheel/tidewheel/model/Delivery$Answer" = some m.cls := findClass_of_methodNamed Bd.named
  have hnm := (name_of_methodNamed Bd.named Bd.method).1
  have X0 : Stand p l e ({ frames := 1, cells := 0, slots := 0, locals := 12 } : Room) s m #[(.ref a0)] below meth c s₁ [] 0 0 := Stand.of_body Bd
  have e0 : s₁.heap = h0 := by rw [← hh, Bd.state]; rfl
  have N0 := Fr.nil n0
  have KP0 : Keep h0 h0 [] := Keep.refl h0 _
  have pre0 : ∀ t, Steps p.tables e below (s₁.setTop (mkF m 0 #[.val (.ref a0), .unset] [])) t → Steps p.tables e below (s₁.setTop (entryFrame m #[(.ref a0)] 2)) t := fun t k => castTop (ef_1_R m a0) k
  obtain ⟨cq32, kq32, q32a, q32b, q32c⟩ := isOf hZ e0 E_a0
  obtain ⟨_, _, ⟨T32, L32, k32, n32⟩, -, X32, ⟨Lc32, hQ32, l32, y32, z32⟩, st32⟩ := X0.virtualBack hx (y := (⟨"java/lang/Integer", "intValue", "()I"⟩ : MethodName)) (z := (⟨"java/lang/Integer", "intValue", "()I"⟩ : MethodName)) hown (mvT hZ (hw _ (List.mem_of_getElem? (i := 35) rfl))) (mvT hZ (hw _ (List.mem_of_getElem? (i := 36) rfl))) (notFace_of_selects (args := #[]) (mvT hZ (hw _ (List.mem_of_getElem? (i := 38) rfl)))) (mvT hZ (hw _ (List.mem_of_getElem? (i := 38) rfl))) (mvT hZ (hw _ (List.mem_of_getElem? (i := 37) rfl))) (by decide) (backOf (W := 0) (rm7 l Z aA hw [] a0 z_ h0 n0 Z0 F_a0) hZ (hw _ (List.mem_of_getElem? (i := 39) rfl)) (hw _ (List.mem_of_getElem? (i := 14) rfl)) (by decide) (by decide)) q32a q32c (g := (mkF m 12 #[.val (.ref a0), .unset] [(.ref a0)])) rfl (by rw [hml]; rfl) (Steps.refl _) (argsL := []) (rest := []) (lenOf pd__28_29I rfl) rfl (by show 2 * 0 + _ ≤ _; exact Nat.le_of_eq rfl) (hb hby d1_12) (fun _ _ => ⟨rfl, e0, (by decide : 0 + 0 ≤ _), (by decide : 0 + 0 ≤ _)⟩)
  dsimp only [Pt.U, Pt.locs, Pt.cells, Pt.slots] at X32 l32 y32 z32 st32 hQ32
  subst l32 y32 z32
  obtain ⟨rfl, N32q, e32⟩ := hQ32
  have N32 := Fr.app N0 N32q
  have pre34 : ∀ t, Steps p.tables e below (T32.setTop (mkF m 18 #[.val (.ref a0), .unset] [(.int (200 : Int32)), (.int z_)])) t → Steps p.tables e below (s₁.setTop (entryFrame m #[(.ref a0)] 2)) t := by
    intro t kk
    refine pre0 t ?_
    show Steps p.tables e below (s₁.setTop (mkF m 0 #[.val (.ref a0), .unset] [])) _
    refine XS.aloadN X0.here hx rfl (hb hby d1_0) rfl rfl ?_
    show Steps p.tables e below (s₁.setTop (mkF m 1 #[.val (.ref a0), .unset] [(.ref a0)])) _
    refine XS.ifnonnullYes X0.here hx rfl (pc0 := 1) (pc' := 11) rfl (hb hby d1_1) rfl (by decide) (by decide) ?_
    show Steps p.tables e below (s₁.setTop (mkF m 11 #[.val (.ref a0), .unset] [])) _
    refine XS.aloadN X0.here hx rfl (hb hby d1_11) rfl rfl ?_
    show Steps p.tables e below (s₁.setTop (mkF m 12 #[.val (.ref a0), .unset] [(.ref a0)])) _
    refine st32.trans ?_
    show Steps p.tables e below (T32.setTop (mkF m 15 #[.val (.ref a0), .unset] [(.int z_)])) _
    refine XS.sipush X32.here hx rfl (hb hby d1_15) ?_
    exact kk
  by_cases hc18_33 : z_ < (200 : Int32)
  · obtain ⟨cq35, kq35, q35a, q35b, q35c⟩ := isOf hZ e32 E_a0
    obtain ⟨_, _, ⟨T35, L35, k35, n35⟩, -, X35, ⟨Lc35, hQ35, l35, y35, z35⟩, st35⟩ := X32.virtualBack hx (y := (⟨"java/lang/Integer", "intValue", "()I"⟩ : MethodName)) (z := (⟨"java/lang/Integer", "intValue", "()I"⟩ : MethodName)) hown (mvT hZ (hw _ (List.mem_of_getElem? (i := 35) rfl))) (mvT hZ (hw _ (List.mem_of_getElem? (i := 36) rfl))) (notFace_of_selects (args := #[]) (mvT hZ (hw _ (List.mem_of_getElem? (i := 38) rfl)))) (mvT hZ (hw _ (List.mem_of_getElem? (i := 38) rfl))) (mvT hZ (hw _ (List.mem_of_getElem? (i := 37) rfl))) (by decide) (backOf (W := 0) (rm7 l Z aA hw [] a0 z_ h0 n0 Z0 F_a0) hZ (hw _ (List.mem_of_getElem? (i := 39) rfl)) (hw _ (List.mem_of_getElem? (i := 14) rfl)) (by decide) (by decide)) q35a q35c (g := (mkF m 39 #[.val (.ref a0), .unset] [(.ref a0)])) rfl (by rw [hml]; rfl) (Steps.refl _) (argsL := []) (rest := []) (lenOf pd__28_29I rfl) rfl (by show 2 * 0 + _ ≤ _; exact Nat.le_of_eq rfl) (hb hby d1_39) (fun _ _ => ⟨rfl, e32, (by decide : 0 + 0 ≤ _), (by decide : 0 + 0 ≤ _)⟩)
    dsimp only [Pt.U, Pt.locs, Pt.cells, Pt.slots] at X35 l35 y35 z35 st35 hQ35
    subst l35 y35 z35
    obtain ⟨rfl, N35q, e35⟩ := hQ35
    have N35 := Fr.app N32 N35q
    have pre37 : ∀ t, Steps p.tables e below (T35.setTop (mkF m 45 #[.val (.ref a0), .unset] [(.int (300 : Int32)), (.int z_)])) t → Steps p.tables e below (s₁.setTop (entryFrame m #[(.ref a0)] 2)) t := by
      intro t kk
      refine pre34 t ?_
      show Steps p.tables e below (T32.setTop (mkF m 18 #[.val (.ref a0), .unset] [(.int (200 : Int32)), (.int z_)])) _
      refine XS.icmpYes X32.here hx rfl (pc0 := 18) (pc' := 38) rfl (hb hby d1_18) rfl (tlt hc18_33).1 (by decide) (by decide) ?_
      show Steps p.tables e below (T32.setTop (mkF m 38 #[.val (.ref a0), .unset] [])) _
      refine XS.aloadN X32.here hx rfl (hb hby d1_38) rfl rfl ?_
      show Steps p.tables e below (T32.setTop (mkF m 39 #[.val (.ref a0), .unset] [(.ref a0)])) _
      refine st35.trans ?_
      show Steps p.tables e below (T35.setTop (mkF m 42 #[.val (.ref a0), .unset] [(.int z_)])) _
      refine XS.sipush X35.here hx rfl (hb hby d1_42) ?_
      exact kk
    by_cases hc45_36 : z_ < (300 : Int32)
    · obtain ⟨cq38, kq38, q38a, q38b, q38c⟩ := isOf hZ e35 E_a0
      obtain ⟨_, _, ⟨T38, L38, k38, n38⟩, -, X38, ⟨Lc38, hQ38, l38, y38, z38⟩, st38⟩ := X35.virtualBack hx (y := (⟨"java/lang/Integer", "intValue", "()I"⟩ : MethodName)) (z := (⟨"java/lang/Integer", "intValue", "()I"⟩ : MethodName)) hown (mvT hZ (hw _ (List.mem_of_getElem? (i := 35) rfl))) (mvT hZ (hw _ (List.mem_of_getElem? (i := 36) rfl))) (notFace_of_selects (args := #[]) (mvT hZ (hw _ (List.mem_of_getElem? (i := 38) rfl)))) (mvT hZ (hw _ (List.mem_of_getElem? (i := 38) rfl))) (mvT hZ (hw _ (List.mem_of_getElem? (i := 37) rfl))) (by decide) (backOf (W := 0) (rm7 l Z aA hw [] a0 z_ h0 n0 Z0 F_a0) hZ (hw _ (List.mem_of_getElem? (i := 39) rfl)) (hw _ (List.mem_of_getElem? (i := 14) rfl)) (by decide) (by decide)) q38a q38c (g := (mkF m 66 #[.val (.ref a0), .unset] [(.ref a0)])) rfl (by rw [hml]; rfl) (Steps.refl _) (argsL := []) (rest := []) (lenOf pd__28_29I rfl) rfl (by show 2 * 0 + _ ≤ _; exact Nat.le_of_eq rfl) (hb hby d1_66) (fun _ _ => ⟨rfl, e35, (by decide : 0 + 0 ≤ _), (by decide : 0 + 0 ≤ _)⟩)
      dsimp only [Pt.U, Pt.locs, Pt.cells, Pt.slots] at X38 l38 y38 z38 st38 hQ38
      subst l38 y38 z38
      obtain ⟨rfl, N38q, e38⟩ := hQ38
      have N38 := Fr.app N35 N38q
      have pre40 : ∀ t, Steps p.tables e below (T38.setTop (mkF m 72 #[.val (.ref a0), .unset] [(.int (400 : Int32)), (.int z_)])) t → Steps p.tables e below (s₁.setTop (entryFrame m #[(.ref a0)] 2)) t := by
        intro t kk
        refine pre37 t ?_
        show Steps p.tables e below (T35.setTop (mkF m 45 #[.val (.ref a0), .unset] [(.int (300 : Int32)), (.int z_)])) _
        refine XS.icmpYes X35.here hx rfl (pc0 := 45) (pc' := 65) rfl (hb hby d1_45) rfl (tlt hc45_36).1 (by decide) (by decide) ?_
        show Steps p.tables e below (T35.setTop (mkF m 65 #[.val (.ref a0), .unset] [])) _
        refine XS.aloadN X35.here hx rfl (hb hby d1_65) rfl rfl ?_
        show Steps p.tables e below (T35.setTop (mkF m 66 #[.val (.ref a0), .unset] [(.ref a0)])) _
        refine st38.trans ?_
        show Steps p.tables e below (T38.setTop (mkF m 69 #[.val (.ref a0), .unset] [(.int z_)])) _
        refine XS.sipush X38.here hx rfl (hb hby d1_69) ?_
        exact kk
      by_cases hc72_39 : z_ < (400 : Int32)
      · obtain ⟨T41, X41, e41, st41⟩ := getS2 X38 hx hZ hown (host := "") (Or.inl (hw _ (List.mem_of_getElem? (i := 4) rfl))) Via.refl e38 (S_UNANSWERED.ext O0.2) (g := (mkF m 92 #[.val (.ref a0), .unset] [])) rfl (hb hby d1_92)
        have hF42 : (F1o a0 wUNANSWERED wACCEPTED wREDIRECTED wREJECTED z_) = wUNANSWERED := ((if_pos hc18_33).trans ((if_pos hc45_36).trans (if_pos hc72_39)))
        have pre43 : ∀ t, Steps p.tables e below (T41.setTop (mkF m 97 #[.val (.ref a0), .val (.ref wUNANSWERED)] [(.ref wUNANSWERED)])) t → Steps p.tables e below (s₁.setTop (entryFrame m #[(.ref a0)] 2)) t := by
          intro t kk
          refine pre40 t ?_
          show Steps p.tables e below (T38.setTop (mkF m 72 #[.val (.ref a0), .unset] [(.int (400 : Int32)), (.int z_)])) _
          refine XS.icmpYes X38.here hx rfl (pc0 := 72) (pc' := 92) rfl (hb hby d1_72) rfl (tlt hc72_39).1 (by decide) (by decide) ?_
          show Steps p.tables e below (T38.setTop (mkF m 92 #[.val (.ref a0), .unset] [])) _
          refine st41 _ ?_
          show Steps p.tables e below (T41.setTop (mkF m 95 #[.val (.ref a0), .unset] [(.ref wUNANSWERED)])) _
          refine XS.astoreN X41.here hx rfl (hb hby d1_95) rfl rfl (l' := #[.val (.ref a0), .val (.ref wUNANSWERED)]) rfl ?_
          show Steps p.tables e below (T41.setTop (mkF m 96 #[.val (.ref a0), .val (.ref wUNANSWERED)] [])) _
          refine XS.aloadN X41.here hx rfl (hb hby d1_96) rfl rfl ?_
          exact kk
        obtain ⟨fs, hr, hrun, hended, hW, hsame⟩ := X41.leave (v := some (.ref wUNANSWERED)) (fun h => by rw [Bd.returns] at h; cases h)
        refine ⟨_, _, pre43 _ ?_, hrun, hended, _, _, rfl, ?_, ⟨_, rfl⟩, hW, hsame.mono (by decide) (by decide)⟩
        · show Steps p.tables e below (T41.setTop (mkF m 97 #[.val (.ref a0), .val (.ref wUNANSWERED)] [(.ref wUNANSWERED)])) _
          exact retOut X41 hx Bd.returns rfl (Or.inr (Or.inr (Or.inr (Or.inr ⟨rfl, rfl, rfl⟩)))) (hb hby d1_97) hr
        · show Q1o Z a0 wUNANSWERED wACCEPTED wREDIRECTED wREJECTED z_ h0 n0 _ T41.heap _
          rw [e41]
          exact ⟨congrArg (fun z => some (Value.ref z)) hF42.symm, N38, rfl⟩
      · obtain ⟨cq44, kq44, q44a, q44b, q44c⟩ := isOf hZ e38 E_a0
        obtain ⟨_, _, ⟨T44, L44, k44, n44⟩, -, X44, ⟨Lc44, hQ44, l44, y44, z44⟩, st44⟩ := X38.virtualBack hx (y := (⟨"java/lang/Integer", "intValue", "()I"⟩ : MethodName)) (z := (⟨"java/lang/Integer", "intValue", "()I"⟩ : MethodName)) hown (mvT hZ (hw _ (List.mem_of_getElem? (i := 35) rfl))) (mvT hZ (hw _ (List.mem_of_getElem? (i := 36) rfl))) (notFace_of_selects (args := #[]) (mvT hZ (hw _ (List.mem_of_getElem? (i := 38) rfl)))) (mvT hZ (hw _ (List.mem_of_getElem? (i := 38) rfl))) (mvT hZ (hw _ (List.mem_of_getElem? (i := 37) rfl))) (by decide) (backOf (W := 0) (rm7 l Z aA hw [] a0 z_ h0 n0 Z0 F_a0) hZ (hw _ (List.mem_of_getElem? (i := 39) rfl)) (hw _ (List.mem_of_getElem? (i := 14) rfl)) (by decide) (by decide)) q44a q44c (g := (mkF m 76 #[.val (.ref a0), .unset] [(.ref a0)])) rfl (by rw [hml]; rfl) (Steps.refl _) (argsL := []) (rest := []) (lenOf pd__28_29I rfl) rfl (by show 2 * 0 + _ ≤ _; exact Nat.le_of_eq rfl) (hb hby d1_76) (fun _ _ => ⟨rfl, e38, (by decide : 0 + 0 ≤ _), (by decide : 0 + 0 ≤ _)⟩)
        dsimp only [Pt.U, Pt.locs, Pt.cells, Pt.slots] at X44 l44 y44 z44 st44 hQ44
        subst l44 y44 z44
        obtain ⟨rfl, N44q, e44⟩ := hQ44
        have N44 := Fr.app N38 N44q
        have pre46 : ∀ t, Steps p.tables e below (T44.setTop (mkF m 82 #[.val (.ref a0), .unset] [(.int (502 : Int32)), (.int z_)])) t → Steps p.tables e below (s₁.setTop (entryFrame m #[(.ref a0)] 2)) t := by
          intro t kk
          refine pre40 t ?_
          show Steps p.tables e below (T38.setTop (mkF m 72 #[.val (.ref a0), .unset] [(.int (400 : Int32)), (.int z_)])) _
          refine XS.icmpNo X38.here hx rfl (hb hby d1_72) rfl (flt hc72_39).1 ?_
          show Steps p.tables e below (T38.setTop (mkF m 75 #[.val (.ref a0), .unset] [])) _
          refine XS.aloadN X38.here hx rfl (hb hby d1_75) rfl rfl ?_
          show Steps p.tables e below (T38.setTop (mkF m 76 #[.val (.ref a0), .unset] [(.ref a0)])) _
          refine st44.trans ?_
          show Steps p.tables e below (T44.setTop (mkF m 79 #[.val (.ref a0), .unset] [(.int z_)])) _
          refine XS.sipush X44.here hx rfl (hb hby d1_79) ?_
          exact kk
        by_cases hc82_45 : (502 : Int32) < z_
        · obtain ⟨T47, X47, e47, st47⟩ := getS2 X44 hx hZ hown (host := "") (Or.inl (hw _ (List.mem_of_getElem? (i := 4) rfl))) Via.refl e44 (S_UNANSWERED.ext O0.2) (g := (mkF m 92 #[.val (.ref a0), .unset] [])) rfl (hb hby d1_92)
          have hF48 : (F1o a0 wUNANSWERED wACCEPTED wREDIRECTED wREJECTED z_) = wUNANSWERED := ((if_pos hc18_33).trans ((if_pos hc45_36).trans ((if_neg hc72_39).trans (if_pos hc82_45))))
          have pre49 : ∀ t, Steps p.tables e below (T47.setTop (mkF m 97 #[.val (.ref a0), .val (.ref wUNANSWERED)] [(.ref wUNANSWERED)])) t → Steps p.tables e below (s₁.setTop (entryFrame m #[(.ref a0)] 2)) t := by
            intro t kk
            refine pre46 t ?_
            show Steps p.tables e below (T44.setTop (mkF m 82 #[.val (.ref a0), .unset] [(.int (502 : Int32)), (.int z_)])) _
            refine XS.icmpYes X44.here hx rfl (pc0 := 82) (pc' := 92) rfl (hb hby d1_82) rfl (tlt hc82_45).2.2.1 (by decide) (by decide) ?_
            show Steps p.tables e below (T44.setTop (mkF m 92 #[.val (.ref a0), .unset] [])) _
            refine st47 _ ?_
            show Steps p.tables e below (T47.setTop (mkF m 95 #[.val (.ref a0), .unset] [(.ref wUNANSWERED)])) _
            refine XS.astoreN X47.here hx rfl (hb hby d1_95) rfl rfl (l' := #[.val (.ref a0), .val (.ref wUNANSWERED)]) rfl ?_
            show Steps p.tables e below (T47.setTop (mkF m 96 #[.val (.ref a0), .val (.ref wUNANSWERED)] [])) _
            refine XS.aloadN X47.here hx rfl (hb hby d1_96) rfl rfl ?_
            exact kk
          obtain ⟨fs, hr, hrun, hended, hW, hsame⟩ := X47.leave (v := some (.ref wUNANSWERED)) (fun h => by rw [Bd.returns] at h; cases h)
          refine ⟨_, _, pre49 _ ?_, hrun, hended, _, _, rfl, ?_, ⟨_, rfl⟩, hW, hsame.mono (by decide) (by decide)⟩
          · show Steps p.tables e below (T47.setTop (mkF m 97 #[.val (.ref a0), .val (.ref wUNANSWERED)] [(.ref wUNANSWERED)])) _
            exact retOut X47 hx Bd.returns rfl (Or.inr (Or.inr (Or.inr (Or.inr ⟨rfl, rfl, rfl⟩)))) (hb hby d1_97) hr
          · show Q1o Z a0 wUNANSWERED wACCEPTED wREDIRECTED wREJECTED z_ h0 n0 _ T47.heap _
            rw [e47]
            exact ⟨congrArg (fun z => some (Value.ref z)) hF48.symm, N44, rfl⟩
        · obtain ⟨T50, X50, e50, st50⟩ := getS2 X44 hx hZ hown (host := "") (Or.inl (hw _ (List.mem_of_getElem? (i := 43) rfl))) Via.refl e44 (S_REJECTED.ext O0.2) (g := (mkF m 85 #[.val (.ref a0), .unset] [])) rfl (hb hby d1_85)
          have hF51 : (F1o a0 wUNANSWERED wACCEPTED wREDIRECTED wREJECTED z_) = wREJECTED := ((if_pos hc18_33).trans ((if_pos hc45_36).trans ((if_neg hc72_39).trans (if_neg hc82_45))))
          have pre52 : ∀ t, Steps p.tables e below (T50.setTop (mkF m 97 #[.val (.ref a0), .val (.ref wREJECTED)] [(.ref wREJECTED)])) t → Steps p.tables e below (s₁.setTop (entryFrame m #[(.ref a0)] 2)) t := by
            intro t kk
            refine pre46 t ?_
            show Steps p.tables e below (T44.setTop (mkF m 82 #[.val (.ref a0), .unset] [(.int (502 : Int32)), (.int z_)])) _
            refine XS.icmpNo X44.here hx rfl (hb hby d1_82) rfl (flt hc82_45).2.2.1 ?_
            show Steps p.tables e below (T44.setTop (mkF m 85 #[.val (.ref a0), .unset] [])) _
            refine st50 _ ?_
            show Steps p.tables e below (T50.setTop (mkF m 88 #[.val (.ref a0), .unset] [(.ref wREJECTED)])) _
            refine XS.astoreN X50.here hx rfl (hb hby d1_88) rfl rfl (l' := #[.val (.ref a0), .val (.ref wREJECTED)]) rfl ?_
            show Steps p.tables e below (T50.setTop (mkF m 89 #[.val (.ref a0), .val (.ref wREJECTED)] [])) _
            refine XS.goto X50.here hx rfl (pc0 := 89) (pc' := 96) rfl (hb hby d1_89) (by decide) (by decide) ?_
            show Steps p.tables e below (T50.setTop (mkF m 96 #[.val (.ref a0), .val (.ref wREJECTED)] [])) _
            refine XS.aloadN X50.here hx rfl (hb hby d1_96) rfl rfl ?_
            exact kk
          obtain ⟨fs, hr, hrun, hended, hW, hsame⟩ := X50.leave (v := some (.ref wREJECTED)) (fun h => by rw [Bd.returns] at h; cases h)
          refine ⟨_, _, pre52 _ ?_, hrun, hended, _, _, rfl, ?_, ⟨_, rfl⟩, hW, hsame.mono (by decide) (by decide)⟩
          · show Steps p.tables e below (T50.setTop (mkF m 97 #[.val (.ref a0), .val (.ref wREJECTED)] [(.ref wREJECTED)])) _
            exact retOut X50 hx Bd.returns rfl (Or.inr (Or.inr (Or.inr (Or.inr ⟨rfl, rfl, rfl⟩)))) (hb hby d1_97) hr
          · show Q1o Z a0 wUNANSWERED wACCEPTED wREDIRECTED wREJECTED z_ h0 n0 _ T50.heap _
            rw [e50]
            exact ⟨congrArg (fun z => some (Value.ref z)) hF51.symm, N44, rfl⟩
    · obtain ⟨cq53, kq53, q53a, q53b, q53c⟩ := isOf hZ e35 E_a0
      obtain ⟨_, _, ⟨T53, L53, k53, n53⟩, -, X53, ⟨Lc53, hQ53, l53, y53, z53⟩, st53⟩ := X35.virtualBack hx (y := (⟨"java/lang/Integer", "intValue", "()I"⟩ : MethodName)) (z := (⟨"java/lang/Integer", "intValue", "()I"⟩ : MethodName)) hown (mvT hZ (hw _ (List.mem_of_getElem? (i := 35) rfl))) (mvT hZ (hw _ (List.mem_of_getElem? (i := 36) rfl))) (notFace_of_selects (args := #[]) (mvT hZ (hw _ (List.mem_of_getElem? (i := 38) rfl)))) (mvT hZ (hw _ (List.mem_of_getElem? (i := 38) rfl))) (mvT hZ (hw _ (List.mem_of_getElem? (i := 37) rfl))) (by decide) (backOf (W := 0) (rm7 l Z aA hw [] a0 z_ h0 n0 Z0 F_a0) hZ (hw _ (List.mem_of_getElem? (i := 39) rfl)) (hw _ (List.mem_of_getElem? (i := 14) rfl)) (by decide) (by decide)) q53a q53c (g := (mkF m 49 #[.val (.ref a0), .unset] [(.ref a0)])) rfl (by rw [hml]; rfl) (Steps.refl _) (argsL := []) (rest := []) (lenOf pd__28_29I rfl) rfl (by show 2 * 0 + _ ≤ _; exact Nat.le_of_eq rfl) (hb hby d1_49) (fun _ _ => ⟨rfl, e35, (by decide : 0 + 0 ≤ _), (by decide : 0 + 0 ≤ _)⟩)
      dsimp only [Pt.U, Pt.locs, Pt.cells, Pt.slots] at X53 l53 y53 z53 st53 hQ53
      subst l53 y53 z53
      obtain ⟨rfl, N53q, e53⟩ := hQ53
      have N53 := Fr.app N35 N53q
      have pre55 : ∀ t, Steps p.tables e below (T53.setTop (mkF m 55 #[.val (.ref a0), .unset] [(.int (399 : Int32)), (.int z_)])) t → Steps p.tables e below (s₁.setTop (entryFrame m #[(.ref a0)] 2)) t := by
        intro t kk
        refine pre37 t ?_
        show Steps p.tables e below (T35.setTop (mkF m 45 #[.val (.ref a0), .unset] [(.int (300 : Int32)), (.int z_)])) _
        refine XS.icmpNo X35.here hx rfl (hb hby d1_45) rfl (flt hc45_36).1 ?_
        show Steps p.tables e below (T35.setTop (mkF m 48 #[.val (.ref a0), .unset] [])) _
        refine XS.aloadN X35.here hx rfl (hb hby d1_48) rfl rfl ?_
        show Steps p.tables e below (T35.setTop (mkF m 49 #[.val (.ref a0), .unset] [(.ref a0)])) _
        refine st53.trans ?_
        show Steps p.tables e below (T53.setTop (mkF m 52 #[.val (.ref a0), .unset] [(.int z_)])) _
        refine XS.sipush X53.here hx rfl (hb hby d1_52) ?_
        exact kk
      by_cases hc55_54 : (399 : Int32) < z_
      · obtain ⟨cq56, kq56, q56a, q56b, q56c⟩ := isOf hZ e53 E_a0
        obtain ⟨_, _, ⟨T56, L56, k56, n56⟩, -, X56, ⟨Lc56, hQ56, l56, y56, z56⟩, st56⟩ := X53.virtualBack hx (y := (⟨"java/lang/Integer", "intValue", "()I"⟩ : MethodName)) (z := (⟨"java/lang/Integer", "intValue", "()I"⟩ : MethodName)) hown (mvT hZ (hw _ (List.mem_of_getElem? (i := 35) rfl))) (mvT hZ (hw _ (List.mem_of_getElem? (i := 36) rfl))) (notFace_of_selects (args := #[]) (mvT hZ (hw _ (List.mem_of_getElem? (i := 38) rfl)))) (mvT hZ (hw _ (List.mem_of_getElem? (i := 38) rfl))) (mvT hZ (hw _ (List.mem_of_getElem? (i := 37) rfl))) (by decide) (backOf (W := 0) (rm7 l Z aA hw [] a0 z_ h0 n0 Z0 F_a0) hZ (hw _ (List.mem_of_getElem? (i := 39) rfl)) (hw _ (List.mem_of_getElem? (i := 14) rfl)) (by decide) (by decide)) q56a q56c (g := (mkF m 66 #[.val (.ref a0), .unset] [(.ref a0)])) rfl (by rw [hml]; rfl) (Steps.refl _) (argsL := []) (rest := []) (lenOf pd__28_29I rfl) rfl (by show 2 * 0 + _ ≤ _; exact Nat.le_of_eq rfl) (hb hby d1_66) (fun _ _ => ⟨rfl, e53, (by decide : 0 + 0 ≤ _), (by decide : 0 + 0 ≤ _)⟩)
        dsimp only [Pt.U, Pt.locs, Pt.cells, Pt.slots] at X56 l56 y56 z56 st56 hQ56
        subst l56 y56 z56
        obtain ⟨rfl, N56q, e56⟩ := hQ56
        have N56 := Fr.app N53 N56q
        have pre58 : ∀ t, Steps p.tables e below (T56.setTop (mkF m 72 #[.val (.ref a0), .unset] [(.int (400 : Int32)), (.int z_)])) t → Steps p.tables e below (s₁.setTop (entryFrame m #[(.ref a0)] 2)) t := by
          intro t kk
          refine pre55 t ?_
          show Steps p.tables e below (T53.setTop (mkF m 55 #[.val (.ref a0), .unset] [(.int (399 : Int32)), (.int z_)])) _
          refine XS.icmpYes X53.here hx rfl (pc0 := 55) (pc' := 65) rfl (hb hby d1_55) rfl (tlt hc55_54).2.2.1 (by decide) (by decide) ?_
          show Steps p.tables e below (T53.setTop (mkF m 65 #[.val (.ref a0), .unset] [])) _
          refine XS.aloadN X53.here hx rfl (hb hby d1_65) rfl rfl ?_
          show Steps p.tables e below (T53.setTop (mkF m 66 #[.val (.ref a0), .unset] [(.ref a0)])) _
          refine st56.trans ?_
          show Steps p.tables e below (T56.setTop (mkF m 69 #[.val (.ref a0), .unset] [(.int z_)])) _
          refine XS.sipush X56.here hx rfl (hb hby d1_69) ?_
          exact kk
        by_cases hc72_57 : z_ < (400 : Int32)
        · obtain ⟨T59, X59, e59, st59⟩ := getS2 X56 hx hZ hown (host := "") (Or.inl (hw _ (List.mem_of_getElem? (i := 4) rfl))) Via.refl e56 (S_UNANSWERED.ext O0.2) (g := (mkF m 92 #[.val (.ref a0), .unset] [])) rfl (hb hby d1_92)
          have hF60 : (F1o a0 wUNANSWERED wACCEPTED wREDIRECTED wREJECTED z_) = wUNANSWERED := ((if_pos hc18_33).trans ((if_neg hc45_36).trans ((if_pos hc55_54).trans (if_pos hc72_57))))
          have pre61 : ∀ t, Steps p.tables e below (T59.setTop (mkF m 97 #[.val (.ref a0), .val (.ref wUNANSWERED)] [(.ref wUNANSWERED)])) t → Steps p.tables e below (s₁.setTop (entryFrame m #[(.ref a0)] 2)) t := by
            intro t kk
            refine pre58 t ?_
            show Steps p.tables e below (T56.setTop (mkF m 72 #[.val (.ref a0), .unset] [(.int (400 : Int32)), (.int z_)])) _
            refine XS.icmpYes X56.here hx rfl (pc0 := 72) (pc' := 92) rfl (hb hby d1_72) rfl (tlt hc72_57).1 (by decide) (by decide) ?_
            show Steps p.tables e below (T56.setTop (mkF m 92 #[.val (.ref a0), .unset] [])) _
            refine st59 _ ?_
            show Steps p.tables e below (T59.setTop (mkF m 95 #[.val (.ref a0), .unset] [(.ref wUNANSWERED)])) _
            refine XS.astoreN X59.here hx rfl (hb hby d1_95) rfl rfl (l' := #[.val (.ref a0), .val (.ref wUNANSWERED)]) rfl ?_
            show Steps p.tables e below (T59.setTop (mkF m 96 #[.val (.ref a0), .val (.ref wUNANSWERED)] [])) _
            refine XS.aloadN X59.here hx rfl (hb hby d1_96) rfl rfl ?_
            exact kk
          obtain ⟨fs, hr, hrun, hended, hW, hsame⟩ := X59.leave (v := some (.ref wUNANSWERED)) (fun h => by rw [Bd.returns] at h; cases h)
          refine ⟨_, _, pre61 _ ?_, hrun, hended, _, _, rfl, ?_, ⟨_, rfl⟩, hW, hsame.mono (by decide) (by decide)⟩
          · show Steps p.tables e below (T59.setTop (mkF m 97 #[.val (.ref a0), .val (.ref wUNANSWERED)] [(.ref wUNANSWERED)])) _
            exact retOut X59 hx Bd.returns rfl (Or.inr (Or.inr (Or.inr (Or.inr ⟨rfl, rfl, rfl⟩)))) (hb hby d1_97) hr
          · show Q1o Z a0 wUNANSWERED wACCEPTED wREDIRECTED wREJECTED z_ h0 n0 _ T59.heap _
            rw [e59]
            exact ⟨congrArg (fun z => some (Value.ref z)) hF60.symm, N56, rfl⟩
        · obtain ⟨cq62, kq62, q62a, q62b, q62c⟩ := isOf hZ e56 E_a0
          obtain ⟨_, _, ⟨T62, L62, k62, n62⟩, -, X62, ⟨Lc62, hQ62, l62, y62, z62⟩, st62⟩ := X56.virtualBack hx (y := (⟨"java/lang/Integer", "intValue", "()I"⟩ : MethodName)) (z := (⟨"java/lang/Integer", "intValue", "()I"⟩ : MethodName)) hown (mvT hZ (hw _ (List.mem_of_getElem? (i := 35) rfl))) (mvT hZ (hw _ (List.mem_of_getElem? (i := 36) rfl))) (notFace_of_selects (args := #[]) (mvT hZ (hw _ (List.mem_of_getElem? (i := 38) rfl)))) (mvT hZ (hw _ (List.mem_of_getElem? (i := 38) rfl))) (mvT hZ (hw _ (List.mem_of_getElem? (i := 37) rfl))) (by decide) (backOf (W := 0) (rm7 l Z aA hw [] a0 z_ h0 n0 Z0 F_a0) hZ (hw _ (List.mem_of_getElem? (i := 39) rfl)) (hw _ (List.mem_of_getElem? (i := 14) rfl)) (by decide) (by decide)) q62a q62c (g := (mkF m 76 #[.val (.ref a0), .unset] [(.ref a0)])) rfl (by rw [hml]; rfl) (Steps.refl _) (argsL := []) (rest := []) (lenOf pd__28_29I rfl) rfl (by show 2 * 0 + _ ≤ _; exact Nat.le_of_eq rfl) (hb hby d1_76) (fun _ _ => ⟨rfl, e56, (by decide : 0 + 0 ≤ _), (by decide : 0 + 0 ≤ _)⟩)
          dsimp only [Pt.U, Pt.locs, Pt.cells, Pt.slots] at X62 l62 y62 z62 st62 hQ62
          subst l62 y62 z62
          obtain ⟨rfl, N62q, e62⟩ := hQ62
          have N62 := Fr.app N56 N62q
          have pre64 : ∀ t, Steps p.tables e below (T62.setTop (mkF m 82 #[.val (.ref a0), .unset] [(.int (502 : Int32)), (.int z_)])) t → Steps p.tables e below (s₁.setTop (entryFrame m #[(.ref a0)] 2)) t := by
            intro t kk
            refine pre58 t ?_
            show Steps p.tables e below (T56.setTop (mkF m 72 #[.val (.ref a0), .unset] [(.int (400 : Int32)), (.int z_)])) _
            refine XS.icmpNo X56.here hx rfl (hb hby d1_72) rfl (flt hc72_57).1 ?_
            show Steps p.tables e below (T56.setTop (mkF m 75 #[.val (.ref a0), .unset] [])) _
            refine XS.aloadN X56.here hx rfl (hb hby d1_75) rfl rfl ?_
            show Steps p.tables e below (T56.setTop (mkF m 76 #[.val (.ref a0), .unset] [(.ref a0)])) _
            refine st62.trans ?_
            show Steps p.tables e below (T62.setTop (mkF m 79 #[.val (.ref a0), .unset] [(.int z_)])) _
            refine XS.sipush X62.here hx rfl (hb hby d1_79) ?_
            exact kk
          by_cases hc82_63 : (502 : Int32) < z_
          · obtain ⟨T65, X65, e65, st65⟩ := getS2 X62 hx hZ hown (host := "") (Or.inl (hw _ (List.mem_of_getElem? (i := 4) rfl))) Via.refl e62 (S_UNANSWERED.ext O0.2) (g := (mkF m 92 #[.val (.ref a0), .unset] [])) rfl (hb hby d1_92)
            have hF66 : (F1o a0 wUNANSWERED wACCEPTED wREDIRECTED wREJECTED z_) = wUNANSWERED := ((if_pos hc18_33).trans ((if_neg hc45_36).trans ((if_pos hc55_54).trans ((if_neg hc72_57).trans (if_pos hc82_63)))))
            have pre67 : ∀ t, Steps p.tables e below (T65.setTop (mkF m 97 #[.val (.ref a0), .val (.ref wUNANSWERED)] [(.ref wUNANSWERED)])) t → Steps p.tables e below (s₁.setTop (entryFrame m #[(.ref a0)] 2)) t := by
              intro t kk
              refine pre64 t ?_
              show Steps p.tables e below (T62.setTop (mkF m 82 #[.val (.ref a0), .unset] [(.int (502 : Int32)), (.int z_)])) _
              refine XS.icmpYes X62.here hx rfl (pc0 := 82) (pc' := 92) rfl (hb hby d1_82) rfl (tlt hc82_63).2.2.1 (by decide) (by decide) ?_
              show Steps p.tables e below (T62.setTop (mkF m 92 #[.val (.ref a0), .unset] [])) _
              refine st65 _ ?_
              show Steps p.tables e below (T65.setTop (mkF m 95 #[.val (.ref a0), .unset] [(.ref wUNANSWERED)])) _
              refine XS.astoreN X65.here hx rfl (hb hby d1_95) rfl rfl (l' := #[.val (.ref a0), .val (.ref wUNANSWERED)]) rfl ?_
              show Steps p.tables e below (T65.setTop (mkF m 96 #[.val (.ref a0), .val (.ref wUNANSWERED)] [])) _
              refine XS.aloadN X65.here hx rfl (hb hby d1_96) rfl rfl ?_
              exact kk
            obtain ⟨fs, hr, hrun, hended, hW, hsame⟩ := X65.leave (v := some (.ref wUNANSWERED)) (fun h => by rw [Bd.returns] at h; cases h)
            refine ⟨_, _, pre67 _ ?_, hrun, hended, _, _, rfl, ?_, ⟨_, rfl⟩, hW, hsame.mono (by decide) (by decide)⟩
            · show Steps p.tables e below (T65.setTop (mkF m 97 #[.val (.ref a0), .val (.ref wUNANSWERED)] [(.ref wUNANSWERED)])) _
              exact retOut X65 hx Bd.returns rfl (Or.inr (Or.inr (Or.inr (Or.inr ⟨rfl, rfl, rfl⟩)))) (hb hby d1_97) hr
            · show Q1o Z a0 wUNANSWERED wACCEPTED wREDIRECTED wREJECTED z_ h0 n0 _ T65.heap _
              rw [e65]
              exact ⟨congrArg (fun z => some (Value.ref z)) hF66.symm, N62, rfl⟩
          · obtain ⟨T68, X68, e68, st68⟩ := getS2 X62 hx hZ hown (host := "") (Or.inl (hw _ (List.mem_of_getElem? (i := 43) rfl))) Via.refl e62 (S_REJECTED.ext O0.2) (g := (mkF m 85 #[.val (.ref a0), .unset] [])) rfl (hb hby d1_85)
            have hF69 : (F1o a0 wUNANSWERED wACCEPTED wREDIRECTED wREJECTED z_) = wREJECTED := ((if_pos hc18_33).trans ((if_neg hc45_36).trans ((if_pos hc55_54).trans ((if_neg hc72_57).trans (if_neg hc82_63)))))
            have pre70 : ∀ t, Steps p.tables e below (T68.setTop (mkF m 97 #[.val (.ref a0), .val (.ref wREJECTED)] [(.ref wREJECTED)])) t → Steps p.tables e below (s₁.setTop (entryFrame m #[(.ref a0)] 2)) t := by
              intro t kk
              refine pre64 t ?_
              show Steps p.tables e below (T62.setTop (mkF m 82 #[.val (.ref a0), .unset] [(.int (502 : Int32)), (.int z_)])) _
              refine XS.icmpNo X62.here hx rfl (hb hby d1_82) rfl (flt hc82_63).2.2.1 ?_
              show Steps p.tables e below (T62.setTop (mkF m 85 #[.val (.ref a0), .unset] [])) _
              refine st68 _ ?_
              show Steps p.tables e below (T68.setTop (mkF m 88 #[.val (.ref a0), .unset] [(.ref wREJECTED)])) _
              refine XS.astoreN X68.here hx rfl (hb hby d1_88) rfl rfl (l' := #[.val (.ref a0), .val (.ref wREJECTED)]) rfl ?_
              show Steps p.tables e below (T68.setTop (mkF m 89 #[.val (.ref a0), .val (.ref wREJECTED)] [])) _
              refine XS.goto X68.here hx rfl (pc0 := 89) (pc' := 96) rfl (hb hby d1_89) (by decide) (by decide) ?_
              show Steps p.tables e below (T68.setTop (mkF m 96 #[.val (.ref a0), .val (.ref wREJECTED)] [])) _
              refine XS.aloadN X68.here hx rfl (hb hby d1_96) rfl rfl ?_
              exact kk
            obtain ⟨fs, hr, hrun, hended, hW, hsame⟩ := X68.leave (v := some (.ref wREJECTED)) (fun h => by rw [Bd.returns] at h; cases h)
            refine ⟨_, _, pre70 _ ?_, hrun, hended, _, _, rfl, ?_, ⟨_, rfl⟩, hW, hsame.mono (by decide) (by decide)⟩
            · show Steps p.tables e below (T68.setTop (mkF m 97 #[.val (.ref a0), .val (.ref wREJECTED)] [(.ref wREJECTED)])) _
              exact retOut X68 hx Bd.returns rfl (Or.inr (Or.inr (Or.inr (Or.inr ⟨rfl, rfl, rfl⟩)))) (hb hby d1_97) hr
            · show Q1o Z a0 wUNANSWERED wACCEPTED wREDIRECTED wREJECTED z_ h0 n0 _ T68.heap _
              rw [e68]
              exact ⟨congrArg (fun z => some (Value.ref z)) hF69.symm, N62, rfl⟩
      · obtain ⟨T71, X71, e71, st71⟩ := getS2 X53 hx hZ hown (host := "") (Or.inl (hw _ (List.mem_of_getElem? (i := 40) rfl))) Via.refl e53 (S_REDIRECTED.ext O0.2) (g := (mkF m 58 #[.val (.ref a0), .unset] [])) rfl (hb hby d1_58)
        have hF72 : (F1o a0 wUNANSWERED wACCEPTED wREDIRECTED wREJECTED z_) = wREDIRECTED := ((if_pos hc18_33).trans ((if_neg hc45_36).trans (if_neg hc55_54)))
        have pre73 : ∀ t, Steps p.tables e below (T71.setTop (mkF m 97 #[.val (.ref a0), .val (.ref wREDIRECTED)] [(.ref wREDIRECTED)])) t → Steps p.tables e below (s₁.setTop (entryFrame m #[(.ref a0)] 2)) t := by
          intro t kk
          refine pre55 t ?_
          show Steps p.tables e below (T53.setTop (mkF m 55 #[.val (.ref a0), .unset] [(.int (399 : Int32)), (.int z_)])) _
          refine XS.icmpNo X53.here hx rfl (hb hby d1_55) rfl (flt hc55_54).2.2.1 ?_
          show Steps p.tables e below (T53.setTop (mkF m 58 #[.val (.ref a0), .unset] [])) _
          refine st71 _ ?_
          show Steps p.tables e below (T71.setTop (mkF m 61 #[.val (.ref a0), .unset] [(.ref wREDIRECTED)])) _
          refine XS.astoreN X71.here hx rfl (hb hby d1_61) rfl rfl (l' := #[.val (.ref a0), .val (.ref wREDIRECTED)]) rfl ?_
          show Steps p.tables e below (T71.setTop (mkF m 62 #[.val (.ref a0), .val (.ref wREDIRECTED)] [])) _
          refine XS.goto X71.here hx rfl (pc0 := 62) (pc' := 96) rfl (hb hby d1_62) (by decide) (by decide) ?_
          show Steps p.tables e below (T71.setTop (mkF m 96 #[.val (.ref a0), .val (.ref wREDIRECTED)] [])) _
          refine XS.aloadN X71.here hx rfl (hb hby d1_96) rfl rfl ?_
          exact kk
        obtain ⟨fs, hr, hrun, hended, hW, hsame⟩ := X71.leave (v := some (.ref wREDIRECTED)) (fun h => by rw [Bd.returns] at h; cases h)
        refine ⟨_, _, pre73 _ ?_, hrun, hended, _, _, rfl, ?_, ⟨_, rfl⟩, hW, hsame.mono (by decide) (by decide)⟩
        · show Steps p.tables e below (T71.setTop (mkF m 97 #[.val (.ref a0), .val (.ref wREDIRECTED)] [(.ref wREDIRECTED)])) _
          exact retOut X71 hx Bd.returns rfl (Or.inr (Or.inr (Or.inr (Or.inr ⟨rfl, rfl, rfl⟩)))) (hb hby d1_97) hr
        · show Q1o Z a0 wUNANSWERED wACCEPTED wREDIRECTED wREJECTED z_ h0 n0 _ T71.heap _
          rw [e71]
          exact ⟨congrArg (fun z => some (Value.ref z)) hF72.symm, N53, rfl⟩
  · obtain ⟨cq74, kq74, q74a, q74b, q74c⟩ := isOf hZ e32 E_a0
    obtain ⟨_, _, ⟨T74, L74, k74, n74⟩, -, X74, ⟨Lc74, hQ74, l74, y74, z74⟩, st74⟩ := X32.virtualBack hx (y := (⟨"java/lang/Integer", "intValue", "()I"⟩ : MethodName)) (z := (⟨"java/lang/Integer", "intValue", "()I"⟩ : MethodName)) hown (mvT hZ (hw _ (List.mem_of_getElem? (i := 35) rfl))) (mvT hZ (hw _ (List.mem_of_getElem? (i := 36) rfl))) (notFace_of_selects (args := #[]) (mvT hZ (hw _ (List.mem_of_getElem? (i := 38) rfl)))) (mvT hZ (hw _ (List.mem_of_getElem? (i := 38) rfl))) (mvT hZ (hw _ (List.mem_of_getElem? (i := 37) rfl))) (by decide) (backOf (W := 0) (rm7 l Z aA hw [] a0 z_ h0 n0 Z0 F_a0) hZ (hw _ (List.mem_of_getElem? (i := 39) rfl)) (hw _ (List.mem_of_getElem? (i := 14) rfl)) (by decide) (by decide)) q74a q74c (g := (mkF m 22 #[.val (.ref a0), .unset] [(.ref a0)])) rfl (by rw [hml]; rfl) (Steps.refl _) (argsL := []) (rest := []) (lenOf pd__28_29I rfl) rfl (by show 2 * 0 + _ ≤ _; exact Nat.le_of_eq rfl) (hb hby d1_22) (fun _ _ => ⟨rfl, e32, (by decide : 0 + 0 ≤ _), (by decide : 0 + 0 ≤ _)⟩)
    dsimp only [Pt.U, Pt.locs, Pt.cells, Pt.slots] at X74 l74 y74 z74 st74 hQ74
    subst l74 y74 z74
    obtain ⟨rfl, N74q, e74⟩ := hQ74
    have N74 := Fr.app N32 N74q
    have pre76 : ∀ t, Steps p.tables e below (T74.setTop (mkF m 28 #[.val (.ref a0), .unset] [(.int (299 : Int32)), (.int z_)])) t → Steps p.tables e below (s₁.setTop (entryFrame m #[(.ref a0)] 2)) t := by
      intro t kk
      refine pre34 t ?_
      show Steps p.tables e below (T32.setTop (mkF m 18 #[.val (.ref a0), .unset] [(.int (200 : Int32)), (.int z_)])) _
      refine XS.icmpNo X32.here hx rfl (hb hby d1_18) rfl (flt hc18_33).1 ?_
      show Steps p.tables e below (T32.setTop (mkF m 21 #[.val (.ref a0), .unset] [])) _
      refine XS.aloadN X32.here hx rfl (hb hby d1_21) rfl rfl ?_
      show Steps p.tables e below (T32.setTop (mkF m 22 #[.val (.ref a0), .unset] [(.ref a0)])) _
      refine st74.trans ?_
      show Steps p.tables e below (T74.setTop (mkF m 25 #[.val (.ref a0), .unset] [(.int z_)])) _
      refine XS.sipush X74.here hx rfl (hb hby d1_25) ?_
      exact kk
    by_cases hc28_75 : (299 : Int32) < z_
    · obtain ⟨cq77, kq77, q77a, q77b, q77c⟩ := isOf hZ e74 E_a0
      obtain ⟨_, _, ⟨T77, L77, k77, n77⟩, -, X77, ⟨Lc77, hQ77, l77, y77, z77⟩, st77⟩ := X74.virtualBack hx (y := (⟨"java/lang/Integer", "intValue", "()I"⟩ : MethodName)) (z := (⟨"java/lang/Integer", "intValue", "()I"⟩ : MethodName)) hown (mvT hZ (hw _ (List.mem_of_getElem? (i := 35) rfl))) (mvT hZ (hw _ (List.mem_of_getElem? (i := 36) rfl))) (notFace_of_selects (args := #[]) (mvT hZ (hw _ (List.mem_of_getElem? (i := 38) rfl)))) (mvT hZ (hw _ (List.mem_of_getElem? (i := 38) rfl))) (mvT hZ (hw _ (List.mem_of_getElem? (i := 37) rfl))) (by decide) (backOf (W := 0) (rm7 l Z aA hw [] a0 z_ h0 n0 Z0 F_a0) hZ (hw _ (List.mem_of_getElem? (i := 39) rfl)) (hw _ (List.mem_of_getElem? (i := 14) rfl)) (by decide) (by decide)) q77a q77c (g := (mkF m 39 #[.val (.ref a0), .unset] [(.ref a0)])) rfl (by rw [hml]; rfl) (Steps.refl _) (argsL := []) (rest := []) (lenOf pd__28_29I rfl) rfl (by show 2 * 0 + _ ≤ _; exact Nat.le_of_eq rfl) (hb hby d1_39) (fun _ _ => ⟨rfl, e74, (by decide : 0 + 0 ≤ _), (by decide : 0 + 0 ≤ _)⟩)
      dsimp only [Pt.U, Pt.locs, Pt.cells, Pt.slots] at X77 l77 y77 z77 st77 hQ77
      subst l77 y77 z77
      obtain ⟨rfl, N77q, e77⟩ := hQ77
      have N77 := Fr.app N74 N77q
      have pre79 : ∀ t, Steps p.tables e below (T77.setTop (mkF m 45 #[.val (.ref a0), .unset] [(.int (300 : Int32)), (.int z_)])) t → Steps p.tables e below (s₁.setTop (entryFrame m #[(.ref a0)] 2)) t := by
        intro t kk
        refine pre76 t ?_
        show Steps p.tables e below (T74.setTop (mkF m 28 #[.val (.ref a0), .unset] [(.int (299 : Int32)), (.int z_)])) _
        refine XS.icmpYes X74.here hx rfl (pc0 := 28) (pc' := 38) rfl (hb hby d1_28) rfl (tlt hc28_75).2.2.1 (by decide) (by decide) ?_
        show Steps p.tables e below (T74.setTop (mkF m 38 #[.val (.ref a0), .unset] [])) _
        refine XS.aloadN X74.here hx rfl (hb hby d1_38) rfl rfl ?_
        show Steps p.tables e below (T74.setTop (mkF m 39 #[.val (.ref a0), .unset] [(.ref a0)])) _
        refine st77.trans ?_
        show Steps p.tables e below (T77.setTop (mkF m 42 #[.val (.ref a0), .unset] [(.int z_)])) _
        refine XS.sipush X77.here hx rfl (hb hby d1_42) ?_
        exact kk
      by_cases hc45_78 : z_ < (300 : Int32)
      · obtain ⟨cq80, kq80, q80a, q80b, q80c⟩ := isOf hZ e77 E_a0
        obtain ⟨_, _, ⟨T80, L80, k80, n80⟩, -, X80, ⟨Lc80, hQ80, l80, y80, z80⟩, st80⟩ := X77.virtualBack hx (y := (⟨"java/lang/Integer", "intValue", "()I"⟩ : MethodName)) (z := (⟨"java/lang/Integer", "intValue", "()I"⟩ : MethodName)) hown (mvT hZ (hw _ (List.mem_of_getElem? (i := 35) rfl))) (mvT hZ (hw _ (List.mem_of_getElem? (i := 36) rfl))) (notFace_of_selects (args := #[]) (mvT hZ (hw _ (List.mem_of_getElem? (i := 38) rfl)))) (mvT hZ (hw _ (List.mem_of_getElem? (i := 38) rfl))) (mvT hZ (hw _ (List.mem_of_getElem? (i := 37) rfl))) (by decide) (backOf (W := 0) (rm7 l Z aA hw [] a0 z_ h0 n0 Z0 F_a0) hZ (hw _ (List.mem_of_getElem? (i := 39) rfl)) (hw _ (List.mem_of_getElem? (i := 14) rfl)) (by decide) (by decide)) q80a q80c (g := (mkF m 66 #[.val (.ref a0), .unset] [(.ref a0)])) rfl (by rw [hml]; rfl) (Steps.refl _) (argsL := []) (rest := []) (lenOf pd__28_29I rfl) rfl (by show 2 * 0 + _ ≤ _; exact Nat.le_of_eq rfl) (hb hby d1_66) (fun _ _ => ⟨rfl, e77, (by decide : 0 + 0 ≤ _), (by decide : 0 + 0 ≤ _)⟩)
        dsimp only [Pt.U, Pt.locs, Pt.cells, Pt.slots] at X80 l80 y80 z80 st80 hQ80
        subst l80 y80 z80
        obtain ⟨rfl, N80q, e80⟩ := hQ80
        have N80 := Fr.app N77 N80q
        have pre82 : ∀ t, Steps p.tables e below (T80.setTop (mkF m 72 #[.val (.ref a0), .unset] [(.int (400 : Int32)), (.int z_)])) t → Steps p.tables e below (s₁.setTop (entryFrame m #[(.ref a0)] 2)) t := by
          intro t kk
          refine pre79 t ?_
          show Steps p.tables e below (T77.setTop (mkF m 45 #[.val (.ref a0), .unset] [(.int (300 : Int32)), (.int z_)])) _
          refine XS.icmpYes X77.here hx rfl (pc0 := 45) (pc' := 65) rfl (hb hby d1_45) rfl (tlt hc45_78).1 (by decide) (by decide) ?_
          show Steps p.tables e below (T77.setTop (mkF m 65 #[.val (.ref a0), .unset] [])) _
          refine XS.aloadN X77.here hx rfl (hb hby d1_65) rfl rfl ?_
          show Steps p.tables e below (T77.setTop (mkF m 66 #[.val (.ref a0), .unset] [(.ref a0)])) _
          refine st80.trans ?_
          show Steps p.tables e below (T80.setTop (mkF m 69 #[.val (.ref a0), .unset] [(.int z_)])) _
          refine XS.sipush X80.here hx rfl (hb hby d1_69) ?_
          exact kk
        by_cases hc72_81 : z_ < (400 : Int32)
        · obtain ⟨T83, X83, e83, st83⟩ := getS2 X80 hx hZ hown (host := "") (Or.inl (hw _ (List.mem_of_getElem? (i := 4) rfl))) Via.refl e80 (S_UNANSWERED.ext O0.2) (g := (mkF m 92 #[.val (.ref a0), .unset] [])) rfl (hb hby d1_92)
          have hF84 : (F1o a0 wUNANSWERED wACCEPTED wREDIRECTED wREJECTED z_) = wUNANSWERED := ((if_neg hc18_33).trans ((if_pos hc28_75).trans ((if_pos hc45_78).trans (if_pos hc72_81))))
          have pre85 : ∀ t, Steps p.tables e below (T83.setTop (mkF m 97 #[.val (.ref a0), .val (.ref wUNANSWERED)] [(.ref wUNANSWERED)])) t → Steps p.tables e below (s₁.setTop (entryFrame m #[(.ref a0)] 2)) t := by
            intro t kk
            refine pre82 t ?_
            show Steps p.tables e below (T80.setTop (mkF m 72 #[.val (.ref a0), .unset] [(.int (400 : Int32)), (.int z_)])) _
            refine XS.icmpYes X80.here hx rfl (pc0 := 72) (pc' := 92) rfl (hb hby d1_72) rfl (tlt hc72_81).1 (by decide) (by decide) ?_
            show Steps p.tables e below (T80.setTop (mkF m 92 #[.val (.ref a0), .unset] [])) _
            refine st83 _ ?_
            show Steps p.tables e below (T83.setTop (mkF m 95 #[.val (.ref a0), .unset] [(.ref wUNANSWERED)])) _
            refine XS.astoreN X83.here hx rfl (hb hby d1_95) rfl rfl (l' := #[.val (.ref a0), .val (.ref wUNANSWERED)]) rfl ?_
            show Steps p.tables e below (T83.setTop (mkF m 96 #[.val (.ref a0), .val (.ref wUNANSWERED)] [])) _
            refine XS.aloadN X83.here hx rfl (hb hby d1_96) rfl rfl ?_
            exact kk
          obtain ⟨fs, hr, hrun, hended, hW, hsame⟩ := X83.leave (v := some (.ref wUNANSWERED)) (fun h => by rw [Bd.returns] at h; cases h)
          refine ⟨_, _, pre85 _ ?_, hrun, hended, _, _, rfl, ?_, ⟨_, rfl⟩, hW, hsame.mono (by decide) (by decide)⟩
          · show Steps p.tables e below (T83.setTop (mkF m 97 #[.val (.ref a0), .val (.ref wUNANSWERED)] [(.ref wUNANSWERED)])) _
            exact retOut X83 hx Bd.returns rfl (Or.inr (Or.inr (Or.inr (Or.inr ⟨rfl, rfl, rfl⟩)))) (hb hby d1_97) hr
          · show Q1o Z a0 wUNANSWERED wACCEPTED wREDIRECTED wREJECTED z_ h0 n0 _ T83.heap _
            rw [e83]
            exact ⟨congrArg (fun z => some (Value.ref z)) hF84.symm, N80, rfl⟩
        · obtain ⟨cq86, kq86, q86a, q86b, q86c⟩ := isOf hZ e80 E_a0
          obtain ⟨_, _, ⟨T86, L86, k86, n86⟩, -, X86, ⟨Lc86, hQ86, l86, y86, z86⟩, st86⟩ := X80.virtualBack hx (y := (⟨"java/lang/Integer", "intValue", "()I"⟩ : MethodName)) (z := (⟨"java/lang/Integer", "intValue", "()I"⟩ : MethodName)) hown (mvT hZ (hw _ (List.mem_of_getElem? (i := 35) rfl))) (mvT hZ (hw _ (List.mem_of_getElem? (i := 36) rfl))) (notFace_of_selects (args := #[]) (mvT hZ (hw _ (List.mem_of_getElem? (i := 38) rfl)))) (mvT hZ (hw _ (List.mem_of_getElem? (i := 38) rfl))) (mvT hZ (hw _ (List.mem_of_getElem? (i := 37) rfl))) (by decide) (backOf (W := 0) (rm7 l Z aA hw [] a0 z_ h0 n0 Z0 F_a0) hZ (hw _ (List.mem_of_getElem? (i := 39) rfl)) (hw _ (List.mem_of_getElem? (i := 14) rfl)) (by decide) (by decide)) q86a q86c (g := (mkF m 76 #[.val (.ref a0), .unset] [(.ref a0)])) rfl (by rw [hml]; rfl) (Steps.refl _) (argsL := []) (rest := []) (lenOf pd__28_29I rfl) rfl (by show 2 * 0 + _ ≤ _; exact Nat.le_of_eq rfl) (hb hby d1_76) (fun _ _ => ⟨rfl, e80, (by decide : 0 + 0 ≤ _), (by decide : 0 + 0 ≤ _)⟩)
          dsimp only [Pt.U, Pt.locs, Pt.cells, Pt.slots] at X86 l86 y86 z86 st86 hQ86
          subst l86 y86 z86
          obtain ⟨rfl, N86q, e86⟩ := hQ86
          have N86 := Fr.app N80 N86q
          have pre88 : ∀ t, Steps p.tables e below (T86.setTop (mkF m 82 #[.val (.ref a0), .unset] [(.int (502 : Int32)), (.int z_)])) t → Steps p.tables e below (s₁.setTop (entryFrame m #[(.ref a0)] 2)) t := by
            intro t kk
            refine pre82 t ?_
            show Steps p.tables e below (T80.setTop (mkF m 72 #[.val (.ref a0), .unset] [(.int (400 : Int32)), (.int z_)])) _
            refine XS.icmpNo X80.here hx rfl (hb hby d1_72) rfl (flt hc72_81).1 ?_
            show Steps p.tables e below (T80.setTop (mkF m 75 #[.val (.ref a0), .unset] [])) _
            refine XS.aloadN X80.here hx rfl (hb hby d1_75) rfl rfl ?_
            show Steps p.tables e below (T80.setTop (mkF m 76 #[.val (.ref a0), .unset] [(.ref a0)])) _
            refine st86.trans ?_
            show Steps p.tables e below (T86.setTop (mkF m 79 #[.val (.ref a0), .unset] [(.int z_)])) _
            refine XS.sipush X86.here hx rfl (hb hby d1_79) ?_
            exact kk
          by_cases hc82_87 : (502 : Int32) < z_
          · obtain ⟨T89, X89, e89, st89⟩ := getS2 X86 hx hZ hown (host := "") (Or.inl (hw _ (List.mem_of_getElem? (i := 4) rfl))) Via.refl e86 (S_UNANSWERED.ext O0.2) (g := (mkF m 92 #[.val (.ref a0), .unset] [])) rfl (hb hby d1_92)
            have hF90 : (F1o a0 wUNANSWERED wACCEPTED wREDIRECTED wREJECTED z_) = wUNANSWERED := ((if_neg hc18_33).trans ((if_pos hc28_75).trans ((if_pos hc45_78).trans ((if_neg hc72_81).trans (if_pos hc82_87)))))
            have pre91 : ∀ t, Steps p.tables e below (T89.setTop (mkF m 97 #[.val (.ref a0), .val (.ref wUNANSWERED)] [(.ref wUNANSWERED)])) t → Steps p.tables e below (s₁.setTop (entryFrame m #[(.ref a0)] 2)) t := by
              intro t kk
              refine pre88 t ?_
              show Steps p.tables e below (T86.setTop (mkF m 82 #[.val (.ref a0), .unset] [(.int (502 : Int32)), (.int z_)])) _
              refine XS.icmpYes X86.here hx rfl (pc0 := 82) (pc' := 92) rfl (hb hby d1_82) rfl (tlt hc82_87).2.2.1 (by decide) (by decide) ?_
              show Steps p.tables e below (T86.setTop (mkF m 92 #[.val (.ref a0), .unset] [])) _
              refine st89 _ ?_
              show Steps p.tables e below (T89.setTop (mkF m 95 #[.val (.ref a0), .unset] [(.ref wUNANSWERED)])) _
              refine XS.astoreN X89.here hx rfl (hb hby d1_95) rfl rfl (l' := #[.val (.ref a0), .val (.ref wUNANSWERED)]) rfl ?_
              show Steps p.tables e below (T89.setTop (mkF m 96 #[.val (.ref a0), .val (.ref wUNANSWERED)] [])) _
              refine XS.aloadN X89.here hx rfl (hb hby d1_96) rfl rfl ?_
              exact kk
            obtain ⟨fs, hr, hrun, hended, hW, hsame⟩ := X89.leave (v := some (.ref wUNANSWERED)) (fun h => by rw [Bd.returns] at h; cases h)
            refine ⟨_, _, pre91 _ ?_, hrun, hended, _, _, rfl, ?_, ⟨_, rfl⟩, hW, hsame.mono (by decide) (by decide)⟩
            · show Steps p.tables e below (T89.setTop (mkF m 97 #[.val (.ref a0), .val (.ref wUNANSWERED)] [(.ref wUNANSWERED)])) _
              exact retOut X89 hx Bd.returns rfl (Or.inr (Or.inr (Or.inr (Or.inr ⟨rfl, rfl, rfl⟩)))) (hb hby d1_97) hr
            · show Q1o Z a0 wUNANSWERED wACCEPTED wREDIRECTED wREJECTED z_ h0 n0 _ T89.heap _
              rw [e89]
              exact ⟨congrArg (fun z => some (Value.ref z)) hF90.symm, N86, rfl⟩
          · obtain ⟨T92, X92, e92, st92⟩ := getS2 X86 hx hZ hown (host := "") (Or.inl (hw _ (List.mem_of_getElem? (i := 43) rfl))) Via.refl e86 (S_REJECTED.ext O0.2) (g := (mkF m 85 #[.val (.ref a0), .unset] [])) rfl (hb hby d1_85)
            have hF93 : (F1o a0 wUNANSWERED wACCEPTED wREDIRECTED wREJECTED z_) = wREJECTED := ((if_neg hc18_33).trans ((if_pos hc28_75).trans ((if_pos hc45_78).trans ((if_neg hc72_81).trans (if_neg hc82_87)))))
            have pre94 : ∀ t, Steps p.tables e below (T92.setTop (mkF m 97 #[.val (.ref a0), .val (.ref wREJECTED)] [(.ref wREJECTED)])) t → Steps p.tables e below (s₁.setTop (entryFrame m #[(.ref a0)] 2)) t := by
              intro t kk
              refine pre88 t ?_
              show Steps p.tables e below (T86.setTop (mkF m 82 #[.val (.ref a0), .unset] [(.int (502 : Int32)), (.int z_)])) _
              refine XS.icmpNo X86.here hx rfl (hb hby d1_82) rfl (flt hc82_87).2.2.1 ?_
              show Steps p.tables e below (T86.setTop (mkF m 85 #[.val (.ref a0), .unset] [])) _
              refine st92 _ ?_
              show Steps p.tables e below (T92.setTop (mkF m 88 #[.val (.ref a0), .unset] [(.ref wREJECTED)])) _
              refine XS.astoreN X92.here hx rfl (hb hby d1_88) rfl rfl (l' := #[.val (.ref a0), .val (.ref wREJECTED)]) rfl ?_
              show Steps p.tables e below (T92.setTop (mkF m 89 #[.val (.ref a0), .val (.ref wREJECTED)] [])) _
              refine XS.goto X92.here hx rfl (pc0 := 89) (pc' := 96) rfl (hb hby d1_89) (by decide) (by decide) ?_
              show Steps p.tables e below (T92.setTop (mkF m 96 #[.val (.ref a0), .val (.ref wREJECTED)] [])) _
              refine XS.aloadN X92.here hx rfl (hb hby d1_96) rfl rfl ?_
              exact kk
            obtain ⟨fs, hr, hrun, hended, hW, hsame⟩ := X92.leave (v := some (.ref wREJECTED)) (fun h => by rw [Bd.returns] at h; cases h)
            refine ⟨_, _, pre94 _ ?_, hrun, hended, _, _, rfl, ?_, ⟨_, rfl⟩, hW, hsame.mono (by decide) (by decide)⟩
            · show Steps p.tables e below (T92.setTop (mkF m 97 #[.val (.ref a0), .val (.ref wREJECTED)] [(.ref wREJECTED)])) _
              exact retOut X92 hx Bd.returns rfl (Or.inr (Or.inr (Or.inr (Or.inr ⟨rfl, rfl, rfl⟩)))) (hb hby d1_97) hr
            · show Q1o Z a0 wUNANSWERED wACCEPTED wREDIRECTED wREJECTED z_ h0 n0 _ T92.heap _
              rw [e92]
              exact ⟨congrArg (fun z => some (Value.ref z)) hF93.symm, N86, rfl⟩
      · obtain ⟨cq95, kq95, q95a, q95b, q95c⟩ := isOf hZ e77 E_a0
        obtain ⟨_, _, ⟨T95, L95, k95, n95⟩, -, X95, ⟨Lc95, hQ95, l95, y95, z95⟩, st95⟩ := X77.virtualBack hx (y := (⟨"java/lang/Integer", "intValue", "()I"⟩ : MethodName)) (z := (⟨"java/lang/Integer", "intValue", "()I"⟩ : MethodName)) hown (mvT hZ (hw _ (List.mem_of_getElem? (i := 35) rfl))) (mvT hZ (hw _ (List.mem_of_getElem? (i := 36) rfl))) (notFace_of_selects (args := #[]) (mvT hZ (hw _ (List.mem_of_getElem? (i := 38) rfl)))) (mvT hZ (hw _ (List.mem_of_getElem? (i := 38) rfl))) (mvT hZ (hw _ (List.mem_of_getElem? (i := 37) rfl))) (by decide) (backOf (W := 0) (rm7 l Z aA hw [] a0 z_ h0 n0 Z0 F_a0) hZ (hw _ (List.mem_of_getElem? (i := 39) rfl)) (hw _ (List.mem_of_getElem? (i := 14) rfl)) (by decide) (by decide)) q95a q95c (g := (mkF m 49 #[.val (.ref a0), .unset] [(.ref a0)])) rfl (by rw [hml]; rfl) (Steps.refl _) (argsL := []) (rest := []) (lenOf pd__28_29I rfl) rfl (by show 2 * 0 + _ ≤ _; exact Nat.le_of_eq rfl) (hb hby d1_49) (fun _ _ => ⟨rfl, e77, (by decide : 0 + 0 ≤ _), (by decide : 0 + 0 ≤ _)⟩)
        dsimp only [Pt.U, Pt.locs, Pt.cells, Pt.slots] at X95 l95 y95 z95 st95 hQ95
        subst l95 y95 z95
        obtain ⟨rfl, N95q, e95⟩ := hQ95
        have N95 := Fr.app N77 N95q
        have pre97 : ∀ t, Steps p.tables e below (T95.setTop (mkF m 55 #[.val (.ref a0), .unset] [(.int (399 : Int32)), (.int z_)])) t → Steps p.tables e below (s₁.setTop (entryFrame m #[(.ref a0)] 2)) t := by
          intro t kk
          refine pre79 t ?_
          show Steps p.tables e below (T77.setTop (mkF m 45 #[.val (.ref a0), .unset] [(.int (300 : Int32)), (.int z_)])) _
          refine XS.icmpNo X77.here hx rfl (hb hby d1_45) rfl (flt hc45_78).1 ?_
          show Steps p.tables e below (T77.setTop (mkF m 48 #[.val (.ref a0), .unset] [])) _
          refine XS.aloadN X77.here hx rfl (hb hby d1_48) rfl rfl ?_
          show Steps p.tables e below (T77.setTop (mkF m 49 #[.val (.ref a0), .unset] [(.ref a0)])) _
          refine st95.trans ?_
          show Steps p.tables e below (T95.setTop (mkF m 52 #[.val (.ref a0), .unset] [(.int z_)])) _
          refine XS.sipush X95.here hx rfl (hb hby d1_52) ?_
          exact kk
        by_cases hc55_96 : (399 : Int32) < z_
        · obtain ⟨cq98, kq98, q98a, q98b, q98c⟩ := isOf hZ e95 E_a0
          obtain ⟨_, _, ⟨T98, L98, k98, n98⟩, -, X98, ⟨Lc98, hQ98, l98, y98, z98⟩, st98⟩ := X95.virtualBack hx (y := (⟨"java/lang/Integer", "intValue", "()I"⟩ : MethodName)) (z := (⟨"java/lang/Integer", "intValue", "()I"⟩ : MethodName)) hown (mvT hZ (hw _ (List.mem_of_getElem? (i := 35) rfl))) (mvT hZ (hw _ (List.mem_of_getElem? (i := 36) rfl))) (notFace_of_selects (args := #[]) (mvT hZ (hw _ (List.mem_of_getElem? (i := 38) rfl)))) (mvT hZ (hw _ (List.mem_of_getElem? (i := 38) rfl))) (mvT hZ (hw _ (List.mem_of_getElem? (i := 37) rfl))) (by decide) (backOf (W := 0) (rm7 l Z aA hw [] a0 z_ h0 n0 Z0 F_a0) hZ (hw _ (List.mem_of_getElem? (i := 39) rfl)) (hw _ (List.mem_of_getElem? (i := 14) rfl)) (by decide) (by decide)) q98a q98c (g := (mkF m 66 #[.val (.ref a0), .unset] [(.ref a0)])) rfl (by rw [hml]; rfl) (Steps.refl _) (argsL := []) (rest := []) (lenOf pd__28_29I rfl) rfl (by show 2 * 0 + _ ≤ _; exact Nat.le_of_eq rfl) (hb hby d1_66) (fun _ _ => ⟨rfl, e95, (by decide : 0 + 0 ≤ _), (by decide : 0 + 0 ≤ _)⟩)
          dsimp only [Pt.U, Pt.locs, Pt.cells, Pt.slots] at X98 l98 y98 z98 st98 hQ98
          subst l98 y98 z98
          obtain ⟨rfl, N98q, e98⟩ := hQ98
          have N98 := Fr.app N95 N98q
          have pre100 : ∀ t, Steps p.tables e below (T98.setTop (mkF m 72 #[.val (.ref a0), .unset] [(.int (400 : Int32)), (.int z_)])) t → Steps p.tables e below (s₁.setTop (entryFrame m #[(.ref a0)] 2)) t := by
            intro t kk
            refine pre97 t ?_
            show Steps p.tables e below (T95.setTop (mkF m 55 #[.val (.ref a0), .unset] [(.int (399 : Int32)), (.int z_)])) _
            refine XS.icmpYes X95.here hx rfl (pc0 := 55) (pc' := 65) rfl (hb hby d1_55) rfl (tlt hc55_96).2.2.1 (by decide) (by decide) ?_
            show Steps p.tables e below (T95.setTop (mkF m 65 #[.val (.ref a0), .unset] [])) _
            refine XS.aloadN X95.here hx rfl (hb hby d1_65) rfl rfl ?_
            show Steps p.tables e below (T95.setTop (mkF m 66 #[.val (.ref a0), .unset] [(.ref a0)])) _
            refine st98.trans ?_
            show Steps p.tables e below (T98.setTop (mkF m 69 #[.val (.ref a0), .unset] [(.int z_)])) _
            refine XS.sipush X98.here hx rfl (hb hby d1_69) ?_
            exact kk
          by_cases hc72_99 : z_ < (400 : Int32)
          · obtain ⟨T101, X101, e101, st101⟩ := getS2 X98 hx hZ hown (host := "") (Or.inl (hw _ (List.mem_of_getElem? (i := 4) rfl))) Via.refl e98 (S_UNANSWERED.ext O0.2) (g := (mkF m 92 #[.val (.ref a0), .unset] [])) rfl (hb hby d1_92)
            have hF102 : (F1o a0 wUNANSWERED wACCEPTED wREDIRECTED wREJECTED z_) = wUNANSWERED := ((if_neg hc18_33).trans ((if_pos hc28_75).trans ((if_neg hc45_78).trans ((if_pos hc55_96).trans (if_pos hc72_99)))))
            have pre103 : ∀ t, Steps p.tables e below (T101.setTop (mkF m 97 #[.val (.ref a0), .val (.ref wUNANSWERED)] [(.ref wUNANSWERED)])) t → Steps p.tables e below (s₁.setTop (entryFrame m #[(.ref a0)] 2)) t := by
              intro t kk
              refine pre100 t ?_
              show Steps p.tables e below (T98.setTop (mkF m 72 #[.val (.ref a0), .unset] [(.int (400 : Int32)), (.int z_)])) _
              refine XS.icmpYes X98.here hx rfl (pc0 := 72) (pc' := 92) rfl (hb hby d1_72) rfl (tlt hc72_99).1 (by decide) (by decide) ?_
              show Steps p.tables e below (T98.setTop (mkF m 92 #[.val (.ref a0), .unset] [])) _
              refine st101 _ ?_
              show Steps p.tables e below (T101.setTop (mkF m 95 #[.val (.ref a0), .unset] [(.ref wUNANSWERED)])) _
              refine XS.astoreN X101.here hx rfl (hb hby d1_95) rfl rfl (l' := #[.val (.ref a0), .val (.ref wUNANSWERED)]) rfl ?_
              show Steps p.tables e below (T101.setTop (mkF m 96 #[.val (.ref a0), .val (.ref wUNANSWERED)] [])) _
              refine XS.aloadN X101.here hx rfl (hb hby d1_96) rfl rfl ?_
              exact kk
            obtain ⟨fs, hr, hrun, hended, hW, hsame⟩ := X101.leave (v := some (.ref wUNANSWERED)) (fun h => by rw [Bd.returns] at h; cases h)
            refine ⟨_, _, pre103 _ ?_, hrun, hended, _, _, rfl, ?_, ⟨_, rfl⟩, hW, hsame.mono (by decide) (by decide)⟩
            · show Steps p.tables e below (T101.setTop (mkF m 97 #[.val (.ref a0), .val (.ref wUNANSWERED)] [(.ref wUNANSWERED)])) _
              exact retOut X101 hx Bd.returns rfl (Or.inr (Or.inr (Or.inr (Or.inr ⟨rfl, rfl, rfl⟩)))) (hb hby d1_97) hr
            · show Q1o Z a0 wUNANSWERED wACCEPTED wREDIRECTED wREJECTED z_ h0 n0 _ T101.heap _
              rw [e101]
              exact ⟨congrArg (fun z => some (Value.ref z)) hF102.symm, N98, rfl⟩
          · obtain ⟨cq104, kq104, q104a, q104b, q104c⟩ := isOf hZ e98 E_a0
            obtain ⟨_, _, ⟨T104, L104, k104, n104⟩, -, X104, ⟨Lc104, hQ104, l104, y104, z104⟩, st104⟩ := X98.virtualBack hx (y := (⟨"java/lang/Integer", "intValue", "()I"⟩ : MethodName)) (z := (⟨"java/lang/Integer", "intValue", "()I"⟩ : MethodName)) hown (mvT hZ (hw _ (List.mem_of_getElem? (i := 35) rfl))) (mvT hZ (hw _ (List.mem_of_getElem? (i := 36) rfl))) (notFace_of_selects (args := #[]) (mvT hZ (hw _ (List.mem_of_getElem? (i := 38) rfl)))) (mvT hZ (hw _ (List.mem_of_getElem? (i := 38) rfl))) (mvT hZ (hw _ (List.mem_of_getElem? (i := 37) rfl))) (by decide) (backOf (W := 0) (rm7 l Z aA hw [] a0 z_ h0 n0 Z0 F_a0) hZ (hw _ (List.mem_of_getElem? (i := 39) rfl)) (hw _ (List.mem_of_getElem? (i := 14) rfl)) (by decide) (by decide)) q104a q104c (g := (mkF m 76 #[.val (.ref a0), .unset] [(.ref a0)])) rfl (by rw [hml]; rfl) (Steps.refl _) (argsL := []) (rest := []) (lenOf pd__28_29I rfl) rfl (by show 2 * 0 + _ ≤ _; exact Nat.le_of_eq rfl) (hb hby d1_76) (fun _ _ => ⟨rfl, e98, (by decide : 0 + 0 ≤ _), (by decide : 0 + 0 ≤ _)⟩)
            dsimp only [Pt.U, Pt.locs, Pt.cells, Pt.slots] at X104 l104 y104 z104 st104 hQ104
            subst l104 y104 z104
            obtain ⟨rfl, N104q, e104⟩ := hQ104
            have N104 := Fr.app N98 N104q
            have pre106 : ∀ t, Steps p.tables e below (T104.setTop (mkF m 82 #[.val (.ref a0), .unset] [(.int (502 : Int32)), (.int z_)])) t → Steps p.tables e below (s₁.setTop (entryFrame m #[(.ref a0)] 2)) t := by
              intro t kk
              refine pre100 t ?_
              show Steps p.tables e below (T98.setTop (mkF m 72 #[.val (.ref a0), .unset] [(.int (400 : Int32)), (.int z_)])) _
              refine XS.icmpNo X98.here hx rfl (hb hby d1_72) rfl (flt hc72_99).1 ?_
              show Steps p.tables e below (T98.setTop (mkF m 75 #[.val (.ref a0), .unset] [])) _
              refine XS.aloadN X98.here hx rfl (hb hby d1_75) rfl rfl ?_
              show Steps p.tables e below (T98.setTop (mkF m 76 #[.val (.ref a0), .unset] [(.ref a0)])) _
              refine st104.trans ?_
              show Steps p.tables e below (T104.setTop (mkF m 79 #[.val (.ref a0), .unset] [(.int z_)])) _
              refine XS.sipush X104.here hx rfl (hb hby d1_79) ?_
              exact kk
            by_cases hc82_105 : (502 : Int32) < z_
            · obtain ⟨T107, X107, e107, st107⟩ := getS2 X104 hx hZ hown (host := "") (Or.inl (hw _ (List.mem_of_getElem? (i := 4) rfl))) Via.refl e104 (S_UNANSWERED.ext O0.2) (g := (mkF m 92 #[.val (.ref a0), .unset] [])) rfl (hb hby d1_92)
              have hF108 : (F1o a0 wUNANSWERED wACCEPTED wREDIRECTED wREJECTED z_) = wUNANSWERED := ((if_neg hc18_33).trans ((if_pos hc28_75).trans ((if_neg hc45_78).trans ((if_pos hc55_96).trans ((if_neg hc72_99).trans (if_pos hc82_105))))))
              have pre109 : ∀ t, Steps p.tables e below (T107.setTop (mkF m 97 #[.val (.ref a0), .val (.ref wUNANSWERED)] [(.ref wUNANSWERED)])) t → Steps p.tables e below (s₁.setTop (entryFrame m #[(.ref a0)] 2)) t := by
                intro t kk
                refine pre106 t ?_
                show Steps p.tables e below (T104.setTop (mkF m 82 #[.val (.ref a0), .unset] [(.int (502 : Int32)), (.int z_)])) _
                refine XS.icmpYes X104.here hx rfl (pc0 := 82) (pc' := 92) rfl (hb hby d1_82) rfl (tlt hc82_105).2.2.1 (by decide) (by decide) ?_
                show Steps p.tables e below (T104.setTop (mkF m 92 #[.val (.ref a0), .unset] [])) _
                refine st107 _ ?_
                show Steps p.tables e below (T107.setTop (mkF m 95 #[.val (.ref a0), .unset] [(.ref wUNANSWERED)])) _
                refine XS.astoreN X107.here hx rfl (hb hby d1_95) rfl rfl (l' := #[.val (.ref a0), .val (.ref wUNANSWERED)]) rfl ?_
                show Steps p.tables e below (T107.setTop (mkF m 96 #[.val (.ref a0), .val (.ref wUNANSWERED)] [])) _
                refine XS.aloadN X107.here hx rfl (hb hby d1_96) rfl rfl ?_
                exact kk
              obtain ⟨fs, hr, hrun, hended, hW, hsame⟩ := X107.leave (v := some (.ref wUNANSWERED)) (fun h => by rw [Bd.returns] at h; cases h)
              refine ⟨_, _, pre109 _ ?_, hrun, hended, _, _, rfl, ?_, ⟨_, rfl⟩, hW, hsame.mono (by decide) (by decide)⟩
              · show Steps p.tables e below (T107.setTop (mkF m 97 #[.val (.ref a0), .val (.ref wUNANSWERED)] [(.ref wUNANSWERED)])) _
                exact retOut X107 hx Bd.returns rfl (Or.inr (Or.inr (Or.inr (Or.inr ⟨rfl, rfl, rfl⟩)))) (hb hby d1_97) hr
              · show Q1o Z a0 wUNANSWERED wACCEPTED wREDIRECTED wREJECTED z_ h0 n0 _ T107.heap _
                rw [e107]
                exact ⟨congrArg (fun z => some (Value.ref z)) hF108.symm, N104, rfl⟩
            · obtain ⟨T110, X110, e110, st110⟩ := getS2 X104 hx hZ hown (host := "") (Or.inl (hw _ (List.mem_of_getElem? (i := 43) rfl))) Via.refl e104 (S_REJECTED.ext O0.2) (g := (mkF m 85 #[.val (.ref a0), .unset] [])) rfl (hb hby d1_85)
              have hF111 : (F1o a0 wUNANSWERED wACCEPTED wREDIRECTED wREJECTED z_) = wREJECTED := ((if_neg hc18_33).trans ((if_pos hc28_75).trans ((if_neg hc45_78).trans ((if_pos hc55_96).trans ((if_neg hc72_99).trans (if_neg hc82_105))))))
              have pre112 : ∀ t, Steps p.tables e below (T110.setTop (mkF m 97 #[.val (.ref a0), .val (.ref wREJECTED)] [(.ref wREJECTED)])) t → Steps p.tables e below (s₁.setTop (entryFrame m #[(.ref a0)] 2)) t := by
                intro t kk
                refine pre106 t ?_
                show Steps p.tables e below (T104.setTop (mkF m 82 #[.val (.ref a0), .unset] [(.int (502 : Int32)), (.int z_)])) _
                refine XS.icmpNo X104.here hx rfl (hb hby d1_82) rfl (flt hc82_105).2.2.1 ?_
                show Steps p.tables e below (T104.setTop (mkF m 85 #[.val (.ref a0), .unset] [])) _
                refine st110 _ ?_
                show Steps p.tables e below (T110.setTop (mkF m 88 #[.val (.ref a0), .unset] [(.ref wREJECTED)])) _
                refine XS.astoreN X110.here hx rfl (hb hby d1_88) rfl rfl (l' := #[.val (.ref a0), .val (.ref wREJECTED)]) rfl ?_
                show Steps p.tables e below (T110.setTop (mkF m 89 #[.val (.ref a0), .val (.ref wREJECTED)] [])) _
                refine XS.goto X110.here hx rfl (pc0 := 89) (pc' := 96) rfl (hb hby d1_89) (by decide) (by decide) ?_
                show Steps p.tables e below (T110.setTop (mkF m 96 #[.val (.ref a0), .val (.ref wREJECTED)] [])) _
                refine XS.aloadN X110.here hx rfl (hb hby d1_96) rfl rfl ?_
                exact kk
              obtain ⟨fs, hr, hrun, hended, hW, hsame⟩ := X110.leave (v := some (.ref wREJECTED)) (fun h => by rw [Bd.returns] at h; cases h)
              refine ⟨_, _, pre112 _ ?_, hrun, hended, _, _, rfl, ?_, ⟨_, rfl⟩, hW, hsame.mono (by decide) (by decide)⟩
              · show Steps p.tables e below (T110.setTop (mkF m 97 #[.val (.ref a0), .val (.ref wREJECTED)] [(.ref wREJECTED)])) _
                exact retOut X110 hx Bd.returns rfl (Or.inr (Or.inr (Or.inr (Or.inr ⟨rfl, rfl, rfl⟩)))) (hb hby d1_97) hr
              · show Q1o Z a0 wUNANSWERED wACCEPTED wREDIRECTED wREJECTED z_ h0 n0 _ T110.heap _
                rw [e110]
                exact ⟨congrArg (fun z => some (Value.ref z)) hF111.symm, N104, rfl⟩
        · obtain ⟨T113, X113, e113, st113⟩ := getS2 X95 hx hZ hown (host := "") (Or.inl (hw _ (List.mem_of_getElem? (i := 40) rfl))) Via.refl e95 (S_REDIRECTED.ext O0.2) (g := (mkF m 58 #[.val (.ref a0), .unset] [])) rfl (hb hby d1_58)
          have hF114 : (F1o a0 wUNANSWERED wACCEPTED wREDIRECTED wREJECTED z_) = wREDIRECTED := ((if_neg hc18_33).trans ((if_pos hc28_75).trans ((if_neg hc45_78).trans (if_neg hc55_96))))
          have pre115 : ∀ t, Steps p.tables e below (T113.setTop (mkF m 97 #[.val (.ref a0), .val (.ref wREDIRECTED)] [(.ref wREDIRECTED)])) t → Steps p.tables e below (s₁.setTop (entryFrame m #[(.ref a0)] 2)) t := by
            intro t kk
            refine pre97 t ?_
            show Steps p.tables e below (T95.setTop (mkF m 55 #[.val (.ref a0), .unset] [(.int (399 : Int32)), (.int z_)])) _
            refine XS.icmpNo X95.here hx rfl (hb hby d1_55) rfl (flt hc55_96).2.2.1 ?_
            show Steps p.tables e below (T95.setTop (mkF m 58 #[.val (.ref a0), .unset] [])) _
            refine st113 _ ?_
            show Steps p.tables e below (T113.setTop (mkF m 61 #[.val (.ref a0), .unset] [(.ref wREDIRECTED)])) _
            refine XS.astoreN X113.here hx rfl (hb hby d1_61) rfl rfl (l' := #[.val (.ref a0), .val (.ref wREDIRECTED)]) rfl ?_
            show Steps p.tables e below (T113.setTop (mkF m 62 #[.val (.ref a0), .val (.ref wREDIRECTED)] [])) _
            refine XS.goto X113.here hx rfl (pc0 := 62) (pc' := 96) rfl (hb hby d1_62) (by decide) (by decide) ?_
            show Steps p.tables e below (T113.setTop (mkF m 96 #[.val (.ref a0), .val (.ref wREDIRECTED)] [])) _
            refine XS.aloadN X113.here hx rfl (hb hby d1_96) rfl rfl ?_
            exact kk
          obtain ⟨fs, hr, hrun, hended, hW, hsame⟩ := X113.leave (v := some (.ref wREDIRECTED)) (fun h => by rw [Bd.returns] at h; cases h)
          refine ⟨_, _, pre115 _ ?_, hrun, hended, _, _, rfl, ?_, ⟨_, rfl⟩, hW, hsame.mono (by decide) (by decide)⟩
          · show Steps p.tables e below (T113.setTop (mkF m 97 #[.val (.ref a0), .val (.ref wREDIRECTED)] [(.ref wREDIRECTED)])) _
            exact retOut X113 hx Bd.returns rfl (Or.inr (Or.inr (Or.inr (Or.inr ⟨rfl, rfl, rfl⟩)))) (hb hby d1_97) hr
          · show Q1o Z a0 wUNANSWERED wACCEPTED wREDIRECTED wREJECTED z_ h0 n0 _ T113.heap _
            rw [e113]
            exact ⟨congrArg (fun z => some (Value.ref z)) hF114.symm, N95, rfl⟩
    · obtain ⟨T116, X116, e116, st116⟩ := getS2 X74 hx hZ hown (host := "") (Or.inl (hw _ (List.mem_of_getElem? (i := 47) rfl))) Via.refl e74 (S_ACCEPTED.ext O0.2) (g := (mkF m 31 #[.val (.ref a0), .unset] [])) rfl (hb hby d1_31)
      have hF117 : (F1o a0 wUNANSWERED wACCEPTED wREDIRECTED wREJECTED z_) = wACCEPTED := ((if_neg hc18_33).trans (if_neg hc28_75))
      have pre118 : ∀ t, Steps p.tables e below (T116.setTop (mkF m 97 #[.val (.ref a0), .val (.ref wACCEPTED)] [(.ref wACCEPTED)])) t → Steps p.tables e below (s₁.setTop (entryFrame m #[(.ref a0)] 2)) t := by
        intro t kk
        refine pre76 t ?_
        show Steps p.tables e below (T74.setTop (mkF m 28 #[.val (.ref a0), .unset] [(.int (299 : Int32)), (.int z_)])) _
        refine XS.icmpNo X74.here hx rfl (hb hby d1_28) rfl (flt hc28_75).2.2.1 ?_
        show Steps p.tables e below (T74.setTop (mkF m 31 #[.val (.ref a0), .unset] [])) _
        refine st116 _ ?_
        show Steps p.tables e below (T116.setTop (mkF m 34 #[.val (.ref a0), .unset] [(.ref wACCEPTED)])) _
        refine XS.astoreN X116.here hx rfl (hb hby d1_34) rfl rfl (l' := #[.val (.ref a0), .val (.ref wACCEPTED)]) rfl ?_
        show Steps p.tables e below (T116.setTop (mkF m 35 #[.val (.ref a0), .val (.ref wACCEPTED)] [])) _
        refine XS.goto X116.here hx rfl (pc0 := 35) (pc' := 96) rfl (hb hby d1_35) (by decide) (by decide) ?_
        show Steps p.tables e below (T116.setTop (mkF m 96 #[.val (.ref a0), .val (.ref wACCEPTED)] [])) _
        refine XS.aloadN X116.here hx rfl (hb hby d1_96) rfl rfl ?_
        exact kk
      obtain ⟨fs, hr, hrun, hended, hW, hsame⟩ := X116.leave (v := some (.ref wACCEPTED)) (fun h => by rw [Bd.returns] at h; cases h)
      refine ⟨_, _, pre118 _ ?_, hrun, hended, _, _, rfl, ?_, ⟨_, rfl⟩, hW, hsame.mono (by decide) (by decide)⟩
      · show Steps p.tables e below (T116.setTop (mkF m 97 #[.val (.ref a0), .val (.ref wACCEPTED)] [(.ref wACCEPTED)])) _
        exact retOut X116 hx Bd.returns rfl (Or.inr (Or.inr (Or.inr (Or.inr ⟨rfl, rfl, rfl⟩)))) (hb hby d1_97) hr
      · show Q1o Z a0 wUNANSWERED wACCEPTED wREDIRECTED wREJECTED z_ h0 n0 _ T116.heap _
        rw [e116]
        exact ⟨congrArg (fun z => some (Value.ref z)) hF117.symm, N74, rfl⟩
def F2 (p0 : Int32) (p1 : Int32) (wUNANSWERED : Addr) (wACCEPTED : Addr) (wREDIRECTED : Addr) (wREJECTED : Addr) : Addr := (if p0 = (0 : Int32) then (if p1 < (200 : Int32) then wUNANSWERED else (if (p1 / (100 : Int32)) = (2 : Int32) then wACCEPTED else (if (p1 / (100 : Int32)) = (3 : Int32) then wREDIRECTED else (if (p1 / (100 : Int32)) = (4 : Int32) then wREJECTED else (if p1 = (500 : Int32) then wREJECTED else (if p1 = (501 : Int32) then wREJECTED else (if p1 = (502 : Int32) then wREJECTED else wUNANSWERED))))))) else wUNANSWERED)
theorem d2_0 : decode method_3_code 0 = .ok (.iload_n 0, 1) := by decide +kernel
theorem d2_1 : decode method_3_code 1 = .ok (.ifCond .eq 7, 3) := by decide +kernel
theorem d2_4 : decode method_3_code 4 = .ok (.getstatic 26, 3) := by decide +kernel
theorem d2_7 : decode method_3_code 7 = .ok (.areturn, 1) := by decide +kernel
theorem d2_8 : decode method_3_code 8 = .ok (.iload_n 1, 1) := by decide +kernel
theorem d2_9 : decode method_3_code 9 = .ok (.sipush 200, 3) := by decide +kernel
theorem d2_12 : decode method_3_code 12 = .ok (.if_icmp .ge 7, 3) := by decide +kernel
theorem d2_15 : decode method_3_code 15 = .ok (.getstatic 26, 3) := by decide +kernel
theorem d2_18 : decode method_3_code 18 = .ok (.areturn, 1) := by decide +kernel
theorem d2_19 : decode method_3_code 19 = .ok (.iload_n 1, 1) := by decide +kernel
theorem d2_20 : decode method_3_code 20 = .ok (.bipush 100, 2) := by decide +kernel
theorem d2_22 : decode method_3_code 22 = .ok (.idiv, 1) := by decide +kernel
theorem d2_23 : decode method_3_code 23 = .ok (.istore_n 2, 1) := by decide +kernel
theorem d2_24 : decode method_3_code 24 = .ok (.iload_n 2, 1) := by decide +kernel
theorem d2_25 : decode method_3_code 25 = .ok (.iconst 2, 1) := by decide +kernel
theorem d2_26 : decode method_3_code 26 = .ok (.if_icmp .ne 7, 3) := by decide +kernel
theorem d2_29 : decode method_3_code 29 = .ok (.getstatic 30, 3) := by decide +kernel
theorem d2_32 : decode method_3_code 32 = .ok (.areturn, 1) := by decide +kernel
theorem d2_33 : decode method_3_code 33 = .ok (.iload_n 2, 1) := by decide +kernel
theorem d2_34 : decode method_3_code 34 = .ok (.iconst 3, 1) := by decide +kernel
theorem d2_35 : decode method_3_code 35 = .ok (.if_icmp .ne 7, 3) := by decide +kernel
theorem d2_38 : decode method_3_code 38 = .ok (.getstatic 33, 3) := by decide +kernel
theorem d2_41 : decode method_3_code 41 = .ok (.areturn, 1) := by decide +kernel
theorem d2_42 : decode method_3_code 42 = .ok (.iload_n 2, 1) := by decide +kernel
theorem d2_43 : decode method_3_code 43 = .ok (.iconst 4, 1) := by decide +kernel
theorem d2_44 : decode method_3_code 44 = .ok (.if_icmp .ne 7, 3) := by decide +kernel
theorem d2_47 : decode method_3_code 47 = .ok (.getstatic 36, 3) := by decide +kernel
theorem d2_50 : decode method_3_code 50 = .ok (.areturn, 1) := by decide +kernel
theorem d2_51 : decode method_3_code 51 = .ok (.iload_n 1, 1) := by decide +kernel
theorem d2_52 : decode method_3_code 52 = .ok (.sipush 500, 3) := by decide +kernel
theorem d2_55 : decode method_3_code 55 = .ok (.if_icmp .eq 17, 3) := by decide +kernel
theorem d2_58 : decode method_3_code 58 = .ok (.iload_n 1, 1) := by decide +kernel
theorem d2_59 : decode method_3_code 59 = .ok (.sipush 501, 3) := by decide +kernel
theorem d2_62 : decode method_3_code 62 = .ok (.if_icmp .eq 10, 3) := by decide +kernel
theorem d2_65 : decode method_3_code 65 = .ok (.iload_n 1, 1) := by decide +kernel
theorem d2_66 : decode method_3_code 66 = .ok (.sipush 502, 3) := by decide +kernel
theorem d2_69 : decode method_3_code 69 = .ok (.if_icmp .ne 7, 3) := by decide +kernel
theorem d2_72 : decode method_3_code 72 = .ok (.getstatic 36, 3) := by decide +kernel
theorem d2_75 : decode method_3_code 75 = .ok (.areturn, 1) := by decide +kernel
theorem d2_76 : decode method_3_code 76 = .ok (.getstatic 26, 3) := by decide +kernel
theorem d2_79 : decode method_3_code 79 = .ok (.areturn, 1) := by decide +kernel
theorem pn_com_example_tidewheel_tidewheel_model_AnswerOfPinLaw : plainName "com/example/tidewheel/tidewheel/model/AnswerOfPinLaw" = true := by first | (simp [plainName, overriddenIn]; done) | decide +kernel
theorem ef_2_II (m : MethodId) (x0 : Int32) (x1 : Int32) : entryFrame m #[(.int x0), (.int x1)] 3 = mkF m 0 #[.val (.int x0), .val (.int x1), .unset] [] := by first | (simp [entryFrame, mkF, argsToLocals, Value.category]; done) | rfl
def Q2 (Z : State) (p0 : Int32) (p1 : Int32) (wUNANSWERED : Addr) (wACCEPTED : Addr) (wREDIRECTED : Addr) (wREJECTED : Addr) (h0 : Heap) (n0 : Nat) (v : Option Value) (h : Heap) (L : List Loc) : Prop := v = some (.ref (F2 p0 p1 wUNANSWERED wACCEPTED wREDIRECTED wREJECTED)) ∧ Fr n0 L ∧ h = h0
set_option maxRecDepth 65536 in
set_option maxHeartbeats 40000000 in
theorem rm2 (l : Launch) (Z : State) (aA : Array Value) (hw : ∀ d ∈ tables_1, d.before aA Z = true) (ws : List Jvm.Cond) (p0 : Int32) (p1 : Int32) (wUNANSWERED : Addr) (wACCEPTED : Addr) (wREDIRECTED : Addr) (wREJECTED : Addr) (h0 : Heap) (n0 : Nat) (Z0 : n0 ≤ h0.size) (O0 : Old Z n0 h0) (S_UNANSWERED : Sta Z Z.heap "com/example/tidewheel/tidewheel/model/Delivery$Answer" "UNANSWERED" "Lcom/example/tidewheel/tidewheel/model/Delivery$Answer;" (.ref wUNANSWERED)) (S_ACCEPTED : Sta Z Z.heap "com/example/tidewheel/tidewheel/model/Delivery$Answer" "ACCEPTED" "Lcom/example/tidewheel/tidewheel/model/Delivery$Answer;" (.ref wACCEPTED)) (S_REDIRECTED : Sta Z Z.heap "com/example/tidewheel/tidewheel/model/Delivery$Answer" "REDIRECTED" "Lcom/example/tidewheel/tidewheel/model/Delivery$Answer;" (.ref wREDIRECTED)) (S_REJECTED : Sta Z Z.heap "com/example/tidewheel/tidewheel/model/Delivery$Answer" "REJECTED" "Lcom/example/tidewheel/tidewheel/model/Delivery$Answer;" (.ref wREJECTED)) :
    MetFree l (⟨"com/example/tidewheel/tidewheel/model/AnswerOfPinLaw", "expected", "(ZI)Lcom/example/tidewheel/tidewheel/model/Delivery$Answer;"⟩ : MethodName) (head1 (Jvm.Cond.code (⟨"com/example/tidewheel/tidewheel/model/AnswerOfPinLaw", "expected", "(ZI)Lcom/example/tidewheel/tidewheel/model/Delivery$Answer;"⟩ : MethodName) method_3_code 3 (some (.object "com/example/tidewheel/tidewheel/model/Delivery$Answer")) :: ws) ({ frames := 0, cells := 0, slots := 0, locals := 0 } : Room)) (fun a U => a = #[(.int p0), (.int p1)] ∧ Z.Warmed39 U.vm ∧ U.heap = h0) (fun _ _ _ _ _ => True) (fun _ U o U' => ∃ v L, o = .returned v ∧ Q2 Z p0 p1 wUNANSWERED wACCEPTED wREDIRECTED wREJECTED h0 n0 v U'.heap L ∧ FrameEnd U o U' L ({ frames := 0, cells := 0, slots := 0, locals := 0 } : Room).cells ({ frames := 0, cells := 0, slots := 0, locals := 0 } : Room).slots) := by
  refine MetFree.of_bodySF (plainFor_of_name pn_com_example_tidewheel_tidewheel_model_AnswerOfPinLaw) hisR ?_
  intro p e s m args below meth c s₁ Bd hml0 hP hK
  obtain ⟨rfl, hZ, hh⟩ := hP
  have hx := Bd.exec
  have hby := Bd.bytes
  have hml : c.maxLocals = 3 := hml0
  have hown : s.vm.findClass "com/example/tidewheel/tidewheel/model/AnswerOfPinLaw" = some m.cls := findClass_of_methodNamed Bd.named
  have hnm := (name_of_methodNamed Bd.named Bd.method).1
  have X0 : Stand p l e ({ frames := 0, cells := 0, slots := 0, locals := 0 } : Room) s m #[(.int p0), (.int p1)] below meth c s₁ [] 0 0 := Stand.of_body Bd
  have e0 : s₁.heap = h0 := by rw [← hh, Bd.state]; rfl
  have N0 := Fr.nil n0
  have KP0 : Keep h0 h0 [] := Keep.refl h0 _
  have pre0 : ∀ t, Steps p.tables e below (s₁.setTop (mkF m 0 #[.val (.int p0), .val (.int p1), .unset] [])) t → Steps p.tables e below (s₁.setTop (entryFrame m #[(.int p0), (.int p1)] 3)) t := fun t k => castTop (ef_2_II m p0 p1) k
  have pre120 : ∀ t, Steps p.tables e below (s₁.setTop (mkF m 1 #[.val (.int p0), .val (.int p1), .unset] [(.int p0)])) t → Steps p.tables e below (s₁.setTop (entryFrame m #[(.int p0), (.int p1)] 3)) t := by
    intro t kk
    refine pre0 t ?_
    show Steps p.tables e below (s₁.setTop (mkF m 0 #[.val (.int p0), .val (.int p1), .unset] [])) _
    refine XS.iloadN X0.here hx rfl (hb hby d2_0) rfl ?_
    exact kk
  by_cases hc1_119 : p0 = (0 : Int32)
  · have pre122 : ∀ t, Steps p.tables e below (s₁.setTop (mkF m 12 #[.val (.int p0), .val (.int p1), .unset] [(.int (200 : Int32)), (.int p1)])) t → Steps p.tables e below (s₁.setTop (entryFrame m #[(.int p0), (.int p1)] 3)) t := by
      intro t kk
      refine pre120 t ?_
      show Steps p.tables e below (s₁.setTop (mkF m 1 #[.val (.int p0), .val (.int p1), .unset] [(.int p0)])) _
      refine XS.ifYes X0.here hx rfl (pc0 := 1) (pc' := 8) rfl (hb hby d2_1) rfl ((if0 _ _).trans (teq hc1_119).1) (by decide) (by decide) ?_
      show Steps p.tables e below (s₁.setTop (mkF m 8 #[.val (.int p0), .val (.int p1), .unset] [])) _
      refine XS.iloadN X0.here hx rfl (hb hby d2_8) rfl ?_
      show Steps p.tables e below (s₁.setTop (mkF m 9 #[.val (.int p0), .val (.int p1), .unset] [(.int p1)])) _
      refine XS.sipush X0.here hx rfl (hb hby d2_9) ?_
      exact kk
    by_cases hc12_121 : p1 < (200 : Int32)
    · obtain ⟨T123, X123, e123, st123⟩ := getS2 X0 hx hZ hown (host := "") (Or.inl (hw _ (List.mem_of_getElem? (i := 10) rfl))) Via.refl e0 (S_UNANSWERED.ext O0.2) (g := (mkF m 15 #[.val (.int p0), .val (.int p1), .unset] [])) rfl (hb hby d2_15)
      have hF124 : (F2 p0 p1 wUNANSWERED wACCEPTED wREDIRECTED wREJECTED) = wUNANSWERED := ((if_pos hc1_119).trans (if_pos hc12_121))
      have pre125 : ∀ t, Steps p.tables e below (T123.setTop (mkF m 18 #[.val (.int p0), .val (.int p1), .unset] [(.ref wUNANSWERED)])) t → Steps p.tables e below (s₁.setTop (entryFrame m #[(.int p0), (.int p1)] 3)) t := by
        intro t kk
        refine pre122 t ?_
        show Steps p.tables e below (s₁.setTop (mkF m 12 #[.val (.int p0), .val (.int p1), .unset] [(.int (200 : Int32)), (.int p1)])) _
        refine XS.icmpNo X0.here hx rfl (hb hby d2_12) rfl (tlt hc12_121).2.1 ?_
        show Steps p.tables e below (s₁.setTop (mkF m 15 #[.val (.int p0), .val (.int p1), .unset] [])) _
        refine st123 _ ?_
        exact kk
      obtain ⟨fs, hr, hrun, hended, hW, hsame⟩ := X123.leave (v := some (.ref wUNANSWERED)) (fun h => by rw [Bd.returns] at h; cases h)
      refine ⟨_, _, pre125 _ ?_, hrun, hended, _, _, rfl, ?_, ⟨_, rfl⟩, hW, hsame.mono (by decide) (by decide)⟩
      · show Steps p.tables e below (T123.setTop (mkF m 18 #[.val (.int p0), .val (.int p1), .unset] [(.ref wUNANSWERED)])) _
        exact retOut X123 hx Bd.returns rfl (Or.inr (Or.inr (Or.inr (Or.inr ⟨rfl, rfl, rfl⟩)))) (hb hby d2_18) hr
      · show Q2 Z p0 p1 wUNANSWERED wACCEPTED wREDIRECTED wREJECTED h0 n0 _ T123.heap _
        rw [e123]
        exact ⟨congrArg (fun z => some (Value.ref z)) hF124.symm, N0, rfl⟩
    · have pre127 : ∀ t, Steps p.tables e below (s₁.setTop (mkF m 26 #[.val (.int p0), .val (.int p1), .val (.int (p1 / (100 : Int32)))] [(.int (2 : Int32)), (.int (p1 / (100 : Int32)))])) t → Steps p.tables e below (s₁.setTop (entryFrame m #[(.int p0), (.int p1)] 3)) t := by
        intro t kk
        refine pre122 t ?_
        show Steps p.tables e below (s₁.setTop (mkF m 12 #[.val (.int p0), .val (.int p1), .unset] [(.int (200 : Int32)), (.int p1)])) _
        refine XS.icmpYes X0.here hx rfl (pc0 := 12) (pc' := 19) rfl (hb hby d2_12) rfl (flt hc12_121).2.1 (by decide) (by decide) ?_
        show Steps p.tables e below (s₁.setTop (mkF m 19 #[.val (.int p0), .val (.int p1), .unset] [])) _
        refine XS.iloadN X0.here hx rfl (hb hby d2_19) rfl ?_
        show Steps p.tables e below (s₁.setTop (mkF m 20 #[.val (.int p0), .val (.int p1), .unset] [(.int p1)])) _
        refine XS.bipush X0.here hx rfl (hb hby d2_20) ?_
        show Steps p.tables e below (s₁.setTop (mkF m 22 #[.val (.int p0), .val (.int p1), .unset] [(.int (100 : Int32)), (.int p1)])) _
        refine XS.idiv X0.here hx rfl (hb hby d2_22) rfl (by decide : ¬ ((100 : Int32) = (0 : Int32))) ?_
        show Steps p.tables e below (s₁.setTop (mkF m 23 #[.val (.int p0), .val (.int p1), .unset] [(.int (p1 / (100 : Int32)))])) _
        refine XS.istoreN X0.here hx rfl (hb hby d2_23) rfl (l' := #[.val (.int p0), .val (.int p1), .val (.int (p1 / (100 : Int32)))]) rfl ?_
        show Steps p.tables e below (s₁.setTop (mkF m 24 #[.val (.int p0), .val (.int p1), .val (.int (p1 / (100 : Int32)))] [])) _
        refine XS.iloadN X0.here hx rfl (hb hby d2_24) rfl ?_
        show Steps p.tables e below (s₁.setTop (mkF m 25 #[.val (.int p0), .val (.int p1), .val (.int (p1 / (100 : Int32)))] [(.int (p1 / (100 : Int32)))])) _
        refine XS.iconst X0.here hx rfl (hb hby d2_25) ?_
        exact kk
      by_cases hc26_126 : (p1 / (100 : Int32)) = (2 : Int32)
      · obtain ⟨T128, X128, e128, st128⟩ := getS2 X0 hx hZ hown (host := "") (Or.inl (hw _ (List.mem_of_getElem? (i := 49) rfl))) Via.refl e0 (S_ACCEPTED.ext O0.2) (g := (mkF m 29 #[.val (.int p0), .val (.int p1), .val (.int (p1 / (100 : Int32)))] [])) rfl (hb hby d2_29)
        have hF129 : (F2 p0 p1 wUNANSWERED wACCEPTED wREDIRECTED wREJECTED) = wACCEPTED := ((if_pos hc1_119).trans ((if_neg hc12_121).trans (if_pos hc26_126)))
        have pre130 : ∀ t, Steps p.tables e below (T128.setTop (mkF m 32 #[.val (.int p0), .val (.int p1), .val (.int (p1 / (100 : Int32)))] [(.ref wACCEPTED)])) t → Steps p.tables e below (s₁.setTop (entryFrame m #[(.int p0), (.int p1)] 3)) t := by
          intro t kk
          refine pre127 t ?_
          show Steps p.tables e below (s₁.setTop (mkF m 26 #[.val (.int p0), .val (.int p1), .val (.int (p1 / (100 : Int32)))] [(.int (2 : Int32)), (.int (p1 / (100 : Int32)))])) _
          refine XS.icmpNo X0.here hx rfl (hb hby d2_26) rfl (teq hc26_126).2 ?_
          show Steps p.tables e below (s₁.setTop (mkF m 29 #[.val (.int p0), .val (.int p1), .val (.int (p1 / (100 : Int32)))] [])) _
          refine st128 _ ?_
          exact kk
        obtain ⟨fs, hr, hrun, hended, hW, hsame⟩ := X128.leave (v := some (.ref wACCEPTED)) (fun h => by rw [Bd.returns] at h; cases h)
        refine ⟨_, _, pre130 _ ?_, hrun, hended, _, _, rfl, ?_, ⟨_, rfl⟩, hW, hsame.mono (by decide) (by decide)⟩
        · show Steps p.tables e below (T128.setTop (mkF m 32 #[.val (.int p0), .val (.int p1), .val (.int (p1 / (100 : Int32)))] [(.ref wACCEPTED)])) _
          exact retOut X128 hx Bd.returns rfl (Or.inr (Or.inr (Or.inr (Or.inr ⟨rfl, rfl, rfl⟩)))) (hb hby d2_32) hr
        · show Q2 Z p0 p1 wUNANSWERED wACCEPTED wREDIRECTED wREJECTED h0 n0 _ T128.heap _
          rw [e128]
          exact ⟨congrArg (fun z => some (Value.ref z)) hF129.symm, N0, rfl⟩
      · have pre132 : ∀ t, Steps p.tables e below (s₁.setTop (mkF m 35 #[.val (.int p0), .val (.int p1), .val (.int (p1 / (100 : Int32)))] [(.int (3 : Int32)), (.int (p1 / (100 : Int32)))])) t → Steps p.tables e below (s₁.setTop (entryFrame m #[(.int p0), (.int p1)] 3)) t := by
          intro t kk
          refine pre127 t ?_
          show Steps p.tables e below (s₁.setTop (mkF m 26 #[.val (.int p0), .val (.int p1), .val (.int (p1 / (100 : Int32)))] [(.int (2 : Int32)), (.int (p1 / (100 : Int32)))])) _
          refine XS.icmpYes X0.here hx rfl (pc0 := 26) (pc' := 33) rfl (hb hby d2_26) rfl (feq hc26_126).2 (by decide) (by decide) ?_
          show Steps p.tables e below (s₁.setTop (mkF m 33 #[.val (.int p0), .val (.int p1), .val (.int (p1 / (100 : Int32)))] [])) _
          refine XS.iloadN X0.here hx rfl (hb hby d2_33) rfl ?_
          show Steps p.tables e below (s₁.setTop (mkF m 34 #[.val (.int p0), .val (.int p1), .val (.int (p1 / (100 : Int32)))] [(.int (p1 / (100 : Int32)))])) _
          refine XS.iconst X0.here hx rfl (hb hby d2_34) ?_
          exact kk
        by_cases hc35_131 : (p1 / (100 : Int32)) = (3 : Int32)
        · obtain ⟨T133, X133, e133, st133⟩ := getS2 X0 hx hZ hown (host := "") (Or.inl (hw _ (List.mem_of_getElem? (i := 42) rfl))) Via.refl e0 (S_REDIRECTED.ext O0.2) (g := (mkF m 38 #[.val (.int p0), .val (.int p1), .val (.int (p1 / (100 : Int32)))] [])) rfl (hb hby d2_38)
          have hF134 : (F2 p0 p1 wUNANSWERED wACCEPTED wREDIRECTED wREJECTED) = wREDIRECTED := ((if_pos hc1_119).trans ((if_neg hc12_121).trans ((if_neg hc26_126).trans (if_pos hc35_131))))
          have pre135 : ∀ t, Steps p.tables e below (T133.setTop (mkF m 41 #[.val (.int p0), .val (.int p1), .val (.int (p1 / (100 : Int32)))] [(.ref wREDIRECTED)])) t → Steps p.tables e below (s₁.setTop (entryFrame m #[(.int p0), (.int p1)] 3)) t := by
            intro t kk
            refine pre132 t ?_
            show Steps p.tables e below (s₁.setTop (mkF m 35 #[.val (.int p0), .val (.int p1), .val (.int (p1 / (100 : Int32)))] [(.int (3 : Int32)), (.int (p1 / (100 : Int32)))])) _
            refine XS.icmpNo X0.here hx rfl (hb hby d2_35) rfl (teq hc35_131).2 ?_
            show Steps p.tables e below (s₁.setTop (mkF m 38 #[.val (.int p0), .val (.int p1), .val (.int (p1 / (100 : Int32)))] [])) _
            refine st133 _ ?_
            exact kk
          obtain ⟨fs, hr, hrun, hended, hW, hsame⟩ := X133.leave (v := some (.ref wREDIRECTED)) (fun h => by rw [Bd.returns] at h; cases h)
          refine ⟨_, _, pre135 _ ?_, hrun, hended, _, _, rfl, ?_, ⟨_, rfl⟩, hW, hsame.mono (by decide) (by decide)⟩
          · show Steps p.tables e below (T133.setTop (mkF m 41 #[.val (.int p0), .val (.int p1), .val (.int (p1 / (100 : Int32)))] [(.ref wREDIRECTED)])) _
            exact retOut X133 hx Bd.returns rfl (Or.inr (Or.inr (Or.inr (Or.inr ⟨rfl, rfl, rfl⟩)))) (hb hby d2_41) hr
          · show Q2 Z p0 p1 wUNANSWERED wACCEPTED wREDIRECTED wREJECTED h0 n0 _ T133.heap _
            rw [e133]
            exact ⟨congrArg (fun z => some (Value.ref z)) hF134.symm, N0, rfl⟩
        · have pre137 : ∀ t, Steps p.tables e below (s₁.setTop (mkF m 44 #[.val (.int p0), .val (.int p1), .val (.int (p1 / (100 : Int32)))] [(.int (4 : Int32)), (.int (p1 / (100 : Int32)))])) t → Steps p.tables e below (s₁.setTop (entryFrame m #[(.int p0), (.int p1)] 3)) t := by
            intro t kk
            refine pre132 t ?_
            show Steps p.tables e below (s₁.setTop (mkF m 35 #[.val (.int p0), .val (.int p1), .val (.int (p1 / (100 : Int32)))] [(.int (3 : Int32)), (.int (p1 / (100 : Int32)))])) _
            refine XS.icmpYes X0.here hx rfl (pc0 := 35) (pc' := 42) rfl (hb hby d2_35) rfl (feq hc35_131).2 (by decide) (by decide) ?_
            show Steps p.tables e below (s₁.setTop (mkF m 42 #[.val (.int p0), .val (.int p1), .val (.int (p1 / (100 : Int32)))] [])) _
            refine XS.iloadN X0.here hx rfl (hb hby d2_42) rfl ?_
            show Steps p.tables e below (s₁.setTop (mkF m 43 #[.val (.int p0), .val (.int p1), .val (.int (p1 / (100 : Int32)))] [(.int (p1 / (100 : Int32)))])) _
            refine XS.iconst X0.here hx rfl (hb hby d2_43) ?_
            exact kk
          by_cases hc44_136 : (p1 / (100 : Int32)) = (4 : Int32)
          · obtain ⟨T138, X138, e138, st138⟩ := getS2 X0 hx hZ hown (host := "") (Or.inl (hw _ (List.mem_of_getElem? (i := 45) rfl))) Via.refl e0 (S_REJECTED.ext O0.2) (g := (mkF m 47 #[.val (.int p0), .val (.int p1), .val (.int (p1 / (100 : Int32)))] [])) rfl (hb hby d2_47)
            have hF139 : (F2 p0 p1 wUNANSWERED wACCEPTED wREDIRECTED wREJECTED) = wREJECTED := ((if_pos hc1_119).trans ((if_neg hc12_121).trans ((if_neg hc26_126).trans ((if_neg hc35_131).trans (if_pos hc44_136)))))
            have pre140 : ∀ t, Steps p.tables e below (T138.setTop (mkF m 50 #[.val (.int p0), .val (.int p1), .val (.int (p1 / (100 : Int32)))] [(.ref wREJECTED)])) t → Steps p.tables e below (s₁.setTop (entryFrame m #[(.int p0), (.int p1)] 3)) t := by
              intro t kk
              refine pre137 t ?_
              show Steps p.tables e below (s₁.setTop (mkF m 44 #[.val (.int p0), .val (.int p1), .val (.int (p1 / (100 : Int32)))] [(.int (4 : Int32)), (.int (p1 / (100 : Int32)))])) _
              refine XS.icmpNo X0.here hx rfl (hb hby d2_44) rfl (teq hc44_136).2 ?_
              show Steps p.tables e below (s₁.setTop (mkF m 47 #[.val (.int p0), .val (.int p1), .val (.int (p1 / (100 : Int32)))] [])) _
              refine st138 _ ?_
              exact kk
            obtain ⟨fs, hr, hrun, hended, hW, hsame⟩ := X138.leave (v := some (.ref wREJECTED)) (fun h => by rw [Bd.returns] at h; cases h)
            refine ⟨_, _, pre140 _ ?_, hrun, hended, _, _, rfl, ?_, ⟨_, rfl⟩, hW, hsame.mono (by decide) (by decide)⟩
            · show Steps p.tables e below (T138.setTop (mkF m 50 #[.val (.int p0), .val (.int p1), .val (.int (p1 / (100 : Int32)))] [(.ref wREJECTED)])) _
              exact retOut X138 hx Bd.returns rfl (Or.inr (Or.inr (Or.inr (Or.inr ⟨rfl, rfl, rfl⟩)))) (hb hby d2_50) hr
            · show Q2 Z p0 p1 wUNANSWERED wACCEPTED wREDIRECTED wREJECTED h0 n0 _ T138.heap _
              rw [e138]
              exact ⟨congrArg (fun z => some (Value.ref z)) hF139.symm, N0, rfl⟩
          · have pre142 : ∀ t, Steps p.tables e below (s₁.setTop (mkF m 55 #[.val (.int p0), .val (.int p1), .val (.int (p1 / (100 : Int32)))] [(.int (500 : Int32)), (.int p1)])) t → Steps p.tables e below (s₁.setTop (entryFrame m #[(.int p0), (.int p1)] 3)) t := by
              intro t kk
              refine pre137 t ?_
              show Steps p.tables e below (s₁.setTop (mkF m 44 #[.val (.int p0), .val (.int p1), .val (.int (p1 / (100 : Int32)))] [(.int (4 : Int32)), (.int (p1 / (100 : Int32)))])) _
              refine XS.icmpYes X0.here hx rfl (pc0 := 44) (pc' := 51) rfl (hb hby d2_44) rfl (feq hc44_136).2 (by decide) (by decide) ?_
              show Steps p.tables e below (s₁.setTop (mkF m 51 #[.val (.int p0), .val (.int p1), .val (.int (p1 / (100 : Int32)))] [])) _
              refine XS.iloadN X0.here hx rfl (hb hby d2_51) rfl ?_
              show Steps p.tables e below (s₁.setTop (mkF m 52 #[.val (.int p0), .val (.int p1), .val (.int (p1 / (100 : Int32)))] [(.int p1)])) _
              refine XS.sipush X0.here hx rfl (hb hby d2_52) ?_
              exact kk
            by_cases hc55_141 : p1 = (500 : Int32)
            · obtain ⟨T143, X143, e143, st143⟩ := getS2 X0 hx hZ hown (host := "") (Or.inl (hw _ (List.mem_of_getElem? (i := 45) rfl))) Via.refl e0 (S_REJECTED.ext O0.2) (g := (mkF m 72 #[.val (.int p0), .val (.int p1), .val (.int (p1 / (100 : Int32)))] [])) rfl (hb hby d2_72)
              have hF144 : (F2 p0 p1 wUNANSWERED wACCEPTED wREDIRECTED wREJECTED) = wREJECTED := ((if_pos hc1_119).trans ((if_neg hc12_121).trans ((if_neg hc26_126).trans ((if_neg hc35_131).trans ((if_neg hc44_136).trans (if_pos hc55_141))))))
              have pre145 : ∀ t, Steps p.tables e below (T143.setTop (mkF m 75 #[.val (.int p0), .val (.int p1), .val (.int (p1 / (100 : Int32)))] [(.ref wREJECTED)])) t → Steps p.tables e below (s₁.setTop (entryFrame m #[(.int p0), (.int p1)] 3)) t := by
                intro t kk
                refine pre142 t ?_
                show Steps p.tables e below (s₁.setTop (mkF m 55 #[.val (.int p0), .val (.int p1), .val (.int (p1 / (100 : Int32)))] [(.int (500 : Int32)), (.int p1)])) _
                refine XS.icmpYes X0.here hx rfl (pc0 := 55) (pc' := 72) rfl (hb hby d2_55) rfl (teq hc55_141).1 (by decide) (by decide) ?_
                show Steps p.tables e below (s₁.setTop (mkF m 72 #[.val (.int p0), .val (.int p1), .val (.int (p1 / (100 : Int32)))] [])) _
                refine st143 _ ?_
                exact kk
              obtain ⟨fs, hr, hrun, hended, hW, hsame⟩ := X143.leave (v := some (.ref wREJECTED)) (fun h => by rw [Bd.returns] at h; cases h)
              refine ⟨_, _, pre145 _ ?_, hrun, hended, _, _, rfl, ?_, ⟨_, rfl⟩, hW, hsame.mono (by decide) (by decide)⟩
              · show Steps p.tables e below (T143.setTop (mkF m 75 #[.val (.int p0), .val (.int p1), .val (.int (p1 / (100 : Int32)))] [(.ref wREJECTED)])) _
                exact retOut X143 hx Bd.returns rfl (Or.inr (Or.inr (Or.inr (Or.inr ⟨rfl, rfl, rfl⟩)))) (hb hby d2_75) hr
              · show Q2 Z p0 p1 wUNANSWERED wACCEPTED wREDIRECTED wREJECTED h0 n0 _ T143.heap _
                rw [e143]
                exact ⟨congrArg (fun z => some (Value.ref z)) hF144.symm, N0, rfl⟩
            · have pre147 : ∀ t, Steps p.tables e below (s₁.setTop (mkF m 62 #[.val (.int p0), .val (.int p1), .val (.int (p1 / (100 : Int32)))] [(.int (501 : Int32)), (.int p1)])) t → Steps p.tables e below (s₁.setTop (entryFrame m #[(.int p0), (.int p1)] 3)) t := by
                intro t kk
                refine pre142 t ?_
                show Steps p.tables e below (s₁.setTop (mkF m 55 #[.val (.int p0), .val (.int p1), .val (.int (p1 / (100 : Int32)))] [(.int (500 : Int32)), (.int p1)])) _
                refine XS.icmpNo X0.here hx rfl (hb hby d2_55) rfl (feq hc55_141).1 ?_
                show Steps p.tables e below (s₁.setTop (mkF m 58 #[.val (.int p0), .val (.int p1), .val (.int (p1 / (100 : Int32)))] [])) _
                refine XS.iloadN X0.here hx rfl (hb hby d2_58) rfl ?_
                show Steps p.tables e below (s₁.setTop (mkF m 59 #[.val (.int p0), .val (.int p1), .val (.int (p1 / (100 : Int32)))] [(.int p1)])) _
                refine XS.sipush X0.here hx rfl (hb hby d2_59) ?_
                exact kk
              by_cases hc62_146 : p1 = (501 : Int32)
              · obtain ⟨T148, X148, e148, st148⟩ := getS2 X0 hx hZ hown (host := "") (Or.inl (hw _ (List.mem_of_getElem? (i := 45) rfl))) Via.refl e0 (S_REJECTED.ext O0.2) (g := (mkF m 72 #[.val (.int p0), .val (.int p1), .val (.int (p1 / (100 : Int32)))] [])) rfl (hb hby d2_72)
                have hF149 : (F2 p0 p1 wUNANSWERED wACCEPTED wREDIRECTED wREJECTED) = wREJECTED := ((if_pos hc1_119).trans ((if_neg hc12_121).trans ((if_neg hc26_126).trans ((if_neg hc35_131).trans ((if_neg hc44_136).trans ((if_neg hc55_141).trans (if_pos hc62_146)))))))
                have pre150 : ∀ t, Steps p.tables e below (T148.setTop (mkF m 75 #[.val (.int p0), .val (.int p1), .val (.int (p1 / (100 : Int32)))] [(.ref wREJECTED)])) t → Steps p.tables e below (s₁.setTop (entryFrame m #[(.int p0), (.int p1)] 3)) t := by
                  intro t kk
                  refine pre147 t ?_
                  show Steps p.tables e below (s₁.setTop (mkF m 62 #[.val (.int p0), .val (.int p1), .val (.int (p1 / (100 : Int32)))] [(.int (501 : Int32)), (.int p1)])) _
                  refine XS.icmpYes X0.here hx rfl (pc0 := 62) (pc' := 72) rfl (hb hby d2_62) rfl (teq hc62_146).1 (by decide) (by decide) ?_
                  show Steps p.tables e below (s₁.setTop (mkF m 72 #[.val (.int p0), .val (.int p1), .val (.int (p1 / (100 : Int32)))] [])) _
                  refine st148 _ ?_
                  exact kk
                obtain ⟨fs, hr, hrun, hended, hW, hsame⟩ := X148.leave (v := some (.ref wREJECTED)) (fun h => by rw [Bd.returns] at h; cases h)
                refine ⟨_, _, pre150 _ ?_, hrun, hended, _, _, rfl, ?_, ⟨_, rfl⟩, hW, hsame.mono (by decide) (by decide)⟩
                · show Steps p.tables e below (T148.setTop (mkF m 75 #[.val (.int p0), .val (.int p1), .val (.int (p1 / (100 : Int32)))] [(.ref wREJECTED)])) _
                  exact retOut X148 hx Bd.returns rfl (Or.inr (Or.inr (Or.inr (Or.inr ⟨rfl, rfl, rfl⟩)))) (hb hby d2_75) hr
                · show Q2 Z p0 p1 wUNANSWERED wACCEPTED wREDIRECTED wREJECTED h0 n0 _ T148.heap _
                  rw [e148]
                  exact ⟨congrArg (fun z => some (Value.ref z)) hF149.symm, N0, rfl⟩
              · have pre152 : ∀ t, Steps p.tables e below (s₁.setTop (mkF m 69 #[.val (.int p0), .val (.int p1), .val (.int (p1 / (100 : Int32)))] [(.int (502 : Int32)), (.int p1)])) t → Steps p.tables e below (s₁.setTop (entryFrame m #[(.int p0), (.int p1)] 3)) t := by
                  intro t kk
                  refine pre147 t ?_
                  show Steps p.tables e below (s₁.setTop (mkF m 62 #[.val (.int p0), .val (.int p1), .val (.int (p1 / (100 : Int32)))] [(.int (501 : Int32)), (.int p1)])) _
                  refine XS.icmpNo X0.here hx rfl (hb hby d2_62) rfl (feq hc62_146).1 ?_
                  show Steps p.tables e below (s₁.setTop (mkF m 65 #[.val (.int p0), .val (.int p1), .val (.int (p1 / (100 : Int32)))] [])) _
                  refine XS.iloadN X0.here hx rfl (hb hby d2_65) rfl ?_
                  show Steps p.tables e below (s₁.setTop (mkF m 66 #[.val (.int p0), .val (.int p1), .val (.int (p1 / (100 : Int32)))] [(.int p1)])) _
                  refine XS.sipush X0.here hx rfl (hb hby d2_66) ?_
                  exact kk
                by_cases hc69_151 : p1 = (502 : Int32)
                · obtain ⟨T153, X153, e153, st153⟩ := getS2 X0 hx hZ hown (host := "") (Or.inl (hw _ (List.mem_of_getElem? (i := 45) rfl))) Via.refl e0 (S_REJECTED.ext O0.2) (g := (mkF m 72 #[.val (.int p0), .val (.int p1), .val (.int (p1 / (100 : Int32)))] [])) rfl (hb hby d2_72)
                  have hF154 : (F2 p0 p1 wUNANSWERED wACCEPTED wREDIRECTED wREJECTED) = wREJECTED := ((if_pos hc1_119).trans ((if_neg hc12_121).trans ((if_neg hc26_126).trans ((if_neg hc35_131).trans ((if_neg hc44_136).trans ((if_neg hc55_141).trans ((if_neg hc62_146).trans (if_pos hc69_151))))))))
                  have pre155 : ∀ t, Steps p.tables e below (T153.setTop (mkF m 75 #[.val (.int p0), .val (.int p1), .val (.int (p1 / (100 : Int32)))] [(.ref wREJECTED)])) t → Steps p.tables e below (s₁.setTop (entryFrame m #[(.int p0), (.int p1)] 3)) t := by
                    intro t kk
                    refine pre152 t ?_
                    show Steps p.tables e below (s₁.setTop (mkF m 69 #[.val (.int p0), .val (.int p1), .val (.int (p1 / (100 : Int32)))] [(.int (502 : Int32)), (.int p1)])) _
                    refine XS.icmpNo X0.here hx rfl (hb hby d2_69) rfl (teq hc69_151).2 ?_
                    show Steps p.tables e below (s₁.setTop (mkF m 72 #[.val (.int p0), .val (.int p1), .val (.int (p1 / (100 : Int32)))] [])) _
                    refine st153 _ ?_
                    exact kk
                  obtain ⟨fs, hr, hrun, hended, hW, hsame⟩ := X153.leave (v := some (.ref wREJECTED)) (fun h => by rw [Bd.returns] at h; cases h)
                  refine ⟨_, _, pre155 _ ?_, hrun, hended, _, _, rfl, ?_, ⟨_, rfl⟩, hW, hsame.mono (by decide) (by decide)⟩
                  · show Steps p.tables e below (T153.setTop (mkF m 75 #[.val (.int p0), .val (.int p1), .val (.int (p1 / (100 : Int32)))] [(.ref wREJECTED)])) _
                    exact retOut X153 hx Bd.returns rfl (Or.inr (Or.inr (Or.inr (Or.inr ⟨rfl, rfl, rfl⟩)))) (hb hby d2_75) hr
                  · show Q2 Z p0 p1 wUNANSWERED wACCEPTED wREDIRECTED wREJECTED h0 n0 _ T153.heap _
                    rw [e153]
                    exact ⟨congrArg (fun z => some (Value.ref z)) hF154.symm, N0, rfl⟩
                · obtain ⟨T156, X156, e156, st156⟩ := getS2 X0 hx hZ hown (host := "") (Or.inl (hw _ (List.mem_of_getElem? (i := 10) rfl))) Via.refl e0 (S_UNANSWERED.ext O0.2) (g := (mkF m 76 #[.val (.int p0), .val (.int p1), .val (.int (p1 / (100 : Int32)))] [])) rfl (hb hby d2_76)
                  have hF157 : (F2 p0 p1 wUNANSWERED wACCEPTED wREDIRECTED wREJECTED) = wUNANSWERED := ((if_pos hc1_119).trans ((if_neg hc12_121).trans ((if_neg hc26_126).trans ((if_neg hc35_131).trans ((if_neg hc44_136).trans ((if_neg hc55_141).trans ((if_neg hc62_146).trans (if_neg hc69_151))))))))
                  have pre158 : ∀ t, Steps p.tables e below (T156.setTop (mkF m 79 #[.val (.int p0), .val (.int p1), .val (.int (p1 / (100 : Int32)))] [(.ref wUNANSWERED)])) t → Steps p.tables e below (s₁.setTop (entryFrame m #[(.int p0), (.int p1)] 3)) t := by
                    intro t kk
                    refine pre152 t ?_
                    show Steps p.tables e below (s₁.setTop (mkF m 69 #[.val (.int p0), .val (.int p1), .val (.int (p1 / (100 : Int32)))] [(.int (502 : Int32)), (.int p1)])) _
                    refine XS.icmpYes X0.here hx rfl (pc0 := 69) (pc' := 76) rfl (hb hby d2_69) rfl (feq hc69_151).2 (by decide) (by decide) ?_
                    show Steps p.tables e below (s₁.setTop (mkF m 76 #[.val (.int p0), .val (.int p1), .val (.int (p1 / (100 : Int32)))] [])) _
                    refine st156 _ ?_
                    exact kk
                  obtain ⟨fs, hr, hrun, hended, hW, hsame⟩ := X156.leave (v := some (.ref wUNANSWERED)) (fun h => by rw [Bd.returns] at h; cases h)
                  refine ⟨_, _, pre158 _ ?_, hrun, hended, _, _, rfl, ?_, ⟨_, rfl⟩, hW, hsame.mono (by decide) (by decide)⟩
                  · show Steps p.tables e below (T156.setTop (mkF m 79 #[.val (.int p0), .val (.int p1), .val (.int (p1 / (100 : Int32)))] [(.ref wUNANSWERED)])) _
                    exact retOut X156 hx Bd.returns rfl (Or.inr (Or.inr (Or.inr (Or.inr ⟨rfl, rfl, rfl⟩)))) (hb hby d2_79) hr
                  · show Q2 Z p0 p1 wUNANSWERED wACCEPTED wREDIRECTED wREJECTED h0 n0 _ T156.heap _
                    rw [e156]
                    exact ⟨congrArg (fun z => some (Value.ref z)) hF157.symm, N0, rfl⟩
  · obtain ⟨T159, X159, e159, st159⟩ := getS2 X0 hx hZ hown (host := "") (Or.inl (hw _ (List.mem_of_getElem? (i := 10) rfl))) Via.refl e0 (S_UNANSWERED.ext O0.2) (g := (mkF m 4 #[.val (.int p0), .val (.int p1), .unset] [])) rfl (hb hby d2_4)
    have hF160 : (F2 p0 p1 wUNANSWERED wACCEPTED wREDIRECTED wREJECTED) = wUNANSWERED := (if_neg hc1_119)
    have pre161 : ∀ t, Steps p.tables e below (T159.setTop (mkF m 7 #[.val (.int p0), .val (.int p1), .unset] [(.ref wUNANSWERED)])) t → Steps p.tables e below (s₁.setTop (entryFrame m #[(.int p0), (.int p1)] 3)) t := by
      intro t kk
      refine pre120 t ?_
      show Steps p.tables e below (s₁.setTop (mkF m 1 #[.val (.int p0), .val (.int p1), .unset] [(.int p0)])) _
      refine XS.ifNo X0.here hx rfl (hb hby d2_1) rfl ((if0 _ _).trans (feq hc1_119).1) ?_
      show Steps p.tables e below (s₁.setTop (mkF m 4 #[.val (.int p0), .val (.int p1), .unset] [])) _
      refine st159 _ ?_
      exact kk
    obtain ⟨fs, hr, hrun, hended, hW, hsame⟩ := X159.leave (v := some (.ref wUNANSWERED)) (fun h => by rw [Bd.returns] at h; cases h)
    refine ⟨_, _, pre161 _ ?_, hrun, hended, _, _, rfl, ?_, ⟨_, rfl⟩, hW, hsame.mono (by decide) (by decide)⟩
    · show Steps p.tables e below (T159.setTop (mkF m 7 #[.val (.int p0), .val (.int p1), .unset] [(.ref wUNANSWERED)])) _
      exact retOut X159 hx Bd.returns rfl (Or.inr (Or.inr (Or.inr (Or.inr ⟨rfl, rfl, rfl⟩)))) (hb hby d2_7) hr
    · show Q2 Z p0 p1 wUNANSWERED wACCEPTED wREDIRECTED wREJECTED h0 n0 _ T159.heap _
      rw [e159]
      exact ⟨congrArg (fun z => some (Value.ref z)) hF160.symm, N0, rfl⟩
theorem own_n (v : Int32) (wUNANSWERED wACCEPTED wREDIRECTED wREJECTED : Addr) : F1n wUNANSWERED wACCEPTED wREDIRECTED wREJECTED = F2 (1 : Int32) v wUNANSWERED wACCEPTED wREDIRECTED wREJECTED := rfl
theorem own_o (a : Addr) (v : Int32) (wUNANSWERED wACCEPTED wREDIRECTED wREJECTED : Addr) : F1o a wUNANSWERED wACCEPTED wREDIRECTED wREJECTED v = F2 (0 : Int32) v wUNANSWERED wACCEPTED wREDIRECTED wREJECTED := by
  have dv := (c_idiv v (100 : Int32) 100 (by decide) (by decide)).1
  unfold F1o F2
  rw [if_pos rfl]
  simp only [← Int32.toInt_inj, Int32.lt_iff_toInt_lt, show (2 : Int32).toInt = 2 by decide, show (3 : Int32).toInt = 3 by decide, show (4 : Int32).toInt = 4 by decide, show (200 : Int32).toInt = 200 by decide, show (299 : Int32).toInt = 299 by decide, show (300 : Int32).toInt = 300 by decide, show (399 : Int32).toInt = 399 by decide, show (400 : Int32).toInt = 400 by decide, show (500 : Int32).toInt = 500 by decide, show (501 : Int32).toInt = 501 by decide, show (502 : Int32).toInt = 502 by decide]
  generalize (v / (100 : Int32)).toInt = m at *
  generalize v.toInt = n at *
  repeat' split
  all_goals first | rfl | (exfalso; omega)
theorem pd__28I_29Ljava_2flang_2fInteger_3b : parseMethodDescriptor "(I)Ljava/lang/Integer;" = some ⟨[.int], some (.object "java/lang/Integer")⟩ := by decide +kernel
theorem pd__28Ljava_2flang_2fInteger_3b_29Lcom_2fexample_2ftidewheel_2ftidewheel_2fmodel_2fDelivery_24Answer_3b : parseMethodDescriptor "(Ljava/lang/Integer;)Lcom/example/tidewheel/tidewheel/model/Delivery$Answer;" = some ⟨[(.object "java/lang/Integer")], some (.object "com/example/tidewheel/tidewheel/model/Delivery$Answer")⟩ := by decide +kernel
theorem pd__28ZI_29Lcom_2fexample_2ftidewheel_2ftidewheel_2fmodel_2fDelivery_24Answer_3b : parseMethodDescriptor "(ZI)Lcom/example/tidewheel/tidewheel/model/Delivery$Answer;" = some ⟨[.boolean, .int], some (.object "com/example/tidewheel/tidewheel/model/Delivery$Answer")⟩ := by decide +kernel
theorem ef_0_II (m : MethodId) (x0 : Int32) (x1 : Int32) : entryFrame m #[(.int x0), (.int x1)] maxLocals = mkF m 0 #[.val (.int x0), .val (.int x1), .unset, .unset, .unset, .unset, .unset] [] := by first | (simp [entryFrame, mkF, argsToLocals, Value.category, maxLocals]; done) | rfl
def Q0 (Z : State) (p0 : Int32) (p1 : Int32) (wUNANSWERED : Addr) (wACCEPTED : Addr) (wREDIRECTED : Addr) (wREJECTED : Addr) (ca : Addr) (h0 : Heap) (n0 : Nat) (v : Option Value) (h : Heap) (L : List Loc) : Prop := v = some (.int 1) ∧ Fr n0 L
set_option maxRecDepth 65536 in
set_option maxHeartbeats 40000000 in
theorem rm0 (l : Launch) (Z : State) (aA : Array Value) (hw : ∀ d ∈ tables_1, d.before aA Z = true) (ws : List Jvm.Cond) (p0 : Int32) (p1 : Int32) (wUNANSWERED : Addr) (wACCEPTED : Addr) (wREDIRECTED : Addr) (wREJECTED : Addr) (ca : Addr) (h0 : Heap) (n0 : Nat) (Z0 : n0 ≤ h0.size) (O0 : Old Z n0 h0) (S_UNANSWERED : Sta Z Z.heap "com/example/tidewheel/tidewheel/model/Delivery$Answer" "UNANSWERED" "Lcom/example/tidewheel/tidewheel/model/Delivery$Answer;" (.ref wUNANSWERED)) (S_ACCEPTED : Sta Z Z.heap "com/example/tidewheel/tidewheel/model/Delivery$Answer" "ACCEPTED" "Lcom/example/tidewheel/tidewheel/model/Delivery$Answer;" (.ref wACCEPTED)) (S_REDIRECTED : Sta Z Z.heap "com/example/tidewheel/tidewheel/model/Delivery$Answer" "REDIRECTED" "Lcom/example/tidewheel/tidewheel/model/Delivery$Answer;" (.ref wREDIRECTED)) (S_REJECTED : Sta Z Z.heap "com/example/tidewheel/tidewheel/model/Delivery$Answer" "REJECTED" "Lcom/example/tidewheel/tidewheel/model/Delivery$Answer;" (.ref wREJECTED)) (S_high : Sta Z Z.heap "java/lang/Integer$IntegerCache" "high" "I" (.int (127 : Int32))) (S_cache : Sta Z Z.heap "java/lang/Integer$IntegerCache" "cache" "[Ljava/lang/Integer;" (.ref ca)) (C_cache : own_Cache Z Z.heap ca) :
    MetFree l x (head1 (Jvm.Cond.code x code maxLocals ret :: ws) room_1) (fun a U => a = #[(.int p0), (.int p1)] ∧ Z.Warmed39 U.vm ∧ U.heap = h0) (fun _ _ _ _ _ => True) (fun _ U o U' => ∃ v L, o = .returned v ∧ Q0 Z p0 p1 wUNANSWERED wACCEPTED wREDIRECTED wREJECTED ca h0 n0 v U'.heap L ∧ FrameEnd U o U' L room_1.cells room_1.slots) := by
  refine MetFree.of_bodySF (plainFor_of_name pn_com_example_tidewheel_tidewheel_model_AnswerOfPinLaw) hisR ?_
  intro p e s m args below meth c s₁ Bd hml0 hP hK
  obtain ⟨rfl, hZ, hh⟩ := hP
  have hx := Bd.exec
  have hby := Bd.bytes
  have hml : c.maxLocals = 7 := hml0
  have hown : s.vm.findClass "com/example/tidewheel/tidewheel/model/AnswerOfPinLaw" = some m.cls := findClass_of_methodNamed Bd.named
  have hnm := (name_of_methodNamed Bd.named Bd.method).1
  have X0 : Stand p l e room_1 s m #[(.int p0), (.int p1)] below meth c s₁ [] 0 0 := Stand.of_body Bd
  have e0 : s₁.heap = h0 := by rw [← hh, Bd.state]; rfl
  have N0 := Fr.nil n0
  have KP0 : Keep h0 h0 [] := Keep.refl h0 _
  have pre0 : ∀ t, Steps p.tables e below (s₁.setTop (mkF m 0 #[.val (.int p0), .val (.int p1), .unset, .unset, .unset, .unset, .unset] [])) t → Steps p.tables e below (s₁.setTop (entryFrame m #[(.int p0), (.int p1)] maxLocals)) t := fun t k => castTop (ef_0_II m p0 p1) k
  have pre163 : ∀ t, Steps p.tables e below (s₁.setTop (mkF m 3 #[.val (.int p0), .val (.int p1), .unset, .unset, .unset, .unset, .unset] [(.int (p1 &&& (1 : Int32)))])) t → Steps p.tables e below (s₁.setTop (entryFrame m #[(.int p0), (.int p1)] maxLocals)) t := by
    intro t kk
    refine pre0 t ?_
    show Steps p.tables e below (s₁.setTop (mkF m 0 #[.val (.int p0), .val (.int p1), .unset, .unset, .unset, .unset, .unset] [])) _
    refine XS.iloadN X0.here hx rfl (hb hby at_0) rfl ?_
    show Steps p.tables e below (s₁.setTop (mkF m 1 #[.val (.int p0), .val (.int p1), .unset, .unset, .unset, .unset, .unset] [(.int p1)])) _
    refine XS.iconst X0.here hx rfl (hb hby at_1) ?_
    show Steps p.tables e below (s₁.setTop (mkF m 2 #[.val (.int p0), .val (.int p1), .unset, .unset, .unset, .unset, .unset] [(.int (1 : Int32)), (.int p1)])) _
    refine XS.iand X0.here hx rfl (hb hby at_2) rfl ?_
    exact kk
  by_cases hc3_162 : (p1 &&& (1 : Int32)) = (0 : Int32)
  · have pre165 : ∀ t, Steps p.tables e below (s₁.setTop (mkF m 15 #[.val (.int p0), .val (.int p1), .val (.int (0 : Int32)), .unset, .unset, .unset, .unset] [(.int (p1 &&& (2 : Int32)))])) t → Steps p.tables e below (s₁.setTop (entryFrame m #[(.int p0), (.int p1)] maxLocals)) t := by
      intro t kk
      refine pre163 t ?_
      show Steps p.tables e below (s₁.setTop (mkF m 3 #[.val (.int p0), .val (.int p1), .unset, .unset, .unset, .unset, .unset] [(.int (p1 &&& (1 : Int32)))])) _
      refine XS.ifYes X0.here hx rfl (pc0 := 3) (pc' := 10) rfl (hb hby at_3) rfl ((if0 _ _).trans (teq hc3_162).1) (by decide) (by decide) ?_
      show Steps p.tables e below (s₁.setTop (mkF m 10 #[.val (.int p0), .val (.int p1), .unset, .unset, .unset, .unset, .unset] [])) _
      refine XS.iconst X0.here hx rfl (hb hby at_10) ?_
      show Steps p.tables e below (s₁.setTop (mkF m 11 #[.val (.int p0), .val (.int p1), .unset, .unset, .unset, .unset, .unset] [(.int (0 : Int32))])) _
      refine XS.istoreN X0.here hx rfl (hb hby at_11) rfl (l' := #[.val (.int p0), .val (.int p1), .val (.int (0 : Int32)), .unset, .unset, .unset, .unset]) rfl ?_
      show Steps p.tables e below (s₁.setTop (mkF m 12 #[.val (.int p0), .val (.int p1), .val (.int (0 : Int32)), .unset, .unset, .unset, .unset] [])) _
      refine XS.iloadN X0.here hx rfl (hb hby at_12) rfl ?_
      show Steps p.tables e below (s₁.setTop (mkF m 13 #[.val (.int p0), .val (.int p1), .val (.int (0 : Int32)), .unset, .unset, .unset, .unset] [(.int p1)])) _
      refine XS.iconst X0.here hx rfl (hb hby at_13) ?_
      show Steps p.tables e below (s₁.setTop (mkF m 14 #[.val (.int p0), .val (.int p1), .val (.int (0 : Int32)), .unset, .unset, .unset, .unset] [(.int (2 : Int32)), (.int p1)])) _
      refine XS.iand X0.here hx rfl (hb hby at_14) rfl ?_
      exact kk
    obtain ⟨iv166, hj_iv166⟩ : ∃ z : Int32, z = (if (p1 &&& (2 : Int32)) = (0 : Int32) then (0 : Int32) else (1 : Int32)) := ⟨_, rfl⟩
    obtain ⟨iv167, hj_iv167⟩ : ∃ z : Int32, z = (if (p1 &&& (2 : Int32)) = (0 : Int32) then ((150 : Int32) + ((p0 &&& (2147483647 : Int32)) % (420 : Int32))) else p0) := ⟨_, rfl⟩
    have pre168 : ∀ t, Steps p.tables e below (s₁.setTop (mkF m 44 #[.val (.int p0), .val (.int p1), .val (.int (0 : Int32)), .val (.int iv166), .unset, .unset, .unset] [(.int iv167)])) t → Steps p.tables e below (s₁.setTop (entryFrame m #[(.int p0), (.int p1)] maxLocals)) t := by
      intro t kk
      by_cases hc15_164 : (p1 &&& (2 : Int32)) = (0 : Int32)
      · rw [show iv166 = (0 : Int32) by rw [hj_iv166]; simp only [if_pos hc15_164]] at kk
        rw [show iv167 = ((150 : Int32) + ((p0 &&& (2147483647 : Int32)) % (420 : Int32))) by rw [hj_iv167]; simp only [if_pos hc15_164]] at kk
        refine pre165 t ?_
        show Steps p.tables e below (s₁.setTop (mkF m 15 #[.val (.int p0), .val (.int p1), .val (.int (0 : Int32)), .unset, .unset, .unset, .unset] [(.int (p1 &&& (2 : Int32)))])) _
        refine XS.ifYes X0.here hx rfl (pc0 := 15) (pc' := 22) rfl (hb hby at_15) rfl ((if0 _ _).trans (teq hc15_164).1) (by decide) (by decide) ?_
        show Steps p.tables e below (s₁.setTop (mkF m 22 #[.val (.int p0), .val (.int p1), .val (.int (0 : Int32)), .unset, .unset, .unset, .unset] [])) _
        refine XS.iconst X0.here hx rfl (hb hby at_22) ?_
        show Steps p.tables e below (s₁.setTop (mkF m 23 #[.val (.int p0), .val (.int p1), .val (.int (0 : Int32)), .unset, .unset, .unset, .unset] [(.int (0 : Int32))])) _
        refine XS.istoreN X0.here hx rfl (hb hby at_23) rfl (l' := #[.val (.int p0), .val (.int p1), .val (.int (0 : Int32)), .val (.int (0 : Int32)), .unset, .unset, .unset]) rfl ?_
        show Steps p.tables e below (s₁.setTop (mkF m 24 #[.val (.int p0), .val (.int p1), .val (.int (0 : Int32)), .val (.int (0 : Int32)), .unset, .unset, .unset] [])) _
        refine XS.iloadN X0.here hx rfl (hb hby at_24) rfl ?_
        show Steps p.tables e below (s₁.setTop (mkF m 25 #[.val (.int p0), .val (.int p1), .val (.int (0 : Int32)), .val (.int (0 : Int32)), .unset, .unset, .unset] [(.int (0 : Int32))])) _
        refine XS.ifYes X0.here hx rfl (pc0 := 25) (pc' := 32) rfl (hb hby at_25) rfl ((if0 _ _).trans (teq (by decide : (0 : Int32) = (0 : Int32))).1) (by decide) (by decide) ?_
        show Steps p.tables e below (s₁.setTop (mkF m 32 #[.val (.int p0), .val (.int p1), .val (.int (0 : Int32)), .val (.int (0 : Int32)), .unset, .unset, .unset] [])) _
        refine XS.sipush X0.here hx rfl (hb hby at_32) ?_
        show Steps p.tables e below (s₁.setTop (mkF m 35 #[.val (.int p0), .val (.int p1), .val (.int (0 : Int32)), .val (.int (0 : Int32)), .unset, .unset, .unset] [(.int (150 : Int32))])) _
        refine XS.iloadN X0.here hx rfl (hb hby at_35) rfl ?_
        show Steps p.tables e below (s₁.setTop (mkF m 36 #[.val (.int p0), .val (.int p1), .val (.int (0 : Int32)), .val (.int (0 : Int32)), .unset, .unset, .unset] [(.int p0), (.int (150 : Int32))])) _
        refine X0.ldcInt hx hown (mvT hZ (hw _ (List.mem_of_getElem? (i := 11) rfl))) (g := (mkF m 36 #[.val (.int p0), .val (.int p1), .val (.int (0 : Int32)), .val (.int (0 : Int32)), .unset, .unset, .unset] [(.int p0), (.int (150 : Int32))])) rfl (hb hby at_36) _ ?_
        show Steps p.tables e below (s₁.setTop (mkF m 38 #[.val (.int p0), .val (.int p1), .val (.int (0 : Int32)), .val (.int (0 : Int32)), .unset, .unset, .unset] [(.int (2147483647 : Int32)), (.int p0), (.int (150 : Int32))])) _
        refine XS.iand X0.here hx rfl (hb hby at_38) rfl ?_
        show Steps p.tables e below (s₁.setTop (mkF m 39 #[.val (.int p0), .val (.int p1), .val (.int (0 : Int32)), .val (.int (0 : Int32)), .unset, .unset, .unset] [(.int (p0 &&& (2147483647 : Int32))), (.int (150 : Int32))])) _
        refine XS.sipush X0.here hx rfl (hb hby at_39) ?_
        show Steps p.tables e below (s₁.setTop (mkF m 42 #[.val (.int p0), .val (.int p1), .val (.int (0 : Int32)), .val (.int (0 : Int32)), .unset, .unset, .unset] [(.int (420 : Int32)), (.int (p0 &&& (2147483647 : Int32))), (.int (150 : Int32))])) _
        refine Jvm.RoadKit.iremM X0 hx (g := (mkF m 42 #[.val (.int p0), .val (.int p1), .val (.int (0 : Int32)), .val (.int (0 : Int32)), .unset, .unset, .unset] [(.int (420 : Int32)), (.int (p0 &&& (2147483647 : Int32))), (.int (150 : Int32))])) rfl (hb hby at_42) rfl (by decide : ¬ ((420 : Int32) = (0 : Int32))) ?_
        show Steps p.tables e below (s₁.setTop (mkF m 43 #[.val (.int p0), .val (.int p1), .val (.int (0 : Int32)), .val (.int (0 : Int32)), .unset, .unset, .unset] [(.int ((p0 &&& (2147483647 : Int32)) % (420 : Int32))), (.int (150 : Int32))])) _
        refine XS.iadd X0.here hx rfl (hb hby at_43) rfl ?_
        exact kk
      · rw [show iv166 = (1 : Int32) by rw [hj_iv166]; simp only [if_neg hc15_164]] at kk
        rw [show iv167 = p0 by rw [hj_iv167]; simp only [if_neg hc15_164]] at kk
        refine pre165 t ?_
        show Steps p.tables e below (s₁.setTop (mkF m 15 #[.val (.int p0), .val (.int p1), .val (.int (0 : Int32)), .unset, .unset, .unset, .unset] [(.int (p1 &&& (2 : Int32)))])) _
        refine XS.ifNo X0.here hx rfl (hb hby at_15) rfl ((if0 _ _).trans (feq hc15_164).1) ?_
        show Steps p.tables e below (s₁.setTop (mkF m 18 #[.val (.int p0), .val (.int p1), .val (.int (0 : Int32)), .unset, .unset, .unset, .unset] [])) _
        refine XS.iconst X0.here hx rfl (hb hby at_18) ?_
        show Steps p.tables e below (s₁.setTop (mkF m 19 #[.val (.int p0), .val (.int p1), .val (.int (0 : Int32)), .unset, .unset, .unset, .unset] [(.int (1 : Int32))])) _
        refine XS.goto X0.here hx rfl (pc0 := 19) (pc' := 23) rfl (hb hby at_19) (by decide) (by decide) ?_
        show Steps p.tables e below (s₁.setTop (mkF m 23 #[.val (.int p0), .val (.int p1), .val (.int (0 : Int32)), .unset, .unset, .unset, .unset] [(.int (1 : Int32))])) _
        refine XS.istoreN X0.here hx rfl (hb hby at_23) rfl (l' := #[.val (.int p0), .val (.int p1), .val (.int (0 : Int32)), .val (.int (1 : Int32)), .unset, .unset, .unset]) rfl ?_
        show Steps p.tables e below (s₁.setTop (mkF m 24 #[.val (.int p0), .val (.int p1), .val (.int (0 : Int32)), .val (.int (1 : Int32)), .unset, .unset, .unset] [])) _
        refine XS.iloadN X0.here hx rfl (hb hby at_24) rfl ?_
        show Steps p.tables e below (s₁.setTop (mkF m 25 #[.val (.int p0), .val (.int p1), .val (.int (0 : Int32)), .val (.int (1 : Int32)), .unset, .unset, .unset] [(.int (1 : Int32))])) _
        refine XS.ifNo X0.here hx rfl (hb hby at_25) rfl ((if0 _ _).trans (feq (by decide : ¬ ((1 : Int32) = (0 : Int32)))).1) ?_
        show Steps p.tables e below (s₁.setTop (mkF m 28 #[.val (.int p0), .val (.int p1), .val (.int (0 : Int32)), .val (.int (1 : Int32)), .unset, .unset, .unset] [])) _
        refine XS.iloadN X0.here hx rfl (hb hby at_28) rfl ?_
        show Steps p.tables e below (s₁.setTop (mkF m 29 #[.val (.int p0), .val (.int p1), .val (.int (0 : Int32)), .val (.int (1 : Int32)), .unset, .unset, .unset] [(.int p0)])) _
        refine XS.goto X0.here hx rfl (pc0 := 29) (pc' := 44) rfl (hb hby at_29) (by decide) (by decide) ?_
        exact kk
    obtain ⟨_, _, ⟨T169, L169, k169, n169⟩, -, X169, ⟨Lc169, hQ169, l169, y169, z169⟩, st169⟩ := Jvm.LawKit.callS X0 hx (y := (⟨"java/lang/Integer", "valueOf", "(I)Ljava/lang/Integer;"⟩ : MethodName)) hown (mvT hZ (hw _ (List.mem_of_getElem? (i := 12) rfl))) (mvT hZ (hw _ (List.mem_of_getElem? (i := 13) rfl))) (mvT hZ (hw _ (List.mem_of_getElem? (i := 14) rfl))) (mvT hZ (hw _ (List.mem_of_getElem? (i := 15) rfl))) (by decide) (backOf (W := 0) (rm3 l Z aA hw [] iv167 ca h0 n0 Z0 O0 S_high S_cache C_cache) hZ (hw _ (List.mem_of_getElem? (i := 15) rfl)) (hw _ (List.mem_of_getElem? (i := 14) rfl)) (by decide) (by decide)) (g := (mkF m 56 #[.val (.int p0), .val (.int p1), .val (.int (0 : Int32)), .val (.int iv166), .val (.int iv167), .unset, .unset] [(.int iv167)])) rfl (by rw [hml]; rfl) (argsL := [(.int iv167)]) (rest := []) (lenOf pd__28I_29Ljava_2flang_2fInteger_3b rfl) rfl (by show 2 * 0 + _ ≤ _; exact Nat.le_of_eq rfl) (hb hby at_56) (fun _ _ => ⟨rfl, e0, (by decide : 0 + 1 ≤ _), (by decide : 0 + 1 ≤ _)⟩)
    dsimp only [Pt.U, Pt.locs, Pt.cells, Pt.slots] at X169 l169 y169 z169 st169 hQ169
    subst l169 y169 z169
    obtain ⟨b169, rfl, N169q, K169, Eq169, Fq169⟩ := hQ169
    have N169 := Fr.app N0 N169q
    have KP169 : Keep h0 T169.heap [] := KP0.trans K169 all0
    have Z169 : n0 ≤ T169.heap.size := Nat.le_trans Z0 K169.1
    have O_170 : Old Z n0 T169.heap := O0.keep K169 all0
    obtain ⟨_, _, ⟨T171, L171, k171, n171⟩, -, X171, ⟨Lc171, hQ171, l171, y171, z171⟩, st171⟩ := Jvm.LawKit.callS X169 hx (y := (⟨"com/example/tidewheel/tidewheel/model/Delivery$Answer", "of", "(Ljava/lang/Integer;)Lcom/example/tidewheel/tidewheel/model/Delivery$Answer;"⟩ : MethodName)) hown (mvT hZ (hw _ (List.mem_of_getElem? (i := 0) rfl))) (mvT hZ (hw _ (List.mem_of_getElem? (i := 1) rfl))) (mvT hZ (hw _ (List.mem_of_getElem? (i := 2) rfl))) (mvT hZ (hw _ (List.mem_of_getElem? (i := 3) rfl))) (by decide) (backOf (W := 0) (rm1o l Z aA hw [] b169 wUNANSWERED wACCEPTED wREDIRECTED wREJECTED iv167 T169.heap n0 Z169 O_170 S_UNANSWERED S_ACCEPTED S_REDIRECTED S_REJECTED Eq169 Fq169) hZ (hw _ (List.mem_of_getElem? (i := 3) rfl)) (hw _ (List.mem_of_getElem? (i := 2) rfl)) (by decide) (by decide)) (g := (mkF m 63 #[.val (.int p0), .val (.int p1), .val (.int (0 : Int32)), .val (.int iv166), .val (.int iv167), .val (.ref b169), .unset] [(.ref b169)])) rfl (by rw [hml]; rfl) (argsL := [(.ref b169)]) (rest := []) (lenOf pd__28Ljava_2flang_2fInteger_3b_29Lcom_2fexample_2ftidewheel_2ftidewheel_2fmodel_2fDelivery_24Answer_3b rfl) rfl (by show 2 * 0 + _ ≤ _; exact Nat.le_of_eq rfl) (hb hby at_63) (fun _ _ => ⟨rfl, rfl, (by decide : 1 + 0 ≤ _), (by decide : 1 + 0 ≤ _)⟩)
    dsimp only [Pt.U, Pt.locs, Pt.cells, Pt.slots] at X171 l171 y171 z171 st171 hQ171
    subst l171 y171 z171
    obtain ⟨rfl, N171q, e171⟩ := hQ171
    have N171 := Fr.app N169 N171q
    obtain ⟨_, _, ⟨T172, L172, k172, n172⟩, -, X172, ⟨Lc172, hQ172, l172, y172, z172⟩, st172⟩ := Jvm.LawKit.callS X171 hx (y := (⟨"com/example/tidewheel/tidewheel/model/AnswerOfPinLaw", "expected", "(ZI)Lcom/example/tidewheel/tidewheel/model/Delivery$Answer;"⟩ : MethodName)) hown (mvT hZ (hw _ (List.mem_of_getElem? (i := 6) rfl))) (mvT hZ (hw _ (List.mem_of_getElem? (i := 7) rfl))) (mvT hZ (hw _ (List.mem_of_getElem? (i := 8) rfl))) (mvT hZ (hw _ (List.mem_of_getElem? (i := 9) rfl))) (by decide) (backOf (W := 1) (rm2 l Z aA hw [] (0 : Int32) iv167 wUNANSWERED wACCEPTED wREDIRECTED wREJECTED T169.heap n0 Z169 O_170 S_UNANSWERED S_ACCEPTED S_REDIRECTED S_REJECTED) hZ (hw _ (List.mem_of_getElem? (i := 9) rfl)) (hw _ (List.mem_of_getElem? (i := 8) rfl)) (by decide) (by decide)) (g := (mkF m 73 #[.val (.int p0), .val (.int p1), .val (.int (0 : Int32)), .val (.int iv166), .val (.int iv167), .val (.ref b169), .val (.ref (F1o b169 wUNANSWERED wACCEPTED wREDIRECTED wREJECTED iv167))] [(.int iv167), (.int (0 : Int32)), (.ref (F1o b169 wUNANSWERED wACCEPTED wREDIRECTED wREJECTED iv167))])) rfl (by rw [hml]; rfl) (argsL := [(.int (0 : Int32)), (.int iv167)]) (rest := [(.ref (F1o b169 wUNANSWERED wACCEPTED wREDIRECTED wREJECTED iv167))]) (lenOf pd__28ZI_29Lcom_2fexample_2ftidewheel_2ftidewheel_2fmodel_2fDelivery_24Answer_3b rfl) rfl (by show 2 * 0 + _ ≤ _; exact Nat.le_of_eq rfl) (hb hby at_73) (fun _ _ => ⟨rfl, e171, (by decide : 1 + 0 ≤ _), (by decide : 1 + 0 ≤ _)⟩)
    dsimp only [Pt.U, Pt.locs, Pt.cells, Pt.slots] at X172 l172 y172 z172 st172 hQ172
    subst l172 y172 z172
    obtain ⟨rfl, N172q, e172⟩ := hQ172
    have N172 := Fr.app N171 N172q
    have pre173 : ∀ t, Steps p.tables e below (T172.setTop (mkF m 84 #[.val (.int p0), .val (.int p1), .val (.int (0 : Int32)), .val (.int iv166), .val (.int iv167), .val (.ref b169), .val (.ref (F1o b169 wUNANSWERED wACCEPTED wREDIRECTED wREJECTED iv167))] [(.int (1 : Int32))])) t → Steps p.tables e below (s₁.setTop (entryFrame m #[(.int p0), (.int p1)] maxLocals)) t := by
      intro t kk
      refine pre168 t ?_
      show Steps p.tables e below (s₁.setTop (mkF m 44 #[.val (.int p0), .val (.int p1), .val (.int (0 : Int32)), .val (.int iv166), .unset, .unset, .unset] [(.int iv167)])) _
      refine XS.istore X0.here hx rfl (hb hby at_44) rfl (l' := #[.val (.int p0), .val (.int p1), .val (.int (0 : Int32)), .val (.int iv166), .val (.int iv167), .unset, .unset]) rfl ?_
      show Steps p.tables e below (s₁.setTop (mkF m 46 #[.val (.int p0), .val (.int p1), .val (.int (0 : Int32)), .val (.int iv166), .val (.int iv167), .unset, .unset] [])) _
      refine XS.iloadN X0.here hx rfl (hb hby at_46) rfl ?_
      show Steps p.tables e below (s₁.setTop (mkF m 47 #[.val (.int p0), .val (.int p1), .val (.int (0 : Int32)), .val (.int iv166), .val (.int iv167), .unset, .unset] [(.int (0 : Int32))])) _
      refine XS.ifYes X0.here hx rfl (pc0 := 47) (pc' := 54) rfl (hb hby at_47) rfl ((if0 _ _).trans (teq (by decide : (0 : Int32) = (0 : Int32))).1) (by decide) (by decide) ?_
      show Steps p.tables e below (s₁.setTop (mkF m 54 #[.val (.int p0), .val (.int p1), .val (.int (0 : Int32)), .val (.int iv166), .val (.int iv167), .unset, .unset] [])) _
      refine XS.iload X0.here hx rfl (hb hby at_54) rfl ?_
      show Steps p.tables e below (s₁.setTop (mkF m 56 #[.val (.int p0), .val (.int p1), .val (.int (0 : Int32)), .val (.int iv166), .val (.int iv167), .unset, .unset] [(.int iv167)])) _
      refine st169 _ ?_
      show Steps p.tables e below (T169.setTop (mkF m 59 #[.val (.int p0), .val (.int p1), .val (.int (0 : Int32)), .val (.int iv166), .val (.int iv167), .unset, .unset] [(.ref b169)])) _
      refine XS.astore X169.here hx rfl (hb hby at_59) rfl rfl (l' := #[.val (.int p0), .val (.int p1), .val (.int (0 : Int32)), .val (.int iv166), .val (.int iv167), .val (.ref b169), .unset]) rfl ?_
      show Steps p.tables e below (T169.setTop (mkF m 61 #[.val (.int p0), .val (.int p1), .val (.int (0 : Int32)), .val (.int iv166), .val (.int iv167), .val (.ref b169), .unset] [])) _
      refine XS.aload X169.here hx rfl (hb hby at_61) rfl rfl ?_
      show Steps p.tables e below (T169.setTop (mkF m 63 #[.val (.int p0), .val (.int p1), .val (.int (0 : Int32)), .val (.int iv166), .val (.int iv167), .val (.ref b169), .unset] [(.ref b169)])) _
      refine st171 _ ?_
      show Steps p.tables e below (T171.setTop (mkF m 66 #[.val (.int p0), .val (.int p1), .val (.int (0 : Int32)), .val (.int iv166), .val (.int iv167), .val (.ref b169), .unset] [(.ref (F1o b169 wUNANSWERED wACCEPTED wREDIRECTED wREJECTED iv167))])) _
      refine XS.astore X171.here hx rfl (hb hby at_66) rfl rfl (l' := #[.val (.int p0), .val (.int p1), .val (.int (0 : Int32)), .val (.int iv166), .val (.int iv167), .val (.ref b169), .val (.ref (F1o b169 wUNANSWERED wACCEPTED wREDIRECTED wREJECTED iv167))]) rfl ?_
      show Steps p.tables e below (T171.setTop (mkF m 68 #[.val (.int p0), .val (.int p1), .val (.int (0 : Int32)), .val (.int iv166), .val (.int iv167), .val (.ref b169), .val (.ref (F1o b169 wUNANSWERED wACCEPTED wREDIRECTED wREJECTED iv167))] [])) _
      refine XS.aload X171.here hx rfl (hb hby at_68) rfl rfl ?_
      show Steps p.tables e below (T171.setTop (mkF m 70 #[.val (.int p0), .val (.int p1), .val (.int (0 : Int32)), .val (.int iv166), .val (.int iv167), .val (.ref b169), .val (.ref (F1o b169 wUNANSWERED wACCEPTED wREDIRECTED wREJECTED iv167))] [(.ref (F1o b169 wUNANSWERED wACCEPTED wREDIRECTED wREJECTED iv167))])) _
      refine XS.iloadN X171.here hx rfl (hb hby at_70) rfl ?_
      show Steps p.tables e below (T171.setTop (mkF m 71 #[.val (.int p0), .val (.int p1), .val (.int (0 : Int32)), .val (.int iv166), .val (.int iv167), .val (.ref b169), .val (.ref (F1o b169 wUNANSWERED wACCEPTED wREDIRECTED wREJECTED iv167))] [(.int (0 : Int32)), (.ref (F1o b169 wUNANSWERED wACCEPTED wREDIRECTED wREJECTED iv167))])) _
      refine XS.iload X171.here hx rfl (hb hby at_71) rfl ?_
      show Steps p.tables e below (T171.setTop (mkF m 73 #[.val (.int p0), .val (.int p1), .val (.int (0 : Int32)), .val (.int iv166), .val (.int iv167), .val (.ref b169), .val (.ref (F1o b169 wUNANSWERED wACCEPTED wREDIRECTED wREJECTED iv167))] [(.int iv167), (.int (0 : Int32)), (.ref (F1o b169 wUNANSWERED wACCEPTED wREDIRECTED wREJECTED iv167))])) _
      refine st172 _ ?_
      show Steps p.tables e below (T172.setTop (mkF m 76 #[.val (.int p0), .val (.int p1), .val (.int (0 : Int32)), .val (.int iv166), .val (.int iv167), .val (.ref b169), .val (.ref (F1o b169 wUNANSWERED wACCEPTED wREDIRECTED wREJECTED iv167))] [(.ref (F2 (0 : Int32) iv167 wUNANSWERED wACCEPTED wREDIRECTED wREJECTED)), (.ref (F1o b169 wUNANSWERED wACCEPTED wREDIRECTED wREJECTED iv167))])) _
      refine Jvm.RoadKit.acmp (g := (mkF m 76 #[.val (.int p0), .val (.int p1), .val (.int (0 : Int32)), .val (.int iv166), .val (.int iv167), .val (.ref b169), .val (.ref (F1o b169 wUNANSWERED wACCEPTED wREDIRECTED wREJECTED iv167))] [(.ref (F2 (0 : Int32) iv167 wUNANSWERED wACCEPTED wREDIRECTED wREJECTED)), (.ref (F1o b169 wUNANSWERED wACCEPTED wREDIRECTED wREJECTED iv167))])) X172 hx rfl rfl rfl (pc0 := 76) (pc' := 79) (same := true) rfl (hb hby at_76) rfl (decide_eq_true (congrArg Value.ref (own_o b169 iv167 wUNANSWERED wACCEPTED wREDIRECTED wREJECTED))) (by decide) (by decide) ?_
      show Steps p.tables e below (T172.setTop (mkF m 79 #[.val (.int p0), .val (.int p1), .val (.int (0 : Int32)), .val (.int iv166), .val (.int iv167), .val (.ref b169), .val (.ref (F1o b169 wUNANSWERED wACCEPTED wREDIRECTED wREJECTED iv167))] [])) _
      refine XS.iconst X172.here hx rfl (hb hby at_79) ?_
      show Steps p.tables e below (T172.setTop (mkF m 80 #[.val (.int p0), .val (.int p1), .val (.int (0 : Int32)), .val (.int iv166), .val (.int iv167), .val (.ref b169), .val (.ref (F1o b169 wUNANSWERED wACCEPTED wREDIRECTED wREJECTED iv167))] [(.int (1 : Int32))])) _
      refine XS.goto X172.here hx rfl (pc0 := 80) (pc' := 84) rfl (hb hby at_80) (by decide) (by decide) ?_
      exact kk
    obtain ⟨fs, hr, hrun, hended, hW, hsame⟩ := X172.leave (v := some (.int (1 : Int32))) (fun h => by rw [Bd.returns] at h; cases h)
    refine ⟨_, _, pre173 _ ?_, hrun, hended, _, _, rfl, ?_, ⟨_, rfl⟩, hW, hsame.mono (by decide) (by decide)⟩
    · show Steps p.tables e below (T172.setTop (mkF m 84 #[.val (.int p0), .val (.int p1), .val (.int (0 : Int32)), .val (.int iv166), .val (.int iv167), .val (.ref b169), .val (.ref (F1o b169 wUNANSWERED wACCEPTED wREDIRECTED wREJECTED iv167))] [(.int (1 : Int32))])) _
      exact retN X172 hx (t := .boolean) Bd.returns (by simp) (hb hby at_84) hr
    · show Q0 Z p0 p1 wUNANSWERED wACCEPTED wREDIRECTED wREJECTED ca h0 n0 _ T172.heap _
      rw [e172]
      exact ⟨rfl, N172⟩
  · have pre175 : ∀ t, Steps p.tables e below (s₁.setTop (mkF m 15 #[.val (.int p0), .val (.int p1), .val (.int (1 : Int32)), .unset, .unset, .unset, .unset] [(.int (p1 &&& (2 : Int32)))])) t → Steps p.tables e below (s₁.setTop (entryFrame m #[(.int p0), (.int p1)] maxLocals)) t := by
      intro t kk
      refine pre163 t ?_
      show Steps p.tables e below (s₁.setTop (mkF m 3 #[.val (.int p0), .val (.int p1), .unset, .unset, .unset, .unset, .unset] [(.int (p1 &&& (1 : Int32)))])) _
      refine XS.ifNo X0.here hx rfl (hb hby at_3) rfl ((if0 _ _).trans (feq hc3_162).1) ?_
      show Steps p.tables e below (s₁.setTop (mkF m 6 #[.val (.int p0), .val (.int p1), .unset, .unset, .unset, .unset, .unset] [])) _
      refine XS.iconst X0.here hx rfl (hb hby at_6) ?_
      show Steps p.tables e below (s₁.setTop (mkF m 7 #[.val (.int p0), .val (.int p1), .unset, .unset, .unset, .unset, .unset] [(.int (1 : Int32))])) _
      refine XS.goto X0.here hx rfl (pc0 := 7) (pc' := 11) rfl (hb hby at_7) (by decide) (by decide) ?_
      show Steps p.tables e below (s₁.setTop (mkF m 11 #[.val (.int p0), .val (.int p1), .unset, .unset, .unset, .unset, .unset] [(.int (1 : Int32))])) _
      refine XS.istoreN X0.here hx rfl (hb hby at_11) rfl (l' := #[.val (.int p0), .val (.int p1), .val (.int (1 : Int32)), .unset, .unset, .unset, .unset]) rfl ?_
      show Steps p.tables e below (s₁.setTop (mkF m 12 #[.val (.int p0), .val (.int p1), .val (.int (1 : Int32)), .unset, .unset, .unset, .unset] [])) _
      refine XS.iloadN X0.here hx rfl (hb hby at_12) rfl ?_
      show Steps p.tables e below (s₁.setTop (mkF m 13 #[.val (.int p0), .val (.int p1), .val (.int (1 : Int32)), .unset, .unset, .unset, .unset] [(.int p1)])) _
      refine XS.iconst X0.here hx rfl (hb hby at_13) ?_
      show Steps p.tables e below (s₁.setTop (mkF m 14 #[.val (.int p0), .val (.int p1), .val (.int (1 : Int32)), .unset, .unset, .unset, .unset] [(.int (2 : Int32)), (.int p1)])) _
      refine XS.iand X0.here hx rfl (hb hby at_14) rfl ?_
      exact kk
    obtain ⟨iv176, hj_iv176⟩ : ∃ z : Int32, z = (if (p1 &&& (2 : Int32)) = (0 : Int32) then (0 : Int32) else (1 : Int32)) := ⟨_, rfl⟩
    obtain ⟨iv177, hj_iv177⟩ : ∃ z : Int32, z = (if (p1 &&& (2 : Int32)) = (0 : Int32) then ((150 : Int32) + ((p0 &&& (2147483647 : Int32)) % (420 : Int32))) else p0) := ⟨_, rfl⟩
    have pre178 : ∀ t, Steps p.tables e below (s₁.setTop (mkF m 44 #[.val (.int p0), .val (.int p1), .val (.int (1 : Int32)), .val (.int iv176), .unset, .unset, .unset] [(.int iv177)])) t → Steps p.tables e below (s₁.setTop (entryFrame m #[(.int p0), (.int p1)] maxLocals)) t := by
      intro t kk
      by_cases hc15_174 : (p1 &&& (2 : Int32)) = (0 : Int32)
      · rw [show iv176 = (0 : Int32) by rw [hj_iv176]; simp only [if_pos hc15_174]] at kk
        rw [show iv177 = ((150 : Int32) + ((p0 &&& (2147483647 : Int32)) % (420 : Int32))) by rw [hj_iv177]; simp only [if_pos hc15_174]] at kk
        refine pre175 t ?_
        show Steps p.tables e below (s₁.setTop (mkF m 15 #[.val (.int p0), .val (.int p1), .val (.int (1 : Int32)), .unset, .unset, .unset, .unset] [(.int (p1 &&& (2 : Int32)))])) _
        refine XS.ifYes X0.here hx rfl (pc0 := 15) (pc' := 22) rfl (hb hby at_15) rfl ((if0 _ _).trans (teq hc15_174).1) (by decide) (by decide) ?_
        show Steps p.tables e below (s₁.setTop (mkF m 22 #[.val (.int p0), .val (.int p1), .val (.int (1 : Int32)), .unset, .unset, .unset, .unset] [])) _
        refine XS.iconst X0.here hx rfl (hb hby at_22) ?_
        show Steps p.tables e below (s₁.setTop (mkF m 23 #[.val (.int p0), .val (.int p1), .val (.int (1 : Int32)), .unset, .unset, .unset, .unset] [(.int (0 : Int32))])) _
        refine XS.istoreN X0.here hx rfl (hb hby at_23) rfl (l' := #[.val (.int p0), .val (.int p1), .val (.int (1 : Int32)), .val (.int (0 : Int32)), .unset, .unset, .unset]) rfl ?_
        show Steps p.tables e below (s₁.setTop (mkF m 24 #[.val (.int p0), .val (.int p1), .val (.int (1 : Int32)), .val (.int (0 : Int32)), .unset, .unset, .unset] [])) _
        refine XS.iloadN X0.here hx rfl (hb hby at_24) rfl ?_
        show Steps p.tables e below (s₁.setTop (mkF m 25 #[.val (.int p0), .val (.int p1), .val (.int (1 : Int32)), .val (.int (0 : Int32)), .unset, .unset, .unset] [(.int (0 : Int32))])) _
        refine XS.ifYes X0.here hx rfl (pc0 := 25) (pc' := 32) rfl (hb hby at_25) rfl ((if0 _ _).trans (teq (by decide : (0 : Int32) = (0 : Int32))).1) (by decide) (by decide) ?_
        show Steps p.tables e below (s₁.setTop (mkF m 32 #[.val (.int p0), .val (.int p1), .val (.int (1 : Int32)), .val (.int (0 : Int32)), .unset, .unset, .unset] [])) _
        refine XS.sipush X0.here hx rfl (hb hby at_32) ?_
        show Steps p.tables e below (s₁.setTop (mkF m 35 #[.val (.int p0), .val (.int p1), .val (.int (1 : Int32)), .val (.int (0 : Int32)), .unset, .unset, .unset] [(.int (150 : Int32))])) _
        refine XS.iloadN X0.here hx rfl (hb hby at_35) rfl ?_
        show Steps p.tables e below (s₁.setTop (mkF m 36 #[.val (.int p0), .val (.int p1), .val (.int (1 : Int32)), .val (.int (0 : Int32)), .unset, .unset, .unset] [(.int p0), (.int (150 : Int32))])) _
        refine X0.ldcInt hx hown (mvT hZ (hw _ (List.mem_of_getElem? (i := 11) rfl))) (g := (mkF m 36 #[.val (.int p0), .val (.int p1), .val (.int (1 : Int32)), .val (.int (0 : Int32)), .unset, .unset, .unset] [(.int p0), (.int (150 : Int32))])) rfl (hb hby at_36) _ ?_
        show Steps p.tables e below (s₁.setTop (mkF m 38 #[.val (.int p0), .val (.int p1), .val (.int (1 : Int32)), .val (.int (0 : Int32)), .unset, .unset, .unset] [(.int (2147483647 : Int32)), (.int p0), (.int (150 : Int32))])) _
        refine XS.iand X0.here hx rfl (hb hby at_38) rfl ?_
        show Steps p.tables e below (s₁.setTop (mkF m 39 #[.val (.int p0), .val (.int p1), .val (.int (1 : Int32)), .val (.int (0 : Int32)), .unset, .unset, .unset] [(.int (p0 &&& (2147483647 : Int32))), (.int (150 : Int32))])) _
        refine XS.sipush X0.here hx rfl (hb hby at_39) ?_
        show Steps p.tables e below (s₁.setTop (mkF m 42 #[.val (.int p0), .val (.int p1), .val (.int (1 : Int32)), .val (.int (0 : Int32)), .unset, .unset, .unset] [(.int (420 : Int32)), (.int (p0 &&& (2147483647 : Int32))), (.int (150 : Int32))])) _
        refine Jvm.RoadKit.iremM X0 hx (g := (mkF m 42 #[.val (.int p0), .val (.int p1), .val (.int (1 : Int32)), .val (.int (0 : Int32)), .unset, .unset, .unset] [(.int (420 : Int32)), (.int (p0 &&& (2147483647 : Int32))), (.int (150 : Int32))])) rfl (hb hby at_42) rfl (by decide : ¬ ((420 : Int32) = (0 : Int32))) ?_
        show Steps p.tables e below (s₁.setTop (mkF m 43 #[.val (.int p0), .val (.int p1), .val (.int (1 : Int32)), .val (.int (0 : Int32)), .unset, .unset, .unset] [(.int ((p0 &&& (2147483647 : Int32)) % (420 : Int32))), (.int (150 : Int32))])) _
        refine XS.iadd X0.here hx rfl (hb hby at_43) rfl ?_
        exact kk
      · rw [show iv176 = (1 : Int32) by rw [hj_iv176]; simp only [if_neg hc15_174]] at kk
        rw [show iv177 = p0 by rw [hj_iv177]; simp only [if_neg hc15_174]] at kk
        refine pre175 t ?_
        show Steps p.tables e below (s₁.setTop (mkF m 15 #[.val (.int p0), .val (.int p1), .val (.int (1 : Int32)), .unset, .unset, .unset, .unset] [(.int (p1 &&& (2 : Int32)))])) _
        refine XS.ifNo X0.here hx rfl (hb hby at_15) rfl ((if0 _ _).trans (feq hc15_174).1) ?_
        show Steps p.tables e below (s₁.setTop (mkF m 18 #[.val (.int p0), .val (.int p1), .val (.int (1 : Int32)), .unset, .unset, .unset, .unset] [])) _
        refine XS.iconst X0.here hx rfl (hb hby at_18) ?_
        show Steps p.tables e below (s₁.setTop (mkF m 19 #[.val (.int p0), .val (.int p1), .val (.int (1 : Int32)), .unset, .unset, .unset, .unset] [(.int (1 : Int32))])) _
        refine XS.goto X0.here hx rfl (pc0 := 19) (pc' := 23) rfl (hb hby at_19) (by decide) (by decide) ?_
        show Steps p.tables e below (s₁.setTop (mkF m 23 #[.val (.int p0), .val (.int p1), .val (.int (1 : Int32)), .unset, .unset, .unset, .unset] [(.int (1 : Int32))])) _
        refine XS.istoreN X0.here hx rfl (hb hby at_23) rfl (l' := #[.val (.int p0), .val (.int p1), .val (.int (1 : Int32)), .val (.int (1 : Int32)), .unset, .unset, .unset]) rfl ?_
        show Steps p.tables e below (s₁.setTop (mkF m 24 #[.val (.int p0), .val (.int p1), .val (.int (1 : Int32)), .val (.int (1 : Int32)), .unset, .unset, .unset] [])) _
        refine XS.iloadN X0.here hx rfl (hb hby at_24) rfl ?_
        show Steps p.tables e below (s₁.setTop (mkF m 25 #[.val (.int p0), .val (.int p1), .val (.int (1 : Int32)), .val (.int (1 : Int32)), .unset, .unset, .unset] [(.int (1 : Int32))])) _
        refine XS.ifNo X0.here hx rfl (hb hby at_25) rfl ((if0 _ _).trans (feq (by decide : ¬ ((1 : Int32) = (0 : Int32)))).1) ?_
        show Steps p.tables e below (s₁.setTop (mkF m 28 #[.val (.int p0), .val (.int p1), .val (.int (1 : Int32)), .val (.int (1 : Int32)), .unset, .unset, .unset] [])) _
        refine XS.iloadN X0.here hx rfl (hb hby at_28) rfl ?_
        show Steps p.tables e below (s₁.setTop (mkF m 29 #[.val (.int p0), .val (.int p1), .val (.int (1 : Int32)), .val (.int (1 : Int32)), .unset, .unset, .unset] [(.int p0)])) _
        refine XS.goto X0.here hx rfl (pc0 := 29) (pc' := 44) rfl (hb hby at_29) (by decide) (by decide) ?_
        exact kk
    obtain ⟨_, _, ⟨T179, L179, k179, n179⟩, -, X179, ⟨Lc179, hQ179, l179, y179, z179⟩, st179⟩ := Jvm.LawKit.callS X0 hx (y := (⟨"com/example/tidewheel/tidewheel/model/Delivery$Answer", "of", "(Ljava/lang/Integer;)Lcom/example/tidewheel/tidewheel/model/Delivery$Answer;"⟩ : MethodName)) hown (mvT hZ (hw _ (List.mem_of_getElem? (i := 0) rfl))) (mvT hZ (hw _ (List.mem_of_getElem? (i := 1) rfl))) (mvT hZ (hw _ (List.mem_of_getElem? (i := 2) rfl))) (mvT hZ (hw _ (List.mem_of_getElem? (i := 3) rfl))) (by decide) (backOf (W := 0) (rm1n l Z aA hw []  wUNANSWERED wACCEPTED wREDIRECTED wREJECTED h0 n0 Z0 O0 S_UNANSWERED S_ACCEPTED S_REDIRECTED S_REJECTED) hZ (hw _ (List.mem_of_getElem? (i := 3) rfl)) (hw _ (List.mem_of_getElem? (i := 2) rfl)) (by decide) (by decide)) (g := (mkF m 63 #[.val (.int p0), .val (.int p1), .val (.int (1 : Int32)), .val (.int iv176), .val (.int iv177), .val .null, .unset] [.null])) rfl (by rw [hml]; rfl) (argsL := [.null]) (rest := []) (lenOf pd__28Ljava_2flang_2fInteger_3b_29Lcom_2fexample_2ftidewheel_2ftidewheel_2fmodel_2fDelivery_24Answer_3b rfl) rfl (by show 2 * 0 + _ ≤ _; exact Nat.le_of_eq rfl) (hb hby at_63) (fun _ _ => ⟨rfl, e0, (by decide : 0 + 0 ≤ _), (by decide : 0 + 0 ≤ _)⟩)
    dsimp only [Pt.U, Pt.locs, Pt.cells, Pt.slots] at X179 l179 y179 z179 st179 hQ179
    subst l179 y179 z179
    obtain ⟨rfl, N179q, e179⟩ := hQ179
    have N179 := Fr.app N0 N179q
    obtain ⟨_, _, ⟨T180, L180, k180, n180⟩, -, X180, ⟨Lc180, hQ180, l180, y180, z180⟩, st180⟩ := Jvm.LawKit.callS X179 hx (y := (⟨"com/example/tidewheel/tidewheel/model/AnswerOfPinLaw", "expected", "(ZI)Lcom/example/tidewheel/tidewheel/model/Delivery$Answer;"⟩ : MethodName)) hown (mvT hZ (hw _ (List.mem_of_getElem? (i := 6) rfl))) (mvT hZ (hw _ (List.mem_of_getElem? (i := 7) rfl))) (mvT hZ (hw _ (List.mem_of_getElem? (i := 8) rfl))) (mvT hZ (hw _ (List.mem_of_getElem? (i := 9) rfl))) (by decide) (backOf (W := 1) (rm2 l Z aA hw [] (1 : Int32) iv177 wUNANSWERED wACCEPTED wREDIRECTED wREJECTED h0 n0 Z0 O0 S_UNANSWERED S_ACCEPTED S_REDIRECTED S_REJECTED) hZ (hw _ (List.mem_of_getElem? (i := 9) rfl)) (hw _ (List.mem_of_getElem? (i := 8) rfl)) (by decide) (by decide)) (g := (mkF m 73 #[.val (.int p0), .val (.int p1), .val (.int (1 : Int32)), .val (.int iv176), .val (.int iv177), .val .null, .val (.ref (F1n wUNANSWERED wACCEPTED wREDIRECTED wREJECTED))] [(.int iv177), (.int (1 : Int32)), (.ref (F1n wUNANSWERED wACCEPTED wREDIRECTED wREJECTED))])) rfl (by rw [hml]; rfl) (argsL := [(.int (1 : Int32)), (.int iv177)]) (rest := [(.ref (F1n wUNANSWERED wACCEPTED wREDIRECTED wREJECTED))]) (lenOf pd__28ZI_29Lcom_2fexample_2ftidewheel_2ftidewheel_2fmodel_2fDelivery_24Answer_3b rfl) rfl (by show 2 * 0 + _ ≤ _; exact Nat.le_of_eq rfl) (hb hby at_73) (fun _ _ => ⟨rfl, e179, (by decide : 0 + 0 ≤ _), (by decide : 0 + 0 ≤ _)⟩)
    dsimp only [Pt.U, Pt.locs, Pt.cells, Pt.slots] at X180 l180 y180 z180 st180 hQ180
    subst l180 y180 z180
    obtain ⟨rfl, N180q, e180⟩ := hQ180
    have N180 := Fr.app N179 N180q
    have pre181 : ∀ t, Steps p.tables e below (T180.setTop (mkF m 84 #[.val (.int p0), .val (.int p1), .val (.int (1 : Int32)), .val (.int iv176), .val (.int iv177), .val .null, .val (.ref (F1n wUNANSWERED wACCEPTED wREDIRECTED wREJECTED))] [(.int (1 : Int32))])) t → Steps p.tables e below (s₁.setTop (entryFrame m #[(.int p0), (.int p1)] maxLocals)) t := by
      intro t kk
      refine pre178 t ?_
      show Steps p.tables e below (s₁.setTop (mkF m 44 #[.val (.int p0), .val (.int p1), .val (.int (1 : Int32)), .val (.int iv176), .unset, .unset, .unset] [(.int iv177)])) _
      refine XS.istore X0.here hx rfl (hb hby at_44) rfl (l' := #[.val (.int p0), .val (.int p1), .val (.int (1 : Int32)), .val (.int iv176), .val (.int iv177), .unset, .unset]) rfl ?_
      show Steps p.tables e below (s₁.setTop (mkF m 46 #[.val (.int p0), .val (.int p1), .val (.int (1 : Int32)), .val (.int iv176), .val (.int iv177), .unset, .unset] [])) _
      refine XS.iloadN X0.here hx rfl (hb hby at_46) rfl ?_
      show Steps p.tables e below (s₁.setTop (mkF m 47 #[.val (.int p0), .val (.int p1), .val (.int (1 : Int32)), .val (.int iv176), .val (.int iv177), .unset, .unset] [(.int (1 : Int32))])) _
      refine XS.ifNo X0.here hx rfl (hb hby at_47) rfl ((if0 _ _).trans (feq (by decide : ¬ ((1 : Int32) = (0 : Int32)))).1) ?_
      show Steps p.tables e below (s₁.setTop (mkF m 50 #[.val (.int p0), .val (.int p1), .val (.int (1 : Int32)), .val (.int iv176), .val (.int iv177), .unset, .unset] [])) _
      refine XS.aconstNull X0.here hx rfl (hb hby at_50) ?_
      show Steps p.tables e below (s₁.setTop (mkF m 51 #[.val (.int p0), .val (.int p1), .val (.int (1 : Int32)), .val (.int iv176), .val (.int iv177), .unset, .unset] [.null])) _
      refine XS.goto X0.here hx rfl (pc0 := 51) (pc' := 59) rfl (hb hby at_51) (by decide) (by decide) ?_
      show Steps p.tables e below (s₁.setTop (mkF m 59 #[.val (.int p0), .val (.int p1), .val (.int (1 : Int32)), .val (.int iv176), .val (.int iv177), .unset, .unset] [.null])) _
      refine XS.astore X0.here hx rfl (hb hby at_59) rfl rfl (l' := #[.val (.int p0), .val (.int p1), .val (.int (1 : Int32)), .val (.int iv176), .val (.int iv177), .val .null, .unset]) rfl ?_
      show Steps p.tables e below (s₁.setTop (mkF m 61 #[.val (.int p0), .val (.int p1), .val (.int (1 : Int32)), .val (.int iv176), .val (.int iv177), .val .null, .unset] [])) _
      refine XS.aload X0.here hx rfl (hb hby at_61) rfl rfl ?_
      show Steps p.tables e below (s₁.setTop (mkF m 63 #[.val (.int p0), .val (.int p1), .val (.int (1 : Int32)), .val (.int iv176), .val (.int iv177), .val .null, .unset] [.null])) _
      refine st179 _ ?_
      show Steps p.tables e below (T179.setTop (mkF m 66 #[.val (.int p0), .val (.int p1), .val (.int (1 : Int32)), .val (.int iv176), .val (.int iv177), .val .null, .unset] [(.ref (F1n wUNANSWERED wACCEPTED wREDIRECTED wREJECTED))])) _
      refine XS.astore X179.here hx rfl (hb hby at_66) rfl rfl (l' := #[.val (.int p0), .val (.int p1), .val (.int (1 : Int32)), .val (.int iv176), .val (.int iv177), .val .null, .val (.ref (F1n wUNANSWERED wACCEPTED wREDIRECTED wREJECTED))]) rfl ?_
      show Steps p.tables e below (T179.setTop (mkF m 68 #[.val (.int p0), .val (.int p1), .val (.int (1 : Int32)), .val (.int iv176), .val (.int iv177), .val .null, .val (.ref (F1n wUNANSWERED wACCEPTED wREDIRECTED wREJECTED))] [])) _
      refine XS.aload X179.here hx rfl (hb hby at_68) rfl rfl ?_
      show Steps p.tables e below (T179.setTop (mkF m 70 #[.val (.int p0), .val (.int p1), .val (.int (1 : Int32)), .val (.int iv176), .val (.int iv177), .val .null, .val (.ref (F1n wUNANSWERED wACCEPTED wREDIRECTED wREJECTED))] [(.ref (F1n wUNANSWERED wACCEPTED wREDIRECTED wREJECTED))])) _
      refine XS.iloadN X179.here hx rfl (hb hby at_70) rfl ?_
      show Steps p.tables e below (T179.setTop (mkF m 71 #[.val (.int p0), .val (.int p1), .val (.int (1 : Int32)), .val (.int iv176), .val (.int iv177), .val .null, .val (.ref (F1n wUNANSWERED wACCEPTED wREDIRECTED wREJECTED))] [(.int (1 : Int32)), (.ref (F1n wUNANSWERED wACCEPTED wREDIRECTED wREJECTED))])) _
      refine XS.iload X179.here hx rfl (hb hby at_71) rfl ?_
      show Steps p.tables e below (T179.setTop (mkF m 73 #[.val (.int p0), .val (.int p1), .val (.int (1 : Int32)), .val (.int iv176), .val (.int iv177), .val .null, .val (.ref (F1n wUNANSWERED wACCEPTED wREDIRECTED wREJECTED))] [(.int iv177), (.int (1 : Int32)), (.ref (F1n wUNANSWERED wACCEPTED wREDIRECTED wREJECTED))])) _
      refine st180 _ ?_
      show Steps p.tables e below (T180.setTop (mkF m 76 #[.val (.int p0), .val (.int p1), .val (.int (1 : Int32)), .val (.int iv176), .val (.int iv177), .val .null, .val (.ref (F1n wUNANSWERED wACCEPTED wREDIRECTED wREJECTED))] [(.ref (F2 (1 : Int32) iv177 wUNANSWERED wACCEPTED wREDIRECTED wREJECTED)), (.ref (F1n wUNANSWERED wACCEPTED wREDIRECTED wREJECTED))])) _
      refine Jvm.RoadKit.acmp (g := (mkF m 76 #[.val (.int p0), .val (.int p1), .val (.int (1 : Int32)), .val (.int iv176), .val (.int iv177), .val .null, .val (.ref (F1n wUNANSWERED wACCEPTED wREDIRECTED wREJECTED))] [(.ref (F2 (1 : Int32) iv177 wUNANSWERED wACCEPTED wREDIRECTED wREJECTED)), (.ref (F1n wUNANSWERED wACCEPTED wREDIRECTED wREJECTED))])) X180 hx rfl rfl rfl (pc0 := 76) (pc' := 79) (same := true) rfl (hb hby at_76) rfl (decide_eq_true (congrArg Value.ref (own_n iv177 wUNANSWERED wACCEPTED wREDIRECTED wREJECTED))) (by decide) (by decide) ?_
      show Steps p.tables e below (T180.setTop (mkF m 79 #[.val (.int p0), .val (.int p1), .val (.int (1 : Int32)), .val (.int iv176), .val (.int iv177), .val .null, .val (.ref (F1n wUNANSWERED wACCEPTED wREDIRECTED wREJECTED))] [])) _
      refine XS.iconst X180.here hx rfl (hb hby at_79) ?_
      show Steps p.tables e below (T180.setTop (mkF m 80 #[.val (.int p0), .val (.int p1), .val (.int (1 : Int32)), .val (.int iv176), .val (.int iv177), .val .null, .val (.ref (F1n wUNANSWERED wACCEPTED wREDIRECTED wREJECTED))] [(.int (1 : Int32))])) _
      refine XS.goto X180.here hx rfl (pc0 := 80) (pc' := 84) rfl (hb hby at_80) (by decide) (by decide) ?_
      exact kk
    obtain ⟨fs, hr, hrun, hended, hW, hsame⟩ := X180.leave (v := some (.int (1 : Int32))) (fun h => by rw [Bd.returns] at h; cases h)
    refine ⟨_, _, pre181 _ ?_, hrun, hended, _, _, rfl, ?_, ⟨_, rfl⟩, hW, hsame.mono (by decide) (by decide)⟩
    · show Steps p.tables e below (T180.setTop (mkF m 84 #[.val (.int p0), .val (.int p1), .val (.int (1 : Int32)), .val (.int iv176), .val (.int iv177), .val .null, .val (.ref (F1n wUNANSWERED wACCEPTED wREDIRECTED wREJECTED))] [(.int (1 : Int32))])) _
      exact retN X180 hx (t := .boolean) Bd.returns (by simp) (hb hby at_84) hr
    · show Q0 Z p0 p1 wUNANSWERED wACCEPTED wREDIRECTED wREJECTED ca h0 n0 _ T180.heap _
      rw [e180]
      exact ⟨rfl, N180⟩
set_option maxRecDepth 65536 in
set_option maxHeartbeats 40000000 in
theorem comes_1 {Post : Tables → Env → Array Value → State → Outcome → State → Prop} (hpost : ∀ tb e args s v u, (limb_1_1.after args s (.returned v) u = true ∧ limb_1_2.after args s (.returned v) u = true ∧ True) → FrameEnd s (.returned v) u (Jvm.fieldLocs frame_1_writes args s ++ Jvm.arrayLocs frame_1_arrays args s ++ Jvm.staticLocs frame_1_statics s) 16 128 → Post tb e args s (.returned v) u) :
    ArmFor flags0 classFile x code maxLocals ret World_1 tables_1 room_1 Calls_1 rest_1 Pre_1 Post := by
  intro l hfl _ _ p e ha hc hk s m args below hf hA hF happ hP
  obtain ⟨hcalls, hrest, hpre⟩ := hP
  obtain ⟨-, -, -, hnamed, -, -, -, hat⟩ := (Spec.applies_iff hf).mp happ
  obtain ⟨hg, hn⟩ := and_e (Cond.before_iff.mp (show (Jvm.Cond.and given_1 narrow_1).before args s = true from hpre))
  obtain ⟨hcount, hg0⟩ := and_e hg
  obtain ⟨ga0, hg1⟩ := and_e hg0
  have ga1 := hg1
  obtain ⟨w0, w1, rfl⟩ : ∃ w0 w1 : Value, args = #[w0, w1] := by
    have hs : args.size = 2 := by simpa [Cond.value, given_1] using hcount
    obtain ⟨L⟩ := args
    match L, hs with
    | [w0, w1], _ => exact ⟨w0, w1, rfl⟩
  have hw := fun d (hd : d ∈ tables_1) => atoms_spec (ws := Jvm.Cond.code x code maxLocals ret :: tables_1) hat d (List.mem_cons_of_mem _ hd)
  have hfit : Fit s := fun {y c} hc i hi => by
    obtain ⟨ha, rfl⟩ := Array.getElem?_eq_some_iff.mp hc
    have q := List.all_eq_true.mp ((Array.all_eq_true_iff_forall_mem.mp hF) _ (Array.getElem_mem ha)) i (List.mem_range.mpr hi)
    simpa [Array.getElem?_eq_getElem hi] using q
  obtain ⟨hsets, hown0⟩ := atoms_of _ (rest_1_c_eq ▸ (show rest_1_c.before _ s = true from hrest))
  have hr0 := Cond.before_iff.mp hown0
  obtain ⟨i0, ei0⟩ := is_v ga0
  obtain rfl : w0 = (.int i0) := Option.some.inj ei0
  obtain ⟨i1, ei1⟩ := is_v ga1
  obtain rfl : w1 = (.int i1) := Option.some.inj ei1
  obtain ⟨hn_0, hn_r0⟩ := and_e hn
  obtain ⟨hn_1, hn_r1⟩ := and_e hn_r0
  obtain ⟨hn_2, hn_r2⟩ := and_e hn_r1
  have hn_3 := hn_r2
  obtain ⟨wUNANSWERED, vUNANSWERED⟩ := exa_v hn_0
  have S_UNANSWERED : Sta s s.heap "com/example/tidewheel/tidewheel/model/Delivery$Answer" "UNANSWERED" "Lcom/example/tidewheel/tidewheel/model/Delivery$Answer;" (.ref wUNANSWERED) := Sta.start vUNANSWERED (Or.inr ⟨(hw _ (List.mem_of_getElem? (i := 2) rfl)), (hw _ (List.mem_of_getElem? (i := 5) rfl))⟩)
  have X_UNANSWERED : Exa s s.heap wUNANSWERED "com/example/tidewheel/tidewheel/model/Delivery$Answer" := Exa.start vUNANSWERED hn_0
  obtain ⟨wREDIRECTED, vREDIRECTED⟩ := exa_v hn_1
  have S_REDIRECTED : Sta s s.heap "com/example/tidewheel/tidewheel/model/Delivery$Answer" "REDIRECTED" "Lcom/example/tidewheel/tidewheel/model/Delivery$Answer;" (.ref wREDIRECTED) := Sta.start vREDIRECTED (Or.inr ⟨(hw _ (List.mem_of_getElem? (i := 2) rfl)), (hw _ (List.mem_of_getElem? (i := 41) rfl))⟩)
  have X_REDIRECTED : Exa s s.heap wREDIRECTED "com/example/tidewheel/tidewheel/model/Delivery$Answer" := Exa.start vREDIRECTED hn_1
  obtain ⟨wREJECTED, vREJECTED⟩ := exa_v hn_2
  have S_REJECTED : Sta s s.heap "com/example/tidewheel/tidewheel/model/Delivery$Answer" "REJECTED" "Lcom/example/tidewheel/tidewheel/model/Delivery$Answer;" (.ref wREJECTED) := Sta.start vREJECTED (Or.inr ⟨(hw _ (List.mem_of_getElem? (i := 2) rfl)), (hw _ (List.mem_of_getElem? (i := 44) rfl))⟩)
  have X_REJECTED : Exa s s.heap wREJECTED "com/example/tidewheel/tidewheel/model/Delivery$Answer" := Exa.start vREJECTED hn_2
  obtain ⟨wACCEPTED, vACCEPTED⟩ := exa_v hn_3
  have S_ACCEPTED : Sta s s.heap "com/example/tidewheel/tidewheel/model/Delivery$Answer" "ACCEPTED" "Lcom/example/tidewheel/tidewheel/model/Delivery$Answer;" (.ref wACCEPTED) := Sta.start vACCEPTED (Or.inr ⟨(hw _ (List.mem_of_getElem? (i := 2) rfl)), (hw _ (List.mem_of_getElem? (i := 48) rfl))⟩)
  have X_ACCEPTED : Exa s s.heap wACCEPTED "com/example/tidewheel/tidewheel/model/Delivery$Answer" := Exa.start vACCEPTED hn_3
  obtain ⟨ca, vca⟩ := arr_v (Cond.before_iff.mp (hsets _ (List.mem_of_getElem? (i := 4) rfl)))
  obtain ⟨cla, Aca⟩ := Arr.start vca (Cond.before_iff.mp (hsets _ (List.mem_of_getElem? (i := 4) rfl)))
  have hArr : s.arrayAt? ca = some cla := Aca.fin (Vm.Alike.refl _)
  obtain ⟨lv, l1, l2⟩ := Cond.eq_worth (Cond.before_iff.mp (hsets _ (List.mem_of_getElem? (i := 6) rfl)))
  have l3 : lv = .int (256 : Int32) := (Option.some.inj l2).symm
  subst l3
  obtain ⟨l4, l5⟩ := own_len l1 vca hArr
  have l6 : cla.slots.size = 256 := by
    have q := len_toInt l4
    rw [l5] at q
    have q2 : (256 : Int32).toInt = 256 := by decide
    rw [q2] at q
    omega
  have C_cache : own_Cache s s.heap ca := by
    refine ⟨cla, Aca, l6, fun j hj => ?_⟩
    have hlt : j.toNatClampNeg < cla.slots.size := Nat.lt_of_not_le fun q => hj (Or.inr q)
    have qa := Cond.all_elim vca hArr (Cond.before_iff.mp (hsets _ (List.mem_of_getElem? (i := 7) rfl))) j.toNatClampNeg hlt
    obtain ⟨q1, q2⟩ := and_e qa
    obtain ⟨b, vb⟩ := exa_v q1
    refine ⟨b, (elem_in vb vca (idx_at (fun q => hj (Or.inl q))) Aca.1).2, exa_at vb q1, ?_⟩
    exact Fld.start (by
        obtain ⟨vv, f1, f2⟩ := Cond.eq_worth q2
        rw [fld_at vb] at f1
        have f3 : (Term.sub (Term.index 0) (Term.int (128 : Int32))).eval #[(.int i0), (.int i1)] s none [j.toNatClampNeg] s = some (.int (j - 128)) := own_sub (idx_at (fun q => hj (Or.inl q))) rfl
        exact f1.trans (f2.symm.trans f3))
  obtain ⟨hv, hv1, hv2⟩ := Cond.eq_worth (Cond.before_iff.mp (hsets _ (List.mem_of_getElem? (i := 3) rfl)))
  have hv3 : hv = .int (127 : Int32) := (Option.some.inj hv2).symm
  subst hv3
  have S_high : Sta s s.heap "java/lang/Integer$IntegerCache" "high" "I" (.int (127 : Int32)) := Sta.start hv1 (Or.inl (hsets _ (List.mem_of_getElem? (i := 1) rfl)))
  have S_cache : Sta s s.heap "java/lang/Integer$IntegerCache" "cache" "[Ljava/lang/Integer;" (.ref ca) := Sta.start vca (Or.inr ⟨(hw _ (List.mem_of_getElem? (i := 17) rfl)), hsets _ (List.mem_of_getElem? (i := 2) rfl)⟩)
  obtain ⟨n, o, h1, h2, h3, _, L, rfl, ⟨rfl, N⟩, hq⟩ := rm0 l s _ hw tables_1 i0 i1 wUNANSWERED wACCEPTED wREDIRECTED wREJECTED ca s.heap s.heap.size (Nat.le_refl _) (Old.start s) S_UNANSWERED S_ACCEPTED S_REDIRECTED S_REJECTED S_high S_cache C_cache p e ha hc hk s m _ below hf ((Spec.applies_iff_loose hf).mp happ).1 ⟨rfl, State.Warmed39.refl s, rfl⟩ trivial
  refine ⟨n, _, h1, h2, h3, hpost _ _ _ _ _ _ ⟨Cond.after_iff.mpr rfl, Cond.after_iff.mpr (eq_i res_at (Term.int_eval (1)) rfl), trivial⟩ ⟨hq.1, hq.2.1, (hq.2.2.sift fun y hy => Or.inr (N y hy)).mono (by decide) (by decide)⟩⟩
theorem main_1_1 : Claimed_1_1 := comes_1 fun _ _ _ _ _ _ h hF => ⟨h.1, hF⟩
theorem main_1_2 : Claimed_1_2 := comes_1 fun _ _ _ _ _ _ h hF => ⟨h.2.1, hF⟩
end Jvm.Pilot.@@N@@
namespace Jvm.Pilot.@@N@@
open Jvm Jvm.ClassFile Sem Op Lib Jvm.Free Jvm.Stand Jvm.Pilot.@@N@@.Jvm.D
/-! MADE BY PROGRAM (witnessworld.py) out of the Statement's table words and the real class files: 17 classes; the members and pool entries that the words name. The judged class is class 1, her method 1. -/
namespace start1
open Jvm.ClassFile
def u (s : String) : CpInfo := .utf8 (stringToUtf16 s)
/-- a pool by its gaps: so many unusable entries, then the entry; so many at the end -/
def gap : Nat → List CpInfo → List CpInfo
  | 0, r => r
  | n + 1, r => .unusable :: gap n r
def poolList (es : List (Nat × CpInfo)) (last : Nat) : List CpInfo := es.foldr (fun e r => gap e.1 (e.2 :: r)) (gap last [])
def pool (es : List (Nat × CpInfo)) (last : Nat) : Array CpInfo := ⟨poolList es last⟩
def fileOf (pool : Array CpInfo) (this : Nat) (attrs : Array Attribute := #[]) (ms : Array MethodInfo := #[]) (fl : Nat := 33) (sup : Nat := 0) (ifs : Array Nat := #[]) (fds : Array FieldInfo := #[]) : ClassFile where
  minorVersion := 0
  majorVersion := 65
  constantPool := pool
  accessFlags := fl
  thisClass := this
  superClass := sup
  interfaces := ifs
  fields := fds
  methods := ms
  attributes := attrs
def plain (name : String) (sup : Option ClassId) : Class where
  name := name
  kind := .ordinary
  loader := none
  accessFlags := 33
  super := sup
  interfaces := #[]
  cf := none
  fields := #[]
  methods := #[]
  instanceTypes := #[]
  staticTypes := #[]
  resolved := #[]
  callSites := []
  init := .initialized
  statics := none
  mirror := none

def pool0 : Array CpInfo := pool [(5, u "<init>"), (0, u "()V"), (1, .class_ 10), (1, u "java/lang/Object")] 113

def k0c0 : Code := { maxStack := 0, maxLocals := 1, code := object_method_1_code, exceptionTable := #[], attributes := #[] }
def k0m0 : Method := { name := "<init>", desc := "()V", sig := { parameters := [], returnType := none }, accessFlags := 1, code := some k0c0 }
/-- java/lang/Object -/
def k0 : Class := { plain "java/lang/Object" none with
  accessFlags := 33
  interfaces := #[]
  cf := some (fileOf pool0 8 #[] #[{ accessFlags := 1, nameIndex := 5, descriptorIndex := 6, attributes := #[] }] 33 0 #[] #[])
  fields := #[]
  methods := #[k0m0]
  instanceTypes := #[]
  staticTypes := #[]
  resolved := Array.replicate 124 none
  statics := none }

def pool1 : Array CpInfo := pool [(2, .class_ 4), (1, u "java/lang/Object"), (0, u "<init>"), (0, u "()V"), (0, .integer 2147483647), (0, .methodref 9 10), (0, .class_ 11), (0, .nameAndType 12 13), (0, u "java/lang/Integer"), (0, u "valueOf"), (0, u "(I)Ljava/lang/Integer;"), (0, .methodref 15 16), (0, .class_ 17), (0, .nameAndType 18 19), (0, u "com/example/tidewheel/tidewheel/model/Delivery$Answer"), (0, u "of"), (0, u "(Ljava/lang/Integer;)Lcom/example/tidewheel/tidewheel/model/Delivery$Answer;"), (0, .methodref 21 22), (0, .class_ 23), (0, .nameAndType 24 25), (0, u "com/example/tidewheel/tidewheel/model/AnswerOfPinLaw"), (0, u "expected"), (0, u "(ZI)Lcom/example/tidewheel/tidewheel/model/Delivery$Answer;"), (0, .fieldref 15 27), (0, .nameAndType 28 29), (0, u "UNANSWERED"), (0, u "Lcom/example/tidewheel/tidewheel/model/Delivery$Answer;"), (0, .fieldref 15 31), (0, .nameAndType 32 29), (0, u "ACCEPTED"), (0, .fieldref 15 34), (0, .nameAndType 35 29), (0, u "REDIRECTED"), (0, .fieldref 15 37), (0, .nameAndType 38 29), (0, u "REJECTED"), (2, u "law"), (0, u "(II)Z")] 7

def k1m0 : Method := { name := "<init>", desc := "()V", sig := { parameters := [], returnType := none }, accessFlags := 1, code := none }
def k1c1 : Code := { maxStack := 3, maxLocals := 7, code := code, exceptionTable := #[], attributes := #[] }
def k1m1 : Method := { name := "law", desc := "(II)Z", sig := { parameters := [.int, .int], returnType := some .boolean }, accessFlags := 9, code := some k1c1 }
def k1c2 : Code := { maxStack := 2, maxLocals := 3, code := method_3_code, exceptionTable := #[], attributes := #[] }
def k1m2 : Method := { name := "expected", desc := "(ZI)Lcom/example/tidewheel/tidewheel/model/Delivery$Answer;", sig := { parameters := [.boolean, .int], returnType := some (.object "com/example/tidewheel/tidewheel/model/Delivery$Answer") }, accessFlags := 10, code := some k1c2 }
/-- com/example/tidewheel/tidewheel/model/AnswerOfPinLaw -/
def k1 : Class := { plain "com/example/tidewheel/tidewheel/model/AnswerOfPinLaw" (some 0) with
  accessFlags := 49
  interfaces := #[]
  cf := some (fileOf pool1 21 #[] #[{ accessFlags := 1, nameIndex := 5, descriptorIndex := 6, attributes := #[] }, { accessFlags := 9, nameIndex := 41, descriptorIndex := 42, attributes := #[] }, { accessFlags := 10, nameIndex := 24, descriptorIndex := 25, attributes := #[] }] 49 2 #[] #[])
  fields := #[]
  methods := #[k1m0, k1m1, k1m2]
  instanceTypes := #[]
  staticTypes := #[]
  resolved := Array.replicate 50 none
  statics := none }

def pool2 : Array CpInfo := pool [(1, .class_ 2), (0, u "java/lang/constant/Constable"), (0, .class_ 4), (0, u "java/lang/Object")] 6

/-- java/lang/constant/Constable -/
def k2 : Class := { plain "java/lang/constant/Constable" (some 0) with
  accessFlags := 1537
  interfaces := #[]
  cf := some (fileOf pool2 1 #[] #[] 1537 3 #[] #[])
  fields := #[]
  methods := #[]
  instanceTypes := #[]
  staticTypes := #[]
  resolved := Array.replicate 11 none
  statics := none }

def pool3 : Array CpInfo := pool [(1, .class_ 2), (0, u "java/lang/Comparable"), (0, .class_ 4), (0, u "java/lang/Object")] 7

/-- java/lang/Comparable -/
def k3 : Class := { plain "java/lang/Comparable" (some 0) with
  accessFlags := 1537
  interfaces := #[]
  cf := some (fileOf pool3 1 #[] #[] 1537 3 #[] #[])
  fields := #[]
  methods := #[]
  instanceTypes := #[]
  staticTypes := #[]
  resolved := Array.replicate 12 none
  statics := none }

def pool4 : Array CpInfo := pool [(1, .class_ 2), (0, u "java/io/Serializable"), (0, .class_ 4), (0, u "java/lang/Object")] 2

/-- java/io/Serializable -/
def k4 : Class := { plain "java/io/Serializable" (some 0) with
  accessFlags := 1537
  interfaces := #[]
  cf := some (fileOf pool4 1 #[] #[] 1537 3 #[] #[])
  fields := #[]
  methods := #[]
  instanceTypes := #[]
  staticTypes := #[]
  resolved := Array.replicate 7 none
  statics := none }

def pool5 : Array CpInfo := pool [(2, .class_ 4), (1, u "java/lang/Enum"), (0, u "name"), (0, u "Ljava/lang/String;"), (2, u "ordinal"), (0, u "I"), (1, .class_ 14), (1, u "java/lang/Object"), (4, u "hash"), (86, .class_ 108), (1, u "java/lang/Enum$EnumDesc"), (2, .class_ 112), (0, u "java/lang/constant/Constable"), (0, .class_ 114), (0, u "java/lang/Comparable"), (0, .class_ 116), (0, u "java/io/Serializable")] 87

/-- java/lang/Enum -/
def k5 : Class := { plain "java/lang/Enum" (some 0) with
  accessFlags := 1057
  interfaces := #[2, 3, 4]
  cf := some (fileOf pool5 2 #[.nestMembers #[106]] #[] 1057 12 #[111, 113, 115] #[{ accessFlags := 18, nameIndex := 5, descriptorIndex := 6, attributes := #[] }, { accessFlags := 18, nameIndex := 9, descriptorIndex := 10, attributes := #[] }, { accessFlags := 2, nameIndex := 19, descriptorIndex := 10, attributes := #[] }])
  fields := #[{ name := "name", type := (.object "java/lang/String"), accessFlags := 18, slot := 0, constantValue := 0 }, { name := "ordinal", type := .int, accessFlags := 18, slot := 1, constantValue := 0 }, { name := "hash", type := .int, accessFlags := 2, slot := 2, constantValue := 0 }]
  methods := #[]
  instanceTypes := #[(.object "java/lang/String"), .int, .int]
  staticTypes := #[]
  resolved := Array.replicate 204 none
  statics := none }

def pool6 : Array CpInfo := pool [(1, .class_ 2), (0, u "com/example/tidewheel/tidewheel/model/Delivery$Answer"), (0, .fieldref 1 4), (0, .nameAndType 5 6), (0, u "ACCEPTED"), (0, u "Lcom/example/tidewheel/tidewheel/model/Delivery$Answer;"), (0, .fieldref 1 8), (0, .nameAndType 9 6), (0, u "REDIRECTED"), (0, .fieldref 1 11), (0, .nameAndType 12 6), (0, u "REJECTED"), (0, .fieldref 1 14), (0, .nameAndType 15 6), (0, u "UNANSWERED"), (2, u "$VALUES"), (0, u "[Lcom/example/tidewheel/tidewheel/model/Delivery$Answer;"), (6, .class_ 28), (1, u "java/lang/Enum"), (8, u "retried"), (0, u "Z"), (2, u "disables"), (0, .methodref 43 44), (0, .class_ 45), (0, .nameAndType 46 47), (0, u "java/lang/Integer"), (0, u "intValue"), (0, u "()I"), (19, u "of"), (0, u "(Ljava/lang/Integer;)Lcom/example/tidewheel/tidewheel/model/Delivery$Answer;"), (7, .class_ 77), (0, u "com/example/tidewheel/tidewheel/model/Delivery")] 2

def k6c0 : Code := { maxStack := 2, maxLocals := 2, code := prog_23_method_5_code, exceptionTable := #[], attributes := #[] }
def k6m0 : Method := { name := "of", desc := "(Ljava/lang/Integer;)Lcom/example/tidewheel/tidewheel/model/Delivery$Answer;", sig := { parameters := [(.object "java/lang/Integer")], returnType := some (.object "com/example/tidewheel/tidewheel/model/Delivery$Answer") }, accessFlags := 9, code := some k6c0 }
/-- com/example/tidewheel/tidewheel/model/Delivery$Answer -/
def k6 : Class := { plain "com/example/tidewheel/tidewheel/model/Delivery$Answer" (some 5) with
  accessFlags := 16433
  interfaces := #[]
  cf := some (fileOf pool6 1 #[.nestHost 76] #[{ accessFlags := 9, nameIndex := 67, descriptorIndex := 68, attributes := #[] }] 16433 26 #[] #[{ accessFlags := 16409, nameIndex := 5, descriptorIndex := 6, attributes := #[] }, { accessFlags := 16409, nameIndex := 9, descriptorIndex := 6, attributes := #[] }, { accessFlags := 16409, nameIndex := 12, descriptorIndex := 6, attributes := #[] }, { accessFlags := 16409, nameIndex := 15, descriptorIndex := 6, attributes := #[] }, { accessFlags := 18, nameIndex := 37, descriptorIndex := 38, attributes := #[] }, { accessFlags := 18, nameIndex := 41, descriptorIndex := 38, attributes := #[] }, { accessFlags := 4122, nameIndex := 18, descriptorIndex := 19, attributes := #[] }])
  fields := #[{ name := "ACCEPTED", type := (.object "com/example/tidewheel/tidewheel/model/Delivery$Answer"), accessFlags := 16409, slot := 0, constantValue := 0 }, { name := "REDIRECTED", type := (.object "com/example/tidewheel/tidewheel/model/Delivery$Answer"), accessFlags := 16409, slot := 1, constantValue := 0 }, { name := "REJECTED", type := (.object "com/example/tidewheel/tidewheel/model/Delivery$Answer"), accessFlags := 16409, slot := 2, constantValue := 0 }, { name := "UNANSWERED", type := (.object "com/example/tidewheel/tidewheel/model/Delivery$Answer"), accessFlags := 16409, slot := 3, constantValue := 0 }, { name := "retried", type := .boolean, accessFlags := 18, slot := 3, constantValue := 0 }, { name := "disables", type := .boolean, accessFlags := 18, slot := 4, constantValue := 0 }, { name := "$VALUES", type := (.array (.object "com/example/tidewheel/tidewheel/model/Delivery$Answer")), accessFlags := 4122, slot := 4, constantValue := 0 }]
  methods := #[k6m0]
  instanceTypes := #[(.object "java/lang/String"), .int, .int, .boolean, .boolean]
  staticTypes := #[(.object "com/example/tidewheel/tidewheel/model/Delivery$Answer"), (.object "com/example/tidewheel/tidewheel/model/Delivery$Answer"), (.object "com/example/tidewheel/tidewheel/model/Delivery$Answer"), (.object "com/example/tidewheel/tidewheel/model/Delivery$Answer"), (.array (.object "com/example/tidewheel/tidewheel/model/Delivery$Answer"))]
  resolved := Array.replicate 80 none
  statics := some 0 }

def pool7 : Array CpInfo := pool [(1, .methodref 2 3), (0, .class_ 4), (0, .nameAndType 5 6), (0, u "java/lang/Object"), (0, u "<init>"), (0, u "()V"), (1, .class_ 10), (1, u "java/lang/Number"), (2, .class_ 14), (0, u "java/io/Serializable"), (0, u "serialVersionUID"), (0, u "J")] 20

def k7c0 : Code := { maxStack := 1, maxLocals := 1, code := jdk_18_method_1_code, exceptionTable := #[], attributes := #[] }
def k7m0 : Method := { name := "<init>", desc := "()V", sig := { parameters := [], returnType := none }, accessFlags := 1, code := some k7c0 }
/-- java/lang/Number -/
def k7 : Class := { plain "java/lang/Number" (some 0) with
  accessFlags := 1057
  interfaces := #[4]
  cf := some (fileOf pool7 8 #[] #[{ accessFlags := 1, nameIndex := 5, descriptorIndex := 6, attributes := #[] }] 1057 2 #[13] #[{ accessFlags := 26, nameIndex := 15, descriptorIndex := 16, attributes := #[] }])
  fields := #[{ name := "serialVersionUID", type := .long, accessFlags := 26, slot := 0, constantValue := 0 }]
  methods := #[k7m0]
  instanceTypes := #[]
  staticTypes := #[.long]
  resolved := Array.replicate 37 none
  statics := none }

def pool8 : Array CpInfo := pool [(1, .class_ 2), (0, u "java/lang/constant/ConstantDesc"), (0, .class_ 4), (0, u "java/lang/Object")] 32

/-- java/lang/constant/ConstantDesc -/
def k8 : Class := { plain "java/lang/constant/ConstantDesc" (some 0) with
  accessFlags := 1537
  interfaces := #[]
  cf := some (fileOf pool8 1 #[] #[] 1537 3 #[] #[])
  fields := #[]
  methods := #[]
  instanceTypes := #[]
  staticTypes := #[]
  resolved := Array.replicate 37 none
  statics := none }

def pool9 : Array CpInfo := pool [(1, .class_ 2), (0, u "java/lang/Integer"), (16, u "digits"), (0, u "[C"), (46, u "<init>"), (17, u "DigitOnes"), (0, u "[B"), (2, u "DigitTens"), (10, .nameAndType 67 101), (0, u "()V"), (19, u "()I"), (65, u "valueOf"), (0, u "(I)Ljava/lang/Integer;"), (0, .class_ 190), (0, u "java/lang/Integer$IntegerCache"), (0, .fieldref 189 192), (0, .nameAndType 193 194), (0, u "high"), (0, u "I"), (0, .fieldref 189 196), (0, .nameAndType 197 198), (0, u "cache"), (0, u "[Ljava/lang/Integer;"), (0, .methodref 1 200), (0, .nameAndType 67 201), (0, u "(I)V"), (0, .methodref 203 100), (0, .class_ 204), (0, u "java/lang/Number"), (0, .fieldref 1 206), (0, .nameAndType 207 194), (0, u "value"), (5, u "intValue"), (88, u "TYPE"), (0, u "Ljava/lang/Class;"), (0, .class_ 305), (0, u "java/lang/Comparable"), (0, .class_ 307), (0, u "java/lang/constant/Constable"), (0, .class_ 309), (0, u "java/lang/constant/ConstantDesc"), (0, u "MIN_VALUE"), (1, u "MAX_VALUE"), (3, u "SIZE"), (1, u "BYTES"), (1, u "serialVersionUID"), (0, u "J")] 131

def k9c0 : Code := { maxStack := 3, maxLocals := 1, code := jdk_33_method_22_code, exceptionTable := #[], attributes := #[] }
def k9m0 : Method := { name := "valueOf", desc := "(I)Ljava/lang/Integer;", sig := { parameters := [.int], returnType := some (.object "java/lang/Integer") }, accessFlags := 9, code := some k9c0 }
def k9c1 : Code := { maxStack := 2, maxLocals := 2, code := jdk_33_method_23_code, exceptionTable := #[], attributes := #[] }
def k9m1 : Method := { name := "<init>", desc := "(I)V", sig := { parameters := [.int], returnType := none }, accessFlags := 1, code := some k9c1 }
def k9c2 : Code := { maxStack := 1, maxLocals := 1, code := jdk_33_method_27_code, exceptionTable := #[], attributes := #[] }
def k9m2 : Method := { name := "intValue", desc := "()I", sig := { parameters := [], returnType := some .int }, accessFlags := 1, code := some k9c2 }
/-- java/lang/Integer -/
def k9 : Class := { plain "java/lang/Integer" (some 7) with
  accessFlags := 49
  interfaces := #[3, 2, 8]
  cf := some (fileOf pool9 1 #[.nestMembers #[189]] #[{ accessFlags := 9, nameIndex := 187, descriptorIndex := 188, attributes := #[] }, { accessFlags := 1, nameIndex := 67, descriptorIndex := 201, attributes := #[] }, { accessFlags := 1, nameIndex := 213, descriptorIndex := 121, attributes := #[] }] 49 203 #[304, 306, 308] #[{ accessFlags := 25, nameIndex := 310, descriptorIndex := 194, attributes := #[] }, { accessFlags := 25, nameIndex := 312, descriptorIndex := 194, attributes := #[] }, { accessFlags := 25, nameIndex := 302, descriptorIndex := 303, attributes := #[] }, { accessFlags := 24, nameIndex := 19, descriptorIndex := 20, attributes := #[] }, { accessFlags := 24, nameIndex := 89, descriptorIndex := 86, attributes := #[] }, { accessFlags := 24, nameIndex := 85, descriptorIndex := 86, attributes := #[] }, { accessFlags := 18, nameIndex := 207, descriptorIndex := 194, attributes := #[] }, { accessFlags := 25, nameIndex := 316, descriptorIndex := 194, attributes := #[] }, { accessFlags := 25, nameIndex := 318, descriptorIndex := 194, attributes := #[] }, { accessFlags := 26, nameIndex := 320, descriptorIndex := 321, attributes := #[] }])
  fields := #[{ name := "MIN_VALUE", type := .int, accessFlags := 25, slot := 0, constantValue := 0 }, { name := "MAX_VALUE", type := .int, accessFlags := 25, slot := 1, constantValue := 0 }, { name := "TYPE", type := (.object "java/lang/Class"), accessFlags := 25, slot := 2, constantValue := 0 }, { name := "digits", type := (.array .char), accessFlags := 24, slot := 3, constantValue := 0 }, { name := "DigitTens", type := (.array .byte), accessFlags := 24, slot := 4, constantValue := 0 }, { name := "DigitOnes", type := (.array .byte), accessFlags := 24, slot := 5, constantValue := 0 }, { name := "value", type := .int, accessFlags := 18, slot := 0, constantValue := 0 }, { name := "SIZE", type := .int, accessFlags := 25, slot := 6, constantValue := 0 }, { name := "BYTES", type := .int, accessFlags := 25, slot := 7, constantValue := 0 }, { name := "serialVersionUID", type := .long, accessFlags := 26, slot := 8, constantValue := 0 }]
  methods := #[k9m0, k9m1, k9m2]
  instanceTypes := #[.int]
  staticTypes := #[.int, .int, (.object "java/lang/Class"), (.array .char), (.array .byte), (.array .byte), .int, .int, .long]
  resolved := Array.replicate 453 none
  statics := none }

def pool10 : Array CpInfo := pool [(2, .class_ 4), (1, u "java/lang/Object"), (0, u "<init>"), (0, u "()V"), (0, .class_ 8), (0, u "java/lang/Integer"), (7, .class_ 18), (1, u "java/lang/Integer$IntegerCache"), (0, u "$assertionsDisabled"), (0, u "Z"), (26, u "high"), (0, u "I"), (8, u "archivedCache"), (0, u "[Ljava/lang/Integer;"), (12, u "cache"), (0, u "low")] 27

def k10m0 : Method := { name := "<init>", desc := "()V", sig := { parameters := [], returnType := none }, accessFlags := 2, code := none }
/-- java/lang/Integer$IntegerCache -/
def k10 : Class := { plain "java/lang/Integer$IntegerCache" (some 0) with
  accessFlags := 48
  interfaces := #[]
  cf := some (fileOf pool10 16 #[.nestHost 7] #[{ accessFlags := 2, nameIndex := 5, descriptorIndex := 6, attributes := #[] }] 48 2 #[] #[{ accessFlags := 24, nameIndex := 72, descriptorIndex := 48, attributes := #[] }, { accessFlags := 24, nameIndex := 47, descriptorIndex := 48, attributes := #[] }, { accessFlags := 24, nameIndex := 71, descriptorIndex := 58, attributes := #[] }, { accessFlags := 8, nameIndex := 57, descriptorIndex := 58, attributes := #[] }, { accessFlags := 4120, nameIndex := 19, descriptorIndex := 20, attributes := #[] }])
  fields := #[{ name := "low", type := .int, accessFlags := 24, slot := 0, constantValue := 0 }, { name := "high", type := .int, accessFlags := 24, slot := 1, constantValue := 0 }, { name := "cache", type := (.array (.object "java/lang/Integer")), accessFlags := 24, slot := 2, constantValue := 0 }, { name := "archivedCache", type := (.array (.object "java/lang/Integer")), accessFlags := 8, slot := 3, constantValue := 0 }, { name := "$assertionsDisabled", type := .boolean, accessFlags := 4120, slot := 4, constantValue := 0 }]
  methods := #[k10m0]
  instanceTypes := #[]
  staticTypes := #[.int, .int, (.array (.object "java/lang/Integer")), (.array (.object "java/lang/Integer")), .boolean]
  resolved := Array.replicate 100 none
  statics := some 1 }

def pool11 : Array CpInfo := pool [(1, u "java/lang/Cloneable"), (0, .class_ 1), (0, u "java/lang/Object"), (0, .class_ 3)] 3

/-- java/lang/Cloneable -/
def k11 : Class := { plain "java/lang/Cloneable" (some 0) with
  accessFlags := 1537
  interfaces := #[]
  cf := some (fileOf pool11 2 #[] #[] 1537 4 #[] #[])
  fields := #[]
  methods := #[]
  instanceTypes := #[]
  staticTypes := #[]
  resolved := Array.replicate 8 none
  statics := none }

/-- the primitive byte -/
def k12 : Class := { plain "byte" none with kind := .primitive 'B', accessFlags := 0x411 }
/-- [B -/
def k13 : Class := { plain "[B" (some 0) with kind := .array 12 .byte, interfaces := #[11, 4], accessFlags := 1041 }

/-- the primitive int -/
def k14 : Class := { plain "int" none with kind := .primitive 'I', accessFlags := 0x411 }
/-- [I -/
def k15 : Class := { plain "[I" (some 0) with kind := .array 14 .int, interfaces := #[11, 4], accessFlags := 1041 }

/-- [Ljava/lang/Integer; -/
def k16 : Class := { plain "[Ljava/lang/Integer;" (some 0) with kind := .array 9 (.object "java/lang/Integer"), interfaces := #[11, 4], accessFlags := 1041 }

def heap : Heap := #[{ cls := 6, slots := #[.ref 4, .ref 5, .ref 6, .ref 3, .null], vm := .statics 6 },
  { cls := 10, slots := #[.int 0, .int 127, .ref 2, .null, .int 0], vm := .statics 10 },
  { cls := 16, slots := #[.ref 7, .ref 8, .ref 9, .ref 10, .ref 11, .ref 12, .ref 13, .ref 14, .ref 15, .ref 16, .ref 17, .ref 18, .ref 19, .ref 20, .ref 21, .ref 22, .ref 23, .ref 24, .ref 25, .ref 26, .ref 27, .ref 28, .ref 29, .ref 30, .ref 31, .ref 32, .ref 33, .ref 34, .ref 35, .ref 36, .ref 37, .ref 38, .ref 39, .ref 40, .ref 41, .ref 42, .ref 43, .ref 44, .ref 45, .ref 46, .ref 47, .ref 48, .ref 49, .ref 50, .ref 51, .ref 52, .ref 53, .ref 54, .ref 55, .ref 56, .ref 57, .ref 58, .ref 59, .ref 60, .ref 61, .ref 62, .ref 63, .ref 64, .ref 65, .ref 66, .ref 67, .ref 68, .ref 69, .ref 70, .ref 71, .ref 72, .ref 73, .ref 74, .ref 75, .ref 76, .ref 77, .ref 78, .ref 79, .ref 80, .ref 81, .ref 82, .ref 83, .ref 84, .ref 85, .ref 86, .ref 87, .ref 88, .ref 89, .ref 90, .ref 91, .ref 92, .ref 93, .ref 94, .ref 95, .ref 96, .ref 97, .ref 98, .ref 99, .ref 100, .ref 101, .ref 102, .ref 103, .ref 104, .ref 105, .ref 106, .ref 107, .ref 108, .ref 109, .ref 110, .ref 111, .ref 112, .ref 113, .ref 114, .ref 115, .ref 116, .ref 117, .ref 118, .ref 119, .ref 120, .ref 121, .ref 122, .ref 123, .ref 124, .ref 125, .ref 126, .ref 127, .ref 128, .ref 129, .ref 130, .ref 131, .ref 132, .ref 133, .ref 134, .ref 135, .ref 136, .ref 137, .ref 138, .ref 139, .ref 140, .ref 141, .ref 142, .ref 143, .ref 144, .ref 145, .ref 146, .ref 147, .ref 148, .ref 149, .ref 150, .ref 151, .ref 152, .ref 153, .ref 154, .ref 155, .ref 156, .ref 157, .ref 158, .ref 159, .ref 160, .ref 161, .ref 162, .ref 163, .ref 164, .ref 165, .ref 166, .ref 167, .ref 168, .ref 169, .ref 170, .ref 171, .ref 172, .ref 173, .ref 174, .ref 175, .ref 176, .ref 177, .ref 178, .ref 179, .ref 180, .ref 181, .ref 182, .ref 183, .ref 184, .ref 185, .ref 186, .ref 187, .ref 188, .ref 189, .ref 190, .ref 191, .ref 192, .ref 193, .ref 194, .ref 195, .ref 196, .ref 197, .ref 198, .ref 199, .ref 200, .ref 201, .ref 202, .ref 203, .ref 204, .ref 205, .ref 206, .ref 207, .ref 208, .ref 209, .ref 210, .ref 211, .ref 212, .ref 213, .ref 214, .ref 215, .ref 216, .ref 217, .ref 218, .ref 219, .ref 220, .ref 221, .ref 222, .ref 223, .ref 224, .ref 225, .ref 226, .ref 227, .ref 228, .ref 229, .ref 230, .ref 231, .ref 232, .ref 233, .ref 234, .ref 235, .ref 236, .ref 237, .ref 238, .ref 239, .ref 240, .ref 241, .ref 242, .ref 243, .ref 244, .ref 245, .ref 246, .ref 247, .ref 248, .ref 249, .ref 250, .ref 251, .ref 252, .ref 253, .ref 254, .ref 255, .ref 256, .ref 257, .ref 258, .ref 259, .ref 260, .ref 261, .ref 262], vm := .none },
  { cls := 6, slots := #[.null, .int 0, .int 0, .int 0, .int 0], vm := .none },
  { cls := 6, slots := #[.null, .int 1, .int 0, .int 0, .int 0], vm := .none },
  { cls := 6, slots := #[.null, .int 2, .int 0, .int 0, .int 0], vm := .none },
  { cls := 6, slots := #[.null, .int 3, .int 0, .int 0, .int 0], vm := .none },
  { cls := 9, slots := #[.int (-128)], vm := .none },
  { cls := 9, slots := #[.int (-127)], vm := .none },
  { cls := 9, slots := #[.int (-126)], vm := .none },
  { cls := 9, slots := #[.int (-125)], vm := .none },
  { cls := 9, slots := #[.int (-124)], vm := .none },
  { cls := 9, slots := #[.int (-123)], vm := .none },
  { cls := 9, slots := #[.int (-122)], vm := .none },
  { cls := 9, slots := #[.int (-121)], vm := .none },
  { cls := 9, slots := #[.int (-120)], vm := .none },
  { cls := 9, slots := #[.int (-119)], vm := .none },
  { cls := 9, slots := #[.int (-118)], vm := .none },
  { cls := 9, slots := #[.int (-117)], vm := .none },
  { cls := 9, slots := #[.int (-116)], vm := .none },
  { cls := 9, slots := #[.int (-115)], vm := .none },
  { cls := 9, slots := #[.int (-114)], vm := .none },
  { cls := 9, slots := #[.int (-113)], vm := .none },
  { cls := 9, slots := #[.int (-112)], vm := .none },
  { cls := 9, slots := #[.int (-111)], vm := .none },
  { cls := 9, slots := #[.int (-110)], vm := .none },
  { cls := 9, slots := #[.int (-109)], vm := .none },
  { cls := 9, slots := #[.int (-108)], vm := .none },
  { cls := 9, slots := #[.int (-107)], vm := .none },
  { cls := 9, slots := #[.int (-106)], vm := .none },
  { cls := 9, slots := #[.int (-105)], vm := .none },
  { cls := 9, slots := #[.int (-104)], vm := .none },
  { cls := 9, slots := #[.int (-103)], vm := .none },
  { cls := 9, slots := #[.int (-102)], vm := .none },
  { cls := 9, slots := #[.int (-101)], vm := .none },
  { cls := 9, slots := #[.int (-100)], vm := .none },
  { cls := 9, slots := #[.int (-99)], vm := .none },
  { cls := 9, slots := #[.int (-98)], vm := .none },
  { cls := 9, slots := #[.int (-97)], vm := .none },
  { cls := 9, slots := #[.int (-96)], vm := .none },
  { cls := 9, slots := #[.int (-95)], vm := .none },
  { cls := 9, slots := #[.int (-94)], vm := .none },
  { cls := 9, slots := #[.int (-93)], vm := .none },
  { cls := 9, slots := #[.int (-92)], vm := .none },
  { cls := 9, slots := #[.int (-91)], vm := .none },
  { cls := 9, slots := #[.int (-90)], vm := .none },
  { cls := 9, slots := #[.int (-89)], vm := .none },
  { cls := 9, slots := #[.int (-88)], vm := .none },
  { cls := 9, slots := #[.int (-87)], vm := .none },
  { cls := 9, slots := #[.int (-86)], vm := .none },
  { cls := 9, slots := #[.int (-85)], vm := .none },
  { cls := 9, slots := #[.int (-84)], vm := .none },
  { cls := 9, slots := #[.int (-83)], vm := .none },
  { cls := 9, slots := #[.int (-82)], vm := .none },
  { cls := 9, slots := #[.int (-81)], vm := .none },
  { cls := 9, slots := #[.int (-80)], vm := .none },
  { cls := 9, slots := #[.int (-79)], vm := .none },
  { cls := 9, slots := #[.int (-78)], vm := .none },
  { cls := 9, slots := #[.int (-77)], vm := .none },
  { cls := 9, slots := #[.int (-76)], vm := .none },
  { cls := 9, slots := #[.int (-75)], vm := .none },
  { cls := 9, slots := #[.int (-74)], vm := .none },
  { cls := 9, slots := #[.int (-73)], vm := .none },
  { cls := 9, slots := #[.int (-72)], vm := .none },
  { cls := 9, slots := #[.int (-71)], vm := .none },
  { cls := 9, slots := #[.int (-70)], vm := .none },
  { cls := 9, slots := #[.int (-69)], vm := .none },
  { cls := 9, slots := #[.int (-68)], vm := .none },
  { cls := 9, slots := #[.int (-67)], vm := .none },
  { cls := 9, slots := #[.int (-66)], vm := .none },
  { cls := 9, slots := #[.int (-65)], vm := .none },
  { cls := 9, slots := #[.int (-64)], vm := .none },
  { cls := 9, slots := #[.int (-63)], vm := .none },
  { cls := 9, slots := #[.int (-62)], vm := .none },
  { cls := 9, slots := #[.int (-61)], vm := .none },
  { cls := 9, slots := #[.int (-60)], vm := .none },
  { cls := 9, slots := #[.int (-59)], vm := .none },
  { cls := 9, slots := #[.int (-58)], vm := .none },
  { cls := 9, slots := #[.int (-57)], vm := .none },
  { cls := 9, slots := #[.int (-56)], vm := .none },
  { cls := 9, slots := #[.int (-55)], vm := .none },
  { cls := 9, slots := #[.int (-54)], vm := .none },
  { cls := 9, slots := #[.int (-53)], vm := .none },
  { cls := 9, slots := #[.int (-52)], vm := .none },
  { cls := 9, slots := #[.int (-51)], vm := .none },
  { cls := 9, slots := #[.int (-50)], vm := .none },
  { cls := 9, slots := #[.int (-49)], vm := .none },
  { cls := 9, slots := #[.int (-48)], vm := .none },
  { cls := 9, slots := #[.int (-47)], vm := .none },
  { cls := 9, slots := #[.int (-46)], vm := .none },
  { cls := 9, slots := #[.int (-45)], vm := .none },
  { cls := 9, slots := #[.int (-44)], vm := .none },
  { cls := 9, slots := #[.int (-43)], vm := .none },
  { cls := 9, slots := #[.int (-42)], vm := .none },
  { cls := 9, slots := #[.int (-41)], vm := .none },
  { cls := 9, slots := #[.int (-40)], vm := .none },
  { cls := 9, slots := #[.int (-39)], vm := .none },
  { cls := 9, slots := #[.int (-38)], vm := .none },
  { cls := 9, slots := #[.int (-37)], vm := .none },
  { cls := 9, slots := #[.int (-36)], vm := .none },
  { cls := 9, slots := #[.int (-35)], vm := .none },
  { cls := 9, slots := #[.int (-34)], vm := .none },
  { cls := 9, slots := #[.int (-33)], vm := .none },
  { cls := 9, slots := #[.int (-32)], vm := .none },
  { cls := 9, slots := #[.int (-31)], vm := .none },
  { cls := 9, slots := #[.int (-30)], vm := .none },
  { cls := 9, slots := #[.int (-29)], vm := .none },
  { cls := 9, slots := #[.int (-28)], vm := .none },
  { cls := 9, slots := #[.int (-27)], vm := .none },
  { cls := 9, slots := #[.int (-26)], vm := .none },
  { cls := 9, slots := #[.int (-25)], vm := .none },
  { cls := 9, slots := #[.int (-24)], vm := .none },
  { cls := 9, slots := #[.int (-23)], vm := .none },
  { cls := 9, slots := #[.int (-22)], vm := .none },
  { cls := 9, slots := #[.int (-21)], vm := .none },
  { cls := 9, slots := #[.int (-20)], vm := .none },
  { cls := 9, slots := #[.int (-19)], vm := .none },
  { cls := 9, slots := #[.int (-18)], vm := .none },
  { cls := 9, slots := #[.int (-17)], vm := .none },
  { cls := 9, slots := #[.int (-16)], vm := .none },
  { cls := 9, slots := #[.int (-15)], vm := .none },
  { cls := 9, slots := #[.int (-14)], vm := .none },
  { cls := 9, slots := #[.int (-13)], vm := .none },
  { cls := 9, slots := #[.int (-12)], vm := .none },
  { cls := 9, slots := #[.int (-11)], vm := .none },
  { cls := 9, slots := #[.int (-10)], vm := .none },
  { cls := 9, slots := #[.int (-9)], vm := .none },
  { cls := 9, slots := #[.int (-8)], vm := .none },
  { cls := 9, slots := #[.int (-7)], vm := .none },
  { cls := 9, slots := #[.int (-6)], vm := .none },
  { cls := 9, slots := #[.int (-5)], vm := .none },
  { cls := 9, slots := #[.int (-4)], vm := .none },
  { cls := 9, slots := #[.int (-3)], vm := .none },
  { cls := 9, slots := #[.int (-2)], vm := .none },
  { cls := 9, slots := #[.int (-1)], vm := .none },
  { cls := 9, slots := #[.int 0], vm := .none },
  { cls := 9, slots := #[.int 1], vm := .none },
  { cls := 9, slots := #[.int 2], vm := .none },
  { cls := 9, slots := #[.int 3], vm := .none },
  { cls := 9, slots := #[.int 4], vm := .none },
  { cls := 9, slots := #[.int 5], vm := .none },
  { cls := 9, slots := #[.int 6], vm := .none },
  { cls := 9, slots := #[.int 7], vm := .none },
  { cls := 9, slots := #[.int 8], vm := .none },
  { cls := 9, slots := #[.int 9], vm := .none },
  { cls := 9, slots := #[.int 10], vm := .none },
  { cls := 9, slots := #[.int 11], vm := .none },
  { cls := 9, slots := #[.int 12], vm := .none },
  { cls := 9, slots := #[.int 13], vm := .none },
  { cls := 9, slots := #[.int 14], vm := .none },
  { cls := 9, slots := #[.int 15], vm := .none },
  { cls := 9, slots := #[.int 16], vm := .none },
  { cls := 9, slots := #[.int 17], vm := .none },
  { cls := 9, slots := #[.int 18], vm := .none },
  { cls := 9, slots := #[.int 19], vm := .none },
  { cls := 9, slots := #[.int 20], vm := .none },
  { cls := 9, slots := #[.int 21], vm := .none },
  { cls := 9, slots := #[.int 22], vm := .none },
  { cls := 9, slots := #[.int 23], vm := .none },
  { cls := 9, slots := #[.int 24], vm := .none },
  { cls := 9, slots := #[.int 25], vm := .none },
  { cls := 9, slots := #[.int 26], vm := .none },
  { cls := 9, slots := #[.int 27], vm := .none },
  { cls := 9, slots := #[.int 28], vm := .none },
  { cls := 9, slots := #[.int 29], vm := .none },
  { cls := 9, slots := #[.int 30], vm := .none },
  { cls := 9, slots := #[.int 31], vm := .none },
  { cls := 9, slots := #[.int 32], vm := .none },
  { cls := 9, slots := #[.int 33], vm := .none },
  { cls := 9, slots := #[.int 34], vm := .none },
  { cls := 9, slots := #[.int 35], vm := .none },
  { cls := 9, slots := #[.int 36], vm := .none },
  { cls := 9, slots := #[.int 37], vm := .none },
  { cls := 9, slots := #[.int 38], vm := .none },
  { cls := 9, slots := #[.int 39], vm := .none },
  { cls := 9, slots := #[.int 40], vm := .none },
  { cls := 9, slots := #[.int 41], vm := .none },
  { cls := 9, slots := #[.int 42], vm := .none },
  { cls := 9, slots := #[.int 43], vm := .none },
  { cls := 9, slots := #[.int 44], vm := .none },
  { cls := 9, slots := #[.int 45], vm := .none },
  { cls := 9, slots := #[.int 46], vm := .none },
  { cls := 9, slots := #[.int 47], vm := .none },
  { cls := 9, slots := #[.int 48], vm := .none },
  { cls := 9, slots := #[.int 49], vm := .none },
  { cls := 9, slots := #[.int 50], vm := .none },
  { cls := 9, slots := #[.int 51], vm := .none },
  { cls := 9, slots := #[.int 52], vm := .none },
  { cls := 9, slots := #[.int 53], vm := .none },
  { cls := 9, slots := #[.int 54], vm := .none },
  { cls := 9, slots := #[.int 55], vm := .none },
  { cls := 9, slots := #[.int 56], vm := .none },
  { cls := 9, slots := #[.int 57], vm := .none },
  { cls := 9, slots := #[.int 58], vm := .none },
  { cls := 9, slots := #[.int 59], vm := .none },
  { cls := 9, slots := #[.int 60], vm := .none },
  { cls := 9, slots := #[.int 61], vm := .none },
  { cls := 9, slots := #[.int 62], vm := .none },
  { cls := 9, slots := #[.int 63], vm := .none },
  { cls := 9, slots := #[.int 64], vm := .none },
  { cls := 9, slots := #[.int 65], vm := .none },
  { cls := 9, slots := #[.int 66], vm := .none },
  { cls := 9, slots := #[.int 67], vm := .none },
  { cls := 9, slots := #[.int 68], vm := .none },
  { cls := 9, slots := #[.int 69], vm := .none },
  { cls := 9, slots := #[.int 70], vm := .none },
  { cls := 9, slots := #[.int 71], vm := .none },
  { cls := 9, slots := #[.int 72], vm := .none },
  { cls := 9, slots := #[.int 73], vm := .none },
  { cls := 9, slots := #[.int 74], vm := .none },
  { cls := 9, slots := #[.int 75], vm := .none },
  { cls := 9, slots := #[.int 76], vm := .none },
  { cls := 9, slots := #[.int 77], vm := .none },
  { cls := 9, slots := #[.int 78], vm := .none },
  { cls := 9, slots := #[.int 79], vm := .none },
  { cls := 9, slots := #[.int 80], vm := .none },
  { cls := 9, slots := #[.int 81], vm := .none },
  { cls := 9, slots := #[.int 82], vm := .none },
  { cls := 9, slots := #[.int 83], vm := .none },
  { cls := 9, slots := #[.int 84], vm := .none },
  { cls := 9, slots := #[.int 85], vm := .none },
  { cls := 9, slots := #[.int 86], vm := .none },
  { cls := 9, slots := #[.int 87], vm := .none },
  { cls := 9, slots := #[.int 88], vm := .none },
  { cls := 9, slots := #[.int 89], vm := .none },
  { cls := 9, slots := #[.int 90], vm := .none },
  { cls := 9, slots := #[.int 91], vm := .none },
  { cls := 9, slots := #[.int 92], vm := .none },
  { cls := 9, slots := #[.int 93], vm := .none },
  { cls := 9, slots := #[.int 94], vm := .none },
  { cls := 9, slots := #[.int 95], vm := .none },
  { cls := 9, slots := #[.int 96], vm := .none },
  { cls := 9, slots := #[.int 97], vm := .none },
  { cls := 9, slots := #[.int 98], vm := .none },
  { cls := 9, slots := #[.int 99], vm := .none },
  { cls := 9, slots := #[.int 100], vm := .none },
  { cls := 9, slots := #[.int 101], vm := .none },
  { cls := 9, slots := #[.int 102], vm := .none },
  { cls := 9, slots := #[.int 103], vm := .none },
  { cls := 9, slots := #[.int 104], vm := .none },
  { cls := 9, slots := #[.int 105], vm := .none },
  { cls := 9, slots := #[.int 106], vm := .none },
  { cls := 9, slots := #[.int 107], vm := .none },
  { cls := 9, slots := #[.int 108], vm := .none },
  { cls := 9, slots := #[.int 109], vm := .none },
  { cls := 9, slots := #[.int 110], vm := .none },
  { cls := 9, slots := #[.int 111], vm := .none },
  { cls := 9, slots := #[.int 112], vm := .none },
  { cls := 9, slots := #[.int 113], vm := .none },
  { cls := 9, slots := #[.int 114], vm := .none },
  { cls := 9, slots := #[.int 115], vm := .none },
  { cls := 9, slots := #[.int 116], vm := .none },
  { cls := 9, slots := #[.int 117], vm := .none },
  { cls := 9, slots := #[.int 118], vm := .none },
  { cls := 9, slots := #[.int 119], vm := .none },
  { cls := 9, slots := #[.int 120], vm := .none },
  { cls := 9, slots := #[.int 121], vm := .none },
  { cls := 9, slots := #[.int 122], vm := .none },
  { cls := 9, slots := #[.int 123], vm := .none },
  { cls := 9, slots := #[.int 124], vm := .none },
  { cls := 9, slots := #[.int 125], vm := .none },
  { cls := 9, slots := #[.int 126], vm := .none },
  { cls := 9, slots := #[.int 127], vm := .none }]
def classes : Array Class := #[k0, k1, k2, k3, k4, k5, k6, k7, k8, k9, k10, k11, k12, k13, k14, k15, k16]
def interned : List (Array UInt16 × Addr) := []
def slotsUsed : Nat := 542
def theMethod : MethodId := ⟨1, 1⟩
def args0 : Array Value := #[.int 1, .int 1]
def aboutOver (below : List Frame) : State where
  vm := { classes := classes, interned := interned.toArray }
  heap := heap
  slotsUsed := slotsUsed
  threads := #[{ frames := .invoking theMethod args0 :: below }]
def below0 : List Frame := [.native { method := ⟨0, 0⟩, args := #[] }]
def about1 : State := aboutOver below0
def p0 : Program := .bare "" "" ""
def e0 : Env := launch0.env 0 0 0
theorem w_frames : about1.frames = Frame.invoking theMethod args0 :: below0 := rfl
set_option maxRecDepth 65536 in
theorem w_args : argsFit about1.vm theMethod args0 = true := by decide +kernel
set_option maxRecDepth 65536 in
theorem w_heap : heapFits about1 = true := by decide +kernel
set_option maxRecDepth 65536 in
theorem w_runnable : about1.curStatus? = some .runnable := by decide +kernel
set_option maxRecDepth 65536 in
theorem w_alone : about1.alone = true := by decide +kernel
set_option maxRecDepth 65536 in
theorem w_named : about1.methodNamed? x = some theMethod := by decide +kernel
set_option maxRecDepth 65536 in
theorem w_hears : about1.hears theMethod below0 = true := by decide +kernel
set_option maxRecDepth 65536 in
theorem w_ripe : about1.ripe theMethod args0 below0 = true := by decide +kernel
theorem w_running : about1.status = .running := rfl
set_option maxRecDepth 65536 in
theorem w_room : about1.hasRoom e0.platform room_1 = true :=
  launch0.hasRoom_least _ room_1 (by decide +kernel) (by decide +kernel) (by decide +kernel) (by decide +kernel) (by decide +kernel) (by decide +kernel)
theorem allAtoms_all (ts : List Jvm.Cond) (a : Array Jvm.Value) (st : Jvm.State) : (allAtoms ts).before a st = ts.all (fun c => c.before a st) := by
  induction ts with
  | nil => rfl
  | cons c t ih =>
    show (Jvm.Cond.and c (allAtoms t)).before a st = _
    rw [Jvm.Cond.before_and, ih, List.all_cons]
def words1 : List Jvm.Cond := Jvm.Cond.code x code maxLocals ret :: tables_1
/-- a 'code' word, met by the world's own term for the bytes: nothing is compared byte by byte -/
theorem code_word {y : MethodName} {bytes : ByteArray} {mx : Nat} {rt : Option FieldType} {a : Array Value} {s : State} {m : MethodId} {meth : Method} {c : Code} (h1 : s.methodNamed? y = some m) (h2 : s.vm.method? m = some meth) (h3 : meth.code = some c) (h4 : c.code = bytes)
    (h5 : (c.maxLocals == mx && c.exceptionTable.isEmpty && decide (c.maxStack ≤ mostOperands) && decide (meth.sig.returnType = rt) && !meth.locks && decide (parseMethodDescriptor y.desc = some meth.sig)) = true) : (Jvm.Cond.code y bytes mx rt).before a s = true := by
  simp only [Bool.and_eq_true, beq_iff_eq, Bool.not_eq_true', decide_eq_true_eq] at h5
  obtain ⟨⟨⟨⟨⟨g1, g2⟩, g3⟩, g4⟩, g5⟩, g6⟩ := h5
  simp [Cond.before, Cond.holds, Cond.value, h1, h2, h3, h4, g1, g2, g3, g4, g5, g6]
def isCode : Jvm.Cond → Bool
  | .code _ _ _ _ => true
  | _ => false
theorem all_split {L : List Jvm.Cond} {P : Jvm.Cond → Bool} (h1 : L.all (fun c => isCode c || P c) = true) (h2 : ∀ c ∈ L.filter isCode, P c = true) : L.all P = true := by
  refine List.all_eq_true.mpr fun c hc => ?_
  have h := List.all_eq_true.mp h1 c hc
  rcases Bool.eq_false_or_eq_true (isCode c) with hi | hi
  · exact h2 c (List.mem_filter.mpr ⟨hc, hi⟩)
  · simpa [hi] using h
set_option maxRecDepth 65536 in
theorem w_c0 : (Jvm.Cond.code x code maxLocals ret).before args0 about1 = true := code_word (m := ⟨1, 1⟩) (meth := k1m1) (c := k1c1) (by decide +kernel) rfl rfl rfl (by decide +kernel)
set_option maxRecDepth 65536 in
theorem w_c1 : (Jvm.Cond.code ({ cls := "com/example/tidewheel/tidewheel/model/Delivery$Answer", name := "of", desc := "(Ljava/lang/Integer;)Lcom/example/tidewheel/tidewheel/model/Delivery$Answer;" } : Jvm.MethodName) prog_23_method_5_code (2 : Nat) (Option.some (Jvm.ClassFile.FieldType.object "com/example/tidewheel/tidewheel/model/Delivery$Answer"))).before args0 about1 = true := code_word (m := ⟨6, 0⟩) (meth := k6m0) (c := k6c0) (by decide +kernel) rfl rfl rfl (by decide +kernel)
set_option maxRecDepth 65536 in
theorem w_c2 : (Jvm.Cond.code ({ cls := "com/example/tidewheel/tidewheel/model/AnswerOfPinLaw", name := "expected", desc := "(ZI)Lcom/example/tidewheel/tidewheel/model/Delivery$Answer;" } : Jvm.MethodName) method_3_code (3 : Nat) (Option.some (Jvm.ClassFile.FieldType.object "com/example/tidewheel/tidewheel/model/Delivery$Answer"))).before args0 about1 = true := code_word (m := ⟨1, 2⟩) (meth := k1m2) (c := k1c2) (by decide +kernel) rfl rfl rfl (by decide +kernel)
set_option maxRecDepth 65536 in
theorem w_c3 : (Jvm.Cond.code ({ cls := "java/lang/Integer", name := "valueOf", desc := "(I)Ljava/lang/Integer;" } : Jvm.MethodName) jdk_33_method_22_code (1 : Nat) (Option.some (Jvm.ClassFile.FieldType.object "java/lang/Integer"))).before args0 about1 = true := code_word (m := ⟨9, 0⟩) (meth := k9m0) (c := k9c0) (by decide +kernel) rfl rfl rfl (by decide +kernel)
set_option maxRecDepth 65536 in
theorem w_c4 : (Jvm.Cond.code ({ cls := "java/lang/Integer", name := "<init>", desc := "(I)V" } : Jvm.MethodName) jdk_33_method_23_code (2 : Nat) (Option.none : Option Jvm.ClassFile.FieldType)).before args0 about1 = true := code_word (m := ⟨9, 1⟩) (meth := k9m1) (c := k9c1) (by decide +kernel) rfl rfl rfl (by decide +kernel)
set_option maxRecDepth 65536 in
theorem w_c5 : (Jvm.Cond.code ({ cls := "java/lang/Number", name := "<init>", desc := "()V" } : Jvm.MethodName) jdk_18_method_1_code (1 : Nat) (Option.none : Option Jvm.ClassFile.FieldType)).before args0 about1 = true := code_word (m := ⟨7, 0⟩) (meth := k7m0) (c := k7c0) (by decide +kernel) rfl rfl rfl (by decide +kernel)
set_option maxRecDepth 65536 in
theorem w_c6 : (Jvm.Cond.code ({ cls := "java/lang/Object", name := "<init>", desc := "()V" } : Jvm.MethodName) object_method_1_code (1 : Nat) (Option.none : Option Jvm.ClassFile.FieldType)).before args0 about1 = true := code_word (m := ⟨0, 0⟩) (meth := k0m0) (c := k0c0) (by decide +kernel) rfl rfl rfl (by decide +kernel)
set_option maxRecDepth 65536 in
theorem w_c7 : (Jvm.Cond.code ({ cls := "java/lang/Integer", name := "intValue", desc := "()I" } : Jvm.MethodName) jdk_33_method_27_code (1 : Nat) (Option.some Jvm.ClassFile.FieldType.int)).before args0 about1 = true := code_word (m := ⟨9, 2⟩) (meth := k9m2) (c := k9c2) (by decide +kernel) rfl rfl rfl (by decide +kernel)
def codes1 : List Jvm.Cond := [Jvm.Cond.code x code maxLocals ret, Jvm.Cond.code ({ cls := "com/example/tidewheel/tidewheel/model/Delivery$Answer", name := "of", desc := "(Ljava/lang/Integer;)Lcom/example/tidewheel/tidewheel/model/Delivery$Answer;" } : Jvm.MethodName) prog_23_method_5_code (2 : Nat) (Option.some (Jvm.ClassFile.FieldType.object "com/example/tidewheel/tidewheel/model/Delivery$Answer")), Jvm.Cond.code ({ cls := "com/example/tidewheel/tidewheel/model/AnswerOfPinLaw", name := "expected", desc := "(ZI)Lcom/example/tidewheel/tidewheel/model/Delivery$Answer;" } : Jvm.MethodName) method_3_code (3 : Nat) (Option.some (Jvm.ClassFile.FieldType.object "com/example/tidewheel/tidewheel/model/Delivery$Answer")), Jvm.Cond.code ({ cls := "java/lang/Integer", name := "valueOf", desc := "(I)Ljava/lang/Integer;" } : Jvm.MethodName) jdk_33_method_22_code (1 : Nat) (Option.some (Jvm.ClassFile.FieldType.object "java/lang/Integer")), Jvm.Cond.code ({ cls := "java/lang/Integer", name := "<init>", desc := "(I)V" } : Jvm.MethodName) jdk_33_method_23_code (2 : Nat) (Option.none : Option Jvm.ClassFile.FieldType), Jvm.Cond.code ({ cls := "java/lang/Number", name := "<init>", desc := "()V" } : Jvm.MethodName) jdk_18_method_1_code (1 : Nat) (Option.none : Option Jvm.ClassFile.FieldType), Jvm.Cond.code ({ cls := "java/lang/Object", name := "<init>", desc := "()V" } : Jvm.MethodName) object_method_1_code (1 : Nat) (Option.none : Option Jvm.ClassFile.FieldType), Jvm.Cond.code ({ cls := "java/lang/Integer", name := "intValue", desc := "()I" } : Jvm.MethodName) jdk_33_method_27_code (1 : Nat) (Option.some Jvm.ClassFile.FieldType.int)]
set_option maxRecDepth 65536 in
theorem codes_eq : words1.filter isCode = codes1 := rfl
theorem w_codes : ∀ c ∈ words1.filter isCode, c.before args0 about1 = true := by
  rw [codes_eq]
  intro c hc
  simp only [codes1, List.mem_cons, List.not_mem_nil, or_false] at hc
  rcases hc with rfl | rfl | rfl | rfl | rfl | rfl | rfl | rfl
  · exact w_c0
  · exact w_c1
  · exact w_c2
  · exact w_c3
  · exact w_c4
  · exact w_c5
  · exact w_c6
  · exact w_c7
set_option maxRecDepth 65536 in
theorem w_t1 : (words1.take 24).all (fun c => isCode c || c.before args0 about1) = true := by decide +kernel
set_option maxRecDepth 65536 in
theorem w_t2 : ((words1.drop 24).take 24).all (fun c => isCode c || c.before args0 about1) = true := by decide +kernel
set_option maxRecDepth 65536 in
theorem w_t3 : ((words1.drop 24).drop 24).all (fun c => isCode c || c.before args0 about1) = true := by decide +kernel
theorem w_tables : (allAtoms (Jvm.Cond.code x code maxLocals ret :: tables_1)).before args0 about1 = true := by
  rw [allAtoms_all]
  show words1.all (fun c => c.before args0 about1) = true
  refine all_split ?_ w_codes
  rw [← List.take_append_drop 24 words1, List.all_append, w_t1, ← List.take_append_drop 24 (words1.drop 24), List.all_append, w_t2, w_t3]
  rfl
set_option maxRecDepth 65536 in
theorem w_rest : rest_1_c.before args0 about1 = true := by decide +kernel
set_option maxRecDepth 65536 in
theorem w_case : (Jvm.Cond.and given_1 narrow_1).before args0 about1 = true := by decide +kernel
theorem w_applies : (headSpec (Jvm.Cond.code x code maxLocals ret :: tables_1) room_1).applies x e0.platform about1 = true :=
  (Spec.applies_iff w_frames).mpr ⟨w_running, w_runnable, w_alone, w_named, w_hears, w_ripe, w_room, w_tables⟩
theorem atStart : AtStart classFile x code maxLocals ret World_1 tables_1 room_1 Calls_1 rest_1 Pre_1 launch0 p0 e0 about1 theMethod args0 below0 :=
  ⟨lists_1, trivial, launch0.admits_env _ _ _, launch0.least_env, fairChoices_fair.cas, fairChoices_fair.clock, w_frames, w_args, w_heap, w_applies, trivial, w_rest, w_case⟩
end start1
theorem witness_1 : WitnessClaimed_1 := ⟨start1.p0, start1.e0, start1.about1, start1.theMethod, start1.args0, start1.below0, start1.atStart⟩
end Jvm.Pilot.@@N@@
