import JvmDerived
import JvmDerived.Pilot.@@N@@Statement
import JvmDerived.Pilot.@@N@@Code
set_option linter.unusedVariables false
set_option linter.unusedSimpArgs false
namespace Jvm.Pilot.@@N@@
open Jvm Jvm.ClassFile Sem Op Lib Jvm.Free Jvm.Stand Jvm.LawKit Jvm.RoadKit Bundle Jvm.Pilot.@@N@@.Jvm.D

theorem own_lt {a b c : Int32} (h1 : a < b) (h2 : b < c) : a < c := by
  rw [Int32.lt_iff_toInt_lt] at *
  omega
theorem own_nl {a b c : Int32} (h1 : ¬ b < a) (h2 : b < c) : ¬ c < a := by
  rw [Int32.lt_iff_toInt_lt] at *
  omega
def F4 (p0 : Int32) (p1 : Int32) : Int32 := (if p0 < p1 then p1 else p0)
theorem d4_0 : decode jdk_29_method_65_code 0 = .ok (.iload_n 0, 1) := by decide +kernel
theorem d4_1 : decode jdk_29_method_65_code 1 = .ok (.iload_n 1, 1) := by decide +kernel
theorem d4_2 : decode jdk_29_method_65_code 2 = .ok (.if_icmp .lt 7, 3) := by decide +kernel
theorem d4_5 : decode jdk_29_method_65_code 5 = .ok (.iload_n 0, 1) := by decide +kernel
theorem d4_6 : decode jdk_29_method_65_code 6 = .ok (.goto 4, 3) := by decide +kernel
theorem d4_9 : decode jdk_29_method_65_code 9 = .ok (.iload_n 1, 1) := by decide +kernel
theorem d4_10 : decode jdk_29_method_65_code 10 = .ok (.ireturn, 1) := by decide +kernel
theorem ef_4_II (m : MethodId) (x0 : Int32) (x1 : Int32) : entryFrame m #[(.int x0), (.int x1)] 2 = mkF m 0 #[.val (.int x0), .val (.int x1)] [] := by first | (simp [entryFrame, mkF, argsToLocals, Value.category]; done) | rfl
def Q4 (Z : State) (p0 : Int32) (p1 : Int32) (h0 : Heap) (n0 : Nat) (v : Option Value) (h : Heap) (L : List Loc) : Prop := v = some (.int (F4 p0 p1)) ∧ Fr n0 L ∧ h = h0
set_option maxRecDepth 65536 in
set_option maxHeartbeats 40000000 in
theorem rm4 (l : Launch) (Z : State) (aA : Array Value) (hw : ∀ d ∈ tables_1, d.before aA Z = true) (ws : List Jvm.Cond) (p0 : Int32) (p1 : Int32) (h0 : Heap) (n0 : Nat) (Z0 : n0 ≤ h0.size) :
    MetFree l (⟨"java/lang/Math", "max", "(II)I"⟩ : MethodName) (head1 (Jvm.Cond.code (⟨"java/lang/Math", "max", "(II)I"⟩ : MethodName) jdk_29_method_65_code 2 (some .int) :: ws) ({ frames := 0, cells := 0, slots := 0, locals := 0 } : Room)) (fun a U => a = #[(.int p0), (.int p1)] ∧ Z.Warmed39 U.vm ∧ U.heap = h0) (fun _ _ _ _ _ => True) (fun _ U o U' => ∃ v L, o = .returned v ∧ Q4 Z p0 p1 h0 n0 v U'.heap L ∧ FrameEnd U o U' L ({ frames := 0, cells := 0, slots := 0, locals := 0 } : Room).cells ({ frames := 0, cells := 0, slots := 0, locals := 0 } : Room).slots) := by
  refine MetFree.of_bodySF (Jvm.Free.JP.mathPlain rfl (by decide +kernel)) hisR ?_
  intro p e s m args below meth c s₁ Bd hml0 hP hK
  obtain ⟨rfl, hZ, hh⟩ := hP
  have hx := Bd.exec
  have hby := Bd.bytes
  have hml : c.maxLocals = 2 := hml0
  have hown : s.vm.findClass "java/lang/Math" = some m.cls := findClass_of_methodNamed Bd.named
  have hnm := (name_of_methodNamed Bd.named Bd.method).1
  have X0 : Stand p l e ({ frames := 0, cells := 0, slots := 0, locals := 0 } : Room) s m #[(.int p0), (.int p1)] below meth c s₁ [] 0 0 := Stand.of_body Bd
  have e0 : s₁.heap = h0 := by rw [← hh, Bd.state]; rfl
  have N0 := Fr.nil n0
  have KP0 : Keep h0 h0 [] := Keep.refl h0 _
  have pre0 : ∀ t, Steps p.tables e below (s₁.setTop (mkF m 0 #[.val (.int p0), .val (.int p1)] [])) t → Steps p.tables e below (s₁.setTop (entryFrame m #[(.int p0), (.int p1)] 2)) t := fun t k => castTop (ef_4_II m p0 p1) k
  have pre2 : ∀ t, Steps p.tables e below (s₁.setTop (mkF m 2 #[.val (.int p0), .val (.int p1)] [(.int p1), (.int p0)])) t → Steps p.tables e below (s₁.setTop (entryFrame m #[(.int p0), (.int p1)] 2)) t := by
    intro t kk
    refine pre0 t ?_
    show Steps p.tables e below (s₁.setTop (mkF m 0 #[.val (.int p0), .val (.int p1)] [])) _
    refine XS.iloadN X0.here hx rfl (hb hby d4_0) rfl ?_
    show Steps p.tables e below (s₁.setTop (mkF m 1 #[.val (.int p0), .val (.int p1)] [(.int p0)])) _
    refine XS.iloadN X0.here hx rfl (hb hby d4_1) rfl ?_
    exact kk
  by_cases hc2_1 : p0 < p1
  · have hF3 : (F4 p0 p1) = p1 := (if_pos hc2_1)
    have pre4 : ∀ t, Steps p.tables e below (s₁.setTop (mkF m 10 #[.val (.int p0), .val (.int p1)] [(.int p1)])) t → Steps p.tables e below (s₁.setTop (entryFrame m #[(.int p0), (.int p1)] 2)) t := by
      intro t kk
      refine pre2 t ?_
      show Steps p.tables e below (s₁.setTop (mkF m 2 #[.val (.int p0), .val (.int p1)] [(.int p1), (.int p0)])) _
      refine XS.icmpYes X0.here hx rfl (pc0 := 2) (pc' := 9) rfl (hb hby d4_2) rfl (tlt hc2_1).1 (by decide) (by decide) ?_
      show Steps p.tables e below (s₁.setTop (mkF m 9 #[.val (.int p0), .val (.int p1)] [])) _
      refine XS.iloadN X0.here hx rfl (hb hby d4_9) rfl ?_
      exact kk
    obtain ⟨fs, hr, hrun, hended, hW, hsame⟩ := X0.leave (v := some (.int p1)) (fun h => by rw [Bd.returns] at h; cases h)
    refine ⟨_, _, pre4 _ ?_, hrun, hended, _, _, rfl, ?_, ⟨_, rfl⟩, hW, hsame.mono (by decide) (by decide)⟩
    · show Steps p.tables e below (s₁.setTop (mkF m 10 #[.val (.int p0), .val (.int p1)] [(.int p1)])) _
      exact retOut X0 hx Bd.returns rfl (Or.inl ⟨rfl, Or.inl rfl, _, rfl⟩) (hb hby d4_10) hr
    · show Q4 Z p0 p1 h0 n0 _ s₁.heap _
      rw [e0]
      exact ⟨congrArg (fun z => some (Value.int z)) hF3.symm, N0, rfl⟩
  · have hF5 : (F4 p0 p1) = p0 := (if_neg hc2_1)
    have pre6 : ∀ t, Steps p.tables e below (s₁.setTop (mkF m 10 #[.val (.int p0), .val (.int p1)] [(.int p0)])) t → Steps p.tables e below (s₁.setTop (entryFrame m #[(.int p0), (.int p1)] 2)) t := by
      intro t kk
      refine pre2 t ?_
      show Steps p.tables e below (s₁.setTop (mkF m 2 #[.val (.int p0), .val (.int p1)] [(.int p1), (.int p0)])) _
      refine XS.icmpNo X0.here hx rfl (hb hby d4_2) rfl (flt hc2_1).1 ?_
      show Steps p.tables e below (s₁.setTop (mkF m 5 #[.val (.int p0), .val (.int p1)] [])) _
      refine XS.iloadN X0.here hx rfl (hb hby d4_5) rfl ?_
      show Steps p.tables e below (s₁.setTop (mkF m 6 #[.val (.int p0), .val (.int p1)] [(.int p0)])) _
      refine XS.goto X0.here hx rfl (pc0 := 6) (pc' := 10) rfl (hb hby d4_6) (by decide) (by decide) ?_
      exact kk
    obtain ⟨fs, hr, hrun, hended, hW, hsame⟩ := X0.leave (v := some (.int p0)) (fun h => by rw [Bd.returns] at h; cases h)
    refine ⟨_, _, pre6 _ ?_, hrun, hended, _, _, rfl, ?_, ⟨_, rfl⟩, hW, hsame.mono (by decide) (by decide)⟩
    · show Steps p.tables e below (s₁.setTop (mkF m 10 #[.val (.int p0), .val (.int p1)] [(.int p0)])) _
      exact retOut X0 hx Bd.returns rfl (Or.inl ⟨rfl, Or.inl rfl, _, rfl⟩) (hb hby d4_10) hr
    · show Q4 Z p0 p1 h0 n0 _ s₁.heap _
      rw [e0]
      exact ⟨congrArg (fun z => some (Value.int z)) hF5.symm, N0, rfl⟩
def F6 (p0 : Int32) : Int32 := ((31 : Int32) - ((p0.toUInt32 >>> ((1 : Int32) &&& 31).toUInt32).toInt32))
theorem d6_0 : decode jdk_33_method_47_code 0 = .ok (.iload_n 0, 1) := by decide +kernel
theorem d6_1 : decode jdk_33_method_47_code 1 = .ok (.ifCond .gt 14, 3) := by decide +kernel
theorem d6_15 : decode jdk_33_method_47_code 15 = .ok (.bipush 31, 2) := by decide +kernel
theorem d6_17 : decode jdk_33_method_47_code 17 = .ok (.istore_n 1, 1) := by decide +kernel
theorem d6_18 : decode jdk_33_method_47_code 18 = .ok (.iload_n 0, 1) := by decide +kernel
theorem d6_19 : decode jdk_33_method_47_code 19 = .ok (.ldc_w 264, 3) := by decide +kernel
theorem d6_22 : decode jdk_33_method_47_code 22 = .ok (.if_icmp .lt 11, 3) := by decide +kernel
theorem d6_33 : decode jdk_33_method_47_code 33 = .ok (.iload_n 0, 1) := by decide +kernel
theorem d6_34 : decode jdk_33_method_47_code 34 = .ok (.sipush 256, 3) := by decide +kernel
theorem d6_37 : decode jdk_33_method_47_code 37 = .ok (.if_icmp .lt 11, 3) := by decide +kernel
theorem d6_48 : decode jdk_33_method_47_code 48 = .ok (.iload_n 0, 1) := by decide +kernel
theorem d6_49 : decode jdk_33_method_47_code 49 = .ok (.bipush 16, 2) := by decide +kernel
theorem d6_51 : decode jdk_33_method_47_code 51 = .ok (.if_icmp .lt 10, 3) := by decide +kernel
theorem d6_61 : decode jdk_33_method_47_code 61 = .ok (.iload_n 0, 1) := by decide +kernel
theorem d6_62 : decode jdk_33_method_47_code 62 = .ok (.iconst 4, 1) := by decide +kernel
theorem d6_63 : decode jdk_33_method_47_code 63 = .ok (.if_icmp .lt 10, 3) := by decide +kernel
theorem d6_73 : decode jdk_33_method_47_code 73 = .ok (.iload_n 1, 1) := by decide +kernel
theorem d6_74 : decode jdk_33_method_47_code 74 = .ok (.iload_n 0, 1) := by decide +kernel
theorem d6_75 : decode jdk_33_method_47_code 75 = .ok (.iconst 1, 1) := by decide +kernel
theorem d6_76 : decode jdk_33_method_47_code 76 = .ok (.iushr, 1) := by decide +kernel
theorem d6_77 : decode jdk_33_method_47_code 77 = .ok (.isub, 1) := by decide +kernel
theorem d6_78 : decode jdk_33_method_47_code 78 = .ok (.ireturn, 1) := by decide +kernel
theorem pn_java_lang_Integer : plainName "java/lang/Integer" = true := by first | (simp [plainName, overriddenIn]; done) | decide +kernel
theorem ef_6_I (m : MethodId) (x0 : Int32) : entryFrame m #[(.int x0)] 2 = mkF m 0 #[.val (.int x0), .unset] [] := by first | (simp [entryFrame, mkF, argsToLocals, Value.category]; done) | rfl
def Q6 (Z : State) (p0 : Int32) (h0 : Heap) (n0 : Nat) (v : Option Value) (h : Heap) (L : List Loc) : Prop := v = some (.int (F6 p0)) ∧ Fr n0 L ∧ h = h0
set_option maxRecDepth 65536 in
set_option maxHeartbeats 40000000 in
theorem rm6 (l : Launch) (Z : State) (aA : Array Value) (hw : ∀ d ∈ tables_1, d.before aA Z = true) (ws : List Jvm.Cond) (p0 : Int32) (h0 : Heap) (n0 : Nat) (Z0 : n0 ≤ h0.size) (k0 : (0 : Int32) < p0) (k4 : p0 < (4 : Int32)) :
    MetFree l (⟨"java/lang/Integer", "numberOfLeadingZeros", "(I)I"⟩ : MethodName) (head1 (Jvm.Cond.code (⟨"java/lang/Integer", "numberOfLeadingZeros", "(I)I"⟩ : MethodName) jdk_33_method_47_code 2 (some .int) :: ws) ({ frames := 0, cells := 0, slots := 0, locals := 0 } : Room)) (fun a U => a = #[(.int p0)] ∧ Z.Warmed39 U.vm ∧ U.heap = h0) (fun _ _ _ _ _ => True) (fun _ U o U' => ∃ v L, o = .returned v ∧ Q6 Z p0 h0 n0 v U'.heap L ∧ FrameEnd U o U' L ({ frames := 0, cells := 0, slots := 0, locals := 0 } : Room).cells ({ frames := 0, cells := 0, slots := 0, locals := 0 } : Room).slots) := by
  refine MetFree.of_bodySF (plainFor_of_name pn_java_lang_Integer) hisR ?_
  intro p e s m args below meth c s₁ Bd hml0 hP hK
  obtain ⟨rfl, hZ, hh⟩ := hP
  have hx := Bd.exec
  have hby := Bd.bytes
  have hml : c.maxLocals = 2 := hml0
  have hown : s.vm.findClass "java/lang/Integer" = some m.cls := findClass_of_methodNamed Bd.named
  have hnm := (name_of_methodNamed Bd.named Bd.method).1
  have X0 : Stand p l e ({ frames := 0, cells := 0, slots := 0, locals := 0 } : Room) s m #[(.int p0)] below meth c s₁ [] 0 0 := Stand.of_body Bd
  have e0 : s₁.heap = h0 := by rw [← hh, Bd.state]; rfl
  have N0 := Fr.nil n0
  have KP0 : Keep h0 h0 [] := Keep.refl h0 _
  have pre0 : ∀ t, Steps p.tables e below (s₁.setTop (mkF m 0 #[.val (.int p0), .unset] [])) t → Steps p.tables e below (s₁.setTop (entryFrame m #[(.int p0)] 2)) t := fun t k => castTop (ef_6_I m p0) k
  have hF7 : (F6 p0) = ((31 : Int32) - ((p0.toUInt32 >>> ((1 : Int32) &&& 31).toUInt32).toInt32)) := rfl
  have pre8 : ∀ t, Steps p.tables e below (s₁.setTop (mkF m 78 #[.val (.int p0), .val (.int (31 : Int32))] [(.int ((31 : Int32) - ((p0.toUInt32 >>> ((1 : Int32) &&& 31).toUInt32).toInt32)))])) t → Steps p.tables e below (s₁.setTop (entryFrame m #[(.int p0)] 2)) t := by
    intro t kk
    refine pre0 t ?_
    show Steps p.tables e below (s₁.setTop (mkF m 0 #[.val (.int p0), .unset] [])) _
    refine XS.iloadN X0.here hx rfl (hb hby d6_0) rfl ?_
    show Steps p.tables e below (s₁.setTop (mkF m 1 #[.val (.int p0), .unset] [(.int p0)])) _
    refine XS.ifYes X0.here hx rfl (pc0 := 1) (pc' := 15) rfl (hb hby d6_1) rfl ((if0 _ _).trans (tlt k0).2.2.1) (by decide) (by decide) ?_
    show Steps p.tables e below (s₁.setTop (mkF m 15 #[.val (.int p0), .unset] [])) _
    refine XS.bipush X0.here hx rfl (hb hby d6_15) ?_
    show Steps p.tables e below (s₁.setTop (mkF m 17 #[.val (.int p0), .unset] [(.int (31 : Int32))])) _
    refine XS.istoreN X0.here hx rfl (hb hby d6_17) rfl (l' := #[.val (.int p0), .val (.int (31 : Int32))]) rfl ?_
    show Steps p.tables e below (s₁.setTop (mkF m 18 #[.val (.int p0), .val (.int (31 : Int32))] [])) _
    refine XS.iloadN X0.here hx rfl (hb hby d6_18) rfl ?_
    show Steps p.tables e below (s₁.setTop (mkF m 19 #[.val (.int p0), .val (.int (31 : Int32))] [(.int p0)])) _
    refine X0.ldcwInt hx hown (mvT hZ (hw _ (List.mem_of_getElem? (i := 44) rfl))) (g := (mkF m 19 #[.val (.int p0), .val (.int (31 : Int32))] [(.int p0)])) rfl (hb hby d6_19) _ ?_
    show Steps p.tables e below (s₁.setTop (mkF m 22 #[.val (.int p0), .val (.int (31 : Int32))] [(.int (65536 : Int32)), (.int p0)])) _
    refine XS.icmpYes X0.here hx rfl (pc0 := 22) (pc' := 33) rfl (hb hby d6_22) rfl (tlt (own_lt k4 (by decide))).1 (by decide) (by decide) ?_
    show Steps p.tables e below (s₁.setTop (mkF m 33 #[.val (.int p0), .val (.int (31 : Int32))] [])) _
    refine XS.iloadN X0.here hx rfl (hb hby d6_33) rfl ?_
    show Steps p.tables e below (s₁.setTop (mkF m 34 #[.val (.int p0), .val (.int (31 : Int32))] [(.int p0)])) _
    refine XS.sipush X0.here hx rfl (hb hby d6_34) ?_
    show Steps p.tables e below (s₁.setTop (mkF m 37 #[.val (.int p0), .val (.int (31 : Int32))] [(.int (256 : Int32)), (.int p0)])) _
    refine XS.icmpYes X0.here hx rfl (pc0 := 37) (pc' := 48) rfl (hb hby d6_37) rfl (tlt (own_lt k4 (by decide))).1 (by decide) (by decide) ?_
    show Steps p.tables e below (s₁.setTop (mkF m 48 #[.val (.int p0), .val (.int (31 : Int32))] [])) _
    refine XS.iloadN X0.here hx rfl (hb hby d6_48) rfl ?_
    show Steps p.tables e below (s₁.setTop (mkF m 49 #[.val (.int p0), .val (.int (31 : Int32))] [(.int p0)])) _
    refine XS.bipush X0.here hx rfl (hb hby d6_49) ?_
    show Steps p.tables e below (s₁.setTop (mkF m 51 #[.val (.int p0), .val (.int (31 : Int32))] [(.int (16 : Int32)), (.int p0)])) _
    refine XS.icmpYes X0.here hx rfl (pc0 := 51) (pc' := 61) rfl (hb hby d6_51) rfl (tlt (own_lt k4 (by decide))).1 (by decide) (by decide) ?_
    show Steps p.tables e below (s₁.setTop (mkF m 61 #[.val (.int p0), .val (.int (31 : Int32))] [])) _
    refine XS.iloadN X0.here hx rfl (hb hby d6_61) rfl ?_
    show Steps p.tables e below (s₁.setTop (mkF m 62 #[.val (.int p0), .val (.int (31 : Int32))] [(.int p0)])) _
    refine XS.iconst X0.here hx rfl (hb hby d6_62) ?_
    show Steps p.tables e below (s₁.setTop (mkF m 63 #[.val (.int p0), .val (.int (31 : Int32))] [(.int (4 : Int32)), (.int p0)])) _
    refine XS.icmpYes X0.here hx rfl (pc0 := 63) (pc' := 73) rfl (hb hby d6_63) rfl (tlt k4).1 (by decide) (by decide) ?_
    show Steps p.tables e below (s₁.setTop (mkF m 73 #[.val (.int p0), .val (.int (31 : Int32))] [])) _
    refine XS.iloadN X0.here hx rfl (hb hby d6_73) rfl ?_
    show Steps p.tables e below (s₁.setTop (mkF m 74 #[.val (.int p0), .val (.int (31 : Int32))] [(.int (31 : Int32))])) _
    refine XS.iloadN X0.here hx rfl (hb hby d6_74) rfl ?_
    show Steps p.tables e below (s₁.setTop (mkF m 75 #[.val (.int p0), .val (.int (31 : Int32))] [(.int p0), (.int (31 : Int32))])) _
    refine XS.iconst X0.here hx rfl (hb hby d6_75) ?_
    show Steps p.tables e below (s₁.setTop (mkF m 76 #[.val (.int p0), .val (.int (31 : Int32))] [(.int (1 : Int32)), (.int p0), (.int (31 : Int32))])) _
    refine XS.iushr X0.here hx rfl (hb hby d6_76) rfl ?_
    show Steps p.tables e below (s₁.setTop (mkF m 77 #[.val (.int p0), .val (.int (31 : Int32))] [(.int ((p0.toUInt32 >>> ((1 : Int32) &&& 31).toUInt32).toInt32)), (.int (31 : Int32))])) _
    refine XS.isub X0.here hx rfl (hb hby d6_77) rfl ?_
    exact kk
  obtain ⟨fs, hr, hrun, hended, hW, hsame⟩ := X0.leave (v := some (.int ((31 : Int32) - ((p0.toUInt32 >>> ((1 : Int32) &&& 31).toUInt32).toInt32)))) (fun h => by rw [Bd.returns] at h; cases h)
  refine ⟨_, _, pre8 _ ?_, hrun, hended, _, _, rfl, ?_, ⟨_, rfl⟩, hW, hsame.mono (by decide) (by decide)⟩
  · show Steps p.tables e below (s₁.setTop (mkF m 78 #[.val (.int p0), .val (.int (31 : Int32))] [(.int ((31 : Int32) - ((p0.toUInt32 >>> ((1 : Int32) &&& 31).toUInt32).toInt32)))])) _
    exact retOut X0 hx Bd.returns rfl (Or.inl ⟨rfl, Or.inl rfl, _, rfl⟩) (hb hby d6_78) hr
  · show Q6 Z p0 h0 n0 _ s₁.heap _
    rw [e0]
    exact ⟨congrArg (fun z => some (Value.int z)) hF7.symm, N0, rfl⟩
def F5 (p0 : Int32) : Int32 := (p0 &&& (((-2147483648 : Int32).toUInt32 >>> ((F6 p0) &&& 31).toUInt32).toInt32))
theorem pd__28I_29I : parseMethodDescriptor "(I)I" = some ⟨[.int], some .int⟩ := by decide +kernel
theorem d5_0 : decode jdk_33_method_45_code 0 = .ok (.iload_n 0, 1) := by decide +kernel
theorem d5_1 : decode jdk_33_method_45_code 1 = .ok (.ldc 127, 2) := by decide +kernel
theorem d5_3 : decode jdk_33_method_45_code 3 = .ok (.iload_n 0, 1) := by decide +kernel
theorem d5_4 : decode jdk_33_method_45_code 4 = .ok (.invokestatic 51, 3) := by decide +kernel
theorem d5_7 : decode jdk_33_method_45_code 7 = .ok (.iushr, 1) := by decide +kernel
theorem d5_8 : decode jdk_33_method_45_code 8 = .ok (.iand, 1) := by decide +kernel
theorem d5_9 : decode jdk_33_method_45_code 9 = .ok (.ireturn, 1) := by decide +kernel
theorem ef_5_I (m : MethodId) (x0 : Int32) : entryFrame m #[(.int x0)] 1 = mkF m 0 #[.val (.int x0)] [] := by first | (simp [entryFrame, mkF, argsToLocals, Value.category]; done) | rfl
def Q5 (Z : State) (p0 : Int32) (h0 : Heap) (n0 : Nat) (v : Option Value) (h : Heap) (L : List Loc) : Prop := v = some (.int (F5 p0)) ∧ Fr n0 L ∧ h = h0
set_option maxRecDepth 65536 in
set_option maxHeartbeats 40000000 in
theorem rm5 (l : Launch) (Z : State) (aA : Array Value) (hw : ∀ d ∈ tables_1, d.before aA Z = true) (ws : List Jvm.Cond) (p0 : Int32) (h0 : Heap) (n0 : Nat) (Z0 : n0 ≤ h0.size) (k0 : (0 : Int32) < p0) (k4 : p0 < (4 : Int32)) :
    MetFree l (⟨"java/lang/Integer", "highestOneBit", "(I)I"⟩ : MethodName) (head1 (Jvm.Cond.code (⟨"java/lang/Integer", "highestOneBit", "(I)I"⟩ : MethodName) jdk_33_method_45_code 1 (some .int) :: ws) ({ frames := 1, cells := 0, slots := 0, locals := 15 } : Room)) (fun a U => a = #[(.int p0)] ∧ Z.Warmed39 U.vm ∧ U.heap = h0) (fun _ _ _ _ _ => True) (fun _ U o U' => ∃ v L, o = .returned v ∧ Q5 Z p0 h0 n0 v U'.heap L ∧ FrameEnd U o U' L ({ frames := 1, cells := 0, slots := 0, locals := 15 } : Room).cells ({ frames := 1, cells := 0, slots := 0, locals := 15 } : Room).slots) := by
  refine MetFree.of_bodySF (plainFor_of_name pn_java_lang_Integer) hisR ?_
  intro p e s m args below meth c s₁ Bd hml0 hP hK
  obtain ⟨rfl, hZ, hh⟩ := hP
  have hx := Bd.exec
  have hby := Bd.bytes
  have hml : c.maxLocals = 1 := hml0
  have hown : s.vm.findClass "java/lang/Integer" = some m.cls := findClass_of_methodNamed Bd.named
  have hnm := (name_of_methodNamed Bd.named Bd.method).1
  have X0 : Stand p l e ({ frames := 1, cells := 0, slots := 0, locals := 15 } : Room) s m #[(.int p0)] below meth c s₁ [] 0 0 := Stand.of_body Bd
  have e0 : s₁.heap = h0 := by rw [← hh, Bd.state]; rfl
  have N0 := Fr.nil n0
  have KP0 : Keep h0 h0 [] := Keep.refl h0 _
  have pre0 : ∀ t, Steps p.tables e below (s₁.setTop (mkF m 0 #[.val (.int p0)] [])) t → Steps p.tables e below (s₁.setTop (entryFrame m #[(.int p0)] 1)) t := fun t k => castTop (ef_5_I m p0) k
  obtain ⟨_, _, ⟨T9, L9, k9, n9⟩, -, X9, ⟨Lc9, hQ9, l9, y9, z9⟩, st9⟩ := Jvm.LawKit.callS X0 hx (y := (⟨"java/lang/Integer", "numberOfLeadingZeros", "(I)I"⟩ : MethodName)) hown (mvT hZ (hw _ (List.mem_of_getElem? (i := 41) rfl))) (mvT hZ (hw _ (List.mem_of_getElem? (i := 42) rfl))) (mvT hZ (hw _ (List.mem_of_getElem? (i := 38) rfl))) (mvT hZ (hw _ (List.mem_of_getElem? (i := 43) rfl))) (by decide) (backOf (W := 2) (rm6 l Z aA hw [] p0  h0 n0 Z0 k0 k4) hZ (hw _ (List.mem_of_getElem? (i := 43) rfl)) (hw _ (List.mem_of_getElem? (i := 38) rfl)) (by decide) (by decide)) (g := (mkF m 4 #[.val (.int p0)] [(.int p0), (.int (-2147483648 : Int32)), (.int p0)])) rfl (by rw [hml]; rfl) (argsL := [(.int p0)]) (rest := [(.int (-2147483648 : Int32)), (.int p0)]) (lenOf pd__28I_29I rfl) rfl (by show 2 * 0 + _ ≤ _; exact Nat.le_of_eq rfl) (hb hby d5_4) (fun _ _ => ⟨rfl, e0, (by decide : 0 + 0 ≤ _), (by decide : 0 + 0 ≤ _)⟩)
  dsimp only [Pt.U, Pt.locs, Pt.cells, Pt.slots] at X9 l9 y9 z9 st9 hQ9
  subst l9 y9 z9
  obtain ⟨rfl, N9q, e9⟩ := hQ9
  have N9 := Fr.app N0 N9q
  have hF10 : (F5 p0) = (p0 &&& (((-2147483648 : Int32).toUInt32 >>> ((F6 p0) &&& 31).toUInt32).toInt32)) := rfl
  have pre11 : ∀ t, Steps p.tables e below (T9.setTop (mkF m 9 #[.val (.int p0)] [(.int (p0 &&& (((-2147483648 : Int32).toUInt32 >>> ((F6 p0) &&& 31).toUInt32).toInt32)))])) t → Steps p.tables e below (s₁.setTop (entryFrame m #[(.int p0)] 1)) t := by
    intro t kk
    refine pre0 t ?_
    show Steps p.tables e below (s₁.setTop (mkF m 0 #[.val (.int p0)] [])) _
    refine XS.iloadN X0.here hx rfl (hb hby d5_0) rfl ?_
    show Steps p.tables e below (s₁.setTop (mkF m 1 #[.val (.int p0)] [(.int p0)])) _
    refine X0.ldcInt hx hown (mvT hZ (hw _ (List.mem_of_getElem? (i := 40) rfl))) (g := (mkF m 1 #[.val (.int p0)] [(.int p0)])) rfl (hb hby d5_1) _ ?_
    show Steps p.tables e below (s₁.setTop (mkF m 3 #[.val (.int p0)] [(.int (-2147483648 : Int32)), (.int p0)])) _
    refine XS.iloadN X0.here hx rfl (hb hby d5_3) rfl ?_
    show Steps p.tables e below (s₁.setTop (mkF m 4 #[.val (.int p0)] [(.int p0), (.int (-2147483648 : Int32)), (.int p0)])) _
    refine st9 _ ?_
    show Steps p.tables e below (T9.setTop (mkF m 7 #[.val (.int p0)] [(.int (F6 p0)), (.int (-2147483648 : Int32)), (.int p0)])) _
    refine XS.iushr X9.here hx rfl (hb hby d5_7) rfl ?_
    show Steps p.tables e below (T9.setTop (mkF m 8 #[.val (.int p0)] [(.int (((-2147483648 : Int32).toUInt32 >>> ((F6 p0) &&& 31).toUInt32).toInt32)), (.int p0)])) _
    refine XS.iand X9.here hx rfl (hb hby d5_8) rfl ?_
    exact kk
  obtain ⟨fs, hr, hrun, hended, hW, hsame⟩ := X9.leave (v := some (.int (p0 &&& (((-2147483648 : Int32).toUInt32 >>> ((F6 p0) &&& 31).toUInt32).toInt32)))) (fun h => by rw [Bd.returns] at h; cases h)
  refine ⟨_, _, pre11 _ ?_, hrun, hended, _, _, rfl, ?_, ⟨_, rfl⟩, hW, hsame.mono (by decide) (by decide)⟩
  · show Steps p.tables e below (T9.setTop (mkF m 9 #[.val (.int p0)] [(.int (p0 &&& (((-2147483648 : Int32).toUInt32 >>> ((F6 p0) &&& 31).toUInt32).toInt32)))])) _
    exact retOut X9 hx Bd.returns rfl (Or.inl ⟨rfl, Or.inl rfl, _, rfl⟩) (hb hby d5_9) hr
  · show Q5 Z p0 h0 n0 _ T9.heap _
    rw [e9]
    exact ⟨congrArg (fun z => some (Value.int z)) hF10.symm, N9, rfl⟩
def F7 (p0 : Int32) : Int32 := ((1 : Int32) + ((((p0 ^^^ (-1 : Int32)) &&& (p0 - (1 : Int32))).toUInt32 >>> ((1 : Int32) &&& 31).toUInt32).toInt32))
theorem d7_0 : decode jdk_33_method_48_code 0 = .ok (.iload_n 0, 1) := by decide +kernel
theorem d7_1 : decode jdk_33_method_48_code 1 = .ok (.iconst (-1), 1) := by decide +kernel
theorem d7_2 : decode jdk_33_method_48_code 2 = .ok (.ixor, 1) := by decide +kernel
theorem d7_3 : decode jdk_33_method_48_code 3 = .ok (.iload_n 0, 1) := by decide +kernel
theorem d7_4 : decode jdk_33_method_48_code 4 = .ok (.iconst 1, 1) := by decide +kernel
theorem d7_5 : decode jdk_33_method_48_code 5 = .ok (.isub, 1) := by decide +kernel
theorem d7_6 : decode jdk_33_method_48_code 6 = .ok (.iand, 1) := by decide +kernel
theorem d7_7 : decode jdk_33_method_48_code 7 = .ok (.istore_n 0, 1) := by decide +kernel
theorem d7_8 : decode jdk_33_method_48_code 8 = .ok (.iload_n 0, 1) := by decide +kernel
theorem d7_9 : decode jdk_33_method_48_code 9 = .ok (.ifCond .gt 8, 3) := by decide +kernel
theorem d7_17 : decode jdk_33_method_48_code 17 = .ok (.iconst 1, 1) := by decide +kernel
theorem d7_18 : decode jdk_33_method_48_code 18 = .ok (.istore_n 1, 1) := by decide +kernel
theorem d7_19 : decode jdk_33_method_48_code 19 = .ok (.iload_n 0, 1) := by decide +kernel
theorem d7_20 : decode jdk_33_method_48_code 20 = .ok (.ldc_w 264, 3) := by decide +kernel
theorem d7_23 : decode jdk_33_method_48_code 23 = .ok (.if_icmp .le 11, 3) := by decide +kernel
theorem d7_34 : decode jdk_33_method_48_code 34 = .ok (.iload_n 0, 1) := by decide +kernel
theorem d7_35 : decode jdk_33_method_48_code 35 = .ok (.sipush 256, 3) := by decide +kernel
theorem d7_38 : decode jdk_33_method_48_code 38 = .ok (.if_icmp .le 11, 3) := by decide +kernel
theorem d7_49 : decode jdk_33_method_48_code 49 = .ok (.iload_n 0, 1) := by decide +kernel
theorem d7_50 : decode jdk_33_method_48_code 50 = .ok (.bipush 16, 2) := by decide +kernel
theorem d7_52 : decode jdk_33_method_48_code 52 = .ok (.if_icmp .le 10, 3) := by decide +kernel
theorem d7_62 : decode jdk_33_method_48_code 62 = .ok (.iload_n 0, 1) := by decide +kernel
theorem d7_63 : decode jdk_33_method_48_code 63 = .ok (.iconst 4, 1) := by decide +kernel
theorem d7_64 : decode jdk_33_method_48_code 64 = .ok (.if_icmp .le 10, 3) := by decide +kernel
theorem d7_74 : decode jdk_33_method_48_code 74 = .ok (.iload_n 1, 1) := by decide +kernel
theorem d7_75 : decode jdk_33_method_48_code 75 = .ok (.iload_n 0, 1) := by decide +kernel
theorem d7_76 : decode jdk_33_method_48_code 76 = .ok (.iconst 1, 1) := by decide +kernel
theorem d7_77 : decode jdk_33_method_48_code 77 = .ok (.iushr, 1) := by decide +kernel
theorem d7_78 : decode jdk_33_method_48_code 78 = .ok (.iadd, 1) := by decide +kernel
theorem d7_79 : decode jdk_33_method_48_code 79 = .ok (.ireturn, 1) := by decide +kernel
theorem ef_7_I (m : MethodId) (x0 : Int32) : entryFrame m #[(.int x0)] 2 = mkF m 0 #[.val (.int x0), .unset] [] := by first | (simp [entryFrame, mkF, argsToLocals, Value.category]; done) | rfl
def Q7 (Z : State) (p0 : Int32) (h0 : Heap) (n0 : Nat) (v : Option Value) (h : Heap) (L : List Loc) : Prop := v = some (.int (F7 p0)) ∧ Fr n0 L ∧ h = h0
set_option maxRecDepth 65536 in
set_option maxHeartbeats 40000000 in
theorem rm7 (l : Launch) (Z : State) (aA : Array Value) (hw : ∀ d ∈ tables_1, d.before aA Z = true) (ws : List Jvm.Cond) (p0 : Int32) (h0 : Heap) (n0 : Nat) (Z0 : n0 ≤ h0.size) (k0 : (0 : Int32) < ((p0 ^^^ (-1 : Int32)) &&& (p0 - (1 : Int32)))) (k4 : ¬ (4 : Int32) < ((p0 ^^^ (-1 : Int32)) &&& (p0 - (1 : Int32)))) :
    MetFree l (⟨"java/lang/Integer", "numberOfTrailingZeros", "(I)I"⟩ : MethodName) (head1 (Jvm.Cond.code (⟨"java/lang/Integer", "numberOfTrailingZeros", "(I)I"⟩ : MethodName) jdk_33_method_48_code 2 (some .int) :: ws) ({ frames := 0, cells := 0, slots := 0, locals := 0 } : Room)) (fun a U => a = #[(.int p0)] ∧ Z.Warmed39 U.vm ∧ U.heap = h0) (fun _ _ _ _ _ => True) (fun _ U o U' => ∃ v L, o = .returned v ∧ Q7 Z p0 h0 n0 v U'.heap L ∧ FrameEnd U o U' L ({ frames := 0, cells := 0, slots := 0, locals := 0 } : Room).cells ({ frames := 0, cells := 0, slots := 0, locals := 0 } : Room).slots) := by
  refine MetFree.of_bodySF (plainFor_of_name pn_java_lang_Integer) hisR ?_
  intro p e s m args below meth c s₁ Bd hml0 hP hK
  obtain ⟨rfl, hZ, hh⟩ := hP
  have hx := Bd.exec
  have hby := Bd.bytes
  have hml : c.maxLocals = 2 := hml0
  have hown : s.vm.findClass "java/lang/Integer" = some m.cls := findClass_of_methodNamed Bd.named
  have hnm := (name_of_methodNamed Bd.named Bd.method).1
  have X0 : Stand p l e ({ frames := 0, cells := 0, slots := 0, locals := 0 } : Room) s m #[(.int p0)] below meth c s₁ [] 0 0 := Stand.of_body Bd
  have e0 : s₁.heap = h0 := by rw [← hh, Bd.state]; rfl
  have N0 := Fr.nil n0
  have KP0 : Keep h0 h0 [] := Keep.refl h0 _
  have pre0 : ∀ t, Steps p.tables e below (s₁.setTop (mkF m 0 #[.val (.int p0), .unset] [])) t → Steps p.tables e below (s₁.setTop (entryFrame m #[(.int p0)] 2)) t := fun t k => castTop (ef_7_I m p0) k
  have hF12 : (F7 p0) = ((1 : Int32) + ((((p0 ^^^ (-1 : Int32)) &&& (p0 - (1 : Int32))).toUInt32 >>> ((1 : Int32) &&& 31).toUInt32).toInt32)) := rfl
  have pre13 : ∀ t, Steps p.tables e below (s₁.setTop (mkF m 79 #[.val (.int ((p0 ^^^ (-1 : Int32)) &&& (p0 - (1 : Int32)))), .val (.int (1 : Int32))] [(.int ((1 : Int32) + ((((p0 ^^^ (-1 : Int32)) &&& (p0 - (1 : Int32))).toUInt32 >>> ((1 : Int32) &&& 31).toUInt32).toInt32)))])) t → Steps p.tables e below (s₁.setTop (entryFrame m #[(.int p0)] 2)) t := by
    intro t kk
    refine pre0 t ?_
    show Steps p.tables e below (s₁.setTop (mkF m 0 #[.val (.int p0), .unset] [])) _
    refine XS.iloadN X0.here hx rfl (hb hby d7_0) rfl ?_
    show Steps p.tables e below (s₁.setTop (mkF m 1 #[.val (.int p0), .unset] [(.int p0)])) _
    refine XS.iconst X0.here hx rfl (hb hby d7_1) ?_
    show Steps p.tables e below (s₁.setTop (mkF m 2 #[.val (.int p0), .unset] [(.int (-1 : Int32)), (.int p0)])) _
    refine XS.ixor X0.here hx rfl (hb hby d7_2) rfl ?_
    show Steps p.tables e below (s₁.setTop (mkF m 3 #[.val (.int p0), .unset] [(.int (p0 ^^^ (-1 : Int32)))])) _
    refine XS.iloadN X0.here hx rfl (hb hby d7_3) rfl ?_
    show Steps p.tables e below (s₁.setTop (mkF m 4 #[.val (.int p0), .unset] [(.int p0), (.int (p0 ^^^ (-1 : Int32)))])) _
    refine XS.iconst X0.here hx rfl (hb hby d7_4) ?_
    show Steps p.tables e below (s₁.setTop (mkF m 5 #[.val (.int p0), .unset] [(.int (1 : Int32)), (.int p0), (.int (p0 ^^^ (-1 : Int32)))])) _
    refine XS.isub X0.here hx rfl (hb hby d7_5) rfl ?_
    show Steps p.tables e below (s₁.setTop (mkF m 6 #[.val (.int p0), .unset] [(.int (p0 - (1 : Int32))), (.int (p0 ^^^ (-1 : Int32)))])) _
    refine XS.iand X0.here hx rfl (hb hby d7_6) rfl ?_
    show Steps p.tables e below (s₁.setTop (mkF m 7 #[.val (.int p0), .unset] [(.int ((p0 ^^^ (-1 : Int32)) &&& (p0 - (1 : Int32))))])) _
    refine XS.istoreN X0.here hx rfl (hb hby d7_7) rfl (l' := #[.val (.int ((p0 ^^^ (-1 : Int32)) &&& (p0 - (1 : Int32)))), .unset]) rfl ?_
    show Steps p.tables e below (s₁.setTop (mkF m 8 #[.val (.int ((p0 ^^^ (-1 : Int32)) &&& (p0 - (1 : Int32)))), .unset] [])) _
    refine XS.iloadN X0.here hx rfl (hb hby d7_8) rfl ?_
    show Steps p.tables e below (s₁.setTop (mkF m 9 #[.val (.int ((p0 ^^^ (-1 : Int32)) &&& (p0 - (1 : Int32)))), .unset] [(.int ((p0 ^^^ (-1 : Int32)) &&& (p0 - (1 : Int32))))])) _
    refine XS.ifYes X0.here hx rfl (pc0 := 9) (pc' := 17) rfl (hb hby d7_9) rfl ((if0 _ _).trans (tlt k0).2.2.1) (by decide) (by decide) ?_
    show Steps p.tables e below (s₁.setTop (mkF m 17 #[.val (.int ((p0 ^^^ (-1 : Int32)) &&& (p0 - (1 : Int32)))), .unset] [])) _
    refine XS.iconst X0.here hx rfl (hb hby d7_17) ?_
    show Steps p.tables e below (s₁.setTop (mkF m 18 #[.val (.int ((p0 ^^^ (-1 : Int32)) &&& (p0 - (1 : Int32)))), .unset] [(.int (1 : Int32))])) _
    refine XS.istoreN X0.here hx rfl (hb hby d7_18) rfl (l' := #[.val (.int ((p0 ^^^ (-1 : Int32)) &&& (p0 - (1 : Int32)))), .val (.int (1 : Int32))]) rfl ?_
    show Steps p.tables e below (s₁.setTop (mkF m 19 #[.val (.int ((p0 ^^^ (-1 : Int32)) &&& (p0 - (1 : Int32)))), .val (.int (1 : Int32))] [])) _
    refine XS.iloadN X0.here hx rfl (hb hby d7_19) rfl ?_
    show Steps p.tables e below (s₁.setTop (mkF m 20 #[.val (.int ((p0 ^^^ (-1 : Int32)) &&& (p0 - (1 : Int32)))), .val (.int (1 : Int32))] [(.int ((p0 ^^^ (-1 : Int32)) &&& (p0 - (1 : Int32))))])) _
    refine X0.ldcwInt hx hown (mvT hZ (hw _ (List.mem_of_getElem? (i := 44) rfl))) (g := (mkF m 20 #[.val (.int ((p0 ^^^ (-1 : Int32)) &&& (p0 - (1 : Int32)))), .val (.int (1 : Int32))] [(.int ((p0 ^^^ (-1 : Int32)) &&& (p0 - (1 : Int32))))])) rfl (hb hby d7_20) _ ?_
    show Steps p.tables e below (s₁.setTop (mkF m 23 #[.val (.int ((p0 ^^^ (-1 : Int32)) &&& (p0 - (1 : Int32)))), .val (.int (1 : Int32))] [(.int (65536 : Int32)), (.int ((p0 ^^^ (-1 : Int32)) &&& (p0 - (1 : Int32))))])) _
    refine XS.icmpYes X0.here hx rfl (pc0 := 23) (pc' := 34) rfl (hb hby d7_23) rfl (flt (own_nl k4 (by decide))).2.2.2 (by decide) (by decide) ?_
    show Steps p.tables e below (s₁.setTop (mkF m 34 #[.val (.int ((p0 ^^^ (-1 : Int32)) &&& (p0 - (1 : Int32)))), .val (.int (1 : Int32))] [])) _
    refine XS.iloadN X0.here hx rfl (hb hby d7_34) rfl ?_
    show Steps p.tables e below (s₁.setTop (mkF m 35 #[.val (.int ((p0 ^^^ (-1 : Int32)) &&& (p0 - (1 : Int32)))), .val (.int (1 : Int32))] [(.int ((p0 ^^^ (-1 : Int32)) &&& (p0 - (1 : Int32))))])) _
    refine XS.sipush X0.here hx rfl (hb hby d7_35) ?_
    show Steps p.tables e below (s₁.setTop (mkF m 38 #[.val (.int ((p0 ^^^ (-1 : Int32)) &&& (p0 - (1 : Int32)))), .val (.int (1 : Int32))] [(.int (256 : Int32)), (.int ((p0 ^^^ (-1 : Int32)) &&& (p0 - (1 : Int32))))])) _
    refine XS.icmpYes X0.here hx rfl (pc0 := 38) (pc' := 49) rfl (hb hby d7_38) rfl (flt (own_nl k4 (by decide))).2.2.2 (by decide) (by decide) ?_
    show Steps p.tables e below (s₁.setTop (mkF m 49 #[.val (.int ((p0 ^^^ (-1 : Int32)) &&& (p0 - (1 : Int32)))), .val (.int (1 : Int32))] [])) _
    refine XS.iloadN X0.here hx rfl (hb hby d7_49) rfl ?_
    show Steps p.tables e below (s₁.setTop (mkF m 50 #[.val (.int ((p0 ^^^ (-1 : Int32)) &&& (p0 - (1 : Int32)))), .val (.int (1 : Int32))] [(.int ((p0 ^^^ (-1 : Int32)) &&& (p0 - (1 : Int32))))])) _
    refine XS.bipush X0.here hx rfl (hb hby d7_50) ?_
    show Steps p.tables e below (s₁.setTop (mkF m 52 #[.val (.int ((p0 ^^^ (-1 : Int32)) &&& (p0 - (1 : Int32)))), .val (.int (1 : Int32))] [(.int (16 : Int32)), (.int ((p0 ^^^ (-1 : Int32)) &&& (p0 - (1 : Int32))))])) _
    refine XS.icmpYes X0.here hx rfl (pc0 := 52) (pc' := 62) rfl (hb hby d7_52) rfl (flt (own_nl k4 (by decide))).2.2.2 (by decide) (by decide) ?_
    show Steps p.tables e below (s₁.setTop (mkF m 62 #[.val (.int ((p0 ^^^ (-1 : Int32)) &&& (p0 - (1 : Int32)))), .val (.int (1 : Int32))] [])) _
    refine XS.iloadN X0.here hx rfl (hb hby d7_62) rfl ?_
    show Steps p.tables e below (s₁.setTop (mkF m 63 #[.val (.int ((p0 ^^^ (-1 : Int32)) &&& (p0 - (1 : Int32)))), .val (.int (1 : Int32))] [(.int ((p0 ^^^ (-1 : Int32)) &&& (p0 - (1 : Int32))))])) _
    refine XS.iconst X0.here hx rfl (hb hby d7_63) ?_
    show Steps p.tables e below (s₁.setTop (mkF m 64 #[.val (.int ((p0 ^^^ (-1 : Int32)) &&& (p0 - (1 : Int32)))), .val (.int (1 : Int32))] [(.int (4 : Int32)), (.int ((p0 ^^^ (-1 : Int32)) &&& (p0 - (1 : Int32))))])) _
    refine XS.icmpYes X0.here hx rfl (pc0 := 64) (pc' := 74) rfl (hb hby d7_64) rfl (flt k4).2.2.2 (by decide) (by decide) ?_
    show Steps p.tables e below (s₁.setTop (mkF m 74 #[.val (.int ((p0 ^^^ (-1 : Int32)) &&& (p0 - (1 : Int32)))), .val (.int (1 : Int32))] [])) _
    refine XS.iloadN X0.here hx rfl (hb hby d7_74) rfl ?_
    show Steps p.tables e below (s₁.setTop (mkF m 75 #[.val (.int ((p0 ^^^ (-1 : Int32)) &&& (p0 - (1 : Int32)))), .val (.int (1 : Int32))] [(.int (1 : Int32))])) _
    refine XS.iloadN X0.here hx rfl (hb hby d7_75) rfl ?_
    show Steps p.tables e below (s₁.setTop (mkF m 76 #[.val (.int ((p0 ^^^ (-1 : Int32)) &&& (p0 - (1 : Int32)))), .val (.int (1 : Int32))] [(.int ((p0 ^^^ (-1 : Int32)) &&& (p0 - (1 : Int32)))), (.int (1 : Int32))])) _
    refine XS.iconst X0.here hx rfl (hb hby d7_76) ?_
    show Steps p.tables e below (s₁.setTop (mkF m 77 #[.val (.int ((p0 ^^^ (-1 : Int32)) &&& (p0 - (1 : Int32)))), .val (.int (1 : Int32))] [(.int (1 : Int32)), (.int ((p0 ^^^ (-1 : Int32)) &&& (p0 - (1 : Int32)))), (.int (1 : Int32))])) _
    refine XS.iushr X0.here hx rfl (hb hby d7_77) rfl ?_
    show Steps p.tables e below (s₁.setTop (mkF m 78 #[.val (.int ((p0 ^^^ (-1 : Int32)) &&& (p0 - (1 : Int32)))), .val (.int (1 : Int32))] [(.int ((((p0 ^^^ (-1 : Int32)) &&& (p0 - (1 : Int32))).toUInt32 >>> ((1 : Int32) &&& 31).toUInt32).toInt32)), (.int (1 : Int32))])) _
    refine XS.iadd X0.here hx rfl (hb hby d7_78) rfl ?_
    exact kk
  obtain ⟨fs, hr, hrun, hended, hW, hsame⟩ := X0.leave (v := some (.int ((1 : Int32) + ((((p0 ^^^ (-1 : Int32)) &&& (p0 - (1 : Int32))).toUInt32 >>> ((1 : Int32) &&& 31).toUInt32).toInt32)))) (fun h => by rw [Bd.returns] at h; cases h)
  refine ⟨_, _, pre13 _ ?_, hrun, hended, _, _, rfl, ?_, ⟨_, rfl⟩, hW, hsame.mono (by decide) (by decide)⟩
  · show Steps p.tables e below (s₁.setTop (mkF m 79 #[.val (.int ((p0 ^^^ (-1 : Int32)) &&& (p0 - (1 : Int32)))), .val (.int (1 : Int32))] [(.int ((1 : Int32) + ((((p0 ^^^ (-1 : Int32)) &&& (p0 - (1 : Int32))).toUInt32 >>> ((1 : Int32) &&& 31).toUInt32).toInt32)))])) _
    exact retOut X0 hx Bd.returns rfl (Or.inl ⟨rfl, Or.inl rfl, _, rfl⟩) (hb hby d7_79) hr
  · show Q7 Z p0 h0 n0 _ s₁.heap _
    rw [e0]
    exact ⟨congrArg (fun z => some (Value.int z)) hF12.symm, N0, rfl⟩
theorem own_long {Z : State} {h : Heap} {a : Addr} {k : ClassId} {n j : Int32} {vs : List Value} {dv : Value} (F : Arv Z h a k .long n vs dv) (h0 : ¬ j < (0 : Int32)) (h1 : j < n) : ∃ z : Int64, vs.getD j.toNatClampNeg dv = .long z := by
  obtain ⟨c, -, -, S, -, -, G⟩ := F
  have q := inb_of S ⟨h0, h1⟩
  exact fit_J (G _ (Nat.lt_of_not_le fun y => q (Or.inr y)))
theorem own_inc {i n : Int32} (h0 : ¬ i < (0 : Int32)) (h1 : i < n) : (i + (1 : Int32)).toInt = i.toInt + 1 := by
  rw [Int32.lt_iff_toInt_lt] at h1
  have a := c_iadd i (1 : Int32)
  rw [show (1 : Int32).toInt = 1 by decide] at a
  have r1 := rng32 i
  have r2 := rng32 n
  have r3 := rng32 (i + (1 : Int32))
  omega
theorem own_inc0 {i n : Int32} (h0 : ¬ i < (0 : Int32)) (h1 : i < n) : ¬ (i + (1 : Int32)) < (0 : Int32) := by
  have a := own_inc h0 h1
  rw [Int32.lt_iff_toInt_lt, show (0 : Int32).toInt = 0 by decide] at h0 ⊢
  omega
theorem own_inc1 {i n : Int32} (h0 : ¬ i < (0 : Int32)) (h1 : i < n) : ¬ n < (i + (1 : Int32)) := by
  have a := own_inc h0 h1
  rw [Int32.lt_iff_toInt_lt] at h1 ⊢
  omega
theorem own_incK {i n : Int32} {k : Nat} (h0 : ¬ i < (0 : Int32)) (h1 : i < n) (hk : n.toInt - i.toInt ≤ ((k + 1 : Nat) : Int)) : n.toInt - (i + (1 : Int32)).toInt ≤ (k : Int) := by
  have a := own_inc h0 h1
  omega
-- the inner loop of SlotIndex.<init>
theorem d3_64 : decode prog_27_method_1_code 64 = .ok (.iload_n 3, 1) := by decide +kernel
theorem d3_65 : decode prog_27_method_1_code 65 = .ok (.aload_n 1, 1) := by decide +kernel
theorem d3_66 : decode prog_27_method_1_code 66 = .ok (.arraylength, 1) := by decide +kernel
theorem d3_67 : decode prog_27_method_1_code 67 = .ok (.if_icmp .ge 23, 3) := by decide +kernel
theorem d3_70 : decode prog_27_method_1_code 70 = .ok (.aload_n 1, 1) := by decide +kernel
theorem d3_71 : decode prog_27_method_1_code 71 = .ok (.iload_n 3, 1) := by decide +kernel
theorem d3_72 : decode prog_27_method_1_code 72 = .ok (.laload, 1) := by decide +kernel
theorem d3_73 : decode prog_27_method_1_code 73 = .ok (.aload_n 0, 1) := by decide +kernel
theorem d3_74 : decode prog_27_method_1_code 74 = .ok (.getfield 28, 3) := by decide +kernel
theorem d3_77 : decode prog_27_method_1_code 77 = .ok (.lushr, 1) := by decide +kernel
theorem d3_78 : decode prog_27_method_1_code 78 = .ok (.l2i, 1) := by decide +kernel
theorem d3_79 : decode prog_27_method_1_code 79 = .ok (.iload 4, 2) := by decide +kernel
theorem d3_81 : decode prog_27_method_1_code 81 = .ok (.if_icmp .ne 9, 3) := by decide +kernel
theorem d3_84 : decode prog_27_method_1_code 84 = .ok (.iinc 3 1, 3) := by decide +kernel
theorem d3_87 : decode prog_27_method_1_code 87 = .ok (.goto (-23), 3) := by decide +kernel
set_option maxRecDepth 65536 in
set_option maxHeartbeats 40000000 in
theorem own_loop {p : Program} {l : Launch} {e : Env} {R : Room} {s : State} {m : MethodId} {args : Array Value} {below : List Frame} {meth : Method} {c : Code} {Z : State} {aA : Array Value} {h0 : Heap} {locs : List Loc} {cells slots : Nat} {a_ ps_ : Addr} {b_ sv_ n_ : Int32} {kp_ : ClassId} {vs_ : List Value} {dv_ : Value} (hx : p.tables.exec = Jvm.exec) (hZ : Z.Warmed39 s.vm) (hw : ∀ d ∈ tables_1, d.before aA Z = true) (hby : c.code = prog_27_method_1_code) (hml : c.maxLocals = 5) (hown : s.vm.findClass "com/example/clockwise/clockwise/SlotIndex" = some m.cls) (Fsh : Fld Z h0 a_ "com/example/clockwise/clockwise/SlotIndex" "shift" "I" (.int sv_)) (Vps : Arv Z h0 ps_ kp_ .long n_ vs_ dv_) : ∀ (k : Nat) {T0 : State} {i_ : Int32} (X0 : Stand p l e R s m args below meth c T0 locs cells slots) (e0 : T0.heap = h0) (hi : ¬ i_ < (0 : Int32)) (hn : ¬ n_ < i_) (hk : n_.toInt - i_.toInt ≤ (k : Int)),
    ∃ (T' : State) (i' : Int32), Stand p l e R s m args below meth c T' locs cells slots ∧ T'.heap = h0 ∧ ¬ i' < (0 : Int32) ∧ ¬ n_ < i' ∧ ∀ t, Steps p.tables e below (T'.setTop (mkF m 90 #[.val (.ref a_), .val (.ref ps_), .val (.int (2 : Int32)), .val (.int i'), .val (.int b_)] [])) t → Steps p.tables e below (T0.setTop (mkF m 64 #[.val (.ref a_), .val (.ref ps_), .val (.int (2 : Int32)), .val (.int i_), .val (.int b_)] [])) t := by
  intro k
  induction k with
  | zero =>
    intro T0 i_ X0 e0 hi hn hk
    have hz : ¬ i_ < n_ := by
      rw [Int32.lt_iff_toInt_lt]
      omega
    have pre0 : ∀ t, Steps p.tables e below (T0.setTop (mkF m 64 #[.val (.ref a_), .val (.ref ps_), .val (.int (2 : Int32)), .val (.int i_), .val (.int b_)] [])) t → Steps p.tables e below (T0.setTop (mkF m 64 #[.val (.ref a_), .val (.ref ps_), .val (.int (2 : Int32)), .val (.int i_), .val (.int b_)] [])) t := fun _ k => k
    obtain ⟨cl14, Ar14, -, S14, N14v, -, -⟩ := id Vps
    have pre15 : ∀ t, Steps p.tables e below (T0.setTop (mkF m 90 #[.val (.ref a_), .val (.ref ps_), .val (.int (2 : Int32)), .val (.int i_), .val (.int b_)] [])) t → Steps p.tables e below (T0.setTop (mkF m 64 #[.val (.ref a_), .val (.ref ps_), .val (.int (2 : Int32)), .val (.int i_), .val (.int b_)] [])) t := by
      intro t kk
      refine pre0 t ?_
      show Steps p.tables e below (T0.setTop (mkF m 64 #[.val (.ref a_), .val (.ref ps_), .val (.int (2 : Int32)), .val (.int i_), .val (.int b_)] [])) _
      refine XS.iloadN X0.here hx rfl (hb hby d3_64) rfl ?_
      show Steps p.tables e below (T0.setTop (mkF m 65 #[.val (.ref a_), .val (.ref ps_), .val (.int (2 : Int32)), .val (.int i_), .val (.int b_)] [(.int i_)])) _
      refine XS.aloadN X0.here hx rfl (hb hby d3_65) rfl rfl ?_
      show Steps p.tables e below (T0.setTop (mkF m 66 #[.val (.ref a_), .val (.ref ps_), .val (.int (2 : Int32)), .val (.int i_), .val (.int b_)] [(.ref ps_), (.int i_)])) _
      refine X0.arraylength hx (by rw [e0]; exact Ar14.1) (State.isArrayOf_alike hZ.alike Ar14.2.1) (g := (mkF m 66 #[.val (.ref a_), .val (.ref ps_), .val (.int (2 : Int32)), .val (.int i_), .val (.int b_)] [(.ref ps_), (.int i_)])) rfl rfl (hb hby d3_66) _ ?_
      rw [len_of S14 N14v]
      show Steps p.tables e below (T0.setTop (mkF m 67 #[.val (.ref a_), .val (.ref ps_), .val (.int (2 : Int32)), .val (.int i_), .val (.int b_)] [(.int n_), (.int i_)])) _
      refine XS.icmpYes X0.here hx rfl (pc0 := 67) (pc' := 90) rfl (hb hby d3_67) rfl (flt hz).2.1 (by decide) (by decide) ?_
      exact kk
    exact ⟨T0, i_, X0, e0, hi, hn, pre15⟩
  | succ k ih =>
    intro T0 i_ X0 e0 hi hn hk
    have pre0 : ∀ t, Steps p.tables e below (T0.setTop (mkF m 64 #[.val (.ref a_), .val (.ref ps_), .val (.int (2 : Int32)), .val (.int i_), .val (.int b_)] [])) t → Steps p.tables e below (T0.setTop (mkF m 64 #[.val (.ref a_), .val (.ref ps_), .val (.int (2 : Int32)), .val (.int i_), .val (.int b_)] [])) t := fun _ k => k
    obtain ⟨cl16, Ar16, -, S16, N16v, -, -⟩ := id Vps
    have pre18 : ∀ t, Steps p.tables e below (T0.setTop (mkF m 67 #[.val (.ref a_), .val (.ref ps_), .val (.int (2 : Int32)), .val (.int i_), .val (.int b_)] [(.int n_), (.int i_)])) t → Steps p.tables e below (T0.setTop (mkF m 64 #[.val (.ref a_), .val (.ref ps_), .val (.int (2 : Int32)), .val (.int i_), .val (.int b_)] [])) t := by
      intro t kk
      refine pre0 t ?_
      show Steps p.tables e below (T0.setTop (mkF m 64 #[.val (.ref a_), .val (.ref ps_), .val (.int (2 : Int32)), .val (.int i_), .val (.int b_)] [])) _
      refine XS.iloadN X0.here hx rfl (hb hby d3_64) rfl ?_
      show Steps p.tables e below (T0.setTop (mkF m 65 #[.val (.ref a_), .val (.ref ps_), .val (.int (2 : Int32)), .val (.int i_), .val (.int b_)] [(.int i_)])) _
      refine XS.aloadN X0.here hx rfl (hb hby d3_65) rfl rfl ?_
      show Steps p.tables e below (T0.setTop (mkF m 66 #[.val (.ref a_), .val (.ref ps_), .val (.int (2 : Int32)), .val (.int i_), .val (.int b_)] [(.ref ps_), (.int i_)])) _
      refine X0.arraylength hx (by rw [e0]; exact Ar16.1) (State.isArrayOf_alike hZ.alike Ar16.2.1) (g := (mkF m 66 #[.val (.ref a_), .val (.ref ps_), .val (.int (2 : Int32)), .val (.int i_), .val (.int b_)] [(.ref ps_), (.int i_)])) rfl rfl (hb hby d3_66) _ ?_
      rw [len_of S16 N16v]
      exact kk
    by_cases hc67_17 : i_ < n_
    · obtain ⟨x20, hx20⟩ := own_long Vps hi hc67_17
      obtain ⟨cl19, Ar19, q19, S19, N19v, H19, G19⟩ := id Vps
      have hin19 : ¬ (i_ < 0 ∨ cl19.slots.size ≤ (i_).toNatClampNeg) := inb_of S19 ⟨hi, hc67_17⟩
      have hat19 : cl19.slots[(i_).toNatClampNeg]? = some (.long x20) := Has.at H19 hin19 hx20
      obtain ⟨T21, X21, e21, st21⟩ := getF X0 hx hZ hown (host := "") (Or.inl (hw _ (List.mem_of_getElem? (i := 48) rfl))) Via.refl e0 Fsh (g := (mkF m 74 #[.val (.ref a_), .val (.ref ps_), .val (.int (2 : Int32)), .val (.int i_), .val (.int b_)] [(.ref a_), (.long x20)])) rfl rfl (hb hby d3_74)
      have pre23 : ∀ t, Steps p.tables e below (T21.setTop (mkF m 81 #[.val (.ref a_), .val (.ref ps_), .val (.int (2 : Int32)), .val (.int i_), .val (.int b_)] [(.int b_), (.int (((x20.toUInt64 >>> (sv_ &&& 0x3f).toInt64.toUInt64).toInt64).toInt32))])) t → Steps p.tables e below (T0.setTop (mkF m 64 #[.val (.ref a_), .val (.ref ps_), .val (.int (2 : Int32)), .val (.int i_), .val (.int b_)] [])) t := by
        intro t kk
        refine pre18 t ?_
        show Steps p.tables e below (T0.setTop (mkF m 67 #[.val (.ref a_), .val (.ref ps_), .val (.int (2 : Int32)), .val (.int i_), .val (.int b_)] [(.int n_), (.int i_)])) _
        refine XS.icmpNo X0.here hx rfl (hb hby d3_67) rfl (tlt hc67_17).2.1 ?_
        show Steps p.tables e below (T0.setTop (mkF m 70 #[.val (.ref a_), .val (.ref ps_), .val (.int (2 : Int32)), .val (.int i_), .val (.int b_)] [])) _
        refine XS.aloadN X0.here hx rfl (hb hby d3_70) rfl rfl ?_
        show Steps p.tables e below (T0.setTop (mkF m 71 #[.val (.ref a_), .val (.ref ps_), .val (.int (2 : Int32)), .val (.int i_), .val (.int b_)] [(.ref ps_)])) _
        refine XS.iloadN X0.here hx rfl (hb hby d3_71) rfl ?_
        show Steps p.tables e below (T0.setTop (mkF m 72 #[.val (.ref a_), .val (.ref ps_), .val (.int (2 : Int32)), .val (.int i_), .val (.int b_)] [(.int i_), (.ref ps_)])) _
        refine X0.laload hx (j := i_) (v := (.long x20)) (by rw [e0]; exact Ar19.1) (State.isArrayOf_alike hZ.alike Ar19.2.1) Ar19.2.2 hin19 hat19 (g := (mkF m 72 #[.val (.ref a_), .val (.ref ps_), .val (.int (2 : Int32)), .val (.int i_), .val (.int b_)] [(.int i_), (.ref ps_)])) rfl rfl (hb hby d3_72) _ ?_
        show Steps p.tables e below (T0.setTop (mkF m 73 #[.val (.ref a_), .val (.ref ps_), .val (.int (2 : Int32)), .val (.int i_), .val (.int b_)] [(.long x20)])) _
        refine XS.aloadN X0.here hx rfl (hb hby d3_73) rfl rfl ?_
        show Steps p.tables e below (T0.setTop (mkF m 74 #[.val (.ref a_), .val (.ref ps_), .val (.int (2 : Int32)), .val (.int i_), .val (.int b_)] [(.ref a_), (.long x20)])) _
        refine st21 _ ?_
        show Steps p.tables e below (T21.setTop (mkF m 77 #[.val (.ref a_), .val (.ref ps_), .val (.int (2 : Int32)), .val (.int i_), .val (.int b_)] [(.int sv_), (.long x20)])) _
        refine XS.lushr X21.here hx rfl (hb hby d3_77) rfl ?_
        show Steps p.tables e below (T21.setTop (mkF m 78 #[.val (.ref a_), .val (.ref ps_), .val (.int (2 : Int32)), .val (.int i_), .val (.int b_)] [(.long ((x20.toUInt64 >>> (sv_ &&& 0x3f).toInt64.toUInt64).toInt64))])) _
        refine XS.l2i X21.here hx rfl (hb hby d3_78) rfl ?_
        show Steps p.tables e below (T21.setTop (mkF m 79 #[.val (.ref a_), .val (.ref ps_), .val (.int (2 : Int32)), .val (.int i_), .val (.int b_)] [(.int (((x20.toUInt64 >>> (sv_ &&& 0x3f).toInt64.toUInt64).toInt64).toInt32))])) _
        refine XS.iload X21.here hx rfl (hb hby d3_79) rfl ?_
        exact kk
      by_cases hc81_22 : (((x20.toUInt64 >>> (sv_ &&& 0x3f).toInt64.toUInt64).toInt64).toInt32) = b_
      · have pre24 : ∀ t, Steps p.tables e below (T21.setTop (mkF m 64 #[.val (.ref a_), .val (.ref ps_), .val (.int (2 : Int32)), .val (.int (i_ + (1 : Int32))), .val (.int b_)] [])) t → Steps p.tables e below (T0.setTop (mkF m 64 #[.val (.ref a_), .val (.ref ps_), .val (.int (2 : Int32)), .val (.int i_), .val (.int b_)] [])) t := by
          intro t kk
          refine pre23 t ?_
          show Steps p.tables e below (T21.setTop (mkF m 81 #[.val (.ref a_), .val (.ref ps_), .val (.int (2 : Int32)), .val (.int i_), .val (.int b_)] [(.int b_), (.int (((x20.toUInt64 >>> (sv_ &&& 0x3f).toInt64.toUInt64).toInt64).toInt32))])) _
          refine XS.icmpNo X21.here hx rfl (hb hby d3_81) rfl (teq hc81_22).2 ?_
          show Steps p.tables e below (T21.setTop (mkF m 84 #[.val (.ref a_), .val (.ref ps_), .val (.int (2 : Int32)), .val (.int i_), .val (.int b_)] [])) _
          refine XS.iinc X21.here hx rfl (hb hby d3_84) rfl (l' := #[.val (.ref a_), .val (.ref ps_), .val (.int (2 : Int32)), .val (.int (i_ + (1 : Int32))), .val (.int b_)]) rfl ?_
          show Steps p.tables e below (T21.setTop (mkF m 87 #[.val (.ref a_), .val (.ref ps_), .val (.int (2 : Int32)), .val (.int (i_ + (1 : Int32))), .val (.int b_)] [])) _
          refine XS.goto X21.here hx rfl (pc0 := 87) (pc' := 64) rfl (hb hby d3_87) (by decide) (by decide) ?_
          exact kk
        obtain ⟨T', i', X', e', hi', hn', st'⟩ := ih X21 e21 (own_inc0 hi hc67_17) (own_inc1 hi hc67_17) (own_incK hi hc67_17 hk)
        exact ⟨T', i', X', e', hi', hn', fun t kk => pre24 t (st' t kk)⟩
      · have pre25 : ∀ t, Steps p.tables e below (T21.setTop (mkF m 90 #[.val (.ref a_), .val (.ref ps_), .val (.int (2 : Int32)), .val (.int i_), .val (.int b_)] [])) t → Steps p.tables e below (T0.setTop (mkF m 64 #[.val (.ref a_), .val (.ref ps_), .val (.int (2 : Int32)), .val (.int i_), .val (.int b_)] [])) t := by
          intro t kk
          refine pre23 t ?_
          show Steps p.tables e below (T21.setTop (mkF m 81 #[.val (.ref a_), .val (.ref ps_), .val (.int (2 : Int32)), .val (.int i_), .val (.int b_)] [(.int b_), (.int (((x20.toUInt64 >>> (sv_ &&& 0x3f).toInt64.toUInt64).toInt64).toInt32))])) _
          refine XS.icmpYes X21.here hx rfl (pc0 := 81) (pc' := 90) rfl (hb hby d3_81) rfl (feq hc81_22).2 (by decide) (by decide) ?_
          exact kk
        exact ⟨T21, i_, X21, e21, hi, hn, pre25⟩
    · have pre26 : ∀ t, Steps p.tables e below (T0.setTop (mkF m 90 #[.val (.ref a_), .val (.ref ps_), .val (.int (2 : Int32)), .val (.int i_), .val (.int b_)] [])) t → Steps p.tables e below (T0.setTop (mkF m 64 #[.val (.ref a_), .val (.ref ps_), .val (.int (2 : Int32)), .val (.int i_), .val (.int b_)] [])) t := by
        intro t kk
        refine pre18 t ?_
        show Steps p.tables e below (T0.setTop (mkF m 67 #[.val (.ref a_), .val (.ref ps_), .val (.int (2 : Int32)), .val (.int i_), .val (.int b_)] [(.int n_), (.int i_)])) _
        refine XS.icmpYes X0.here hx rfl (pc0 := 67) (pc' := 90) rfl (hb hby d3_67) rfl (flt hc67_17).2.1 (by decide) (by decide) ?_
        exact kk
      exact ⟨T0, i_, X0, e0, hi, hn, pre26⟩
theorem own_nn {Z : State} {h : Heap} {a : Addr} {k : ClassId} {n : Int32} {ty : FieldType} {vs : List Value} {dv : Value} (F : Arv Z h a k ty n vs dv) : ¬ n < (0 : Int32) := by
  obtain ⟨c, -, -, -, q, -, -⟩ := F
  exact q
theorem pd__28II_29I : parseMethodDescriptor "(II)I" = some ⟨[.int, .int], some .int⟩ := by decide +kernel
theorem d3_0 : decode prog_27_method_1_code 0 = .ok (.aload_n 0, 1) := by decide +kernel
theorem d3_1 : decode prog_27_method_1_code 1 = .ok (.invokespecial 1, 3) := by decide +kernel
theorem d3_4 : decode prog_27_method_1_code 4 = .ok (.aload_n 0, 1) := by decide +kernel
theorem d3_5 : decode prog_27_method_1_code 5 = .ok (.aload_n 1, 1) := by decide +kernel
theorem d3_6 : decode prog_27_method_1_code 6 = .ok (.putfield 7, 3) := by decide +kernel
theorem d3_9 : decode prog_27_method_1_code 9 = .ok (.iconst 2, 1) := by decide +kernel
theorem d3_10 : decode prog_27_method_1_code 10 = .ok (.iconst 1, 1) := by decide +kernel
theorem d3_11 : decode prog_27_method_1_code 11 = .ok (.aload_n 1, 1) := by decide +kernel
theorem d3_12 : decode prog_27_method_1_code 12 = .ok (.arraylength, 1) := by decide +kernel
theorem d3_13 : decode prog_27_method_1_code 13 = .ok (.iconst 4, 1) := by decide +kernel
theorem d3_14 : decode prog_27_method_1_code 14 = .ok (.idiv, 1) := by decide +kernel
theorem d3_15 : decode prog_27_method_1_code 15 = .ok (.invokestatic 13, 3) := by decide +kernel
theorem d3_18 : decode prog_27_method_1_code 18 = .ok (.invokestatic 19, 3) := by decide +kernel
theorem d3_21 : decode prog_27_method_1_code 21 = .ok (.invokestatic 13, 3) := by decide +kernel
theorem d3_24 : decode prog_27_method_1_code 24 = .ok (.istore_n 2, 1) := by decide +kernel
theorem d3_25 : decode prog_27_method_1_code 25 = .ok (.aload_n 0, 1) := by decide +kernel
theorem d3_26 : decode prog_27_method_1_code 26 = .ok (.bipush 64, 2) := by decide +kernel
theorem d3_28 : decode prog_27_method_1_code 28 = .ok (.iload_n 2, 1) := by decide +kernel
theorem d3_29 : decode prog_27_method_1_code 29 = .ok (.invokestatic 25, 3) := by decide +kernel
theorem d3_32 : decode prog_27_method_1_code 32 = .ok (.isub, 1) := by decide +kernel
theorem d3_33 : decode prog_27_method_1_code 33 = .ok (.putfield 28, 3) := by decide +kernel
theorem d3_36 : decode prog_27_method_1_code 36 = .ok (.aload_n 0, 1) := by decide +kernel
theorem d3_37 : decode prog_27_method_1_code 37 = .ok (.iload_n 2, 1) := by decide +kernel
theorem d3_38 : decode prog_27_method_1_code 38 = .ok (.iconst 1, 1) := by decide +kernel
theorem d3_39 : decode prog_27_method_1_code 39 = .ok (.iadd, 1) := by decide +kernel
theorem d3_40 : decode prog_27_method_1_code 40 = .ok (.newarray .int, 2) := by decide +kernel
theorem d3_42 : decode prog_27_method_1_code 42 = .ok (.putfield 32, 3) := by decide +kernel
theorem d3_45 : decode prog_27_method_1_code 45 = .ok (.iconst 0, 1) := by decide +kernel
theorem d3_46 : decode prog_27_method_1_code 46 = .ok (.istore_n 3, 1) := by decide +kernel
theorem d3_47 : decode prog_27_method_1_code 47 = .ok (.iconst 0, 1) := by decide +kernel
theorem d3_48 : decode prog_27_method_1_code 48 = .ok (.istore 4, 2) := by decide +kernel
theorem d3_50 : decode prog_27_method_1_code 50 = .ok (.iload 4, 2) := by decide +kernel
theorem d3_52 : decode prog_27_method_1_code 52 = .ok (.iload_n 2, 1) := by decide +kernel
theorem d3_53 : decode prog_27_method_1_code 53 = .ok (.if_icmp .ge 43, 3) := by decide +kernel
theorem d3_56 : decode prog_27_method_1_code 56 = .ok (.aload_n 0, 1) := by decide +kernel
theorem d3_57 : decode prog_27_method_1_code 57 = .ok (.getfield 32, 3) := by decide +kernel
theorem d3_60 : decode prog_27_method_1_code 60 = .ok (.iload 4, 2) := by decide +kernel
theorem d3_62 : decode prog_27_method_1_code 62 = .ok (.iload_n 3, 1) := by decide +kernel
theorem d3_63 : decode prog_27_method_1_code 63 = .ok (.iastore, 1) := by decide +kernel
theorem d3_90 : decode prog_27_method_1_code 90 = .ok (.iinc 4 1, 3) := by decide +kernel
theorem d3_93 : decode prog_27_method_1_code 93 = .ok (.goto (-43), 3) := by decide +kernel
theorem d3_96 : decode prog_27_method_1_code 96 = .ok (.aload_n 0, 1) := by decide +kernel
theorem d3_97 : decode prog_27_method_1_code 97 = .ok (.getfield 32, 3) := by decide +kernel
theorem d3_100 : decode prog_27_method_1_code 100 = .ok (.iload_n 2, 1) := by decide +kernel
theorem d3_101 : decode prog_27_method_1_code 101 = .ok (.aload_n 1, 1) := by decide +kernel
theorem d3_102 : decode prog_27_method_1_code 102 = .ok (.arraylength, 1) := by decide +kernel
theorem d3_103 : decode prog_27_method_1_code 103 = .ok (.iastore, 1) := by decide +kernel
theorem d3_104 : decode prog_27_method_1_code 104 = .ok (.return_, 1) := by decide +kernel
theorem pn_com_example_clockwise_clockwise_SlotIndex : plainName "com/example/clockwise/clockwise/SlotIndex" = true := by first | (simp [plainName, overriddenIn]; done) | decide +kernel
theorem ef_3_RR (m : MethodId) (x0 : Addr) (x1 : Addr) : entryFrame m #[(.ref x0), (.ref x1)] 5 = mkF m 0 #[.val (.ref x0), .val (.ref x1), .unset, .unset, .unset] [] := by first | (simp [entryFrame, mkF, argsToLocals, Value.category]; done) | rfl
def Q3 (Z : State) (a_ : Addr) (ps_ : Addr) (kp_ : ClassId) (n_ : Int32) (vs_ : List Value) (dv_ : Value) (h0 : Heap) (n0 : Nat) (v : Option Value) (h : Heap) (L : List Loc) : Prop := v = none ∧ Fr n0 L ∧ Keep h0 h [a_]
set_option maxRecDepth 65536 in
set_option maxHeartbeats 40000000 in
theorem rm3 (l : Launch) (Z : State) (aA : Array Value) (hw : ∀ d ∈ tables_1, d.before aA Z = true) (ws : List Jvm.Cond) (a_ : Addr) (ps_ : Addr) (kp_ : ClassId) (n_ : Int32) (vs_ : List Value) (dv_ : Value) (h0 : Heap) (n0 : Nat) (Z0 : n0 ≤ h0.size) (E_a : Exa Z h0 a_ "com/example/clockwise/clockwise/SlotIndex") (g_a_ : n0 ≤ a_) (hne : a_ ≠ ps_) (Vps : Arv Z h0 ps_ kp_ .long n_ vs_ dv_) (hbk : (F4 (2 : Int32) (F5 (F4 (1 : Int32) (n_ / (4 : Int32))))) = (2 : Int32)) (hk0 : (0 : Int32) < (F4 (1 : Int32) (n_ / (4 : Int32)))) (hk4 : (F4 (1 : Int32) (n_ / (4 : Int32))) < (4 : Int32)) (F_positions : Fld Z h0 a_ "com/example/clockwise/clockwise/SlotIndex" "positions" "[J" .null) (F_shift : Fld Z h0 a_ "com/example/clockwise/clockwise/SlotIndex" "shift" "I" (.int (0 : Int32))) (F_firstSlots : Fld Z h0 a_ "com/example/clockwise/clockwise/SlotIndex" "firstSlots" "[I" .null) :
    MetFree l (⟨"com/example/clockwise/clockwise/SlotIndex", "<init>", "([J)V"⟩ : MethodName) (head1 (Jvm.Cond.code (⟨"com/example/clockwise/clockwise/SlotIndex", "<init>", "([J)V"⟩ : MethodName) prog_27_method_1_code 5 none :: ws) ({ frames := 2, cells := 1, slots := 3, locals := 28 } : Room)) (fun a U => a = #[(.ref a_), (.ref ps_)] ∧ Z.Warmed39 U.vm ∧ U.heap = h0) (fun _ _ _ _ _ => True) (fun _ U o U' => ∃ v L, o = .returned v ∧ Q3 Z a_ ps_ kp_ n_ vs_ dv_ h0 n0 v U'.heap L ∧ FrameEnd U o U' L ({ frames := 2, cells := 1, slots := 3, locals := 28 } : Room).cells ({ frames := 2, cells := 1, slots := 3, locals := 28 } : Room).slots) := by
  refine MetFree.of_bodySF (plainFor_of_name pn_com_example_clockwise_clockwise_SlotIndex) hisR ?_
  intro p e s m args below meth c s₁ Bd hml0 hP hK
  obtain ⟨rfl, hZ, hh⟩ := hP
  have hx := Bd.exec
  have hby := Bd.bytes
  have hml : c.maxLocals = 5 := hml0
  have hown : s.vm.findClass "com/example/clockwise/clockwise/SlotIndex" = some m.cls := findClass_of_methodNamed Bd.named
  have hnm := (name_of_methodNamed Bd.named Bd.method).1
  have X0 : Stand p l e ({ frames := 2, cells := 1, slots := 3, locals := 28 } : Room) s m #[(.ref a_), (.ref ps_)] below meth c s₁ [] 0 0 := Stand.of_body Bd
  have e0 : s₁.heap = h0 := by rw [← hh, Bd.state]; rfl
  have N0 := Fr.nil n0
  have KP0 : Keep h0 h0 [a_] := Keep.refl h0 _
  have pre0 : ∀ t, Steps p.tables e below (s₁.setTop (mkF m 0 #[.val (.ref a_), .val (.ref ps_), .unset, .unset, .unset] [])) t → Steps p.tables e below (s₁.setTop (entryFrame m #[(.ref a_), (.ref ps_)] 5)) t := fun t k => castTop (ef_3_RR m a_ ps_) k
  obtain ⟨T27, X27, e27, st27⟩ := initO X0 hx hZ hown (hw _ (List.mem_of_getElem? (i := 29) rfl)) (hw _ (List.mem_of_getElem? (i := 11) rfl)) (hw _ (List.mem_of_getElem? (i := 12) rfl)) e0 (g := (mkF m 1 #[.val (.ref a_), .val (.ref ps_), .unset, .unset, .unset] [(.ref a_)])) rfl (by rw [hml]; rfl) rfl (hb hby d3_1) (by decide) (W := 0) (by show 2 * 0 + _ ≤ _; exact Nat.le_of_eq rfl) (by decide)
  obtain ⟨T28, h28, X28, e28, W28, st28⟩ := putF X27 hx hZ hown (host := "") (Or.inl (hw _ (List.mem_of_getElem? (i := 30) rfl))) Via.refl e27 F_positions E_a (Or.inr ⟨(hw _ (List.mem_of_getElem? (i := 31) rfl)), rfl, hnm⟩) (hw _ (List.mem_of_getElem? (i := 24) rfl)) (ty := (.array .long)) (by decide) rfl rfl (g := (mkF m 6 #[.val (.ref a_), .val (.ref ps_), .unset, .unset, .unset] [(.ref ps_), (.ref a_)])) rfl rfl (hb hby d3_6)
  have Fw28 := F_positions.same W28
  have KP28 : Keep h0 h28 [a_] := KP0.wr W28 (Or.inl (List.mem_of_getElem? (i := 0) rfl))
  have Z28 : n0 ≤ h28.size := Nat.le_trans Z0 (Nat.le_of_eq W28.size.symm)
  have N28 := Fr.snoc X28 N0 g_a_
  have E_a__29 : Exa Z h28 a_ "com/example/clockwise/clockwise/SlotIndex" := E_a.wr W28
  have V_ps__30 : Arv Z h28 ps_ kp_ .long n_ vs_ dv_ := Vps.other W28 (Ne.symm hne)
  have F_a__shift_31 : Fld Z h28 a_ "com/example/clockwise/clockwise/SlotIndex" "shift" "I" (.int (0 : Int32)) := F_shift.other W28 (Or.inr (slot_ne (Or.inr (hw _ (List.mem_of_getElem? (i := 49) rfl))) (Or.inr (hw _ (List.mem_of_getElem? (i := 31) rfl))) (by decide) (t := .int) (t' := (.array .long)) (by decide) (by decide)))
  have F_a__firstSlots_32 : Fld Z h28 a_ "com/example/clockwise/clockwise/SlotIndex" "firstSlots" "[I" .null := F_firstSlots.other W28 (Or.inr (slot_ne (Or.inr (hw _ (List.mem_of_getElem? (i := 51) rfl))) (Or.inr (hw _ (List.mem_of_getElem? (i := 31) rfl))) (by decide) (t := (.array .int)) (t' := (.array .long)) (by decide) (by decide)))
  obtain ⟨cl33, Ar33, -, S33, N33v, -, -⟩ := id V_ps__30
  obtain ⟨_, _, ⟨T34, L34, k34, n34⟩, -, X34, ⟨Lc34, hQ34, l34, y34, z34⟩, st34⟩ := Jvm.LawKit.callS X28 hx (y := (⟨"java/lang/Math", "max", "(II)I"⟩ : MethodName)) hown (mvT hZ (hw _ (List.mem_of_getElem? (i := 32) rfl))) (mvT hZ (hw _ (List.mem_of_getElem? (i := 33) rfl))) (mvT hZ (hw _ (List.mem_of_getElem? (i := 34) rfl))) (mvT hZ (hw _ (List.mem_of_getElem? (i := 35) rfl))) (by decide) (backOf (W := 1) (rm4 l Z aA hw [] (1 : Int32) (n_ / (4 : Int32))  h28 n0 Z28 ) hZ (hw _ (List.mem_of_getElem? (i := 35) rfl)) (hw _ (List.mem_of_getElem? (i := 34) rfl)) (by decide) (by decide)) (g := (mkF m 15 #[.val (.ref a_), .val (.ref ps_), .unset, .unset, .unset] [(.int (n_ / (4 : Int32))), (.int (1 : Int32)), (.int (2 : Int32))])) rfl (by rw [hml]; rfl) (argsL := [(.int (1 : Int32)), (.int (n_ / (4 : Int32)))]) (rest := [(.int (2 : Int32))]) (lenOf pd__28II_29I rfl) rfl (by show 2 * 0 + _ ≤ _; exact Nat.le_of_eq rfl) (hb hby d3_15) (fun _ _ => ⟨rfl, e28, (by decide : 0 + 0 ≤ _), (by decide : 0 + 0 ≤ _)⟩)
  dsimp only [Pt.U, Pt.locs, Pt.cells, Pt.slots] at X34 l34 y34 z34 st34 hQ34
  subst l34 y34 z34
  obtain ⟨rfl, N34q, e34⟩ := hQ34
  have N34 := Fr.app N28 N34q
  obtain ⟨_, _, ⟨T35, L35, k35, n35⟩, -, X35, ⟨Lc35, hQ35, l35, y35, z35⟩, st35⟩ := Jvm.LawKit.callS X34 hx (y := (⟨"java/lang/Integer", "highestOneBit", "(I)I"⟩ : MethodName)) hown (mvT hZ (hw _ (List.mem_of_getElem? (i := 36) rfl))) (mvT hZ (hw _ (List.mem_of_getElem? (i := 37) rfl))) (mvT hZ (hw _ (List.mem_of_getElem? (i := 38) rfl))) (mvT hZ (hw _ (List.mem_of_getElem? (i := 39) rfl))) (by decide) (backOf (W := 1) (rm5 l Z aA hw [] (F4 (1 : Int32) (n_ / (4 : Int32)))  h28 n0 Z28 hk0 hk4) hZ (hw _ (List.mem_of_getElem? (i := 39) rfl)) (hw _ (List.mem_of_getElem? (i := 38) rfl)) (by decide) (by decide)) (g := (mkF m 18 #[.val (.ref a_), .val (.ref ps_), .unset, .unset, .unset] [(.int (F4 (1 : Int32) (n_ / (4 : Int32)))), (.int (2 : Int32))])) rfl (by rw [hml]; rfl) (argsL := [(.int (F4 (1 : Int32) (n_ / (4 : Int32))))]) (rest := [(.int (2 : Int32))]) (lenOf pd__28I_29I rfl) rfl (by show 2 * 0 + _ ≤ _; exact Nat.le_of_eq rfl) (hb hby d3_18) (fun _ _ => ⟨rfl, e34, (by decide : 0 + 0 ≤ _), (by decide : 0 + 0 ≤ _)⟩)
  dsimp only [Pt.U, Pt.locs, Pt.cells, Pt.slots] at X35 l35 y35 z35 st35 hQ35
  subst l35 y35 z35
  obtain ⟨rfl, N35q, e35⟩ := hQ35
  have N35 := Fr.app N34 N35q
  obtain ⟨_, _, ⟨T36, L36, k36, n36⟩, -, X36, ⟨Lc36, hQ36, l36, y36, z36⟩, st36⟩ := Jvm.LawKit.callS X35 hx (y := (⟨"java/lang/Math", "max", "(II)I"⟩ : MethodName)) hown (mvT hZ (hw _ (List.mem_of_getElem? (i := 32) rfl))) (mvT hZ (hw _ (List.mem_of_getElem? (i := 33) rfl))) (mvT hZ (hw _ (List.mem_of_getElem? (i := 34) rfl))) (mvT hZ (hw _ (List.mem_of_getElem? (i := 35) rfl))) (by decide) (backOf (W := 0) (rm4 l Z aA hw [] (2 : Int32) (F5 (F4 (1 : Int32) (n_ / (4 : Int32))))  h28 n0 Z28 ) hZ (hw _ (List.mem_of_getElem? (i := 35) rfl)) (hw _ (List.mem_of_getElem? (i := 34) rfl)) (by decide) (by decide)) (g := (mkF m 21 #[.val (.ref a_), .val (.ref ps_), .unset, .unset, .unset] [(.int (F5 (F4 (1 : Int32) (n_ / (4 : Int32))))), (.int (2 : Int32))])) rfl (by rw [hml]; rfl) (argsL := [(.int (2 : Int32)), (.int (F5 (F4 (1 : Int32) (n_ / (4 : Int32)))))]) (rest := []) (lenOf pd__28II_29I rfl) rfl (by show 2 * 0 + _ ≤ _; exact Nat.le_of_eq rfl) (hb hby d3_21) (fun _ _ => ⟨rfl, e35, (by decide : 0 + 0 ≤ _), (by decide : 0 + 0 ≤ _)⟩)
  dsimp only [Pt.U, Pt.locs, Pt.cells, Pt.slots] at X36 l36 y36 z36 st36 hQ36
  subst l36 y36 z36
  obtain ⟨rfl, N36q, e36⟩ := hQ36
  have N36 := Fr.app N35 N36q
  have pre37 : ∀ t, Steps p.tables e below (T36.setTop (mkF m 24 #[.val (.ref a_), .val (.ref ps_), .unset, .unset, .unset] [(.int (F4 (2 : Int32) (F5 (F4 (1 : Int32) (n_ / (4 : Int32))))))])) t → Steps p.tables e below (s₁.setTop (entryFrame m #[(.ref a_), (.ref ps_)] 5)) t := by
    intro t kk
    refine pre0 t ?_
    show Steps p.tables e below (s₁.setTop (mkF m 0 #[.val (.ref a_), .val (.ref ps_), .unset, .unset, .unset] [])) _
    refine XS.aloadN X0.here hx rfl (hb hby d3_0) rfl rfl ?_
    show Steps p.tables e below (s₁.setTop (mkF m 1 #[.val (.ref a_), .val (.ref ps_), .unset, .unset, .unset] [(.ref a_)])) _
    refine st27 _ ?_
    show Steps p.tables e below (T27.setTop (mkF m 4 #[.val (.ref a_), .val (.ref ps_), .unset, .unset, .unset] [])) _
    refine XS.aloadN X27.here hx rfl (hb hby d3_4) rfl rfl ?_
    show Steps p.tables e below (T27.setTop (mkF m 5 #[.val (.ref a_), .val (.ref ps_), .unset, .unset, .unset] [(.ref a_)])) _
    refine XS.aloadN X27.here hx rfl (hb hby d3_5) rfl rfl ?_
    show Steps p.tables e below (T27.setTop (mkF m 6 #[.val (.ref a_), .val (.ref ps_), .unset, .unset, .unset] [(.ref ps_), (.ref a_)])) _
    refine st28 _ ?_
    show Steps p.tables e below (T28.setTop (mkF m 9 #[.val (.ref a_), .val (.ref ps_), .unset, .unset, .unset] [])) _
    refine XS.iconst X28.here hx rfl (hb hby d3_9) ?_
    show Steps p.tables e below (T28.setTop (mkF m 10 #[.val (.ref a_), .val (.ref ps_), .unset, .unset, .unset] [(.int (2 : Int32))])) _
    refine XS.iconst X28.here hx rfl (hb hby d3_10) ?_
    show Steps p.tables e below (T28.setTop (mkF m 11 #[.val (.ref a_), .val (.ref ps_), .unset, .unset, .unset] [(.int (1 : Int32)), (.int (2 : Int32))])) _
    refine XS.aloadN X28.here hx rfl (hb hby d3_11) rfl rfl ?_
    show Steps p.tables e below (T28.setTop (mkF m 12 #[.val (.ref a_), .val (.ref ps_), .unset, .unset, .unset] [(.ref ps_), (.int (1 : Int32)), (.int (2 : Int32))])) _
    refine X28.arraylength hx (by rw [e28]; exact Ar33.1) (State.isArrayOf_alike hZ.alike Ar33.2.1) (g := (mkF m 12 #[.val (.ref a_), .val (.ref ps_), .unset, .unset, .unset] [(.ref ps_), (.int (1 : Int32)), (.int (2 : Int32))])) rfl rfl (hb hby d3_12) _ ?_
    rw [len_of S33 N33v]
    show Steps p.tables e below (T28.setTop (mkF m 13 #[.val (.ref a_), .val (.ref ps_), .unset, .unset, .unset] [(.int n_), (.int (1 : Int32)), (.int (2 : Int32))])) _
    refine XS.iconst X28.here hx rfl (hb hby d3_13) ?_
    show Steps p.tables e below (T28.setTop (mkF m 14 #[.val (.ref a_), .val (.ref ps_), .unset, .unset, .unset] [(.int (4 : Int32)), (.int n_), (.int (1 : Int32)), (.int (2 : Int32))])) _
    refine XS.idiv X28.here hx rfl (hb hby d3_14) rfl (by decide : ¬ ((4 : Int32) = (0 : Int32))) ?_
    show Steps p.tables e below (T28.setTop (mkF m 15 #[.val (.ref a_), .val (.ref ps_), .unset, .unset, .unset] [(.int (n_ / (4 : Int32))), (.int (1 : Int32)), (.int (2 : Int32))])) _
    refine st34 _ ?_
    show Steps p.tables e below (T34.setTop (mkF m 18 #[.val (.ref a_), .val (.ref ps_), .unset, .unset, .unset] [(.int (F4 (1 : Int32) (n_ / (4 : Int32)))), (.int (2 : Int32))])) _
    refine st35 _ ?_
    show Steps p.tables e below (T35.setTop (mkF m 21 #[.val (.ref a_), .val (.ref ps_), .unset, .unset, .unset] [(.int (F5 (F4 (1 : Int32) (n_ / (4 : Int32))))), (.int (2 : Int32))])) _
    refine st36 _ ?_
    exact kk
  have pre38 : ∀ t, Steps p.tables e below (T36.setTop (mkF m 24 #[.val (.ref a_), .val (.ref ps_), .unset, .unset, .unset] [(.int (2 : Int32))])) t → Steps p.tables e below (s₁.setTop (entryFrame m #[(.ref a_), (.ref ps_)] 5)) t := by
    intro t kk
    refine pre37 t ?_
    rw [hbk]
    exact kk
  obtain ⟨_, _, ⟨T39, L39, k39, n39⟩, -, X39, ⟨Lc39, hQ39, l39, y39, z39⟩, st39⟩ := Jvm.LawKit.callS X36 hx (y := (⟨"java/lang/Integer", "numberOfTrailingZeros", "(I)I"⟩ : MethodName)) hown (mvT hZ (hw _ (List.mem_of_getElem? (i := 45) rfl))) (mvT hZ (hw _ (List.mem_of_getElem? (i := 46) rfl))) (mvT hZ (hw _ (List.mem_of_getElem? (i := 38) rfl))) (mvT hZ (hw _ (List.mem_of_getElem? (i := 47) rfl))) (by decide) (backOf (W := 2) (rm7 l Z aA hw [] (2 : Int32)  h28 n0 Z28 (by decide) (by decide)) hZ (hw _ (List.mem_of_getElem? (i := 47) rfl)) (hw _ (List.mem_of_getElem? (i := 38) rfl)) (by decide) (by decide)) (g := (mkF m 29 #[.val (.ref a_), .val (.ref ps_), .val (.int (2 : Int32)), .unset, .unset] [(.int (2 : Int32)), (.int (64 : Int32)), (.ref a_)])) rfl (by rw [hml]; rfl) (argsL := [(.int (2 : Int32))]) (rest := [(.int (64 : Int32)), (.ref a_)]) (lenOf pd__28I_29I rfl) rfl (by show 2 * 0 + _ ≤ _; exact Nat.le_of_eq rfl) (hb hby d3_29) (fun _ _ => ⟨rfl, e36, (by decide : 0 + 0 ≤ _), (by decide : 0 + 0 ≤ _)⟩)
  dsimp only [Pt.U, Pt.locs, Pt.cells, Pt.slots] at X39 l39 y39 z39 st39 hQ39
  subst l39 y39 z39
  obtain ⟨rfl, N39q, e39⟩ := hQ39
  have N39 := Fr.app N36 N39q
  obtain ⟨T40, h40, X40, e40, W40, st40⟩ := putF X39 hx hZ hown (host := "") (Or.inl (hw _ (List.mem_of_getElem? (i := 48) rfl))) Via.refl e39 F_a__shift_31 E_a__29 (Or.inr ⟨(hw _ (List.mem_of_getElem? (i := 49) rfl)), rfl, hnm⟩) (hw _ (List.mem_of_getElem? (i := 24) rfl)) (ty := .int) (by decide) rfl rfl (g := (mkF m 33 #[.val (.ref a_), .val (.ref ps_), .val (.int (2 : Int32)), .unset, .unset] [(.int ((64 : Int32) - (F7 (2 : Int32)))), (.ref a_)])) rfl rfl (hb hby d3_33)
  have Fw40 := F_a__shift_31.same W40
  have KP40 : Keep h0 h40 [a_] := KP28.wr W40 (Or.inl (List.mem_of_getElem? (i := 0) rfl))
  have Z40 : n0 ≤ h40.size := Nat.le_trans Z28 (Nat.le_of_eq W40.size.symm)
  have N40 := Fr.snoc X40 N39 g_a_
  have E_a__41 : Exa Z h40 a_ "com/example/clockwise/clockwise/SlotIndex" := E_a__29.wr W40
  have V_ps__42 : Arv Z h40 ps_ kp_ .long n_ vs_ dv_ := V_ps__30.other W40 (Ne.symm hne)
  have F_a__firstSlots_43 : Fld Z h40 a_ "com/example/clockwise/clockwise/SlotIndex" "firstSlots" "[I" .null := F_a__firstSlots_32.other W40 (Or.inr (slot_ne (Or.inr (hw _ (List.mem_of_getElem? (i := 51) rfl))) (Or.inr (hw _ (List.mem_of_getElem? (i := 49) rfl))) (by decide) (t := (.array .int)) (t' := .int) (by decide) (by decide)))
  have F_a__positions_44 : Fld Z h40 a_ "com/example/clockwise/clockwise/SlotIndex" "positions" "[J" (.ref ps_) := Fw28.other W40 (Or.inr (slot_ne (Or.inr (hw _ (List.mem_of_getElem? (i := 31) rfl))) (Or.inr (hw _ (List.mem_of_getElem? (i := 49) rfl))) (by decide) (t := (.array .long)) (t' := .int) (by decide) (by decide)))
  obtain ⟨T45, h45, k45, X45, e45, E45, A45, st45⟩ := newP X40 hx hZ (hw _ (List.mem_of_getElem? (i := 3) rfl)) e40 (g := (mkF m 40 #[.val (.ref a_), .val (.ref ps_), .val (.int (2 : Int32)), .unset, .unset] [(.int (3 : Int32)), (.ref a_)])) rfl (hb hby d3_40) rfl (by decide) (cap := 3) (by decide) (by decide) (by decide) (by decide)
  obtain ⟨b45, g45⟩ : ∃ z, z = h40.size := ⟨_, rfl⟩
  rw [← g45] at A45 st45
  have ne_a__b45 : a_ ≠ b45 := Nat.ne_of_lt (Nat.lt_of_lt_of_le E_a__41.lt (Nat.le_of_eq g45.symm))
  have ne_ps__b45 : ps_ ≠ b45 := Nat.ne_of_lt (Nat.lt_of_lt_of_le V_ps__42.lt (Nat.le_of_eq g45.symm))
  have sz_b45 : h0.size ≤ b45 := Nat.le_trans KP40.1 (Nat.le_of_eq g45.symm)
  have g_b45 : n0 ≤ b45 := Nat.le_trans Z40 (Nat.le_of_eq g45.symm)
  have KP45 : Keep h0 h45 [a_] := KP40.ext E45
  have Z45 : n0 ≤ h45.size := Nat.le_trans Z40 E45.1
  have E_a__46 : Exa Z h45 a_ "com/example/clockwise/clockwise/SlotIndex" := E_a__41.ext E45
  have V_ps__47 : Arv Z h45 ps_ kp_ .long n_ vs_ dv_ := V_ps__42.ext E45
  have F_a__firstSlots_48 : Fld Z h45 a_ "com/example/clockwise/clockwise/SlotIndex" "firstSlots" "[I" .null := F_a__firstSlots_43.ext E45
  have F_a__positions_49 : Fld Z h45 a_ "com/example/clockwise/clockwise/SlotIndex" "positions" "[J" (.ref ps_) := F_a__positions_44.ext E45
  have F_a__shift_50 : Fld Z h45 a_ "com/example/clockwise/clockwise/SlotIndex" "shift" "I" (.int ((64 : Int32) - (F7 (2 : Int32)))) := Fw40.ext E45
  have V_b45 : Arv Z h45 b45 k45 .int (3 : Int32) [(.int (0 : Int32)), (.int (0 : Int32)), (.int (0 : Int32))] (.int (0 : Int32)) := (Arv.new A45 (by decide)).pad (pad_rep [] (.int (0 : Int32)) 3)
  obtain ⟨T51, h51, X51, e51, W51, st51⟩ := putF X45 hx hZ hown (host := "") (Or.inl (hw _ (List.mem_of_getElem? (i := 50) rfl))) Via.refl e45 F_a__firstSlots_48 E_a__46 (Or.inr ⟨(hw _ (List.mem_of_getElem? (i := 51) rfl)), rfl, hnm⟩) (hw _ (List.mem_of_getElem? (i := 24) rfl)) (ty := (.array .int)) (by decide) rfl rfl (g := (mkF m 42 #[.val (.ref a_), .val (.ref ps_), .val (.int (2 : Int32)), .unset, .unset] [(.ref b45), (.ref a_)])) rfl rfl (hb hby d3_42)
  have Fw51 := F_a__firstSlots_48.same W51
  have KP51 : Keep h0 h51 [a_] := KP45.wr W51 (Or.inl (List.mem_of_getElem? (i := 0) rfl))
  have Z51 : n0 ≤ h51.size := Nat.le_trans Z45 (Nat.le_of_eq W51.size.symm)
  have N51 := Fr.snoc X51 N40 g_a_
  have E_a__52 : Exa Z h51 a_ "com/example/clockwise/clockwise/SlotIndex" := E_a__46.wr W51
  have V_ps__53 : Arv Z h51 ps_ kp_ .long n_ vs_ dv_ := V_ps__47.other W51 (Ne.symm hne)
  have F_a__positions_54 : Fld Z h51 a_ "com/example/clockwise/clockwise/SlotIndex" "positions" "[J" (.ref ps_) := F_a__positions_49.other W51 (Or.inr (slot_ne (Or.inr (hw _ (List.mem_of_getElem? (i := 31) rfl))) (Or.inr (hw _ (List.mem_of_getElem? (i := 51) rfl))) (by decide) (t := (.array .long)) (t' := (.array .int)) (by decide) (by decide)))
  have F_a__shift_55 : Fld Z h51 a_ "com/example/clockwise/clockwise/SlotIndex" "shift" "I" (.int ((64 : Int32) - (F7 (2 : Int32)))) := F_a__shift_50.other W51 (Or.inr (slot_ne (Or.inr (hw _ (List.mem_of_getElem? (i := 49) rfl))) (Or.inr (hw _ (List.mem_of_getElem? (i := 51) rfl))) (by decide) (t := .int) (t' := (.array .int)) (by decide) (by decide)))
  have V_b45_56 : Arv Z h51 b45 k45 .int (3 : Int32) [(.int (0 : Int32)), (.int (0 : Int32)), (.int (0 : Int32))] (.int (0 : Int32)) := V_b45.other W51 (Ne.symm ne_a__b45)
  obtain ⟨T57, X57, e57, st57⟩ := getF X51 hx hZ hown (host := "") (Or.inl (hw _ (List.mem_of_getElem? (i := 50) rfl))) Via.refl e51 Fw51 (g := (mkF m 57 #[.val (.ref a_), .val (.ref ps_), .val (.int (2 : Int32)), .val (.int (0 : Int32)), .val (.int (0 : Int32))] [(.ref a_)])) rfl rfl (hb hby d3_57)
  obtain ⟨cl58, Ar58, q58, S58, N58v, H58, G58⟩ := V_b45_56
  have hin58 : ¬ ((0 : Int32) < 0 ∨ cl58.slots.size ≤ ((0 : Int32)).toNatClampNeg) := inb_of S58 ⟨by decide, by decide⟩
  obtain ⟨T59, h59, X59, e59, W59, st59⟩ := stI X57 hx hZ e57 Ar58 (j := (0 : Int32)) hin58 (g := (mkF m 63 #[.val (.ref a_), .val (.ref ps_), .val (.int (2 : Int32)), .val (.int (0 : Int32)), .val (.int (0 : Int32))] [(.int (0 : Int32)), (.int (0 : Int32)), (.ref b45)])) rfl rfl (hb hby d3_63)
  have Vw59 : Arv Z h59 b45 k45 .int (3 : Int32) [(.int (0 : Int32)), (.int (0 : Int32)), (.int (0 : Int32))] (.int (0 : Int32)) := Arv.set Ar58 q58 S58 N58v H58 G58 rfl W59 0 rfl (Nat.le_of_ble_eq_true rfl)
  have KP59 : Keep h0 h59 [a_] := KP51.wr W59 (Or.inr sz_b45)
  have Z59 : n0 ≤ h59.size := Nat.le_trans Z51 (Nat.le_of_eq W59.size.symm)
  have N59 := Fr.snoc X59 N51 g_b45
  have E_a__60 : Exa Z h59 a_ "com/example/clockwise/clockwise/SlotIndex" := E_a__52.wr W59
  have V_ps__61 : Arv Z h59 ps_ kp_ .long n_ vs_ dv_ := V_ps__53.other W59 ne_ps__b45
  have F_a__positions_62 : Fld Z h59 a_ "com/example/clockwise/clockwise/SlotIndex" "positions" "[J" (.ref ps_) := F_a__positions_54.other W59 (Or.inl ne_a__b45)
  have F_a__shift_63 : Fld Z h59 a_ "com/example/clockwise/clockwise/SlotIndex" "shift" "I" (.int ((64 : Int32) - (F7 (2 : Int32)))) := F_a__shift_55.other W59 (Or.inl ne_a__b45)
  have F_a__firstSlots_64 : Fld Z h59 a_ "com/example/clockwise/clockwise/SlotIndex" "firstSlots" "[I" (.ref b45) := Fw51.other W59 (Or.inl ne_a__b45)
  have pre65 : ∀ t, Steps p.tables e below (T59.setTop (mkF m 64 #[.val (.ref a_), .val (.ref ps_), .val (.int (2 : Int32)), .val (.int (0 : Int32)), .val (.int (0 : Int32))] [])) t → Steps p.tables e below (s₁.setTop (entryFrame m #[(.ref a_), (.ref ps_)] 5)) t := by
    intro t kk
    refine pre38 t ?_
    show Steps p.tables e below (T36.setTop (mkF m 24 #[.val (.ref a_), .val (.ref ps_), .unset, .unset, .unset] [(.int (2 : Int32))])) _
    refine XS.istoreN X36.here hx rfl (hb hby d3_24) rfl (l' := #[.val (.ref a_), .val (.ref ps_), .val (.int (2 : Int32)), .unset, .unset]) rfl ?_
    show Steps p.tables e below (T36.setTop (mkF m 25 #[.val (.ref a_), .val (.ref ps_), .val (.int (2 : Int32)), .unset, .unset] [])) _
    refine XS.aloadN X36.here hx rfl (hb hby d3_25) rfl rfl ?_
    show Steps p.tables e below (T36.setTop (mkF m 26 #[.val (.ref a_), .val (.ref ps_), .val (.int (2 : Int32)), .unset, .unset] [(.ref a_)])) _
    refine XS.bipush X36.here hx rfl (hb hby d3_26) ?_
    show Steps p.tables e below (T36.setTop (mkF m 28 #[.val (.ref a_), .val (.ref ps_), .val (.int (2 : Int32)), .unset, .unset] [(.int (64 : Int32)), (.ref a_)])) _
    refine XS.iloadN X36.here hx rfl (hb hby d3_28) rfl ?_
    show Steps p.tables e below (T36.setTop (mkF m 29 #[.val (.ref a_), .val (.ref ps_), .val (.int (2 : Int32)), .unset, .unset] [(.int (2 : Int32)), (.int (64 : Int32)), (.ref a_)])) _
    refine st39 _ ?_
    show Steps p.tables e below (T39.setTop (mkF m 32 #[.val (.ref a_), .val (.ref ps_), .val (.int (2 : Int32)), .unset, .unset] [(.int (F7 (2 : Int32))), (.int (64 : Int32)), (.ref a_)])) _
    refine XS.isub X39.here hx rfl (hb hby d3_32) rfl ?_
    show Steps p.tables e below (T39.setTop (mkF m 33 #[.val (.ref a_), .val (.ref ps_), .val (.int (2 : Int32)), .unset, .unset] [(.int ((64 : Int32) - (F7 (2 : Int32)))), (.ref a_)])) _
    refine st40 _ ?_
    show Steps p.tables e below (T40.setTop (mkF m 36 #[.val (.ref a_), .val (.ref ps_), .val (.int (2 : Int32)), .unset, .unset] [])) _
    refine XS.aloadN X40.here hx rfl (hb hby d3_36) rfl rfl ?_
    show Steps p.tables e below (T40.setTop (mkF m 37 #[.val (.ref a_), .val (.ref ps_), .val (.int (2 : Int32)), .unset, .unset] [(.ref a_)])) _
    refine XS.iloadN X40.here hx rfl (hb hby d3_37) rfl ?_
    show Steps p.tables e below (T40.setTop (mkF m 38 #[.val (.ref a_), .val (.ref ps_), .val (.int (2 : Int32)), .unset, .unset] [(.int (2 : Int32)), (.ref a_)])) _
    refine XS.iconst X40.here hx rfl (hb hby d3_38) ?_
    show Steps p.tables e below (T40.setTop (mkF m 39 #[.val (.ref a_), .val (.ref ps_), .val (.int (2 : Int32)), .unset, .unset] [(.int (1 : Int32)), (.int (2 : Int32)), (.ref a_)])) _
    refine XS.iadd X40.here hx rfl (hb hby d3_39) rfl ?_
    show Steps p.tables e below (T40.setTop (mkF m 40 #[.val (.ref a_), .val (.ref ps_), .val (.int (2 : Int32)), .unset, .unset] [(.int (3 : Int32)), (.ref a_)])) _
    refine st45 _ ?_
    show Steps p.tables e below (T45.setTop (mkF m 42 #[.val (.ref a_), .val (.ref ps_), .val (.int (2 : Int32)), .unset, .unset] [(.ref b45), (.ref a_)])) _
    refine st51 _ ?_
    show Steps p.tables e below (T51.setTop (mkF m 45 #[.val (.ref a_), .val (.ref ps_), .val (.int (2 : Int32)), .unset, .unset] [])) _
    refine XS.iconst X51.here hx rfl (hb hby d3_45) ?_
    show Steps p.tables e below (T51.setTop (mkF m 46 #[.val (.ref a_), .val (.ref ps_), .val (.int (2 : Int32)), .unset, .unset] [(.int (0 : Int32))])) _
    refine XS.istoreN X51.here hx rfl (hb hby d3_46) rfl (l' := #[.val (.ref a_), .val (.ref ps_), .val (.int (2 : Int32)), .val (.int (0 : Int32)), .unset]) rfl ?_
    show Steps p.tables e below (T51.setTop (mkF m 47 #[.val (.ref a_), .val (.ref ps_), .val (.int (2 : Int32)), .val (.int (0 : Int32)), .unset] [])) _
    refine XS.iconst X51.here hx rfl (hb hby d3_47) ?_
    show Steps p.tables e below (T51.setTop (mkF m 48 #[.val (.ref a_), .val (.ref ps_), .val (.int (2 : Int32)), .val (.int (0 : Int32)), .unset] [(.int (0 : Int32))])) _
    refine XS.istore X51.here hx rfl (hb hby d3_48) rfl (l' := #[.val (.ref a_), .val (.ref ps_), .val (.int (2 : Int32)), .val (.int (0 : Int32)), .val (.int (0 : Int32))]) rfl ?_
    show Steps p.tables e below (T51.setTop (mkF m 50 #[.val (.ref a_), .val (.ref ps_), .val (.int (2 : Int32)), .val (.int (0 : Int32)), .val (.int (0 : Int32))] [])) _
    refine XS.iload X51.here hx rfl (hb hby d3_50) rfl ?_
    show Steps p.tables e below (T51.setTop (mkF m 52 #[.val (.ref a_), .val (.ref ps_), .val (.int (2 : Int32)), .val (.int (0 : Int32)), .val (.int (0 : Int32))] [(.int (0 : Int32))])) _
    refine XS.iloadN X51.here hx rfl (hb hby d3_52) rfl ?_
    show Steps p.tables e below (T51.setTop (mkF m 53 #[.val (.ref a_), .val (.ref ps_), .val (.int (2 : Int32)), .val (.int (0 : Int32)), .val (.int (0 : Int32))] [(.int (2 : Int32)), (.int (0 : Int32))])) _
    refine XS.icmpNo X51.here hx rfl (hb hby d3_53) rfl (tlt (by decide : (0 : Int32) < (2 : Int32))).2.1 ?_
    show Steps p.tables e below (T51.setTop (mkF m 56 #[.val (.ref a_), .val (.ref ps_), .val (.int (2 : Int32)), .val (.int (0 : Int32)), .val (.int (0 : Int32))] [])) _
    refine XS.aloadN X51.here hx rfl (hb hby d3_56) rfl rfl ?_
    show Steps p.tables e below (T51.setTop (mkF m 57 #[.val (.ref a_), .val (.ref ps_), .val (.int (2 : Int32)), .val (.int (0 : Int32)), .val (.int (0 : Int32))] [(.ref a_)])) _
    refine st57 _ ?_
    show Steps p.tables e below (T57.setTop (mkF m 60 #[.val (.ref a_), .val (.ref ps_), .val (.int (2 : Int32)), .val (.int (0 : Int32)), .val (.int (0 : Int32))] [(.ref b45)])) _
    refine XS.iload X57.here hx rfl (hb hby d3_60) rfl ?_
    show Steps p.tables e below (T57.setTop (mkF m 62 #[.val (.ref a_), .val (.ref ps_), .val (.int (2 : Int32)), .val (.int (0 : Int32)), .val (.int (0 : Int32))] [(.int (0 : Int32)), (.ref b45)])) _
    refine XS.iloadN X57.here hx rfl (hb hby d3_62) rfl ?_
    show Steps p.tables e below (T57.setTop (mkF m 63 #[.val (.ref a_), .val (.ref ps_), .val (.int (2 : Int32)), .val (.int (0 : Int32)), .val (.int (0 : Int32))] [(.int (0 : Int32)), (.int (0 : Int32)), (.ref b45)])) _
    refine st59 _ ?_
    exact kk
  obtain ⟨T66, i66, X66, e66, hi_i66, hn_i66, st66⟩ := own_loop (b_ := (0 : Int32)) (sv_ := ((64 : Int32) - (F7 (2 : Int32)))) hx hZ hw hby hml hown F_a__shift_63 V_ps__61 (n_.toInt - ((0 : Int32)).toInt).toNat X59 e59 (by decide) (own_nn V_ps__61) (by omega)
  have pre67 : ∀ t, Steps p.tables e below (T66.setTop (mkF m 90 #[.val (.ref a_), .val (.ref ps_), .val (.int (2 : Int32)), .val (.int i66), .val (.int (0 : Int32))] [])) t → Steps p.tables e below (s₁.setTop (entryFrame m #[(.ref a_), (.ref ps_)] 5)) t := fun t kk => pre65 t (st66 t kk)
  obtain ⟨T68, X68, e68, st68⟩ := getF X66 hx hZ hown (host := "") (Or.inl (hw _ (List.mem_of_getElem? (i := 50) rfl))) Via.refl e66 F_a__firstSlots_64 (g := (mkF m 57 #[.val (.ref a_), .val (.ref ps_), .val (.int (2 : Int32)), .val (.int i66), .val (.int (1 : Int32))] [(.ref a_)])) rfl rfl (hb hby d3_57)
  obtain ⟨cl69, Ar69, q69, S69, N69v, H69, G69⟩ := Vw59
  have hin69 : ¬ ((1 : Int32) < 0 ∨ cl69.slots.size ≤ ((1 : Int32)).toNatClampNeg) := inb_of S69 ⟨by decide, by decide⟩
  obtain ⟨T70, h70, X70, e70, W70, st70⟩ := stI X68 hx hZ e68 Ar69 (j := (1 : Int32)) hin69 (g := (mkF m 63 #[.val (.ref a_), .val (.ref ps_), .val (.int (2 : Int32)), .val (.int i66), .val (.int (1 : Int32))] [(.int i66), (.int (1 : Int32)), (.ref b45)])) rfl rfl (hb hby d3_63)
  have Vw70 : Arv Z h70 b45 k45 .int (3 : Int32) [(.int (0 : Int32)), (.int i66), (.int (0 : Int32))] (.int (0 : Int32)) := Arv.set Ar69 q69 S69 N69v H69 G69 rfl W70 1 rfl (Nat.le_of_ble_eq_true rfl)
  have KP70 : Keep h0 h70 [a_] := KP59.wr W70 (Or.inr sz_b45)
  have Z70 : n0 ≤ h70.size := Nat.le_trans Z59 (Nat.le_of_eq W70.size.symm)
  have N70 := Fr.snoc X70 N59 g_b45
  have E_a__71 : Exa Z h70 a_ "com/example/clockwise/clockwise/SlotIndex" := E_a__60.wr W70
  have V_ps__72 : Arv Z h70 ps_ kp_ .long n_ vs_ dv_ := V_ps__61.other W70 ne_ps__b45
  have F_a__positions_73 : Fld Z h70 a_ "com/example/clockwise/clockwise/SlotIndex" "positions" "[J" (.ref ps_) := F_a__positions_62.other W70 (Or.inl ne_a__b45)
  have F_a__shift_74 : Fld Z h70 a_ "com/example/clockwise/clockwise/SlotIndex" "shift" "I" (.int ((64 : Int32) - (F7 (2 : Int32)))) := F_a__shift_63.other W70 (Or.inl ne_a__b45)
  have F_a__firstSlots_75 : Fld Z h70 a_ "com/example/clockwise/clockwise/SlotIndex" "firstSlots" "[I" (.ref b45) := F_a__firstSlots_64.other W70 (Or.inl ne_a__b45)
  have pre76 : ∀ t, Steps p.tables e below (T70.setTop (mkF m 64 #[.val (.ref a_), .val (.ref ps_), .val (.int (2 : Int32)), .val (.int i66), .val (.int (1 : Int32))] [])) t → Steps p.tables e below (s₁.setTop (entryFrame m #[(.ref a_), (.ref ps_)] 5)) t := by
    intro t kk
    refine pre67 t ?_
    show Steps p.tables e below (T66.setTop (mkF m 90 #[.val (.ref a_), .val (.ref ps_), .val (.int (2 : Int32)), .val (.int i66), .val (.int (0 : Int32))] [])) _
    refine XS.iinc X66.here hx rfl (hb hby d3_90) rfl (l' := #[.val (.ref a_), .val (.ref ps_), .val (.int (2 : Int32)), .val (.int i66), .val (.int (1 : Int32))]) rfl ?_
    show Steps p.tables e below (T66.setTop (mkF m 93 #[.val (.ref a_), .val (.ref ps_), .val (.int (2 : Int32)), .val (.int i66), .val (.int (1 : Int32))] [])) _
    refine XS.goto X66.here hx rfl (pc0 := 93) (pc' := 50) rfl (hb hby d3_93) (by decide) (by decide) ?_
    show Steps p.tables e below (T66.setTop (mkF m 50 #[.val (.ref a_), .val (.ref ps_), .val (.int (2 : Int32)), .val (.int i66), .val (.int (1 : Int32))] [])) _
    refine XS.iload X66.here hx rfl (hb hby d3_50) rfl ?_
    show Steps p.tables e below (T66.setTop (mkF m 52 #[.val (.ref a_), .val (.ref ps_), .val (.int (2 : Int32)), .val (.int i66), .val (.int (1 : Int32))] [(.int (1 : Int32))])) _
    refine XS.iloadN X66.here hx rfl (hb hby d3_52) rfl ?_
    show Steps p.tables e below (T66.setTop (mkF m 53 #[.val (.ref a_), .val (.ref ps_), .val (.int (2 : Int32)), .val (.int i66), .val (.int (1 : Int32))] [(.int (2 : Int32)), (.int (1 : Int32))])) _
    refine XS.icmpNo X66.here hx rfl (hb hby d3_53) rfl (tlt (by decide : (1 : Int32) < (2 : Int32))).2.1 ?_
    show Steps p.tables e below (T66.setTop (mkF m 56 #[.val (.ref a_), .val (.ref ps_), .val (.int (2 : Int32)), .val (.int i66), .val (.int (1 : Int32))] [])) _
    refine XS.aloadN X66.here hx rfl (hb hby d3_56) rfl rfl ?_
    show Steps p.tables e below (T66.setTop (mkF m 57 #[.val (.ref a_), .val (.ref ps_), .val (.int (2 : Int32)), .val (.int i66), .val (.int (1 : Int32))] [(.ref a_)])) _
    refine st68 _ ?_
    show Steps p.tables e below (T68.setTop (mkF m 60 #[.val (.ref a_), .val (.ref ps_), .val (.int (2 : Int32)), .val (.int i66), .val (.int (1 : Int32))] [(.ref b45)])) _
    refine XS.iload X68.here hx rfl (hb hby d3_60) rfl ?_
    show Steps p.tables e below (T68.setTop (mkF m 62 #[.val (.ref a_), .val (.ref ps_), .val (.int (2 : Int32)), .val (.int i66), .val (.int (1 : Int32))] [(.int (1 : Int32)), (.ref b45)])) _
    refine XS.iloadN X68.here hx rfl (hb hby d3_62) rfl ?_
    show Steps p.tables e below (T68.setTop (mkF m 63 #[.val (.ref a_), .val (.ref ps_), .val (.int (2 : Int32)), .val (.int i66), .val (.int (1 : Int32))] [(.int i66), (.int (1 : Int32)), (.ref b45)])) _
    refine st70 _ ?_
    exact kk
  obtain ⟨T77, i77, X77, e77, hi_i77, hn_i77, st77⟩ := own_loop (b_ := (1 : Int32)) (sv_ := ((64 : Int32) - (F7 (2 : Int32)))) hx hZ hw hby hml hown F_a__shift_74 V_ps__72 (n_.toInt - (i66).toInt).toNat X70 e70 hi_i66 hn_i66 (by omega)
  have pre78 : ∀ t, Steps p.tables e below (T77.setTop (mkF m 90 #[.val (.ref a_), .val (.ref ps_), .val (.int (2 : Int32)), .val (.int i77), .val (.int (1 : Int32))] [])) t → Steps p.tables e below (s₁.setTop (entryFrame m #[(.ref a_), (.ref ps_)] 5)) t := fun t kk => pre76 t (st77 t kk)
  obtain ⟨T79, X79, e79, st79⟩ := getF X77 hx hZ hown (host := "") (Or.inl (hw _ (List.mem_of_getElem? (i := 50) rfl))) Via.refl e77 F_a__firstSlots_75 (g := (mkF m 97 #[.val (.ref a_), .val (.ref ps_), .val (.int (2 : Int32)), .val (.int i77), .val (.int (2 : Int32))] [(.ref a_)])) rfl rfl (hb hby d3_97)
  obtain ⟨cl80, Ar80, -, S80, N80v, -, -⟩ := id V_ps__72
  obtain ⟨cl81, Ar81, q81, S81, N81v, H81, G81⟩ := Vw70
  have hin81 : ¬ ((2 : Int32) < 0 ∨ cl81.slots.size ≤ ((2 : Int32)).toNatClampNeg) := inb_of S81 ⟨by decide, by decide⟩
  obtain ⟨T82, h82, X82, e82, W82, st82⟩ := stI X79 hx hZ e79 Ar81 (j := (2 : Int32)) hin81 (g := (mkF m 103 #[.val (.ref a_), .val (.ref ps_), .val (.int (2 : Int32)), .val (.int i77), .val (.int (2 : Int32))] [(.int n_), (.int (2 : Int32)), (.ref b45)])) rfl rfl (hb hby d3_103)
  have Vw82 : Arv Z h82 b45 k45 .int (3 : Int32) [(.int (0 : Int32)), (.int i66), (.int n_)] (.int (0 : Int32)) := Arv.set Ar81 q81 S81 N81v H81 G81 rfl W82 2 rfl (Nat.le_of_ble_eq_true rfl)
  have KP82 : Keep h0 h82 [a_] := KP70.wr W82 (Or.inr sz_b45)
  have Z82 : n0 ≤ h82.size := Nat.le_trans Z70 (Nat.le_of_eq W82.size.symm)
  have N82 := Fr.snoc X82 N70 g_b45
  have E_a__83 : Exa Z h82 a_ "com/example/clockwise/clockwise/SlotIndex" := E_a__71.wr W82
  have V_ps__84 : Arv Z h82 ps_ kp_ .long n_ vs_ dv_ := V_ps__72.other W82 ne_ps__b45
  have F_a__positions_85 : Fld Z h82 a_ "com/example/clockwise/clockwise/SlotIndex" "positions" "[J" (.ref ps_) := F_a__positions_73.other W82 (Or.inl ne_a__b45)
  have F_a__shift_86 : Fld Z h82 a_ "com/example/clockwise/clockwise/SlotIndex" "shift" "I" (.int ((64 : Int32) - (F7 (2 : Int32)))) := F_a__shift_74.other W82 (Or.inl ne_a__b45)
  have F_a__firstSlots_87 : Fld Z h82 a_ "com/example/clockwise/clockwise/SlotIndex" "firstSlots" "[I" (.ref b45) := F_a__firstSlots_75.other W82 (Or.inl ne_a__b45)
  have pre88 : ∀ t, Steps p.tables e below (T82.setTop (mkF m 104 #[.val (.ref a_), .val (.ref ps_), .val (.int (2 : Int32)), .val (.int i77), .val (.int (2 : Int32))] [])) t → Steps p.tables e below (s₁.setTop (entryFrame m #[(.ref a_), (.ref ps_)] 5)) t := by
    intro t kk
    refine pre78 t ?_
    show Steps p.tables e below (T77.setTop (mkF m 90 #[.val (.ref a_), .val (.ref ps_), .val (.int (2 : Int32)), .val (.int i77), .val (.int (1 : Int32))] [])) _
    refine XS.iinc X77.here hx rfl (hb hby d3_90) rfl (l' := #[.val (.ref a_), .val (.ref ps_), .val (.int (2 : Int32)), .val (.int i77), .val (.int (2 : Int32))]) rfl ?_
    show Steps p.tables e below (T77.setTop (mkF m 93 #[.val (.ref a_), .val (.ref ps_), .val (.int (2 : Int32)), .val (.int i77), .val (.int (2 : Int32))] [])) _
    refine XS.goto X77.here hx rfl (pc0 := 93) (pc' := 50) rfl (hb hby d3_93) (by decide) (by decide) ?_
    show Steps p.tables e below (T77.setTop (mkF m 50 #[.val (.ref a_), .val (.ref ps_), .val (.int (2 : Int32)), .val (.int i77), .val (.int (2 : Int32))] [])) _
    refine XS.iload X77.here hx rfl (hb hby d3_50) rfl ?_
    show Steps p.tables e below (T77.setTop (mkF m 52 #[.val (.ref a_), .val (.ref ps_), .val (.int (2 : Int32)), .val (.int i77), .val (.int (2 : Int32))] [(.int (2 : Int32))])) _
    refine XS.iloadN X77.here hx rfl (hb hby d3_52) rfl ?_
    show Steps p.tables e below (T77.setTop (mkF m 53 #[.val (.ref a_), .val (.ref ps_), .val (.int (2 : Int32)), .val (.int i77), .val (.int (2 : Int32))] [(.int (2 : Int32)), (.int (2 : Int32))])) _
    refine XS.icmpYes X77.here hx rfl (pc0 := 53) (pc' := 96) rfl (hb hby d3_53) rfl (flt (by decide : ¬ ((2 : Int32) < (2 : Int32)))).2.1 (by decide) (by decide) ?_
    show Steps p.tables e below (T77.setTop (mkF m 96 #[.val (.ref a_), .val (.ref ps_), .val (.int (2 : Int32)), .val (.int i77), .val (.int (2 : Int32))] [])) _
    refine XS.aloadN X77.here hx rfl (hb hby d3_96) rfl rfl ?_
    show Steps p.tables e below (T77.setTop (mkF m 97 #[.val (.ref a_), .val (.ref ps_), .val (.int (2 : Int32)), .val (.int i77), .val (.int (2 : Int32))] [(.ref a_)])) _
    refine st79 _ ?_
    show Steps p.tables e below (T79.setTop (mkF m 100 #[.val (.ref a_), .val (.ref ps_), .val (.int (2 : Int32)), .val (.int i77), .val (.int (2 : Int32))] [(.ref b45)])) _
    refine XS.iloadN X79.here hx rfl (hb hby d3_100) rfl ?_
    show Steps p.tables e below (T79.setTop (mkF m 101 #[.val (.ref a_), .val (.ref ps_), .val (.int (2 : Int32)), .val (.int i77), .val (.int (2 : Int32))] [(.int (2 : Int32)), (.ref b45)])) _
    refine XS.aloadN X79.here hx rfl (hb hby d3_101) rfl rfl ?_
    show Steps p.tables e below (T79.setTop (mkF m 102 #[.val (.ref a_), .val (.ref ps_), .val (.int (2 : Int32)), .val (.int i77), .val (.int (2 : Int32))] [(.ref ps_), (.int (2 : Int32)), (.ref b45)])) _
    refine X79.arraylength hx (by rw [e79]; exact Ar80.1) (State.isArrayOf_alike hZ.alike Ar80.2.1) (g := (mkF m 102 #[.val (.ref a_), .val (.ref ps_), .val (.int (2 : Int32)), .val (.int i77), .val (.int (2 : Int32))] [(.ref ps_), (.int (2 : Int32)), (.ref b45)])) rfl rfl (hb hby d3_102) _ ?_
    rw [len_of S80 N80v]
    show Steps p.tables e below (T79.setTop (mkF m 103 #[.val (.ref a_), .val (.ref ps_), .val (.int (2 : Int32)), .val (.int i77), .val (.int (2 : Int32))] [(.int n_), (.int (2 : Int32)), (.ref b45)])) _
    refine st82 _ ?_
    exact kk
  obtain ⟨fs, hr, hrun, hended, hW, hsame⟩ := X82.leave (v := none) (fun _ => rfl)
  refine ⟨_, _, pre88 _ ?_, hrun, hended, _, _, rfl, ?_, ⟨_, rfl⟩, hW, hsame.mono (by decide) (by decide)⟩
  · show Steps p.tables e below (T82.setTop (mkF m 104 #[.val (.ref a_), .val (.ref ps_), .val (.int (2 : Int32)), .val (.int i77), .val (.int (2 : Int32))] [])) _
    exact X82.returnOut hx Bd.returns (hb hby d3_104) hr
  · show Q3 Z a_ ps_ kp_ n_ vs_ dv_ h0 n0 _ T82.heap _
    rw [e82]
    exact ⟨rfl, N82, KP82⟩
theorem pd__28_5bJ_29V : parseMethodDescriptor "([J)V" = some ⟨[(.array .long)], none⟩ := by decide +kernel
theorem d1_0 : decode prog_20_method_1_code 0 = .ok (.aload_n 0, 1) := by decide +kernel
theorem d1_1 : decode prog_20_method_1_code 1 = .ok (.invokespecial 1, 3) := by decide +kernel
theorem d1_4 : decode prog_20_method_1_code 4 = .ok (.aload_n 0, 1) := by decide +kernel
theorem d1_5 : decode prog_20_method_1_code 5 = .ok (.aload_n 1, 1) := by decide +kernel
theorem d1_6 : decode prog_20_method_1_code 6 = .ok (.putfield 7, 3) := by decide +kernel
theorem d1_9 : decode prog_20_method_1_code 9 = .ok (.aload_n 0, 1) := by decide +kernel
theorem d1_10 : decode prog_20_method_1_code 10 = .ok (.aload_n 2, 1) := by decide +kernel
theorem d1_11 : decode prog_20_method_1_code 11 = .ok (.putfield 13, 3) := by decide +kernel
theorem d1_14 : decode prog_20_method_1_code 14 = .ok (.aload_n 0, 1) := by decide +kernel
theorem d1_15 : decode prog_20_method_1_code 15 = .ok (.iload_n 3, 1) := by decide +kernel
theorem d1_16 : decode prog_20_method_1_code 16 = .ok (.putfield 17, 3) := by decide +kernel
theorem d1_19 : decode prog_20_method_1_code 19 = .ok (.aload_n 0, 1) := by decide +kernel
theorem d1_20 : decode prog_20_method_1_code 20 = .ok (.aload 4, 2) := by decide +kernel
theorem d1_22 : decode prog_20_method_1_code 22 = .ok (.putfield 21, 3) := by decide +kernel
theorem d1_25 : decode prog_20_method_1_code 25 = .ok (.aload_n 0, 1) := by decide +kernel
theorem d1_26 : decode prog_20_method_1_code 26 = .ok (.aload 5, 2) := by decide +kernel
theorem d1_28 : decode prog_20_method_1_code 28 = .ok (.putfield 25, 3) := by decide +kernel
theorem d1_31 : decode prog_20_method_1_code 31 = .ok (.aload_n 0, 1) := by decide +kernel
theorem d1_32 : decode prog_20_method_1_code 32 = .ok (.new 29, 3) := by decide +kernel
theorem d1_35 : decode prog_20_method_1_code 35 = .ok (.dup, 1) := by decide +kernel
theorem d1_36 : decode prog_20_method_1_code 36 = .ok (.aload 4, 2) := by decide +kernel
theorem d1_38 : decode prog_20_method_1_code 38 = .ok (.invokespecial 31, 3) := by decide +kernel
theorem d1_41 : decode prog_20_method_1_code 41 = .ok (.putfield 34, 3) := by decide +kernel
theorem d1_44 : decode prog_20_method_1_code 44 = .ok (.return_, 1) := by decide +kernel
theorem pn_com_example_clockwise_clockwise_Ring : plainName "com/example/clockwise/clockwise/Ring" = true := by first | (simp [plainName, overriddenIn]; done) | decide +kernel
theorem ef_1_RnnIRR (m : MethodId) (x0 : Addr) (x3 : Int32) (x4 : Addr) (x5 : Addr) : entryFrame m #[(.ref x0), .null, .null, (.int x3), (.ref x4), (.ref x5)] 6 = mkF m 0 #[.val (.ref x0), .val .null, .val .null, .val (.int x3), .val (.ref x4), .val (.ref x5)] [] := by first | (simp [entryFrame, mkF, argsToLocals, Value.category]; done) | rfl
def Q1 (Z : State) (a_ : Addr) (vn_ : Int32) (ps_ : Addr) (ow_ : Addr) (kp_ : ClassId) (n_ : Int32) (vs_ : List Value) (dv_ : Value) (h0 : Heap) (n0 : Nat) (v : Option Value) (h : Heap) (L : List Loc) : Prop := v = none ∧ Fr n0 L ∧ Keep h0 h [a_] ∧ Exa Z h a_ "com/example/clockwise/clockwise/Ring" ∧ Fld Z h a_ "com/example/clockwise/clockwise/Ring" "placement" "Lcom/example/clockwise/clockwise/Placement;" .null ∧ Fld Z h a_ "com/example/clockwise/clockwise/Ring" "members" "Lcom/example/clockwise/clockwise/Ring$Membership;" .null ∧ Fld Z h a_ "com/example/clockwise/clockwise/Ring" "vnodes" "I" (.int vn_) ∧ Fld Z h a_ "com/example/clockwise/clockwise/Ring" "positions" "[J" (.ref ps_) ∧ Fld Z h a_ "com/example/clockwise/clockwise/Ring" "owners" "[I" (.ref ow_)
set_option maxRecDepth 65536 in
set_option maxHeartbeats 40000000 in
theorem rm1 (l : Launch) (Z : State) (aA : Array Value) (hw : ∀ d ∈ tables_1, d.before aA Z = true) (ws : List Jvm.Cond) (a_ : Addr) (vn_ : Int32) (ps_ : Addr) (ow_ : Addr) (kp_ : ClassId) (n_ : Int32) (vs_ : List Value) (dv_ : Value) (h0 : Heap) (n0 : Nat) (Z0 : n0 ≤ h0.size) (E_a : Exa Z h0 a_ "com/example/clockwise/clockwise/Ring") (g_a_ : n0 ≤ a_) (hne : a_ ≠ ps_) (Vps : Arv Z h0 ps_ kp_ .long n_ vs_ dv_) (hbk : (F4 (2 : Int32) (F5 (F4 (1 : Int32) (n_ / (4 : Int32))))) = (2 : Int32)) (hk0 : (0 : Int32) < (F4 (1 : Int32) (n_ / (4 : Int32)))) (hk4 : (F4 (1 : Int32) (n_ / (4 : Int32))) < (4 : Int32)) (F_placement : Fld Z h0 a_ "com/example/clockwise/clockwise/Ring" "placement" "Lcom/example/clockwise/clockwise/Placement;" .null) (F_members : Fld Z h0 a_ "com/example/clockwise/clockwise/Ring" "members" "Lcom/example/clockwise/clockwise/Ring$Membership;" .null) (F_vnodes : Fld Z h0 a_ "com/example/clockwise/clockwise/Ring" "vnodes" "I" (.int (0 : Int32))) (F_positions : Fld Z h0 a_ "com/example/clockwise/clockwise/Ring" "positions" "[J" .null) (F_owners : Fld Z h0 a_ "com/example/clockwise/clockwise/Ring" "owners" "[I" .null) (F_slotIndex : Fld Z h0 a_ "com/example/clockwise/clockwise/Ring" "slotIndex" "Lcom/example/clockwise/clockwise/SlotIndex;" .null) :
    MetFree l (⟨"com/example/clockwise/clockwise/Ring", "<init>", "(Lcom/example/clockwise/clockwise/Placement;Lcom/example/clockwise/clockwise/Ring$Membership;I[J[I)V"⟩ : MethodName) (head1 (Jvm.Cond.code (⟨"com/example/clockwise/clockwise/Ring", "<init>", "(Lcom/example/clockwise/clockwise/Placement;Lcom/example/clockwise/clockwise/Ring$Membership;I[J[I)V"⟩ : MethodName) prog_20_method_1_code 6 none :: ws) ({ frames := 3, cells := 2, slots := 6, locals := 46 } : Room)) (fun a U => a = #[(.ref a_), .null, .null, (.int vn_), (.ref ps_), (.ref ow_)] ∧ Z.Warmed39 U.vm ∧ U.heap = h0) (fun _ _ _ _ _ => True) (fun _ U o U' => ∃ v L, o = .returned v ∧ Q1 Z a_ vn_ ps_ ow_ kp_ n_ vs_ dv_ h0 n0 v U'.heap L ∧ FrameEnd U o U' L ({ frames := 3, cells := 2, slots := 6, locals := 46 } : Room).cells ({ frames := 3, cells := 2, slots := 6, locals := 46 } : Room).slots) := by
  refine MetFree.of_bodySF (plainFor_of_name pn_com_example_clockwise_clockwise_Ring) hisR ?_
  intro p e s m args below meth c s₁ Bd hml0 hP hK
  obtain ⟨rfl, hZ, hh⟩ := hP
  have hx := Bd.exec
  have hby := Bd.bytes
  have hml : c.maxLocals = 6 := hml0
  have hown : s.vm.findClass "com/example/clockwise/clockwise/Ring" = some m.cls := findClass_of_methodNamed Bd.named
  have hnm := (name_of_methodNamed Bd.named Bd.method).1
  have X0 : Stand p l e ({ frames := 3, cells := 2, slots := 6, locals := 46 } : Room) s m #[(.ref a_), .null, .null, (.int vn_), (.ref ps_), (.ref ow_)] below meth c s₁ [] 0 0 := Stand.of_body Bd
  have e0 : s₁.heap = h0 := by rw [← hh, Bd.state]; rfl
  have N0 := Fr.nil n0
  have KP0 : Keep h0 h0 [a_] := Keep.refl h0 _
  have pre0 : ∀ t, Steps p.tables e below (s₁.setTop (mkF m 0 #[.val (.ref a_), .val .null, .val .null, .val (.int vn_), .val (.ref ps_), .val (.ref ow_)] [])) t → Steps p.tables e below (s₁.setTop (entryFrame m #[(.ref a_), .null, .null, (.int vn_), (.ref ps_), (.ref ow_)] 6)) t := fun t k => castTop (ef_1_RnnIRR m a_ vn_ ps_ ow_) k
  obtain ⟨T89, X89, e89, st89⟩ := initO X0 hx hZ hown (hw _ (List.mem_of_getElem? (i := 10) rfl)) (hw _ (List.mem_of_getElem? (i := 11) rfl)) (hw _ (List.mem_of_getElem? (i := 12) rfl)) e0 (g := (mkF m 1 #[.val (.ref a_), .val .null, .val .null, .val (.int vn_), .val (.ref ps_), .val (.ref ow_)] [(.ref a_)])) rfl (by rw [hml]; rfl) rfl (hb hby d1_1) (by decide) (W := 0) (by show 2 * 0 + _ ≤ _; exact Nat.le_of_eq rfl) (by decide)
  obtain ⟨T90, h90, X90, e90, W90, st90⟩ := putF X89 hx hZ hown (host := "") (Or.inl (hw _ (List.mem_of_getElem? (i := 13) rfl))) Via.refl e89 F_placement E_a (Or.inr ⟨(hw _ (List.mem_of_getElem? (i := 14) rfl)), rfl, hnm⟩) (hw _ (List.mem_of_getElem? (i := 5) rfl)) (ty := (.object "com/example/clockwise/clockwise/Placement")) (by decide) rfl rfl (g := (mkF m 6 #[.val (.ref a_), .val .null, .val .null, .val (.int vn_), .val (.ref ps_), .val (.ref ow_)] [.null, (.ref a_)])) rfl rfl (hb hby d1_6)
  have Fw90 := F_placement.same W90
  have KP90 : Keep h0 h90 [a_] := KP0.wr W90 (Or.inl (List.mem_of_getElem? (i := 0) rfl))
  have Z90 : n0 ≤ h90.size := Nat.le_trans Z0 (Nat.le_of_eq W90.size.symm)
  have N90 := Fr.snoc X90 N0 g_a_
  have E_a__91 : Exa Z h90 a_ "com/example/clockwise/clockwise/Ring" := E_a.wr W90
  have V_ps__92 : Arv Z h90 ps_ kp_ .long n_ vs_ dv_ := Vps.other W90 (Ne.symm hne)
  have F_a__members_93 : Fld Z h90 a_ "com/example/clockwise/clockwise/Ring" "members" "Lcom/example/clockwise/clockwise/Ring$Membership;" .null := F_members.other W90 (Or.inr (slot_ne (Or.inr (hw _ (List.mem_of_getElem? (i := 16) rfl))) (Or.inr (hw _ (List.mem_of_getElem? (i := 14) rfl))) (by decide) (t := (.object "com/example/clockwise/clockwise/Ring$Membership")) (t' := (.object "com/example/clockwise/clockwise/Placement")) (by decide) (by decide)))
  have F_a__vnodes_94 : Fld Z h90 a_ "com/example/clockwise/clockwise/Ring" "vnodes" "I" (.int (0 : Int32)) := F_vnodes.other W90 (Or.inr (slot_ne (Or.inr (hw _ (List.mem_of_getElem? (i := 18) rfl))) (Or.inr (hw _ (List.mem_of_getElem? (i := 14) rfl))) (by decide) (t := .int) (t' := (.object "com/example/clockwise/clockwise/Placement")) (by decide) (by decide)))
  have F_a__positions_95 : Fld Z h90 a_ "com/example/clockwise/clockwise/Ring" "positions" "[J" .null := F_positions.other W90 (Or.inr (slot_ne (Or.inr (hw _ (List.mem_of_getElem? (i := 20) rfl))) (Or.inr (hw _ (List.mem_of_getElem? (i := 14) rfl))) (by decide) (t := (.array .long)) (t' := (.object "com/example/clockwise/clockwise/Placement")) (by decide) (by decide)))
  have F_a__owners_96 : Fld Z h90 a_ "com/example/clockwise/clockwise/Ring" "owners" "[I" .null := F_owners.other W90 (Or.inr (slot_ne (Or.inr (hw _ (List.mem_of_getElem? (i := 22) rfl))) (Or.inr (hw _ (List.mem_of_getElem? (i := 14) rfl))) (by decide) (t := (.array .int)) (t' := (.object "com/example/clockwise/clockwise/Placement")) (by decide) (by decide)))
  have F_a__slotIndex_97 : Fld Z h90 a_ "com/example/clockwise/clockwise/Ring" "slotIndex" "Lcom/example/clockwise/clockwise/SlotIndex;" .null := F_slotIndex.other W90 (Or.inr (slot_ne (Or.inr (hw _ (List.mem_of_getElem? (i := 53) rfl))) (Or.inr (hw _ (List.mem_of_getElem? (i := 14) rfl))) (by decide) (t := (.object "com/example/clockwise/clockwise/SlotIndex")) (t' := (.object "com/example/clockwise/clockwise/Placement")) (by decide) (by decide)))
  obtain ⟨T98, h98, X98, e98, W98, st98⟩ := putF X90 hx hZ hown (host := "") (Or.inl (hw _ (List.mem_of_getElem? (i := 15) rfl))) Via.refl e90 F_a__members_93 E_a__91 (Or.inr ⟨(hw _ (List.mem_of_getElem? (i := 16) rfl)), rfl, hnm⟩) (hw _ (List.mem_of_getElem? (i := 5) rfl)) (ty := (.object "com/example/clockwise/clockwise/Ring$Membership")) (by decide) rfl rfl (g := (mkF m 11 #[.val (.ref a_), .val .null, .val .null, .val (.int vn_), .val (.ref ps_), .val (.ref ow_)] [.null, (.ref a_)])) rfl rfl (hb hby d1_11)
  have Fw98 := F_a__members_93.same W98
  have KP98 : Keep h0 h98 [a_] := KP90.wr W98 (Or.inl (List.mem_of_getElem? (i := 0) rfl))
  have Z98 : n0 ≤ h98.size := Nat.le_trans Z90 (Nat.le_of_eq W98.size.symm)
  have N98 := Fr.snoc X98 N90 g_a_
  have E_a__99 : Exa Z h98 a_ "com/example/clockwise/clockwise/Ring" := E_a__91.wr W98
  have V_ps__100 : Arv Z h98 ps_ kp_ .long n_ vs_ dv_ := V_ps__92.other W98 (Ne.symm hne)
  have F_a__vnodes_101 : Fld Z h98 a_ "com/example/clockwise/clockwise/Ring" "vnodes" "I" (.int (0 : Int32)) := F_a__vnodes_94.other W98 (Or.inr (slot_ne (Or.inr (hw _ (List.mem_of_getElem? (i := 18) rfl))) (Or.inr (hw _ (List.mem_of_getElem? (i := 16) rfl))) (by decide) (t := .int) (t' := (.object "com/example/clockwise/clockwise/Ring$Membership")) (by decide) (by decide)))
  have F_a__positions_102 : Fld Z h98 a_ "com/example/clockwise/clockwise/Ring" "positions" "[J" .null := F_a__positions_95.other W98 (Or.inr (slot_ne (Or.inr (hw _ (List.mem_of_getElem? (i := 20) rfl))) (Or.inr (hw _ (List.mem_of_getElem? (i := 16) rfl))) (by decide) (t := (.array .long)) (t' := (.object "com/example/clockwise/clockwise/Ring$Membership")) (by decide) (by decide)))
  have F_a__owners_103 : Fld Z h98 a_ "com/example/clockwise/clockwise/Ring" "owners" "[I" .null := F_a__owners_96.other W98 (Or.inr (slot_ne (Or.inr (hw _ (List.mem_of_getElem? (i := 22) rfl))) (Or.inr (hw _ (List.mem_of_getElem? (i := 16) rfl))) (by decide) (t := (.array .int)) (t' := (.object "com/example/clockwise/clockwise/Ring$Membership")) (by decide) (by decide)))
  have F_a__slotIndex_104 : Fld Z h98 a_ "com/example/clockwise/clockwise/Ring" "slotIndex" "Lcom/example/clockwise/clockwise/SlotIndex;" .null := F_a__slotIndex_97.other W98 (Or.inr (slot_ne (Or.inr (hw _ (List.mem_of_getElem? (i := 53) rfl))) (Or.inr (hw _ (List.mem_of_getElem? (i := 16) rfl))) (by decide) (t := (.object "com/example/clockwise/clockwise/SlotIndex")) (t' := (.object "com/example/clockwise/clockwise/Ring$Membership")) (by decide) (by decide)))
  have F_a__placement_105 : Fld Z h98 a_ "com/example/clockwise/clockwise/Ring" "placement" "Lcom/example/clockwise/clockwise/Placement;" .null := Fw90.other W98 (Or.inr (slot_ne (Or.inr (hw _ (List.mem_of_getElem? (i := 14) rfl))) (Or.inr (hw _ (List.mem_of_getElem? (i := 16) rfl))) (by decide) (t := (.object "com/example/clockwise/clockwise/Placement")) (t' := (.object "com/example/clockwise/clockwise/Ring$Membership")) (by decide) (by decide)))
  obtain ⟨T106, h106, X106, e106, W106, st106⟩ := putF X98 hx hZ hown (host := "") (Or.inl (hw _ (List.mem_of_getElem? (i := 17) rfl))) Via.refl e98 F_a__vnodes_101 E_a__99 (Or.inr ⟨(hw _ (List.mem_of_getElem? (i := 18) rfl)), rfl, hnm⟩) (hw _ (List.mem_of_getElem? (i := 5) rfl)) (ty := .int) (by decide) rfl rfl (g := (mkF m 16 #[.val (.ref a_), .val .null, .val .null, .val (.int vn_), .val (.ref ps_), .val (.ref ow_)] [(.int vn_), (.ref a_)])) rfl rfl (hb hby d1_16)
  have Fw106 := F_a__vnodes_101.same W106
  have KP106 : Keep h0 h106 [a_] := KP98.wr W106 (Or.inl (List.mem_of_getElem? (i := 0) rfl))
  have Z106 : n0 ≤ h106.size := Nat.le_trans Z98 (Nat.le_of_eq W106.size.symm)
  have N106 := Fr.snoc X106 N98 g_a_
  have E_a__107 : Exa Z h106 a_ "com/example/clockwise/clockwise/Ring" := E_a__99.wr W106
  have V_ps__108 : Arv Z h106 ps_ kp_ .long n_ vs_ dv_ := V_ps__100.other W106 (Ne.symm hne)
  have F_a__positions_109 : Fld Z h106 a_ "com/example/clockwise/clockwise/Ring" "positions" "[J" .null := F_a__positions_102.other W106 (Or.inr (slot_ne (Or.inr (hw _ (List.mem_of_getElem? (i := 20) rfl))) (Or.inr (hw _ (List.mem_of_getElem? (i := 18) rfl))) (by decide) (t := (.array .long)) (t' := .int) (by decide) (by decide)))
  have F_a__owners_110 : Fld Z h106 a_ "com/example/clockwise/clockwise/Ring" "owners" "[I" .null := F_a__owners_103.other W106 (Or.inr (slot_ne (Or.inr (hw _ (List.mem_of_getElem? (i := 22) rfl))) (Or.inr (hw _ (List.mem_of_getElem? (i := 18) rfl))) (by decide) (t := (.array .int)) (t' := .int) (by decide) (by decide)))
  have F_a__slotIndex_111 : Fld Z h106 a_ "com/example/clockwise/clockwise/Ring" "slotIndex" "Lcom/example/clockwise/clockwise/SlotIndex;" .null := F_a__slotIndex_104.other W106 (Or.inr (slot_ne (Or.inr (hw _ (List.mem_of_getElem? (i := 53) rfl))) (Or.inr (hw _ (List.mem_of_getElem? (i := 18) rfl))) (by decide) (t := (.object "com/example/clockwise/clockwise/SlotIndex")) (t' := .int) (by decide) (by decide)))
  have F_a__placement_112 : Fld Z h106 a_ "com/example/clockwise/clockwise/Ring" "placement" "Lcom/example/clockwise/clockwise/Placement;" .null := F_a__placement_105.other W106 (Or.inr (slot_ne (Or.inr (hw _ (List.mem_of_getElem? (i := 14) rfl))) (Or.inr (hw _ (List.mem_of_getElem? (i := 18) rfl))) (by decide) (t := (.object "com/example/clockwise/clockwise/Placement")) (t' := .int) (by decide) (by decide)))
  have F_a__members_113 : Fld Z h106 a_ "com/example/clockwise/clockwise/Ring" "members" "Lcom/example/clockwise/clockwise/Ring$Membership;" .null := Fw98.other W106 (Or.inr (slot_ne (Or.inr (hw _ (List.mem_of_getElem? (i := 16) rfl))) (Or.inr (hw _ (List.mem_of_getElem? (i := 18) rfl))) (by decide) (t := (.object "com/example/clockwise/clockwise/Ring$Membership")) (t' := .int) (by decide) (by decide)))
  obtain ⟨T114, h114, X114, e114, W114, st114⟩ := putF X106 hx hZ hown (host := "") (Or.inl (hw _ (List.mem_of_getElem? (i := 19) rfl))) Via.refl e106 F_a__positions_109 E_a__107 (Or.inr ⟨(hw _ (List.mem_of_getElem? (i := 20) rfl)), rfl, hnm⟩) (hw _ (List.mem_of_getElem? (i := 5) rfl)) (ty := (.array .long)) (by decide) rfl rfl (g := (mkF m 22 #[.val (.ref a_), .val .null, .val .null, .val (.int vn_), .val (.ref ps_), .val (.ref ow_)] [(.ref ps_), (.ref a_)])) rfl rfl (hb hby d1_22)
  have Fw114 := F_a__positions_109.same W114
  have KP114 : Keep h0 h114 [a_] := KP106.wr W114 (Or.inl (List.mem_of_getElem? (i := 0) rfl))
  have Z114 : n0 ≤ h114.size := Nat.le_trans Z106 (Nat.le_of_eq W114.size.symm)
  have N114 := Fr.snoc X114 N106 g_a_
  have E_a__115 : Exa Z h114 a_ "com/example/clockwise/clockwise/Ring" := E_a__107.wr W114
  have V_ps__116 : Arv Z h114 ps_ kp_ .long n_ vs_ dv_ := V_ps__108.other W114 (Ne.symm hne)
  have F_a__owners_117 : Fld Z h114 a_ "com/example/clockwise/clockwise/Ring" "owners" "[I" .null := F_a__owners_110.other W114 (Or.inr (slot_ne (Or.inr (hw _ (List.mem_of_getElem? (i := 22) rfl))) (Or.inr (hw _ (List.mem_of_getElem? (i := 20) rfl))) (by decide) (t := (.array .int)) (t' := (.array .long)) (by decide) (by decide)))
  have F_a__slotIndex_118 : Fld Z h114 a_ "com/example/clockwise/clockwise/Ring" "slotIndex" "Lcom/example/clockwise/clockwise/SlotIndex;" .null := F_a__slotIndex_111.other W114 (Or.inr (slot_ne (Or.inr (hw _ (List.mem_of_getElem? (i := 53) rfl))) (Or.inr (hw _ (List.mem_of_getElem? (i := 20) rfl))) (by decide) (t := (.object "com/example/clockwise/clockwise/SlotIndex")) (t' := (.array .long)) (by decide) (by decide)))
  have F_a__placement_119 : Fld Z h114 a_ "com/example/clockwise/clockwise/Ring" "placement" "Lcom/example/clockwise/clockwise/Placement;" .null := F_a__placement_112.other W114 (Or.inr (slot_ne (Or.inr (hw _ (List.mem_of_getElem? (i := 14) rfl))) (Or.inr (hw _ (List.mem_of_getElem? (i := 20) rfl))) (by decide) (t := (.object "com/example/clockwise/clockwise/Placement")) (t' := (.array .long)) (by decide) (by decide)))
  have F_a__members_120 : Fld Z h114 a_ "com/example/clockwise/clockwise/Ring" "members" "Lcom/example/clockwise/clockwise/Ring$Membership;" .null := F_a__members_113.other W114 (Or.inr (slot_ne (Or.inr (hw _ (List.mem_of_getElem? (i := 16) rfl))) (Or.inr (hw _ (List.mem_of_getElem? (i := 20) rfl))) (by decide) (t := (.object "com/example/clockwise/clockwise/Ring$Membership")) (t' := (.array .long)) (by decide) (by decide)))
  have F_a__vnodes_121 : Fld Z h114 a_ "com/example/clockwise/clockwise/Ring" "vnodes" "I" (.int vn_) := Fw106.other W114 (Or.inr (slot_ne (Or.inr (hw _ (List.mem_of_getElem? (i := 18) rfl))) (Or.inr (hw _ (List.mem_of_getElem? (i := 20) rfl))) (by decide) (t := .int) (t' := (.array .long)) (by decide) (by decide)))
  obtain ⟨T122, h122, X122, e122, W122, st122⟩ := putF X114 hx hZ hown (host := "") (Or.inl (hw _ (List.mem_of_getElem? (i := 21) rfl))) Via.refl e114 F_a__owners_117 E_a__115 (Or.inr ⟨(hw _ (List.mem_of_getElem? (i := 22) rfl)), rfl, hnm⟩) (hw _ (List.mem_of_getElem? (i := 5) rfl)) (ty := (.array .int)) (by decide) rfl rfl (g := (mkF m 28 #[.val (.ref a_), .val .null, .val .null, .val (.int vn_), .val (.ref ps_), .val (.ref ow_)] [(.ref ow_), (.ref a_)])) rfl rfl (hb hby d1_28)
  have Fw122 := F_a__owners_117.same W122
  have KP122 : Keep h0 h122 [a_] := KP114.wr W122 (Or.inl (List.mem_of_getElem? (i := 0) rfl))
  have Z122 : n0 ≤ h122.size := Nat.le_trans Z114 (Nat.le_of_eq W122.size.symm)
  have N122 := Fr.snoc X122 N114 g_a_
  have E_a__123 : Exa Z h122 a_ "com/example/clockwise/clockwise/Ring" := E_a__115.wr W122
  have V_ps__124 : Arv Z h122 ps_ kp_ .long n_ vs_ dv_ := V_ps__116.other W122 (Ne.symm hne)
  have F_a__slotIndex_125 : Fld Z h122 a_ "com/example/clockwise/clockwise/Ring" "slotIndex" "Lcom/example/clockwise/clockwise/SlotIndex;" .null := F_a__slotIndex_118.other W122 (Or.inr (slot_ne (Or.inr (hw _ (List.mem_of_getElem? (i := 53) rfl))) (Or.inr (hw _ (List.mem_of_getElem? (i := 22) rfl))) (by decide) (t := (.object "com/example/clockwise/clockwise/SlotIndex")) (t' := (.array .int)) (by decide) (by decide)))
  have F_a__placement_126 : Fld Z h122 a_ "com/example/clockwise/clockwise/Ring" "placement" "Lcom/example/clockwise/clockwise/Placement;" .null := F_a__placement_119.other W122 (Or.inr (slot_ne (Or.inr (hw _ (List.mem_of_getElem? (i := 14) rfl))) (Or.inr (hw _ (List.mem_of_getElem? (i := 22) rfl))) (by decide) (t := (.object "com/example/clockwise/clockwise/Placement")) (t' := (.array .int)) (by decide) (by decide)))
  have F_a__members_127 : Fld Z h122 a_ "com/example/clockwise/clockwise/Ring" "members" "Lcom/example/clockwise/clockwise/Ring$Membership;" .null := F_a__members_120.other W122 (Or.inr (slot_ne (Or.inr (hw _ (List.mem_of_getElem? (i := 16) rfl))) (Or.inr (hw _ (List.mem_of_getElem? (i := 22) rfl))) (by decide) (t := (.object "com/example/clockwise/clockwise/Ring$Membership")) (t' := (.array .int)) (by decide) (by decide)))
  have F_a__vnodes_128 : Fld Z h122 a_ "com/example/clockwise/clockwise/Ring" "vnodes" "I" (.int vn_) := F_a__vnodes_121.other W122 (Or.inr (slot_ne (Or.inr (hw _ (List.mem_of_getElem? (i := 18) rfl))) (Or.inr (hw _ (List.mem_of_getElem? (i := 22) rfl))) (by decide) (t := .int) (t' := (.array .int)) (by decide) (by decide)))
  have F_a__positions_129 : Fld Z h122 a_ "com/example/clockwise/clockwise/Ring" "positions" "[J" (.ref ps_) := Fw114.other W122 (Or.inr (slot_ne (Or.inr (hw _ (List.mem_of_getElem? (i := 20) rfl))) (Or.inr (hw _ (List.mem_of_getElem? (i := 22) rfl))) (by decide) (t := (.array .long)) (t' := (.array .int)) (by decide) (by decide)))
  obtain ⟨T130, h130, X130, e130, E130, A130, D130, -, st130⟩ := newO X122 hx hZ hown (hw _ (List.mem_of_getElem? (i := 23) rfl)) (hw _ (List.mem_of_getElem? (i := 24) rfl)) (hw _ (List.mem_of_getElem? (i := 25) rfl)) e122 (g := (mkF m 32 #[.val (.ref a_), .val .null, .val .null, .val (.int vn_), .val (.ref ps_), .val (.ref ow_)] [(.ref a_)])) rfl (hb hby d1_32) (by decide) (by decide)
  obtain ⟨b130, g130⟩ : ∃ z, z = h122.size := ⟨_, rfl⟩
  rw [← g130] at A130 D130 st130
  have ne_a__b130 : a_ ≠ b130 := Nat.ne_of_lt (Nat.lt_of_lt_of_le E_a__123.lt (Nat.le_of_eq g130.symm))
  have ne_ps__b130 : ps_ ≠ b130 := Nat.ne_of_lt (Nat.lt_of_lt_of_le V_ps__124.lt (Nat.le_of_eq g130.symm))
  have sz_b130 : h0.size ≤ b130 := Nat.le_trans KP122.1 (Nat.le_of_eq g130.symm)
  have g_b130 : n0 ≤ b130 := Nat.le_trans Z122 (Nat.le_of_eq g130.symm)
  have KP130 : Keep h0 h130 [a_] := KP122.ext E130
  have Z130 : n0 ≤ h130.size := Nat.le_trans Z122 E130.1
  have E_a__131 : Exa Z h130 a_ "com/example/clockwise/clockwise/Ring" := E_a__123.ext E130
  have V_ps__132 : Arv Z h130 ps_ kp_ .long n_ vs_ dv_ := V_ps__124.ext E130
  have F_a__slotIndex_133 : Fld Z h130 a_ "com/example/clockwise/clockwise/Ring" "slotIndex" "Lcom/example/clockwise/clockwise/SlotIndex;" .null := F_a__slotIndex_125.ext E130
  have F_a__placement_134 : Fld Z h130 a_ "com/example/clockwise/clockwise/Ring" "placement" "Lcom/example/clockwise/clockwise/Placement;" .null := F_a__placement_126.ext E130
  have F_a__members_135 : Fld Z h130 a_ "com/example/clockwise/clockwise/Ring" "members" "Lcom/example/clockwise/clockwise/Ring$Membership;" .null := F_a__members_127.ext E130
  have F_a__vnodes_136 : Fld Z h130 a_ "com/example/clockwise/clockwise/Ring" "vnodes" "I" (.int vn_) := F_a__vnodes_128.ext E130
  have F_a__positions_137 : Fld Z h130 a_ "com/example/clockwise/clockwise/Ring" "positions" "[J" (.ref ps_) := F_a__positions_129.ext E130
  have F_a__owners_138 : Fld Z h130 a_ "com/example/clockwise/clockwise/Ring" "owners" "[I" (.ref ow_) := Fw122.ext E130
  have F_positions_b130 : Fld Z h130 b130 "com/example/clockwise/clockwise/SlotIndex" "positions" "[J" .null := D130 (Or.inr (hw _ (List.mem_of_getElem? (i := 31) rfl))) (ty := (.array .long)) (by decide)
  have F_shift_b130 : Fld Z h130 b130 "com/example/clockwise/clockwise/SlotIndex" "shift" "I" (.int (0 : Int32)) := D130 (Or.inr (hw _ (List.mem_of_getElem? (i := 49) rfl))) (ty := .int) (by decide)
  have F_firstSlots_b130 : Fld Z h130 b130 "com/example/clockwise/clockwise/SlotIndex" "firstSlots" "[I" .null := D130 (Or.inr (hw _ (List.mem_of_getElem? (i := 51) rfl))) (ty := (.array .int)) (by decide)
  obtain ⟨_, _, ⟨T139, L139, k139, n139⟩, -, X139, ⟨Lc139, hQ139, l139, y139, z139⟩, st139⟩ := X130.specialBack hx (y := (⟨"com/example/clockwise/clockwise/SlotIndex", "<init>", "([J)V"⟩ : MethodName)) rfl hown (mvT hZ (hw _ (List.mem_of_getElem? (i := 26) rfl))) (mvT hZ (hw _ (List.mem_of_getElem? (i := 27) rfl))) (mvT hZ (hw _ (List.mem_of_getElem? (i := 28) rfl))) (by decide) (backOf (W := 2) (rm3 l Z aA hw [] b130 ps_ kp_ n_ vs_ dv_ h130 n0 Z130 A130 g_b130 (Ne.symm ne_ps__b130) V_ps__132 hbk hk0 hk4 F_positions_b130 F_shift_b130 F_firstSlots_b130) hZ (hw _ (List.mem_of_getElem? (i := 28) rfl)) (hw _ (List.mem_of_getElem? (i := 25) rfl)) (by decide) (by decide)) (g := (mkF m 38 #[.val (.ref a_), .val .null, .val .null, .val (.int vn_), .val (.ref ps_), .val (.ref ow_)] [(.ref ps_), (.ref b130), (.ref b130), (.ref a_)])) rfl (by rw [hml]; rfl) (Steps.refl _) (a := b130) (argsL := [(.ref ps_)]) (rest := [(.ref b130), (.ref a_)]) (lenOf pd__28_5bJ_29V rfl) rfl (by show 2 * 0 + _ ≤ _; exact Nat.le_of_eq rfl) (hb hby d1_38) (fun _ _ => ⟨rfl, e130, (by decide : 1 + 1 ≤ _), (by decide : 3 + 3 ≤ _)⟩)
  dsimp only [Pt.U, Pt.locs, Pt.cells, Pt.slots] at X139 l139 y139 z139 st139 hQ139
  subst l139 y139 z139
  obtain ⟨rfl, N139q, K139⟩ := hQ139
  have N139 := Fr.app N122 N139q
  have KP139 : Keep h0 T139.heap [a_] := KP130.trans K139 (allS (Or.inr sz_b130) all0)
  have Z139 : n0 ≤ T139.heap.size := Nat.le_trans Z130 K139.1
  have E_a__140 : Exa Z T139.heap a_ "com/example/clockwise/clockwise/Ring" := E_a__131.keep K139
  have V_ps__141 : Arv Z T139.heap ps_ kp_ .long n_ vs_ dv_ := V_ps__132.keep K139 (ninS ne_ps__b130 nin0)
  have F_a__slotIndex_142 : Fld Z T139.heap a_ "com/example/clockwise/clockwise/Ring" "slotIndex" "Lcom/example/clockwise/clockwise/SlotIndex;" .null := F_a__slotIndex_133.keep K139 (ninS ne_a__b130 nin0)
  have F_a__placement_143 : Fld Z T139.heap a_ "com/example/clockwise/clockwise/Ring" "placement" "Lcom/example/clockwise/clockwise/Placement;" .null := F_a__placement_134.keep K139 (ninS ne_a__b130 nin0)
  have F_a__members_144 : Fld Z T139.heap a_ "com/example/clockwise/clockwise/Ring" "members" "Lcom/example/clockwise/clockwise/Ring$Membership;" .null := F_a__members_135.keep K139 (ninS ne_a__b130 nin0)
  have F_a__vnodes_145 : Fld Z T139.heap a_ "com/example/clockwise/clockwise/Ring" "vnodes" "I" (.int vn_) := F_a__vnodes_136.keep K139 (ninS ne_a__b130 nin0)
  have F_a__positions_146 : Fld Z T139.heap a_ "com/example/clockwise/clockwise/Ring" "positions" "[J" (.ref ps_) := F_a__positions_137.keep K139 (ninS ne_a__b130 nin0)
  have F_a__owners_147 : Fld Z T139.heap a_ "com/example/clockwise/clockwise/Ring" "owners" "[I" (.ref ow_) := F_a__owners_138.keep K139 (ninS ne_a__b130 nin0)
  have E_b130_148 : Exa Z T139.heap b130 "com/example/clockwise/clockwise/SlotIndex" := A130.keep K139
  obtain ⟨T149, h149, X149, e149, W149, st149⟩ := putF X139 hx hZ hown (host := "") (Or.inl (hw _ (List.mem_of_getElem? (i := 52) rfl))) Via.refl rfl F_a__slotIndex_142 E_a__140 (Or.inr ⟨(hw _ (List.mem_of_getElem? (i := 53) rfl)), rfl, hnm⟩) (hw _ (List.mem_of_getElem? (i := 5) rfl)) (ty := (.object "com/example/clockwise/clockwise/SlotIndex")) (by decide) rfl rfl (g := (mkF m 41 #[.val (.ref a_), .val .null, .val .null, .val (.int vn_), .val (.ref ps_), .val (.ref ow_)] [(.ref b130), (.ref a_)])) rfl rfl (hb hby d1_41)
  have Fw149 := F_a__slotIndex_142.same W149
  have KP149 : Keep h0 h149 [a_] := KP139.wr W149 (Or.inl (List.mem_of_getElem? (i := 0) rfl))
  have Z149 : n0 ≤ h149.size := Nat.le_trans Z139 (Nat.le_of_eq W149.size.symm)
  have N149 := Fr.snoc X149 N139 g_a_
  have E_a__150 : Exa Z h149 a_ "com/example/clockwise/clockwise/Ring" := E_a__140.wr W149
  have V_ps__151 : Arv Z h149 ps_ kp_ .long n_ vs_ dv_ := V_ps__141.other W149 (Ne.symm hne)
  have F_a__placement_152 : Fld Z h149 a_ "com/example/clockwise/clockwise/Ring" "placement" "Lcom/example/clockwise/clockwise/Placement;" .null := F_a__placement_143.other W149 (Or.inr (slot_ne (Or.inr (hw _ (List.mem_of_getElem? (i := 14) rfl))) (Or.inr (hw _ (List.mem_of_getElem? (i := 53) rfl))) (by decide) (t := (.object "com/example/clockwise/clockwise/Placement")) (t' := (.object "com/example/clockwise/clockwise/SlotIndex")) (by decide) (by decide)))
  have F_a__members_153 : Fld Z h149 a_ "com/example/clockwise/clockwise/Ring" "members" "Lcom/example/clockwise/clockwise/Ring$Membership;" .null := F_a__members_144.other W149 (Or.inr (slot_ne (Or.inr (hw _ (List.mem_of_getElem? (i := 16) rfl))) (Or.inr (hw _ (List.mem_of_getElem? (i := 53) rfl))) (by decide) (t := (.object "com/example/clockwise/clockwise/Ring$Membership")) (t' := (.object "com/example/clockwise/clockwise/SlotIndex")) (by decide) (by decide)))
  have F_a__vnodes_154 : Fld Z h149 a_ "com/example/clockwise/clockwise/Ring" "vnodes" "I" (.int vn_) := F_a__vnodes_145.other W149 (Or.inr (slot_ne (Or.inr (hw _ (List.mem_of_getElem? (i := 18) rfl))) (Or.inr (hw _ (List.mem_of_getElem? (i := 53) rfl))) (by decide) (t := .int) (t' := (.object "com/example/clockwise/clockwise/SlotIndex")) (by decide) (by decide)))
  have F_a__positions_155 : Fld Z h149 a_ "com/example/clockwise/clockwise/Ring" "positions" "[J" (.ref ps_) := F_a__positions_146.other W149 (Or.inr (slot_ne (Or.inr (hw _ (List.mem_of_getElem? (i := 20) rfl))) (Or.inr (hw _ (List.mem_of_getElem? (i := 53) rfl))) (by decide) (t := (.array .long)) (t' := (.object "com/example/clockwise/clockwise/SlotIndex")) (by decide) (by decide)))
  have F_a__owners_156 : Fld Z h149 a_ "com/example/clockwise/clockwise/Ring" "owners" "[I" (.ref ow_) := F_a__owners_147.other W149 (Or.inr (slot_ne (Or.inr (hw _ (List.mem_of_getElem? (i := 22) rfl))) (Or.inr (hw _ (List.mem_of_getElem? (i := 53) rfl))) (by decide) (t := (.array .int)) (t' := (.object "com/example/clockwise/clockwise/SlotIndex")) (by decide) (by decide)))
  have E_b130_157 : Exa Z h149 b130 "com/example/clockwise/clockwise/SlotIndex" := E_b130_148.wr W149
  have pre158 : ∀ t, Steps p.tables e below (T149.setTop (mkF m 44 #[.val (.ref a_), .val .null, .val .null, .val (.int vn_), .val (.ref ps_), .val (.ref ow_)] [])) t → Steps p.tables e below (s₁.setTop (entryFrame m #[(.ref a_), .null, .null, (.int vn_), (.ref ps_), (.ref ow_)] 6)) t := by
    intro t kk
    refine pre0 t ?_
    show Steps p.tables e below (s₁.setTop (mkF m 0 #[.val (.ref a_), .val .null, .val .null, .val (.int vn_), .val (.ref ps_), .val (.ref ow_)] [])) _
    refine XS.aloadN X0.here hx rfl (hb hby d1_0) rfl rfl ?_
    show Steps p.tables e below (s₁.setTop (mkF m 1 #[.val (.ref a_), .val .null, .val .null, .val (.int vn_), .val (.ref ps_), .val (.ref ow_)] [(.ref a_)])) _
    refine st89 _ ?_
    show Steps p.tables e below (T89.setTop (mkF m 4 #[.val (.ref a_), .val .null, .val .null, .val (.int vn_), .val (.ref ps_), .val (.ref ow_)] [])) _
    refine XS.aloadN X89.here hx rfl (hb hby d1_4) rfl rfl ?_
    show Steps p.tables e below (T89.setTop (mkF m 5 #[.val (.ref a_), .val .null, .val .null, .val (.int vn_), .val (.ref ps_), .val (.ref ow_)] [(.ref a_)])) _
    refine XS.aloadN X89.here hx rfl (hb hby d1_5) rfl rfl ?_
    show Steps p.tables e below (T89.setTop (mkF m 6 #[.val (.ref a_), .val .null, .val .null, .val (.int vn_), .val (.ref ps_), .val (.ref ow_)] [.null, (.ref a_)])) _
    refine st90 _ ?_
    show Steps p.tables e below (T90.setTop (mkF m 9 #[.val (.ref a_), .val .null, .val .null, .val (.int vn_), .val (.ref ps_), .val (.ref ow_)] [])) _
    refine XS.aloadN X90.here hx rfl (hb hby d1_9) rfl rfl ?_
    show Steps p.tables e below (T90.setTop (mkF m 10 #[.val (.ref a_), .val .null, .val .null, .val (.int vn_), .val (.ref ps_), .val (.ref ow_)] [(.ref a_)])) _
    refine XS.aloadN X90.here hx rfl (hb hby d1_10) rfl rfl ?_
    show Steps p.tables e below (T90.setTop (mkF m 11 #[.val (.ref a_), .val .null, .val .null, .val (.int vn_), .val (.ref ps_), .val (.ref ow_)] [.null, (.ref a_)])) _
    refine st98 _ ?_
    show Steps p.tables e below (T98.setTop (mkF m 14 #[.val (.ref a_), .val .null, .val .null, .val (.int vn_), .val (.ref ps_), .val (.ref ow_)] [])) _
    refine XS.aloadN X98.here hx rfl (hb hby d1_14) rfl rfl ?_
    show Steps p.tables e below (T98.setTop (mkF m 15 #[.val (.ref a_), .val .null, .val .null, .val (.int vn_), .val (.ref ps_), .val (.ref ow_)] [(.ref a_)])) _
    refine XS.iloadN X98.here hx rfl (hb hby d1_15) rfl ?_
    show Steps p.tables e below (T98.setTop (mkF m 16 #[.val (.ref a_), .val .null, .val .null, .val (.int vn_), .val (.ref ps_), .val (.ref ow_)] [(.int vn_), (.ref a_)])) _
    refine st106 _ ?_
    show Steps p.tables e below (T106.setTop (mkF m 19 #[.val (.ref a_), .val .null, .val .null, .val (.int vn_), .val (.ref ps_), .val (.ref ow_)] [])) _
    refine XS.aloadN X106.here hx rfl (hb hby d1_19) rfl rfl ?_
    show Steps p.tables e below (T106.setTop (mkF m 20 #[.val (.ref a_), .val .null, .val .null, .val (.int vn_), .val (.ref ps_), .val (.ref ow_)] [(.ref a_)])) _
    refine XS.aload X106.here hx rfl (hb hby d1_20) rfl rfl ?_
    show Steps p.tables e below (T106.setTop (mkF m 22 #[.val (.ref a_), .val .null, .val .null, .val (.int vn_), .val (.ref ps_), .val (.ref ow_)] [(.ref ps_), (.ref a_)])) _
    refine st114 _ ?_
    show Steps p.tables e below (T114.setTop (mkF m 25 #[.val (.ref a_), .val .null, .val .null, .val (.int vn_), .val (.ref ps_), .val (.ref ow_)] [])) _
    refine XS.aloadN X114.here hx rfl (hb hby d1_25) rfl rfl ?_
    show Steps p.tables e below (T114.setTop (mkF m 26 #[.val (.ref a_), .val .null, .val .null, .val (.int vn_), .val (.ref ps_), .val (.ref ow_)] [(.ref a_)])) _
    refine XS.aload X114.here hx rfl (hb hby d1_26) rfl rfl ?_
    show Steps p.tables e below (T114.setTop (mkF m 28 #[.val (.ref a_), .val .null, .val .null, .val (.int vn_), .val (.ref ps_), .val (.ref ow_)] [(.ref ow_), (.ref a_)])) _
    refine st122 _ ?_
    show Steps p.tables e below (T122.setTop (mkF m 31 #[.val (.ref a_), .val .null, .val .null, .val (.int vn_), .val (.ref ps_), .val (.ref ow_)] [])) _
    refine XS.aloadN X122.here hx rfl (hb hby d1_31) rfl rfl ?_
    show Steps p.tables e below (T122.setTop (mkF m 32 #[.val (.ref a_), .val .null, .val .null, .val (.int vn_), .val (.ref ps_), .val (.ref ow_)] [(.ref a_)])) _
    refine st130 _ ?_
    show Steps p.tables e below (T130.setTop (mkF m 35 #[.val (.ref a_), .val .null, .val .null, .val (.int vn_), .val (.ref ps_), .val (.ref ow_)] [(.ref b130), (.ref a_)])) _
    refine XS.dup X130.here hx rfl (hb hby d1_35) rfl rfl ?_
    show Steps p.tables e below (T130.setTop (mkF m 36 #[.val (.ref a_), .val .null, .val .null, .val (.int vn_), .val (.ref ps_), .val (.ref ow_)] [(.ref b130), (.ref b130), (.ref a_)])) _
    refine XS.aload X130.here hx rfl (hb hby d1_36) rfl rfl ?_
    show Steps p.tables e below (T130.setTop (mkF m 38 #[.val (.ref a_), .val .null, .val .null, .val (.int vn_), .val (.ref ps_), .val (.ref ow_)] [(.ref ps_), (.ref b130), (.ref b130), (.ref a_)])) _
    refine st139.trans ?_
    show Steps p.tables e below (T139.setTop (mkF m 41 #[.val (.ref a_), .val .null, .val .null, .val (.int vn_), .val (.ref ps_), .val (.ref ow_)] [(.ref b130), (.ref a_)])) _
    refine st149 _ ?_
    exact kk
  obtain ⟨fs, hr, hrun, hended, hW, hsame⟩ := X149.leave (v := none) (fun _ => rfl)
  refine ⟨_, _, pre158 _ ?_, hrun, hended, _, _, rfl, ?_, ⟨_, rfl⟩, hW, hsame.mono (by decide) (by decide)⟩
  · show Steps p.tables e below (T149.setTop (mkF m 44 #[.val (.ref a_), .val .null, .val .null, .val (.int vn_), .val (.ref ps_), .val (.ref ow_)] [])) _
    exact X149.returnOut hx Bd.returns (hb hby d1_44) hr
  · show Q1 Z a_ vn_ ps_ ow_ kp_ n_ vs_ dv_ h0 n0 _ T149.heap _
    rw [e149]
    exact ⟨rfl, N149, KP149, E_a__150, F_a__placement_152, F_a__members_153, F_a__vnodes_154, F_a__positions_155, F_a__owners_156⟩
def F8 (p0 : Int32) (p1 : Int32) (p2 : Int32) (p3 : Int32) (p4 : Int32) : Int32 := (if p0 = (0 : Int32) then p1 else (if p0 = (1 : Int32) then p2 else (if p0 = (2 : Int32) then p3 else p4)))
theorem d8_0 : decode method_3_code 0 = .ok (.iload_n 0, 1) := by decide +kernel
theorem d8_1 : decode method_3_code 1 = .ok (.ifCond .ne 5, 3) := by decide +kernel
theorem d8_4 : decode method_3_code 4 = .ok (.iload_n 1, 1) := by decide +kernel
theorem d8_5 : decode method_3_code 5 = .ok (.ireturn, 1) := by decide +kernel
theorem d8_6 : decode method_3_code 6 = .ok (.iload_n 0, 1) := by decide +kernel
theorem d8_7 : decode method_3_code 7 = .ok (.iconst 1, 1) := by decide +kernel
theorem d8_8 : decode method_3_code 8 = .ok (.if_icmp .ne 5, 3) := by decide +kernel
theorem d8_11 : decode method_3_code 11 = .ok (.iload_n 2, 1) := by decide +kernel
theorem d8_12 : decode method_3_code 12 = .ok (.ireturn, 1) := by decide +kernel
theorem d8_13 : decode method_3_code 13 = .ok (.iload_n 0, 1) := by decide +kernel
theorem d8_14 : decode method_3_code 14 = .ok (.iconst 2, 1) := by decide +kernel
theorem d8_15 : decode method_3_code 15 = .ok (.if_icmp .ne 5, 3) := by decide +kernel
theorem d8_18 : decode method_3_code 18 = .ok (.iload_n 3, 1) := by decide +kernel
theorem d8_19 : decode method_3_code 19 = .ok (.ireturn, 1) := by decide +kernel
theorem d8_20 : decode method_3_code 20 = .ok (.iload 4, 2) := by decide +kernel
theorem d8_22 : decode method_3_code 22 = .ok (.ireturn, 1) := by decide +kernel
theorem pn_com_example_clockwise_clockwise_RingIsFreePinLaw : plainName "com/example/clockwise/clockwise/RingIsFreePinLaw" = true := by first | (simp [plainName, overriddenIn]; done) | decide +kernel
theorem ef_8_IIIII (m : MethodId) (x0 : Int32) (x1 : Int32) (x2 : Int32) (x3 : Int32) (x4 : Int32) : entryFrame m #[(.int x0), (.int x1), (.int x2), (.int x3), (.int x4)] 5 = mkF m 0 #[.val (.int x0), .val (.int x1), .val (.int x2), .val (.int x3), .val (.int x4)] [] := by first | (simp [entryFrame, mkF, argsToLocals, Value.category]; done) | rfl
def Q8 (Z : State) (p0 : Int32) (p1 : Int32) (p2 : Int32) (p3 : Int32) (p4 : Int32) (h0 : Heap) (n0 : Nat) (v : Option Value) (h : Heap) (L : List Loc) : Prop := v = some (.int (F8 p0 p1 p2 p3 p4)) ∧ Fr n0 L ∧ h = h0
set_option maxRecDepth 65536 in
set_option maxHeartbeats 40000000 in
theorem rm8 (l : Launch) (Z : State) (aA : Array Value) (hw : ∀ d ∈ tables_1, d.before aA Z = true) (ws : List Jvm.Cond) (p0 : Int32) (p1 : Int32) (p2 : Int32) (p3 : Int32) (p4 : Int32) (h0 : Heap) (n0 : Nat) (Z0 : n0 ≤ h0.size) :
    MetFree l (⟨"com/example/clockwise/clockwise/RingIsFreePinLaw", "pick", "(IIIII)I"⟩ : MethodName) (head1 (Jvm.Cond.code (⟨"com/example/clockwise/clockwise/RingIsFreePinLaw", "pick", "(IIIII)I"⟩ : MethodName) method_3_code 5 (some .int) :: ws) ({ frames := 0, cells := 0, slots := 0, locals := 0 } : Room)) (fun a U => a = #[(.int p0), (.int p1), (.int p2), (.int p3), (.int p4)] ∧ Z.Warmed39 U.vm ∧ U.heap = h0) (fun _ _ _ _ _ => True) (fun _ U o U' => ∃ v L, o = .returned v ∧ Q8 Z p0 p1 p2 p3 p4 h0 n0 v U'.heap L ∧ FrameEnd U o U' L ({ frames := 0, cells := 0, slots := 0, locals := 0 } : Room).cells ({ frames := 0, cells := 0, slots := 0, locals := 0 } : Room).slots) := by
  refine MetFree.of_bodySF (plainFor_of_name pn_com_example_clockwise_clockwise_RingIsFreePinLaw) hisR ?_
  intro p e s m args below meth c s₁ Bd hml0 hP hK
  obtain ⟨rfl, hZ, hh⟩ := hP
  have hx := Bd.exec
  have hby := Bd.bytes
  have hml : c.maxLocals = 5 := hml0
  have hown : s.vm.findClass "com/example/clockwise/clockwise/RingIsFreePinLaw" = some m.cls := findClass_of_methodNamed Bd.named
  have hnm := (name_of_methodNamed Bd.named Bd.method).1
  have X0 : Stand p l e ({ frames := 0, cells := 0, slots := 0, locals := 0 } : Room) s m #[(.int p0), (.int p1), (.int p2), (.int p3), (.int p4)] below meth c s₁ [] 0 0 := Stand.of_body Bd
  have e0 : s₁.heap = h0 := by rw [← hh, Bd.state]; rfl
  have N0 := Fr.nil n0
  have KP0 : Keep h0 h0 [] := Keep.refl h0 _
  have pre0 : ∀ t, Steps p.tables e below (s₁.setTop (mkF m 0 #[.val (.int p0), .val (.int p1), .val (.int p2), .val (.int p3), .val (.int p4)] [])) t → Steps p.tables e below (s₁.setTop (entryFrame m #[(.int p0), (.int p1), (.int p2), (.int p3), (.int p4)] 5)) t := fun t k => castTop (ef_8_IIIII m p0 p1 p2 p3 p4) k
  have pre160 : ∀ t, Steps p.tables e below (s₁.setTop (mkF m 1 #[.val (.int p0), .val (.int p1), .val (.int p2), .val (.int p3), .val (.int p4)] [(.int p0)])) t → Steps p.tables e below (s₁.setTop (entryFrame m #[(.int p0), (.int p1), (.int p2), (.int p3), (.int p4)] 5)) t := by
    intro t kk
    refine pre0 t ?_
    show Steps p.tables e below (s₁.setTop (mkF m 0 #[.val (.int p0), .val (.int p1), .val (.int p2), .val (.int p3), .val (.int p4)] [])) _
    refine XS.iloadN X0.here hx rfl (hb hby d8_0) rfl ?_
    exact kk
  by_cases hc1_159 : p0 = (0 : Int32)
  · have hF161 : (F8 p0 p1 p2 p3 p4) = p1 := (if_pos hc1_159)
    have pre162 : ∀ t, Steps p.tables e below (s₁.setTop (mkF m 5 #[.val (.int p0), .val (.int p1), .val (.int p2), .val (.int p3), .val (.int p4)] [(.int p1)])) t → Steps p.tables e below (s₁.setTop (entryFrame m #[(.int p0), (.int p1), (.int p2), (.int p3), (.int p4)] 5)) t := by
      intro t kk
      refine pre160 t ?_
      show Steps p.tables e below (s₁.setTop (mkF m 1 #[.val (.int p0), .val (.int p1), .val (.int p2), .val (.int p3), .val (.int p4)] [(.int p0)])) _
      refine XS.ifNo X0.here hx rfl (hb hby d8_1) rfl ((if0 _ _).trans (teq hc1_159).2) ?_
      show Steps p.tables e below (s₁.setTop (mkF m 4 #[.val (.int p0), .val (.int p1), .val (.int p2), .val (.int p3), .val (.int p4)] [])) _
      refine XS.iloadN X0.here hx rfl (hb hby d8_4) rfl ?_
      exact kk
    obtain ⟨fs, hr, hrun, hended, hW, hsame⟩ := X0.leave (v := some (.int p1)) (fun h => by rw [Bd.returns] at h; cases h)
    refine ⟨_, _, pre162 _ ?_, hrun, hended, _, _, rfl, ?_, ⟨_, rfl⟩, hW, hsame.mono (by decide) (by decide)⟩
    · show Steps p.tables e below (s₁.setTop (mkF m 5 #[.val (.int p0), .val (.int p1), .val (.int p2), .val (.int p3), .val (.int p4)] [(.int p1)])) _
      exact retOut X0 hx Bd.returns rfl (Or.inl ⟨rfl, Or.inl rfl, _, rfl⟩) (hb hby d8_5) hr
    · show Q8 Z p0 p1 p2 p3 p4 h0 n0 _ s₁.heap _
      rw [e0]
      exact ⟨congrArg (fun z => some (Value.int z)) hF161.symm, N0, rfl⟩
  · have pre164 : ∀ t, Steps p.tables e below (s₁.setTop (mkF m 8 #[.val (.int p0), .val (.int p1), .val (.int p2), .val (.int p3), .val (.int p4)] [(.int (1 : Int32)), (.int p0)])) t → Steps p.tables e below (s₁.setTop (entryFrame m #[(.int p0), (.int p1), (.int p2), (.int p3), (.int p4)] 5)) t := by
      intro t kk
      refine pre160 t ?_
      show Steps p.tables e below (s₁.setTop (mkF m 1 #[.val (.int p0), .val (.int p1), .val (.int p2), .val (.int p3), .val (.int p4)] [(.int p0)])) _
      refine XS.ifYes X0.here hx rfl (pc0 := 1) (pc' := 6) rfl (hb hby d8_1) rfl ((if0 _ _).trans (feq hc1_159).2) (by decide) (by decide) ?_
      show Steps p.tables e below (s₁.setTop (mkF m 6 #[.val (.int p0), .val (.int p1), .val (.int p2), .val (.int p3), .val (.int p4)] [])) _
      refine XS.iloadN X0.here hx rfl (hb hby d8_6) rfl ?_
      show Steps p.tables e below (s₁.setTop (mkF m 7 #[.val (.int p0), .val (.int p1), .val (.int p2), .val (.int p3), .val (.int p4)] [(.int p0)])) _
      refine XS.iconst X0.here hx rfl (hb hby d8_7) ?_
      exact kk
    by_cases hc8_163 : p0 = (1 : Int32)
    · have hF165 : (F8 p0 p1 p2 p3 p4) = p2 := ((if_neg hc1_159).trans (if_pos hc8_163))
      have pre166 : ∀ t, Steps p.tables e below (s₁.setTop (mkF m 12 #[.val (.int p0), .val (.int p1), .val (.int p2), .val (.int p3), .val (.int p4)] [(.int p2)])) t → Steps p.tables e below (s₁.setTop (entryFrame m #[(.int p0), (.int p1), (.int p2), (.int p3), (.int p4)] 5)) t := by
        intro t kk
        refine pre164 t ?_
        show Steps p.tables e below (s₁.setTop (mkF m 8 #[.val (.int p0), .val (.int p1), .val (.int p2), .val (.int p3), .val (.int p4)] [(.int (1 : Int32)), (.int p0)])) _
        refine XS.icmpNo X0.here hx rfl (hb hby d8_8) rfl (teq hc8_163).2 ?_
        show Steps p.tables e below (s₁.setTop (mkF m 11 #[.val (.int p0), .val (.int p1), .val (.int p2), .val (.int p3), .val (.int p4)] [])) _
        refine XS.iloadN X0.here hx rfl (hb hby d8_11) rfl ?_
        exact kk
      obtain ⟨fs, hr, hrun, hended, hW, hsame⟩ := X0.leave (v := some (.int p2)) (fun h => by rw [Bd.returns] at h; cases h)
      refine ⟨_, _, pre166 _ ?_, hrun, hended, _, _, rfl, ?_, ⟨_, rfl⟩, hW, hsame.mono (by decide) (by decide)⟩
      · show Steps p.tables e below (s₁.setTop (mkF m 12 #[.val (.int p0), .val (.int p1), .val (.int p2), .val (.int p3), .val (.int p4)] [(.int p2)])) _
        exact retOut X0 hx Bd.returns rfl (Or.inl ⟨rfl, Or.inl rfl, _, rfl⟩) (hb hby d8_12) hr
      · show Q8 Z p0 p1 p2 p3 p4 h0 n0 _ s₁.heap _
        rw [e0]
        exact ⟨congrArg (fun z => some (Value.int z)) hF165.symm, N0, rfl⟩
    · have pre168 : ∀ t, Steps p.tables e below (s₁.setTop (mkF m 15 #[.val (.int p0), .val (.int p1), .val (.int p2), .val (.int p3), .val (.int p4)] [(.int (2 : Int32)), (.int p0)])) t → Steps p.tables e below (s₁.setTop (entryFrame m #[(.int p0), (.int p1), (.int p2), (.int p3), (.int p4)] 5)) t := by
        intro t kk
        refine pre164 t ?_
        show Steps p.tables e below (s₁.setTop (mkF m 8 #[.val (.int p0), .val (.int p1), .val (.int p2), .val (.int p3), .val (.int p4)] [(.int (1 : Int32)), (.int p0)])) _
        refine XS.icmpYes X0.here hx rfl (pc0 := 8) (pc' := 13) rfl (hb hby d8_8) rfl (feq hc8_163).2 (by decide) (by decide) ?_
        show Steps p.tables e below (s₁.setTop (mkF m 13 #[.val (.int p0), .val (.int p1), .val (.int p2), .val (.int p3), .val (.int p4)] [])) _
        refine XS.iloadN X0.here hx rfl (hb hby d8_13) rfl ?_
        show Steps p.tables e below (s₁.setTop (mkF m 14 #[.val (.int p0), .val (.int p1), .val (.int p2), .val (.int p3), .val (.int p4)] [(.int p0)])) _
        refine XS.iconst X0.here hx rfl (hb hby d8_14) ?_
        exact kk
      by_cases hc15_167 : p0 = (2 : Int32)
      · have hF169 : (F8 p0 p1 p2 p3 p4) = p3 := ((if_neg hc1_159).trans ((if_neg hc8_163).trans (if_pos hc15_167)))
        have pre170 : ∀ t, Steps p.tables e below (s₁.setTop (mkF m 19 #[.val (.int p0), .val (.int p1), .val (.int p2), .val (.int p3), .val (.int p4)] [(.int p3)])) t → Steps p.tables e below (s₁.setTop (entryFrame m #[(.int p0), (.int p1), (.int p2), (.int p3), (.int p4)] 5)) t := by
          intro t kk
          refine pre168 t ?_
          show Steps p.tables e below (s₁.setTop (mkF m 15 #[.val (.int p0), .val (.int p1), .val (.int p2), .val (.int p3), .val (.int p4)] [(.int (2 : Int32)), (.int p0)])) _
          refine XS.icmpNo X0.here hx rfl (hb hby d8_15) rfl (teq hc15_167).2 ?_
          show Steps p.tables e below (s₁.setTop (mkF m 18 #[.val (.int p0), .val (.int p1), .val (.int p2), .val (.int p3), .val (.int p4)] [])) _
          refine XS.iloadN X0.here hx rfl (hb hby d8_18) rfl ?_
          exact kk
        obtain ⟨fs, hr, hrun, hended, hW, hsame⟩ := X0.leave (v := some (.int p3)) (fun h => by rw [Bd.returns] at h; cases h)
        refine ⟨_, _, pre170 _ ?_, hrun, hended, _, _, rfl, ?_, ⟨_, rfl⟩, hW, hsame.mono (by decide) (by decide)⟩
        · show Steps p.tables e below (s₁.setTop (mkF m 19 #[.val (.int p0), .val (.int p1), .val (.int p2), .val (.int p3), .val (.int p4)] [(.int p3)])) _
          exact retOut X0 hx Bd.returns rfl (Or.inl ⟨rfl, Or.inl rfl, _, rfl⟩) (hb hby d8_19) hr
        · show Q8 Z p0 p1 p2 p3 p4 h0 n0 _ s₁.heap _
          rw [e0]
          exact ⟨congrArg (fun z => some (Value.int z)) hF169.symm, N0, rfl⟩
      · have hF171 : (F8 p0 p1 p2 p3 p4) = p4 := ((if_neg hc1_159).trans ((if_neg hc8_163).trans (if_neg hc15_167)))
        have pre172 : ∀ t, Steps p.tables e below (s₁.setTop (mkF m 22 #[.val (.int p0), .val (.int p1), .val (.int p2), .val (.int p3), .val (.int p4)] [(.int p4)])) t → Steps p.tables e below (s₁.setTop (entryFrame m #[(.int p0), (.int p1), (.int p2), (.int p3), (.int p4)] 5)) t := by
          intro t kk
          refine pre168 t ?_
          show Steps p.tables e below (s₁.setTop (mkF m 15 #[.val (.int p0), .val (.int p1), .val (.int p2), .val (.int p3), .val (.int p4)] [(.int (2 : Int32)), (.int p0)])) _
          refine XS.icmpYes X0.here hx rfl (pc0 := 15) (pc' := 20) rfl (hb hby d8_15) rfl (feq hc15_167).2 (by decide) (by decide) ?_
          show Steps p.tables e below (s₁.setTop (mkF m 20 #[.val (.int p0), .val (.int p1), .val (.int p2), .val (.int p3), .val (.int p4)] [])) _
          refine XS.iload X0.here hx rfl (hb hby d8_20) rfl ?_
          exact kk
        obtain ⟨fs, hr, hrun, hended, hW, hsame⟩ := X0.leave (v := some (.int p4)) (fun h => by rw [Bd.returns] at h; cases h)
        refine ⟨_, _, pre172 _ ?_, hrun, hended, _, _, rfl, ?_, ⟨_, rfl⟩, hW, hsame.mono (by decide) (by decide)⟩
        · show Steps p.tables e below (s₁.setTop (mkF m 22 #[.val (.int p0), .val (.int p1), .val (.int p2), .val (.int p3), .val (.int p4)] [(.int p4)])) _
          exact retOut X0 hx Bd.returns rfl (Or.inl ⟨rfl, Or.inl rfl, _, rfl⟩) (hb hby d8_22) hr
        · show Q8 Z p0 p1 p2 p3 p4 h0 n0 _ s₁.heap _
          rw [e0]
          exact ⟨congrArg (fun z => some (Value.int z)) hF171.symm, N0, rfl⟩
theorem own_getmap (xs : List Int32) (j : Nat) : (xs.map Value.int).getD j (.int (0 : Int32)) = .int (xs.getD j 0) := by
  induction xs generalizing j with
  | nil => rfl
  | cons a t ih =>
    cases j with
    | zero => rfl
    | succ j => exact ih j
theorem own_mod {x n : Int32} (h0 : ¬ x < (0 : Int32)) (h1 : x < n) : ¬ ((x + (1 : Int32)) % n) < (0 : Int32) ∧ ((x + (1 : Int32)) % n) < n := by
  have a := own_inc h0 h1
  rw [Int32.lt_iff_toInt_lt, show (0 : Int32).toInt = 0 by decide] at h0
  rw [Int32.lt_iff_toInt_lt] at h1
  have q := (c_iremV (x + (1 : Int32)) n).1 (by omega) (by omega)
  rw [Int32.lt_iff_toInt_lt, Int32.lt_iff_toInt_lt, show (0 : Int32).toInt = 0 by decide]
  omega
theorem own_nz {x n : Int32} (h0 : ¬ x < (0 : Int32)) (h1 : x < n) : n ≠ 0 := by
  intro q
  subst q
  exact h0 h1
theorem own_n0 (x : Int32) : (1 : Int32).toInt ≤ ((x &&& (3 : Int32)) + (1 : Int32)).toInt ∧ ((x &&& (3 : Int32)) + (1 : Int32)).toInt ≤ 4 := by
  have a := c_and x (3 : Int32) (by decide)
  have b := c_iadd (x &&& (3 : Int32)) (1 : Int32)
  rw [show (1 : Int32).toInt = 1 by decide] at b ⊢
  rw [show (3 : Int32).toInt = 3 by decide] at a
  have r := rng32 ((x &&& (3 : Int32)) + (1 : Int32))
  omega
theorem own_nnz (x : Int32) : ((x &&& (3 : Int32)) + (1 : Int32)) ≠ 0 := by
  intro q
  have a := (own_n0 x).1
  rw [q] at a
  revert a
  decide
theorem own_slot (x y n : Int32) (hn : n = ((x &&& (3 : Int32)) + (1 : Int32))) : ¬ ((y &&& (2147483647 : Int32)) % n) < (0 : Int32) ∧ ((y &&& (2147483647 : Int32)) % n) < n := by
  have a := own_n0 x
  rw [← hn, show (1 : Int32).toInt = 1 by decide] at a
  have b := c_and y (2147483647 : Int32) (by decide)
  have q := (c_iremV (y &&& (2147483647 : Int32)) n).1 b.1 (by omega)
  rw [Int32.lt_iff_toInt_lt, Int32.lt_iff_toInt_lt, show (0 : Int32).toInt = 0 by decide]
  omega
theorem own_four (x n : Int32) (hn : n = ((x &&& (3 : Int32)) + (1 : Int32))) (h1 : ¬ n = (1 : Int32)) (h2 : ¬ n = (2 : Int32)) (h3 : ¬ n = (3 : Int32)) : n = (4 : Int32) := by
  have a := own_n0 x
  rw [← hn] at a
  rw [← Int32.toInt_inj, show (1 : Int32).toInt = 1 by decide] at *
  rw [show (2 : Int32).toInt = 2 by decide] at h2
  rw [show (3 : Int32).toInt = 3 by decide] at h3
  rw [show (4 : Int32).toInt = 4 by decide]
  omega
def F9 (a0 : Addr) (p1 : Int32) (ow_ : Addr) (ko_ : ClassId) (n_ : Int32) (xs_ : List Int32) : Int32 := (if (xs_.getD (((p1 + (1 : Int32)) % n_)).toNatClampNeg 0) = (xs_.getD (p1).toNatClampNeg 0) then (1 : Int32) else (0 : Int32))
theorem d9_0 : decode prog_20_method_37_code 0 = .ok (.aload_n 0, 1) := by decide +kernel
theorem d9_1 : decode prog_20_method_37_code 1 = .ok (.getfield 25, 3) := by decide +kernel
theorem d9_4 : decode prog_20_method_37_code 4 = .ok (.iload_n 1, 1) := by decide +kernel
theorem d9_5 : decode prog_20_method_37_code 5 = .ok (.iconst 1, 1) := by decide +kernel
theorem d9_6 : decode prog_20_method_37_code 6 = .ok (.iadd, 1) := by decide +kernel
theorem d9_7 : decode prog_20_method_37_code 7 = .ok (.aload_n 0, 1) := by decide +kernel
theorem d9_8 : decode prog_20_method_37_code 8 = .ok (.getfield 25, 3) := by decide +kernel
theorem d9_11 : decode prog_20_method_37_code 11 = .ok (.arraylength, 1) := by decide +kernel
theorem d9_12 : decode prog_20_method_37_code 12 = .ok (.irem, 1) := by decide +kernel
theorem d9_13 : decode prog_20_method_37_code 13 = .ok (.iaload, 1) := by decide +kernel
theorem d9_14 : decode prog_20_method_37_code 14 = .ok (.aload_n 0, 1) := by decide +kernel
theorem d9_15 : decode prog_20_method_37_code 15 = .ok (.getfield 25, 3) := by decide +kernel
theorem d9_18 : decode prog_20_method_37_code 18 = .ok (.iload_n 1, 1) := by decide +kernel
theorem d9_19 : decode prog_20_method_37_code 19 = .ok (.iaload, 1) := by decide +kernel
theorem d9_20 : decode prog_20_method_37_code 20 = .ok (.if_icmp .ne 7, 3) := by decide +kernel
theorem d9_23 : decode prog_20_method_37_code 23 = .ok (.iconst 1, 1) := by decide +kernel
theorem d9_24 : decode prog_20_method_37_code 24 = .ok (.goto 4, 3) := by decide +kernel
theorem d9_27 : decode prog_20_method_37_code 27 = .ok (.iconst 0, 1) := by decide +kernel
theorem d9_28 : decode prog_20_method_37_code 28 = .ok (.ireturn, 1) := by decide +kernel
theorem ef_9_RI (m : MethodId) (x0 : Addr) (x1 : Int32) : entryFrame m #[(.ref x0), (.int x1)] 2 = mkF m 0 #[.val (.ref x0), .val (.int x1)] [] := by first | (simp [entryFrame, mkF, argsToLocals, Value.category]; done) | rfl
def Q9 (Z : State) (a0 : Addr) (p1 : Int32) (ow_ : Addr) (ko_ : ClassId) (n_ : Int32) (xs_ : List Int32) (h0 : Heap) (n0 : Nat) (v : Option Value) (h : Heap) (L : List Loc) : Prop := v = some (.int (F9 a0 p1 ow_ ko_ n_ xs_)) ∧ Fr n0 L ∧ h = h0
set_option maxRecDepth 65536 in
set_option maxHeartbeats 40000000 in
theorem rm9 (l : Launch) (Z : State) (aA : Array Value) (hw : ∀ d ∈ tables_1, d.before aA Z = true) (ws : List Jvm.Cond) (a0 : Addr) (p1 : Int32) (ow_ : Addr) (ko_ : ClassId) (n_ : Int32) (xs_ : List Int32) (h0 : Heap) (n0 : Nat) (Z0 : n0 ≤ h0.size) (F_ow : Fld Z h0 a0 "com/example/clockwise/clockwise/Ring" "owners" "[I" (.ref ow_)) (V_ow : Arv Z h0 ow_ ko_ .int n_ (xs_.map Value.int) (.int (0 : Int32))) (hs0 : ¬ p1 < (0 : Int32)) (hs1 : p1 < n_) :
    MetFree l (⟨"com/example/clockwise/clockwise/Ring", "isFree", "(I)Z"⟩ : MethodName) (head1 (Jvm.Cond.code (⟨"com/example/clockwise/clockwise/Ring", "isFree", "(I)Z"⟩ : MethodName) prog_20_method_37_code 2 (some .boolean) :: ws) ({ frames := 0, cells := 0, slots := 0, locals := 0 } : Room)) (fun a U => a = #[(.ref a0), (.int p1)] ∧ Z.Warmed39 U.vm ∧ U.heap = h0) (fun _ _ _ _ _ => True) (fun _ U o U' => ∃ v L, o = .returned v ∧ Q9 Z a0 p1 ow_ ko_ n_ xs_ h0 n0 v U'.heap L ∧ FrameEnd U o U' L ({ frames := 0, cells := 0, slots := 0, locals := 0 } : Room).cells ({ frames := 0, cells := 0, slots := 0, locals := 0 } : Room).slots) := by
  refine MetFree.of_bodySF (plainFor_of_name pn_com_example_clockwise_clockwise_Ring) hisR ?_
  intro p e s m args below meth c s₁ Bd hml0 hP hK
  obtain ⟨rfl, hZ, hh⟩ := hP
  have hx := Bd.exec
  have hby := Bd.bytes
  have hml : c.maxLocals = 2 := hml0
  have hown : s.vm.findClass "com/example/clockwise/clockwise/Ring" = some m.cls := findClass_of_methodNamed Bd.named
  have hnm := (name_of_methodNamed Bd.named Bd.method).1
  have X0 : Stand p l e ({ frames := 0, cells := 0, slots := 0, locals := 0 } : Room) s m #[(.ref a0), (.int p1)] below meth c s₁ [] 0 0 := Stand.of_body Bd
  have e0 : s₁.heap = h0 := by rw [← hh, Bd.state]; rfl
  have N0 := Fr.nil n0
  have KP0 : Keep h0 h0 [] := Keep.refl h0 _
  have pre0 : ∀ t, Steps p.tables e below (s₁.setTop (mkF m 0 #[.val (.ref a0), .val (.int p1)] [])) t → Steps p.tables e below (s₁.setTop (entryFrame m #[(.ref a0), (.int p1)] 2)) t := fun t k => castTop (ef_9_RI m a0 p1) k
  obtain ⟨T173, X173, e173, st173⟩ := getF X0 hx hZ hown (host := "") (Or.inl (hw _ (List.mem_of_getElem? (i := 21) rfl))) Via.refl e0 F_ow (g := (mkF m 1 #[.val (.ref a0), .val (.int p1)] [(.ref a0)])) rfl rfl (hb hby d9_1)
  obtain ⟨T174, X174, e174, st174⟩ := getF X173 hx hZ hown (host := "") (Or.inl (hw _ (List.mem_of_getElem? (i := 21) rfl))) Via.refl e173 F_ow (g := (mkF m 8 #[.val (.ref a0), .val (.int p1)] [(.ref a0), (.int (p1 + (1 : Int32))), (.ref ow_)])) rfl rfl (hb hby d9_8)
  obtain ⟨cl175, Ar175, -, S175, N175v, -, -⟩ := id V_ow
  obtain ⟨cl176, Ar176, q176, S176, N176v, H176, G176⟩ := id V_ow
  have hin176 : ¬ (((p1 + (1 : Int32)) % n_) < 0 ∨ cl176.slots.size ≤ (((p1 + (1 : Int32)) % n_)).toNatClampNeg) := inb_of S176 (own_mod hs0 hs1)
  have hat176 : cl176.slots[(((p1 + (1 : Int32)) % n_)).toNatClampNeg]? = some (.int (xs_.getD (((p1 + (1 : Int32)) % n_)).toNatClampNeg 0)) := Has.at H176 hin176 (own_getmap xs_ _)
  obtain ⟨T177, X177, e177, st177⟩ := getF X174 hx hZ hown (host := "") (Or.inl (hw _ (List.mem_of_getElem? (i := 21) rfl))) Via.refl e174 F_ow (g := (mkF m 15 #[.val (.ref a0), .val (.int p1)] [(.ref a0), (.int (xs_.getD (((p1 + (1 : Int32)) % n_)).toNatClampNeg 0))])) rfl rfl (hb hby d9_15)
  obtain ⟨cl178, Ar178, q178, S178, N178v, H178, G178⟩ := id V_ow
  have hin178 : ¬ (p1 < 0 ∨ cl178.slots.size ≤ (p1).toNatClampNeg) := inb_of S178 ⟨hs0, hs1⟩
  have hat178 : cl178.slots[(p1).toNatClampNeg]? = some (.int (xs_.getD (p1).toNatClampNeg 0)) := Has.at H178 hin178 (own_getmap xs_ _)
  have pre180 : ∀ t, Steps p.tables e below (T177.setTop (mkF m 20 #[.val (.ref a0), .val (.int p1)] [(.int (xs_.getD (p1).toNatClampNeg 0)), (.int (xs_.getD (((p1 + (1 : Int32)) % n_)).toNatClampNeg 0))])) t → Steps p.tables e below (s₁.setTop (entryFrame m #[(.ref a0), (.int p1)] 2)) t := by
    intro t kk
    refine pre0 t ?_
    show Steps p.tables e below (s₁.setTop (mkF m 0 #[.val (.ref a0), .val (.int p1)] [])) _
    refine XS.aloadN X0.here hx rfl (hb hby d9_0) rfl rfl ?_
    show Steps p.tables e below (s₁.setTop (mkF m 1 #[.val (.ref a0), .val (.int p1)] [(.ref a0)])) _
    refine st173 _ ?_
    show Steps p.tables e below (T173.setTop (mkF m 4 #[.val (.ref a0), .val (.int p1)] [(.ref ow_)])) _
    refine XS.iloadN X173.here hx rfl (hb hby d9_4) rfl ?_
    show Steps p.tables e below (T173.setTop (mkF m 5 #[.val (.ref a0), .val (.int p1)] [(.int p1), (.ref ow_)])) _
    refine XS.iconst X173.here hx rfl (hb hby d9_5) ?_
    show Steps p.tables e below (T173.setTop (mkF m 6 #[.val (.ref a0), .val (.int p1)] [(.int (1 : Int32)), (.int p1), (.ref ow_)])) _
    refine XS.iadd X173.here hx rfl (hb hby d9_6) rfl ?_
    show Steps p.tables e below (T173.setTop (mkF m 7 #[.val (.ref a0), .val (.int p1)] [(.int (p1 + (1 : Int32))), (.ref ow_)])) _
    refine XS.aloadN X173.here hx rfl (hb hby d9_7) rfl rfl ?_
    show Steps p.tables e below (T173.setTop (mkF m 8 #[.val (.ref a0), .val (.int p1)] [(.ref a0), (.int (p1 + (1 : Int32))), (.ref ow_)])) _
    refine st174 _ ?_
    show Steps p.tables e below (T174.setTop (mkF m 11 #[.val (.ref a0), .val (.int p1)] [(.ref ow_), (.int (p1 + (1 : Int32))), (.ref ow_)])) _
    refine X174.arraylength hx (by rw [e174]; exact Ar175.1) (State.isArrayOf_alike hZ.alike Ar175.2.1) (g := (mkF m 11 #[.val (.ref a0), .val (.int p1)] [(.ref ow_), (.int (p1 + (1 : Int32))), (.ref ow_)])) rfl rfl (hb hby d9_11) _ ?_
    rw [len_of S175 N175v]
    show Steps p.tables e below (T174.setTop (mkF m 12 #[.val (.ref a0), .val (.int p1)] [(.int n_), (.int (p1 + (1 : Int32))), (.ref ow_)])) _
    refine Jvm.RoadKit.iremM X174 hx (g := (mkF m 12 #[.val (.ref a0), .val (.int p1)] [(.int n_), (.int (p1 + (1 : Int32))), (.ref ow_)])) rfl (hb hby d9_12) rfl (own_nz hs0 hs1) ?_
    show Steps p.tables e below (T174.setTop (mkF m 13 #[.val (.ref a0), .val (.int p1)] [(.int ((p1 + (1 : Int32)) % n_)), (.ref ow_)])) _
    refine X174.iaload hx (j := ((p1 + (1 : Int32)) % n_)) (v := (.int (xs_.getD (((p1 + (1 : Int32)) % n_)).toNatClampNeg 0))) (by rw [e174]; exact Ar176.1) (State.isArrayOf_alike hZ.alike Ar176.2.1) Ar176.2.2 hin176 hat176 (g := (mkF m 13 #[.val (.ref a0), .val (.int p1)] [(.int ((p1 + (1 : Int32)) % n_)), (.ref ow_)])) rfl rfl (hb hby d9_13) _ ?_
    show Steps p.tables e below (T174.setTop (mkF m 14 #[.val (.ref a0), .val (.int p1)] [(.int (xs_.getD (((p1 + (1 : Int32)) % n_)).toNatClampNeg 0))])) _
    refine XS.aloadN X174.here hx rfl (hb hby d9_14) rfl rfl ?_
    show Steps p.tables e below (T174.setTop (mkF m 15 #[.val (.ref a0), .val (.int p1)] [(.ref a0), (.int (xs_.getD (((p1 + (1 : Int32)) % n_)).toNatClampNeg 0))])) _
    refine st177 _ ?_
    show Steps p.tables e below (T177.setTop (mkF m 18 #[.val (.ref a0), .val (.int p1)] [(.ref ow_), (.int (xs_.getD (((p1 + (1 : Int32)) % n_)).toNatClampNeg 0))])) _
    refine XS.iloadN X177.here hx rfl (hb hby d9_18) rfl ?_
    show Steps p.tables e below (T177.setTop (mkF m 19 #[.val (.ref a0), .val (.int p1)] [(.int p1), (.ref ow_), (.int (xs_.getD (((p1 + (1 : Int32)) % n_)).toNatClampNeg 0))])) _
    refine X177.iaload hx (j := p1) (v := (.int (xs_.getD (p1).toNatClampNeg 0))) (by rw [e177]; exact Ar178.1) (State.isArrayOf_alike hZ.alike Ar178.2.1) Ar178.2.2 hin178 hat178 (g := (mkF m 19 #[.val (.ref a0), .val (.int p1)] [(.int p1), (.ref ow_), (.int (xs_.getD (((p1 + (1 : Int32)) % n_)).toNatClampNeg 0))])) rfl rfl (hb hby d9_19) _ ?_
    exact kk
  by_cases hc20_179 : (xs_.getD (((p1 + (1 : Int32)) % n_)).toNatClampNeg 0) = (xs_.getD (p1).toNatClampNeg 0)
  · have hF181 : (F9 a0 p1 ow_ ko_ n_ xs_) = (1 : Int32) := (if_pos hc20_179)
    have pre182 : ∀ t, Steps p.tables e below (T177.setTop (mkF m 28 #[.val (.ref a0), .val (.int p1)] [(.int (1 : Int32))])) t → Steps p.tables e below (s₁.setTop (entryFrame m #[(.ref a0), (.int p1)] 2)) t := by
      intro t kk
      refine pre180 t ?_
      show Steps p.tables e below (T177.setTop (mkF m 20 #[.val (.ref a0), .val (.int p1)] [(.int (xs_.getD (p1).toNatClampNeg 0)), (.int (xs_.getD (((p1 + (1 : Int32)) % n_)).toNatClampNeg 0))])) _
      refine XS.icmpNo X177.here hx rfl (hb hby d9_20) rfl (teq hc20_179).2 ?_
      show Steps p.tables e below (T177.setTop (mkF m 23 #[.val (.ref a0), .val (.int p1)] [])) _
      refine XS.iconst X177.here hx rfl (hb hby d9_23) ?_
      show Steps p.tables e below (T177.setTop (mkF m 24 #[.val (.ref a0), .val (.int p1)] [(.int (1 : Int32))])) _
      refine XS.goto X177.here hx rfl (pc0 := 24) (pc' := 28) rfl (hb hby d9_24) (by decide) (by decide) ?_
      exact kk
    obtain ⟨fs, hr, hrun, hended, hW, hsame⟩ := X177.leave (v := some (.int (1 : Int32))) (fun h => by rw [Bd.returns] at h; cases h)
    refine ⟨_, _, pre182 _ ?_, hrun, hended, _, _, rfl, ?_, ⟨_, rfl⟩, hW, hsame.mono (by decide) (by decide)⟩
    · show Steps p.tables e below (T177.setTop (mkF m 28 #[.val (.ref a0), .val (.int p1)] [(.int (1 : Int32))])) _
      exact retN X177 hx (t := .boolean) Bd.returns (by simp) (hb hby d9_28) hr
    · show Q9 Z a0 p1 ow_ ko_ n_ xs_ h0 n0 _ T177.heap _
      rw [e177]
      exact ⟨congrArg (fun z => some (Value.int z)) hF181.symm, N0, rfl⟩
  · have hF183 : (F9 a0 p1 ow_ ko_ n_ xs_) = (0 : Int32) := (if_neg hc20_179)
    have pre184 : ∀ t, Steps p.tables e below (T177.setTop (mkF m 28 #[.val (.ref a0), .val (.int p1)] [(.int (0 : Int32))])) t → Steps p.tables e below (s₁.setTop (entryFrame m #[(.ref a0), (.int p1)] 2)) t := by
      intro t kk
      refine pre180 t ?_
      show Steps p.tables e below (T177.setTop (mkF m 20 #[.val (.ref a0), .val (.int p1)] [(.int (xs_.getD (p1).toNatClampNeg 0)), (.int (xs_.getD (((p1 + (1 : Int32)) % n_)).toNatClampNeg 0))])) _
      refine XS.icmpYes X177.here hx rfl (pc0 := 20) (pc' := 27) rfl (hb hby d9_20) rfl (feq hc20_179).2 (by decide) (by decide) ?_
      show Steps p.tables e below (T177.setTop (mkF m 27 #[.val (.ref a0), .val (.int p1)] [])) _
      refine XS.iconst X177.here hx rfl (hb hby d9_27) ?_
      exact kk
    obtain ⟨fs, hr, hrun, hended, hW, hsame⟩ := X177.leave (v := some (.int (0 : Int32))) (fun h => by rw [Bd.returns] at h; cases h)
    refine ⟨_, _, pre184 _ ?_, hrun, hended, _, _, rfl, ?_, ⟨_, rfl⟩, hW, hsame.mono (by decide) (by decide)⟩
    · show Steps p.tables e below (T177.setTop (mkF m 28 #[.val (.ref a0), .val (.int p1)] [(.int (0 : Int32))])) _
      exact retN X177 hx (t := .boolean) Bd.returns (by simp) (hb hby d9_28) hr
    · show Q9 Z a0 p1 ow_ ko_ n_ xs_ h0 n0 _ T177.heap _
      rw [e177]
      exact ⟨congrArg (fun z => some (Value.int z)) hF183.symm, N0, rfl⟩
theorem own_k1 (a ow : Addr) (ko : ClassId) (n sl o0 o1 o2 o3 : Int32) (hn : n = (1 : Int32)) (h0 : ¬ sl < (0 : Int32)) (h1 : sl < n) : F9 a sl ow ko (1 : Int32) [o0] = (if (F8 (if (sl + (1 : Int32)) = n then (0 : Int32) else (sl + (1 : Int32))) o0 o1 o2 o3) = (F8 sl o0 o1 o2 o3) then (1 : Int32) else (0 : Int32)) := by
  subst hn
  have q : sl = (0 : Int32) := by
    rw [Int32.lt_iff_toInt_lt, show (0 : Int32).toInt = 0 by decide] at h0
    rw [Int32.lt_iff_toInt_lt, show (1 : Int32).toInt = 1 by decide] at h1
    simp only [← Int32.toInt_inj, show (0 : Int32).toInt = 0 by decide]
    omega
  rcases q with rfl <;> rfl
theorem own_k2 (a ow : Addr) (ko : ClassId) (n sl o0 o1 o2 o3 : Int32) (hn : n = (2 : Int32)) (h0 : ¬ sl < (0 : Int32)) (h1 : sl < n) : F9 a sl ow ko (2 : Int32) [o0, o1] = (if (F8 (if (sl + (1 : Int32)) = n then (0 : Int32) else (sl + (1 : Int32))) o0 o1 o2 o3) = (F8 sl o0 o1 o2 o3) then (1 : Int32) else (0 : Int32)) := by
  subst hn
  have q : sl = (0 : Int32) ∨ sl = (1 : Int32) := by
    rw [Int32.lt_iff_toInt_lt, show (0 : Int32).toInt = 0 by decide] at h0
    rw [Int32.lt_iff_toInt_lt, show (2 : Int32).toInt = 2 by decide] at h1
    simp only [← Int32.toInt_inj, show (0 : Int32).toInt = 0 by decide, show (1 : Int32).toInt = 1 by decide]
    omega
  rcases q with rfl | rfl <;> rfl
theorem own_k3 (a ow : Addr) (ko : ClassId) (n sl o0 o1 o2 o3 : Int32) (hn : n = (3 : Int32)) (h0 : ¬ sl < (0 : Int32)) (h1 : sl < n) : F9 a sl ow ko (3 : Int32) [o0, o1, o2] = (if (F8 (if (sl + (1 : Int32)) = n then (0 : Int32) else (sl + (1 : Int32))) o0 o1 o2 o3) = (F8 sl o0 o1 o2 o3) then (1 : Int32) else (0 : Int32)) := by
  subst hn
  have q : sl = (0 : Int32) ∨ sl = (1 : Int32) ∨ sl = (2 : Int32) := by
    rw [Int32.lt_iff_toInt_lt, show (0 : Int32).toInt = 0 by decide] at h0
    rw [Int32.lt_iff_toInt_lt, show (3 : Int32).toInt = 3 by decide] at h1
    simp only [← Int32.toInt_inj, show (0 : Int32).toInt = 0 by decide, show (1 : Int32).toInt = 1 by decide, show (2 : Int32).toInt = 2 by decide]
    omega
  rcases q with rfl | rfl | rfl <;> rfl
theorem own_k4 (a ow : Addr) (ko : ClassId) (n sl o0 o1 o2 o3 : Int32) (hn : n = (4 : Int32)) (h0 : ¬ sl < (0 : Int32)) (h1 : sl < n) : F9 a sl ow ko (4 : Int32) [o0, o1, o2, o3] = (if (F8 (if (sl + (1 : Int32)) = n then (0 : Int32) else (sl + (1 : Int32))) o0 o1 o2 o3) = (F8 sl o0 o1 o2 o3) then (1 : Int32) else (0 : Int32)) := by
  subst hn
  have q : sl = (0 : Int32) ∨ sl = (1 : Int32) ∨ sl = (2 : Int32) ∨ sl = (3 : Int32) := by
    rw [Int32.lt_iff_toInt_lt, show (0 : Int32).toInt = 0 by decide] at h0
    rw [Int32.lt_iff_toInt_lt, show (4 : Int32).toInt = 4 by decide] at h1
    simp only [← Int32.toInt_inj, show (0 : Int32).toInt = 0 by decide, show (1 : Int32).toInt = 1 by decide, show (2 : Int32).toInt = 2 by decide, show (3 : Int32).toInt = 3 by decide]
    omega
  rcases q with rfl | rfl | rfl | rfl <;> rfl
theorem pd__28Lcom_2fexample_2fclockwise_2fclockwise_2fPlacement_3bLcom_2fexample_2fclockwise_2fclockwise_2fRing_24Membership_3bI_5bJ_5bI_29V : parseMethodDescriptor "(Lcom/example/clockwise/clockwise/Placement;Lcom/example/clockwise/clockwise/Ring$Membership;I[J[I)V" = some ⟨[(.object "com/example/clockwise/clockwise/Placement"), (.object "com/example/clockwise/clockwise/Ring$Membership"), .int, (.array .long), (.array .int)], none⟩ := by decide +kernel
theorem pd__28IIIII_29I : parseMethodDescriptor "(IIIII)I" = some ⟨[.int, .int, .int, .int, .int], some .int⟩ := by decide +kernel
theorem pd__28I_29Z : parseMethodDescriptor "(I)Z" = some ⟨[.int], some .boolean⟩ := by decide +kernel
theorem ef_0_IIIIII (m : MethodId) (x0 : Int32) (x1 : Int32) (x2 : Int32) (x3 : Int32) (x4 : Int32) (x5 : Int32) : entryFrame m #[(.int x0), (.int x1), (.int x2), (.int x3), (.int x4), (.int x5)] maxLocals = mkF m 0 #[.val (.int x0), .val (.int x1), .val (.int x2), .val (.int x3), .val (.int x4), .val (.int x5), .unset, .unset, .unset, .unset, .unset, .unset, .unset, .unset, .unset, .unset, .unset] [] := by first | (simp [entryFrame, mkF, argsToLocals, Value.category, maxLocals]; done) | rfl
def Q0 (Z : State) (p0 : Int32) (p1 : Int32) (p2 : Int32) (p3 : Int32) (p4 : Int32) (p5 : Int32) (h0 : Heap) (n0 : Nat) (v : Option Value) (h : Heap) (L : List Loc) : Prop := v = some (.int 1) ∧ Fr n0 L
set_option maxRecDepth 65536 in
set_option maxHeartbeats 40000000 in
theorem rm0 (l : Launch) (Z : State) (aA : Array Value) (hw : ∀ d ∈ tables_1, d.before aA Z = true) (ws : List Jvm.Cond) (p0 : Int32) (p1 : Int32) (p2 : Int32) (p3 : Int32) (p4 : Int32) (p5 : Int32) (h0 : Heap) (n0 : Nat) (Z0 : n0 ≤ h0.size) :
    MetFree l x (head1 (Jvm.Cond.code x code maxLocals ret :: ws) room_1) (fun a U => a = #[(.int p0), (.int p1), (.int p2), (.int p3), (.int p4), (.int p5)] ∧ Z.Warmed39 U.vm ∧ U.heap = h0) (fun _ _ _ _ _ => True) (fun _ U o U' => ∃ v L, o = .returned v ∧ Q0 Z p0 p1 p2 p3 p4 p5 h0 n0 v U'.heap L ∧ FrameEnd U o U' L room_1.cells room_1.slots) := by
  refine MetFree.of_bodySF (plainFor_of_name pn_com_example_clockwise_clockwise_RingIsFreePinLaw) hisR ?_
  intro p e s m args below meth c s₁ Bd hml0 hP hK
  obtain ⟨rfl, hZ, hh⟩ := hP
  have hx := Bd.exec
  have hby := Bd.bytes
  have hml : c.maxLocals = 17 := hml0
  have hown : s.vm.findClass "com/example/clockwise/clockwise/RingIsFreePinLaw" = some m.cls := findClass_of_methodNamed Bd.named
  have hnm := (name_of_methodNamed Bd.named Bd.method).1
  have X0 : Stand p l e room_1 s m #[(.int p0), (.int p1), (.int p2), (.int p3), (.int p4), (.int p5)] below meth c s₁ [] 0 0 := Stand.of_body Bd
  have e0 : s₁.heap = h0 := by rw [← hh, Bd.state]; rfl
  have N0 := Fr.nil n0
  have KP0 : Keep h0 h0 [] := Keep.refl h0 _
  have pre0 : ∀ t, Steps p.tables e below (s₁.setTop (mkF m 0 #[.val (.int p0), .val (.int p1), .val (.int p2), .val (.int p3), .val (.int p4), .val (.int p5), .unset, .unset, .unset, .unset, .unset, .unset, .unset, .unset, .unset, .unset, .unset] [])) t → Steps p.tables e below (s₁.setTop (entryFrame m #[(.int p0), (.int p1), (.int p2), (.int p3), (.int p4), (.int p5)] maxLocals)) t := fun t k => castTop (ef_0_IIIIII m p0 p1 p2 p3 p4 p5) k
  obtain ⟨n_, h_n_⟩ : ∃ z : Int32, z = ((p0 &&& (3 : Int32)) + (1 : Int32)) := ⟨_, rfl⟩
  have pre185 : ∀ t, Steps p.tables e below (s₁.setTop (mkF m 7 #[.val (.int p0), .val (.int p1), .val (.int p2), .val (.int p3), .val (.int p4), .val (.int p5), .val (.int ((p0 &&& (3 : Int32)) + (1 : Int32))), .unset, .unset, .unset, .unset, .unset, .unset, .unset, .unset, .unset, .unset] [])) t → Steps p.tables e below (s₁.setTop (entryFrame m #[(.int p0), (.int p1), (.int p2), (.int p3), (.int p4), (.int p5)] maxLocals)) t := by
    intro t kk
    refine pre0 t ?_
    show Steps p.tables e below (s₁.setTop (mkF m 0 #[.val (.int p0), .val (.int p1), .val (.int p2), .val (.int p3), .val (.int p4), .val (.int p5), .unset, .unset, .unset, .unset, .unset, .unset, .unset, .unset, .unset, .unset, .unset] [])) _
    refine XS.iloadN X0.here hx rfl (hb hby at_0) rfl ?_
    show Steps p.tables e below (s₁.setTop (mkF m 1 #[.val (.int p0), .val (.int p1), .val (.int p2), .val (.int p3), .val (.int p4), .val (.int p5), .unset, .unset, .unset, .unset, .unset, .unset, .unset, .unset, .unset, .unset, .unset] [(.int p0)])) _
    refine XS.iconst X0.here hx rfl (hb hby at_1) ?_
    show Steps p.tables e below (s₁.setTop (mkF m 2 #[.val (.int p0), .val (.int p1), .val (.int p2), .val (.int p3), .val (.int p4), .val (.int p5), .unset, .unset, .unset, .unset, .unset, .unset, .unset, .unset, .unset, .unset, .unset] [(.int (3 : Int32)), (.int p0)])) _
    refine XS.iand X0.here hx rfl (hb hby at_2) rfl ?_
    show Steps p.tables e below (s₁.setTop (mkF m 3 #[.val (.int p0), .val (.int p1), .val (.int p2), .val (.int p3), .val (.int p4), .val (.int p5), .unset, .unset, .unset, .unset, .unset, .unset, .unset, .unset, .unset, .unset, .unset] [(.int (p0 &&& (3 : Int32)))])) _
    refine XS.iconst X0.here hx rfl (hb hby at_3) ?_
    show Steps p.tables e below (s₁.setTop (mkF m 4 #[.val (.int p0), .val (.int p1), .val (.int p2), .val (.int p3), .val (.int p4), .val (.int p5), .unset, .unset, .unset, .unset, .unset, .unset, .unset, .unset, .unset, .unset, .unset] [(.int (1 : Int32)), (.int (p0 &&& (3 : Int32)))])) _
    refine XS.iadd X0.here hx rfl (hb hby at_4) rfl ?_
    show Steps p.tables e below (s₁.setTop (mkF m 5 #[.val (.int p0), .val (.int p1), .val (.int p2), .val (.int p3), .val (.int p4), .val (.int p5), .unset, .unset, .unset, .unset, .unset, .unset, .unset, .unset, .unset, .unset, .unset] [(.int ((p0 &&& (3 : Int32)) + (1 : Int32)))])) _
    refine XS.istore X0.here hx rfl (hb hby at_5) rfl (l' := #[.val (.int p0), .val (.int p1), .val (.int p2), .val (.int p3), .val (.int p4), .val (.int p5), .val (.int ((p0 &&& (3 : Int32)) + (1 : Int32))), .unset, .unset, .unset, .unset, .unset, .unset, .unset, .unset, .unset, .unset]) rfl ?_
    exact kk
  have pre186 : ∀ t, Steps p.tables e below (s₁.setTop (mkF m 7 #[.val (.int p0), .val (.int p1), .val (.int p2), .val (.int p3), .val (.int p4), .val (.int p5), .val (.int n_), .unset, .unset, .unset, .unset, .unset, .unset, .unset, .unset, .unset, .unset] [])) t → Steps p.tables e below (s₁.setTop (entryFrame m #[(.int p0), (.int p1), (.int p2), (.int p3), (.int p4), (.int p5)] maxLocals)) t := by
    intro t kk
    refine pre185 t ?_
    rw [← h_n_]
    exact kk
  obtain ⟨sl_, h_sl_⟩ : ∃ z : Int32, z = ((p1 &&& (2147483647 : Int32)) % n_) := ⟨_, rfl⟩
  have pre187 : ∀ t, Steps p.tables e below (s₁.setTop (mkF m 16 #[.val (.int p0), .val (.int p1), .val (.int p2), .val (.int p3), .val (.int p4), .val (.int p5), .val (.int n_), .val (.int ((p1 &&& (2147483647 : Int32)) % n_)), .unset, .unset, .unset, .unset, .unset, .unset, .unset, .unset, .unset] [])) t → Steps p.tables e below (s₁.setTop (entryFrame m #[(.int p0), (.int p1), (.int p2), (.int p3), (.int p4), (.int p5)] maxLocals)) t := by
    intro t kk
    refine pre186 t ?_
    show Steps p.tables e below (s₁.setTop (mkF m 7 #[.val (.int p0), .val (.int p1), .val (.int p2), .val (.int p3), .val (.int p4), .val (.int p5), .val (.int n_), .unset, .unset, .unset, .unset, .unset, .unset, .unset, .unset, .unset, .unset] [])) _
    refine XS.iloadN X0.here hx rfl (hb hby at_7) rfl ?_
    show Steps p.tables e below (s₁.setTop (mkF m 8 #[.val (.int p0), .val (.int p1), .val (.int p2), .val (.int p3), .val (.int p4), .val (.int p5), .val (.int n_), .unset, .unset, .unset, .unset, .unset, .unset, .unset, .unset, .unset, .unset] [(.int p1)])) _
    refine X0.ldcInt hx hown (mvT hZ (hw _ (List.mem_of_getElem? (i := 0) rfl))) (g := (mkF m 8 #[.val (.int p0), .val (.int p1), .val (.int p2), .val (.int p3), .val (.int p4), .val (.int p5), .val (.int n_), .unset, .unset, .unset, .unset, .unset, .unset, .unset, .unset, .unset, .unset] [(.int p1)])) rfl (hb hby at_8) _ ?_
    show Steps p.tables e below (s₁.setTop (mkF m 10 #[.val (.int p0), .val (.int p1), .val (.int p2), .val (.int p3), .val (.int p4), .val (.int p5), .val (.int n_), .unset, .unset, .unset, .unset, .unset, .unset, .unset, .unset, .unset, .unset] [(.int (2147483647 : Int32)), (.int p1)])) _
    refine XS.iand X0.here hx rfl (hb hby at_10) rfl ?_
    show Steps p.tables e below (s₁.setTop (mkF m 11 #[.val (.int p0), .val (.int p1), .val (.int p2), .val (.int p3), .val (.int p4), .val (.int p5), .val (.int n_), .unset, .unset, .unset, .unset, .unset, .unset, .unset, .unset, .unset, .unset] [(.int (p1 &&& (2147483647 : Int32)))])) _
    refine XS.iload X0.here hx rfl (hb hby at_11) rfl ?_
    show Steps p.tables e below (s₁.setTop (mkF m 13 #[.val (.int p0), .val (.int p1), .val (.int p2), .val (.int p3), .val (.int p4), .val (.int p5), .val (.int n_), .unset, .unset, .unset, .unset, .unset, .unset, .unset, .unset, .unset, .unset] [(.int n_), (.int (p1 &&& (2147483647 : Int32)))])) _
    refine Jvm.RoadKit.iremM X0 hx (g := (mkF m 13 #[.val (.int p0), .val (.int p1), .val (.int p2), .val (.int p3), .val (.int p4), .val (.int p5), .val (.int n_), .unset, .unset, .unset, .unset, .unset, .unset, .unset, .unset, .unset, .unset] [(.int n_), (.int (p1 &&& (2147483647 : Int32)))])) rfl (hb hby at_13) rfl (by rw [h_n_]; exact own_nnz p0) ?_
    show Steps p.tables e below (s₁.setTop (mkF m 14 #[.val (.int p0), .val (.int p1), .val (.int p2), .val (.int p3), .val (.int p4), .val (.int p5), .val (.int n_), .unset, .unset, .unset, .unset, .unset, .unset, .unset, .unset, .unset, .unset] [(.int ((p1 &&& (2147483647 : Int32)) % n_))])) _
    refine XS.istore X0.here hx rfl (hb hby at_14) rfl (l' := #[.val (.int p0), .val (.int p1), .val (.int p2), .val (.int p3), .val (.int p4), .val (.int p5), .val (.int n_), .val (.int ((p1 &&& (2147483647 : Int32)) % n_)), .unset, .unset, .unset, .unset, .unset, .unset, .unset, .unset, .unset]) rfl ?_
    exact kk
  have pre188 : ∀ t, Steps p.tables e below (s₁.setTop (mkF m 16 #[.val (.int p0), .val (.int p1), .val (.int p2), .val (.int p3), .val (.int p4), .val (.int p5), .val (.int n_), .val (.int sl_), .unset, .unset, .unset, .unset, .unset, .unset, .unset, .unset, .unset] [])) t → Steps p.tables e below (s₁.setTop (entryFrame m #[(.int p0), (.int p1), (.int p2), (.int p3), (.int p4), (.int p5)] maxLocals)) t := by
    intro t kk
    refine pre187 t ?_
    rw [← h_sl_]
    exact kk
  obtain ⟨hs0, hs1⟩ := own_slot p0 p1 n_ h_n_
  rw [← h_sl_] at hs0 hs1
  obtain ⟨o0, h_o0⟩ : ∃ z : Int32, z = (p2 &&& (3 : Int32)) := ⟨_, rfl⟩
  have pre189 : ∀ t, Steps p.tables e below (s₁.setTop (mkF m 21 #[.val (.int p0), .val (.int p1), .val (.int p2), .val (.int p3), .val (.int p4), .val (.int p5), .val (.int n_), .val (.int sl_), .val (.int (p2 &&& (3 : Int32))), .unset, .unset, .unset, .unset, .unset, .unset, .unset, .unset] [])) t → Steps p.tables e below (s₁.setTop (entryFrame m #[(.int p0), (.int p1), (.int p2), (.int p3), (.int p4), (.int p5)] maxLocals)) t := by
    intro t kk
    refine pre188 t ?_
    show Steps p.tables e below (s₁.setTop (mkF m 16 #[.val (.int p0), .val (.int p1), .val (.int p2), .val (.int p3), .val (.int p4), .val (.int p5), .val (.int n_), .val (.int sl_), .unset, .unset, .unset, .unset, .unset, .unset, .unset, .unset, .unset] [])) _
    refine XS.iloadN X0.here hx rfl (hb hby at_16) rfl ?_
    show Steps p.tables e below (s₁.setTop (mkF m 17 #[.val (.int p0), .val (.int p1), .val (.int p2), .val (.int p3), .val (.int p4), .val (.int p5), .val (.int n_), .val (.int sl_), .unset, .unset, .unset, .unset, .unset, .unset, .unset, .unset, .unset] [(.int p2)])) _
    refine XS.iconst X0.here hx rfl (hb hby at_17) ?_
    show Steps p.tables e below (s₁.setTop (mkF m 18 #[.val (.int p0), .val (.int p1), .val (.int p2), .val (.int p3), .val (.int p4), .val (.int p5), .val (.int n_), .val (.int sl_), .unset, .unset, .unset, .unset, .unset, .unset, .unset, .unset, .unset] [(.int (3 : Int32)), (.int p2)])) _
    refine XS.iand X0.here hx rfl (hb hby at_18) rfl ?_
    show Steps p.tables e below (s₁.setTop (mkF m 19 #[.val (.int p0), .val (.int p1), .val (.int p2), .val (.int p3), .val (.int p4), .val (.int p5), .val (.int n_), .val (.int sl_), .unset, .unset, .unset, .unset, .unset, .unset, .unset, .unset, .unset] [(.int (p2 &&& (3 : Int32)))])) _
    refine XS.istore X0.here hx rfl (hb hby at_19) rfl (l' := #[.val (.int p0), .val (.int p1), .val (.int p2), .val (.int p3), .val (.int p4), .val (.int p5), .val (.int n_), .val (.int sl_), .val (.int (p2 &&& (3 : Int32))), .unset, .unset, .unset, .unset, .unset, .unset, .unset, .unset]) rfl ?_
    exact kk
  have pre190 : ∀ t, Steps p.tables e below (s₁.setTop (mkF m 21 #[.val (.int p0), .val (.int p1), .val (.int p2), .val (.int p3), .val (.int p4), .val (.int p5), .val (.int n_), .val (.int sl_), .val (.int o0), .unset, .unset, .unset, .unset, .unset, .unset, .unset, .unset] [])) t → Steps p.tables e below (s₁.setTop (entryFrame m #[(.int p0), (.int p1), (.int p2), (.int p3), (.int p4), (.int p5)] maxLocals)) t := by
    intro t kk
    refine pre189 t ?_
    rw [← h_o0]
    exact kk
  obtain ⟨o1, h_o1⟩ : ∃ z : Int32, z = (p3 &&& (3 : Int32)) := ⟨_, rfl⟩
  have pre191 : ∀ t, Steps p.tables e below (s₁.setTop (mkF m 26 #[.val (.int p0), .val (.int p1), .val (.int p2), .val (.int p3), .val (.int p4), .val (.int p5), .val (.int n_), .val (.int sl_), .val (.int o0), .val (.int (p3 &&& (3 : Int32))), .unset, .unset, .unset, .unset, .unset, .unset, .unset] [])) t → Steps p.tables e below (s₁.setTop (entryFrame m #[(.int p0), (.int p1), (.int p2), (.int p3), (.int p4), (.int p5)] maxLocals)) t := by
    intro t kk
    refine pre190 t ?_
    show Steps p.tables e below (s₁.setTop (mkF m 21 #[.val (.int p0), .val (.int p1), .val (.int p2), .val (.int p3), .val (.int p4), .val (.int p5), .val (.int n_), .val (.int sl_), .val (.int o0), .unset, .unset, .unset, .unset, .unset, .unset, .unset, .unset] [])) _
    refine XS.iloadN X0.here hx rfl (hb hby at_21) rfl ?_
    show Steps p.tables e below (s₁.setTop (mkF m 22 #[.val (.int p0), .val (.int p1), .val (.int p2), .val (.int p3), .val (.int p4), .val (.int p5), .val (.int n_), .val (.int sl_), .val (.int o0), .unset, .unset, .unset, .unset, .unset, .unset, .unset, .unset] [(.int p3)])) _
    refine XS.iconst X0.here hx rfl (hb hby at_22) ?_
    show Steps p.tables e below (s₁.setTop (mkF m 23 #[.val (.int p0), .val (.int p1), .val (.int p2), .val (.int p3), .val (.int p4), .val (.int p5), .val (.int n_), .val (.int sl_), .val (.int o0), .unset, .unset, .unset, .unset, .unset, .unset, .unset, .unset] [(.int (3 : Int32)), (.int p3)])) _
    refine XS.iand X0.here hx rfl (hb hby at_23) rfl ?_
    show Steps p.tables e below (s₁.setTop (mkF m 24 #[.val (.int p0), .val (.int p1), .val (.int p2), .val (.int p3), .val (.int p4), .val (.int p5), .val (.int n_), .val (.int sl_), .val (.int o0), .unset, .unset, .unset, .unset, .unset, .unset, .unset, .unset] [(.int (p3 &&& (3 : Int32)))])) _
    refine XS.istore X0.here hx rfl (hb hby at_24) rfl (l' := #[.val (.int p0), .val (.int p1), .val (.int p2), .val (.int p3), .val (.int p4), .val (.int p5), .val (.int n_), .val (.int sl_), .val (.int o0), .val (.int (p3 &&& (3 : Int32))), .unset, .unset, .unset, .unset, .unset, .unset, .unset]) rfl ?_
    exact kk
  have pre192 : ∀ t, Steps p.tables e below (s₁.setTop (mkF m 26 #[.val (.int p0), .val (.int p1), .val (.int p2), .val (.int p3), .val (.int p4), .val (.int p5), .val (.int n_), .val (.int sl_), .val (.int o0), .val (.int o1), .unset, .unset, .unset, .unset, .unset, .unset, .unset] [])) t → Steps p.tables e below (s₁.setTop (entryFrame m #[(.int p0), (.int p1), (.int p2), (.int p3), (.int p4), (.int p5)] maxLocals)) t := by
    intro t kk
    refine pre191 t ?_
    rw [← h_o1]
    exact kk
  obtain ⟨o2, h_o2⟩ : ∃ z : Int32, z = (p4 &&& (3 : Int32)) := ⟨_, rfl⟩
  have pre193 : ∀ t, Steps p.tables e below (s₁.setTop (mkF m 32 #[.val (.int p0), .val (.int p1), .val (.int p2), .val (.int p3), .val (.int p4), .val (.int p5), .val (.int n_), .val (.int sl_), .val (.int o0), .val (.int o1), .val (.int (p4 &&& (3 : Int32))), .unset, .unset, .unset, .unset, .unset, .unset] [])) t → Steps p.tables e below (s₁.setTop (entryFrame m #[(.int p0), (.int p1), (.int p2), (.int p3), (.int p4), (.int p5)] maxLocals)) t := by
    intro t kk
    refine pre192 t ?_
    show Steps p.tables e below (s₁.setTop (mkF m 26 #[.val (.int p0), .val (.int p1), .val (.int p2), .val (.int p3), .val (.int p4), .val (.int p5), .val (.int n_), .val (.int sl_), .val (.int o0), .val (.int o1), .unset, .unset, .unset, .unset, .unset, .unset, .unset] [])) _
    refine XS.iload X0.here hx rfl (hb hby at_26) rfl ?_
    show Steps p.tables e below (s₁.setTop (mkF m 28 #[.val (.int p0), .val (.int p1), .val (.int p2), .val (.int p3), .val (.int p4), .val (.int p5), .val (.int n_), .val (.int sl_), .val (.int o0), .val (.int o1), .unset, .unset, .unset, .unset, .unset, .unset, .unset] [(.int p4)])) _
    refine XS.iconst X0.here hx rfl (hb hby at_28) ?_
    show Steps p.tables e below (s₁.setTop (mkF m 29 #[.val (.int p0), .val (.int p1), .val (.int p2), .val (.int p3), .val (.int p4), .val (.int p5), .val (.int n_), .val (.int sl_), .val (.int o0), .val (.int o1), .unset, .unset, .unset, .unset, .unset, .unset, .unset] [(.int (3 : Int32)), (.int p4)])) _
    refine XS.iand X0.here hx rfl (hb hby at_29) rfl ?_
    show Steps p.tables e below (s₁.setTop (mkF m 30 #[.val (.int p0), .val (.int p1), .val (.int p2), .val (.int p3), .val (.int p4), .val (.int p5), .val (.int n_), .val (.int sl_), .val (.int o0), .val (.int o1), .unset, .unset, .unset, .unset, .unset, .unset, .unset] [(.int (p4 &&& (3 : Int32)))])) _
    refine XS.istore X0.here hx rfl (hb hby at_30) rfl (l' := #[.val (.int p0), .val (.int p1), .val (.int p2), .val (.int p3), .val (.int p4), .val (.int p5), .val (.int n_), .val (.int sl_), .val (.int o0), .val (.int o1), .val (.int (p4 &&& (3 : Int32))), .unset, .unset, .unset, .unset, .unset, .unset]) rfl ?_
    exact kk
  have pre194 : ∀ t, Steps p.tables e below (s₁.setTop (mkF m 32 #[.val (.int p0), .val (.int p1), .val (.int p2), .val (.int p3), .val (.int p4), .val (.int p5), .val (.int n_), .val (.int sl_), .val (.int o0), .val (.int o1), .val (.int o2), .unset, .unset, .unset, .unset, .unset, .unset] [])) t → Steps p.tables e below (s₁.setTop (entryFrame m #[(.int p0), (.int p1), (.int p2), (.int p3), (.int p4), (.int p5)] maxLocals)) t := by
    intro t kk
    refine pre193 t ?_
    rw [← h_o2]
    exact kk
  obtain ⟨o3, h_o3⟩ : ∃ z : Int32, z = (p5 &&& (3 : Int32)) := ⟨_, rfl⟩
  have pre195 : ∀ t, Steps p.tables e below (s₁.setTop (mkF m 38 #[.val (.int p0), .val (.int p1), .val (.int p2), .val (.int p3), .val (.int p4), .val (.int p5), .val (.int n_), .val (.int sl_), .val (.int o0), .val (.int o1), .val (.int o2), .val (.int (p5 &&& (3 : Int32))), .unset, .unset, .unset, .unset, .unset] [])) t → Steps p.tables e below (s₁.setTop (entryFrame m #[(.int p0), (.int p1), (.int p2), (.int p3), (.int p4), (.int p5)] maxLocals)) t := by
    intro t kk
    refine pre194 t ?_
    show Steps p.tables e below (s₁.setTop (mkF m 32 #[.val (.int p0), .val (.int p1), .val (.int p2), .val (.int p3), .val (.int p4), .val (.int p5), .val (.int n_), .val (.int sl_), .val (.int o0), .val (.int o1), .val (.int o2), .unset, .unset, .unset, .unset, .unset, .unset] [])) _
    refine XS.iload X0.here hx rfl (hb hby at_32) rfl ?_
    show Steps p.tables e below (s₁.setTop (mkF m 34 #[.val (.int p0), .val (.int p1), .val (.int p2), .val (.int p3), .val (.int p4), .val (.int p5), .val (.int n_), .val (.int sl_), .val (.int o0), .val (.int o1), .val (.int o2), .unset, .unset, .unset, .unset, .unset, .unset] [(.int p5)])) _
    refine XS.iconst X0.here hx rfl (hb hby at_34) ?_
    show Steps p.tables e below (s₁.setTop (mkF m 35 #[.val (.int p0), .val (.int p1), .val (.int p2), .val (.int p3), .val (.int p4), .val (.int p5), .val (.int n_), .val (.int sl_), .val (.int o0), .val (.int o1), .val (.int o2), .unset, .unset, .unset, .unset, .unset, .unset] [(.int (3 : Int32)), (.int p5)])) _
    refine XS.iand X0.here hx rfl (hb hby at_35) rfl ?_
    show Steps p.tables e below (s₁.setTop (mkF m 36 #[.val (.int p0), .val (.int p1), .val (.int p2), .val (.int p3), .val (.int p4), .val (.int p5), .val (.int n_), .val (.int sl_), .val (.int o0), .val (.int o1), .val (.int o2), .unset, .unset, .unset, .unset, .unset, .unset] [(.int (p5 &&& (3 : Int32)))])) _
    refine XS.istore X0.here hx rfl (hb hby at_36) rfl (l' := #[.val (.int p0), .val (.int p1), .val (.int p2), .val (.int p3), .val (.int p4), .val (.int p5), .val (.int n_), .val (.int sl_), .val (.int o0), .val (.int o1), .val (.int o2), .val (.int (p5 &&& (3 : Int32))), .unset, .unset, .unset, .unset, .unset]) rfl ?_
    exact kk
  have pre196 : ∀ t, Steps p.tables e below (s₁.setTop (mkF m 38 #[.val (.int p0), .val (.int p1), .val (.int p2), .val (.int p3), .val (.int p4), .val (.int p5), .val (.int n_), .val (.int sl_), .val (.int o0), .val (.int o1), .val (.int o2), .val (.int o3), .unset, .unset, .unset, .unset, .unset] [])) t → Steps p.tables e below (s₁.setTop (entryFrame m #[(.int p0), (.int p1), (.int p2), (.int p3), (.int p4), (.int p5)] maxLocals)) t := by
    intro t kk
    refine pre195 t ?_
    rw [← h_o3]
    exact kk
  have pre198 : ∀ t, Steps p.tables e below (s₁.setTop (mkF m 41 #[.val (.int p0), .val (.int p1), .val (.int p2), .val (.int p3), .val (.int p4), .val (.int p5), .val (.int n_), .val (.int sl_), .val (.int o0), .val (.int o1), .val (.int o2), .val (.int o3), .unset, .unset, .unset, .unset, .unset] [(.int (1 : Int32)), (.int n_)])) t → Steps p.tables e below (s₁.setTop (entryFrame m #[(.int p0), (.int p1), (.int p2), (.int p3), (.int p4), (.int p5)] maxLocals)) t := by
    intro t kk
    refine pre196 t ?_
    show Steps p.tables e below (s₁.setTop (mkF m 38 #[.val (.int p0), .val (.int p1), .val (.int p2), .val (.int p3), .val (.int p4), .val (.int p5), .val (.int n_), .val (.int sl_), .val (.int o0), .val (.int o1), .val (.int o2), .val (.int o3), .unset, .unset, .unset, .unset, .unset] [])) _
    refine XS.iload X0.here hx rfl (hb hby at_38) rfl ?_
    show Steps p.tables e below (s₁.setTop (mkF m 40 #[.val (.int p0), .val (.int p1), .val (.int p2), .val (.int p3), .val (.int p4), .val (.int p5), .val (.int n_), .val (.int sl_), .val (.int o0), .val (.int o1), .val (.int o2), .val (.int o3), .unset, .unset, .unset, .unset, .unset] [(.int n_)])) _
    refine XS.iconst X0.here hx rfl (hb hby at_40) ?_
    exact kk
  by_cases hc41_197 : n_ = (1 : Int32)
  · obtain ⟨T199, h199, k199, X199, e199, E199, A199, st199⟩ := newP X0 hx hZ (hw _ (List.mem_of_getElem? (i := 1) rfl)) e0 (g := (mkF m 45 #[.val (.int p0), .val (.int p1), .val (.int p2), .val (.int p3), .val (.int p4), .val (.int p5), .val (.int n_), .val (.int sl_), .val (.int o0), .val (.int o1), .val (.int o2), .val (.int o3), .unset, .unset, .unset, .unset, .unset] [(.int (1 : Int32))])) rfl (hb hby at_45) rfl (by decide) (cap := 1) (by decide) (by decide) (by decide) (by decide)
    obtain ⟨b199, g199⟩ : ∃ z, z = h0.size := ⟨_, rfl⟩
    rw [← g199] at A199 st199
    have sz_b199 : h0.size ≤ b199 := Nat.le_trans KP0.1 (Nat.le_of_eq g199.symm)
    have g_b199 : n0 ≤ b199 := Nat.le_trans Z0 (Nat.le_of_eq g199.symm)
    have KP199 : Keep h0 h199 [] := KP0.ext E199
    have Z199 : n0 ≤ h199.size := Nat.le_trans Z0 E199.1
    have V_b199 : Arv Z h199 b199 k199 .long (1 : Int32) [(.long (0 : Int64))] (.long (0 : Int64)) := (Arv.new A199 (by decide)).pad (pad_rep [] (.long (0 : Int64)) 1)
    obtain ⟨cl200, Ar200, q200, S200, N200v, H200, G200⟩ := V_b199
    have hin200 : ¬ ((0 : Int32) < 0 ∨ cl200.slots.size ≤ ((0 : Int32)).toNatClampNeg) := inb_of S200 ⟨by decide, by decide⟩
    obtain ⟨T201, h201, X201, e201, W201, st201⟩ := stJ X199 hx hZ e199 Ar200 (j := (0 : Int32)) hin200 (g := (mkF m 52 #[.val (.int p0), .val (.int p1), .val (.int p2), .val (.int p3), .val (.int p4), .val (.int p5), .val (.int n_), .val (.int sl_), .val (.int o0), .val (.int o1), .val (.int o2), .val (.int o3), .unset, .unset, .unset, .unset, .unset] [(.long (10 : Int64)), (.int (0 : Int32)), (.ref b199), (.ref b199)])) rfl rfl (hb hby at_52)
    have Vw201 : Arv Z h201 b199 k199 .long (1 : Int32) [(.long (10 : Int64))] (.long (0 : Int64)) := Arv.set Ar200 q200 S200 N200v H200 G200 rfl W201 0 rfl (Nat.le_of_ble_eq_true rfl)
    have KP201 : Keep h0 h201 [] := KP199.wr W201 (Or.inr sz_b199)
    have Z201 : n0 ≤ h201.size := Nat.le_trans Z199 (Nat.le_of_eq W201.size.symm)
    have N201 := Fr.snoc X201 N0 g_b199
    obtain ⟨T202, h202, k202, X202, e202, E202, A202, st202⟩ := newP X201 hx hZ (hw _ (List.mem_of_getElem? (i := 3) rfl)) e201 (g := (mkF m 56 #[.val (.int p0), .val (.int p1), .val (.int p2), .val (.int p3), .val (.int p4), .val (.int p5), .val (.int n_), .val (.int sl_), .val (.int o0), .val (.int o1), .val (.int o2), .val (.int o3), .val (.ref b199), .unset, .unset, .unset, .unset] [(.int (1 : Int32))])) rfl (hb hby at_56) rfl (by decide) (cap := 1) (by decide) (by decide) (by decide) (by decide)
    obtain ⟨b202, g202⟩ : ∃ z, z = h201.size := ⟨_, rfl⟩
    rw [← g202] at A202 st202
    have ne_b199_b202 : b199 ≠ b202 := Nat.ne_of_lt (Nat.lt_of_lt_of_le Vw201.lt (Nat.le_of_eq g202.symm))
    have sz_b202 : h0.size ≤ b202 := Nat.le_trans KP201.1 (Nat.le_of_eq g202.symm)
    have g_b202 : n0 ≤ b202 := Nat.le_trans Z201 (Nat.le_of_eq g202.symm)
    have KP202 : Keep h0 h202 [] := KP201.ext E202
    have Z202 : n0 ≤ h202.size := Nat.le_trans Z201 E202.1
    have V_b199_203 : Arv Z h202 b199 k199 .long (1 : Int32) [(.long (10 : Int64))] (.long (0 : Int64)) := Vw201.ext E202
    have V_b202 : Arv Z h202 b202 k202 .int (1 : Int32) [(.int (0 : Int32))] (.int (0 : Int32)) := (Arv.new A202 (by decide)).pad (pad_rep [] (.int (0 : Int32)) 1)
    obtain ⟨cl204, Ar204, q204, S204, N204v, H204, G204⟩ := V_b202
    have hin204 : ¬ ((0 : Int32) < 0 ∨ cl204.slots.size ≤ ((0 : Int32)).toNatClampNeg) := inb_of S204 ⟨by decide, by decide⟩
    obtain ⟨T205, h205, X205, e205, W205, st205⟩ := stI X202 hx hZ e202 Ar204 (j := (0 : Int32)) hin204 (g := (mkF m 62 #[.val (.int p0), .val (.int p1), .val (.int p2), .val (.int p3), .val (.int p4), .val (.int p5), .val (.int n_), .val (.int sl_), .val (.int o0), .val (.int o1), .val (.int o2), .val (.int o3), .val (.ref b199), .unset, .unset, .unset, .unset] [(.int o0), (.int (0 : Int32)), (.ref b202), (.ref b202)])) rfl rfl (hb hby at_62)
    have Vw205 : Arv Z h205 b202 k202 .int (1 : Int32) [(.int o0)] (.int (0 : Int32)) := Arv.set Ar204 q204 S204 N204v H204 G204 rfl W205 0 rfl (Nat.le_of_ble_eq_true rfl)
    have KP205 : Keep h0 h205 [] := KP202.wr W205 (Or.inr sz_b202)
    have Z205 : n0 ≤ h205.size := Nat.le_trans Z202 (Nat.le_of_eq W205.size.symm)
    have N205 := Fr.snoc X205 N201 g_b202
    have V_b199_206 : Arv Z h205 b199 k199 .long (1 : Int32) [(.long (10 : Int64))] (.long (0 : Int64)) := V_b199_203.other W205 ne_b199_b202
    obtain ⟨T207, h207, X207, e207, E207, A207, D207, -, st207⟩ := newO X205 hx hZ hown (hw _ (List.mem_of_getElem? (i := 4) rfl)) (hw _ (List.mem_of_getElem? (i := 5) rfl)) (hw _ (List.mem_of_getElem? (i := 6) rfl)) e205 (g := (mkF m 215 #[.val (.int p0), .val (.int p1), .val (.int p2), .val (.int p3), .val (.int p4), .val (.int p5), .val (.int n_), .val (.int sl_), .val (.int o0), .val (.int o1), .val (.int o2), .val (.int o3), .val (.ref b199), .val (.ref b202), .unset, .unset, .unset] [])) rfl (hb hby at_215) (by decide) (by decide)
    obtain ⟨b207, g207⟩ : ∃ z, z = h205.size := ⟨_, rfl⟩
    rw [← g207] at A207 D207 st207
    have ne_b199_b207 : b199 ≠ b207 := Nat.ne_of_lt (Nat.lt_of_lt_of_le V_b199_206.lt (Nat.le_of_eq g207.symm))
    have ne_b202_b207 : b202 ≠ b207 := Nat.ne_of_lt (Nat.lt_of_lt_of_le Vw205.lt (Nat.le_of_eq g207.symm))
    have sz_b207 : h0.size ≤ b207 := Nat.le_trans KP205.1 (Nat.le_of_eq g207.symm)
    have g_b207 : n0 ≤ b207 := Nat.le_trans Z205 (Nat.le_of_eq g207.symm)
    have KP207 : Keep h0 h207 [] := KP205.ext E207
    have Z207 : n0 ≤ h207.size := Nat.le_trans Z205 E207.1
    have V_b199_208 : Arv Z h207 b199 k199 .long (1 : Int32) [(.long (10 : Int64))] (.long (0 : Int64)) := V_b199_206.ext E207
    have V_b202_209 : Arv Z h207 b202 k202 .int (1 : Int32) [(.int o0)] (.int (0 : Int32)) := Vw205.ext E207
    have F_placement_b207 : Fld Z h207 b207 "com/example/clockwise/clockwise/Ring" "placement" "Lcom/example/clockwise/clockwise/Placement;" .null := D207 (Or.inr (hw _ (List.mem_of_getElem? (i := 14) rfl))) (ty := (.object "com/example/clockwise/clockwise/Placement")) (by decide)
    have F_members_b207 : Fld Z h207 b207 "com/example/clockwise/clockwise/Ring" "members" "Lcom/example/clockwise/clockwise/Ring$Membership;" .null := D207 (Or.inr (hw _ (List.mem_of_getElem? (i := 16) rfl))) (ty := (.object "com/example/clockwise/clockwise/Ring$Membership")) (by decide)
    have F_vnodes_b207 : Fld Z h207 b207 "com/example/clockwise/clockwise/Ring" "vnodes" "I" (.int (0 : Int32)) := D207 (Or.inr (hw _ (List.mem_of_getElem? (i := 18) rfl))) (ty := .int) (by decide)
    have F_positions_b207 : Fld Z h207 b207 "com/example/clockwise/clockwise/Ring" "positions" "[J" .null := D207 (Or.inr (hw _ (List.mem_of_getElem? (i := 20) rfl))) (ty := (.array .long)) (by decide)
    have F_owners_b207 : Fld Z h207 b207 "com/example/clockwise/clockwise/Ring" "owners" "[I" .null := D207 (Or.inr (hw _ (List.mem_of_getElem? (i := 22) rfl))) (ty := (.array .int)) (by decide)
    have F_slotIndex_b207 : Fld Z h207 b207 "com/example/clockwise/clockwise/Ring" "slotIndex" "Lcom/example/clockwise/clockwise/SlotIndex;" .null := D207 (Or.inr (hw _ (List.mem_of_getElem? (i := 53) rfl))) (ty := (.object "com/example/clockwise/clockwise/SlotIndex")) (by decide)
    obtain ⟨_, _, ⟨T210, L210, k210, n210⟩, -, X210, ⟨Lc210, hQ210, l210, y210, z210⟩, st210⟩ := X207.specialBack hx (y := (⟨"com/example/clockwise/clockwise/Ring", "<init>", "(Lcom/example/clockwise/clockwise/Placement;Lcom/example/clockwise/clockwise/Ring$Membership;I[J[I)V"⟩ : MethodName)) rfl hown (mvT hZ (hw _ (List.mem_of_getElem? (i := 7) rfl))) (mvT hZ (hw _ (List.mem_of_getElem? (i := 8) rfl))) (mvT hZ (hw _ (List.mem_of_getElem? (i := 9) rfl))) (by decide) (backOf (W := 1) (rm1 l Z aA hw [] b207 (0 : Int32) b199 b202 k199 (1 : Int32) [(.long (10 : Int64))] (.long (0 : Int64)) h207 n0 Z207 A207 g_b207 (Ne.symm ne_b199_b207) V_b199_208 (by decide) (by decide) (by decide) F_placement_b207 F_members_b207 F_vnodes_b207 F_positions_b207 F_owners_b207 F_slotIndex_b207) hZ (hw _ (List.mem_of_getElem? (i := 9) rfl)) (hw _ (List.mem_of_getElem? (i := 6) rfl)) (by decide) (by decide)) (g := (mkF m 226 #[.val (.int p0), .val (.int p1), .val (.int p2), .val (.int p3), .val (.int p4), .val (.int p5), .val (.int n_), .val (.int sl_), .val (.int o0), .val (.int o1), .val (.int o2), .val (.int o3), .val (.ref b199), .val (.ref b202), .unset, .unset, .unset] [(.ref b202), (.ref b199), (.int (0 : Int32)), .null, .null, (.ref b207), (.ref b207)])) rfl (by rw [hml]; rfl) (Steps.refl _) (a := b207) (argsL := [.null, .null, (.int (0 : Int32)), (.ref b199), (.ref b202)]) (rest := [(.ref b207)]) (lenOf pd__28Lcom_2fexample_2fclockwise_2fclockwise_2fPlacement_3bLcom_2fexample_2fclockwise_2fclockwise_2fRing_24Membership_3bI_5bJ_5bI_29V rfl) rfl (by show 2 * 0 + _ ≤ _; exact Nat.le_of_eq rfl) (hb hby at_226) (fun _ _ => ⟨rfl, e207, (by decide : 3 + 2 ≤ _), (by decide : 8 + 6 ≤ _)⟩)
    dsimp only [Pt.U, Pt.locs, Pt.cells, Pt.slots] at X210 l210 y210 z210 st210 hQ210
    subst l210 y210 z210
    obtain ⟨rfl, N210q, K210, Eq210, Fq210_placement, Fq210_members, Fq210_vnodes, Fq210_positions, Fq210_owners⟩ := hQ210
    have N210 := Fr.app N205 N210q
    have KP210 : Keep h0 T210.heap [] := KP207.trans K210 (allS (Or.inr sz_b207) all0)
    have Z210 : n0 ≤ T210.heap.size := Nat.le_trans Z207 K210.1
    have V_b199_211 : Arv Z T210.heap b199 k199 .long (1 : Int32) [(.long (10 : Int64))] (.long (0 : Int64)) := V_b199_208.keep K210 (ninS ne_b199_b207 nin0)
    have V_b202_212 : Arv Z T210.heap b202 k202 .int (1 : Int32) [(.int o0)] (.int (0 : Int32)) := V_b202_209.keep K210 (ninS ne_b202_b207 nin0)
    have E_b207_213 : Exa Z T210.heap b207 "com/example/clockwise/clockwise/Ring" := A207.keep K210
    have pre215 : ∀ t, Steps p.tables e below (T210.setTop (mkF m 237 #[.val (.int p0), .val (.int p1), .val (.int p2), .val (.int p3), .val (.int p4), .val (.int p5), .val (.int n_), .val (.int sl_), .val (.int o0), .val (.int o1), .val (.int o2), .val (.int o3), .val (.ref b199), .val (.ref b202), .val (.ref b207), .unset, .unset] [(.int n_), (.int (sl_ + (1 : Int32)))])) t → Steps p.tables e below (s₁.setTop (entryFrame m #[(.int p0), (.int p1), (.int p2), (.int p3), (.int p4), (.int p5)] maxLocals)) t := by
      intro t kk
      refine pre198 t ?_
      show Steps p.tables e below (s₁.setTop (mkF m 41 #[.val (.int p0), .val (.int p1), .val (.int p2), .val (.int p3), .val (.int p4), .val (.int p5), .val (.int n_), .val (.int sl_), .val (.int o0), .val (.int o1), .val (.int o2), .val (.int o3), .unset, .unset, .unset, .unset, .unset] [(.int (1 : Int32)), (.int n_)])) _
      refine XS.icmpNo X0.here hx rfl (hb hby at_41) rfl (teq hc41_197).2 ?_
      show Steps p.tables e below (s₁.setTop (mkF m 44 #[.val (.int p0), .val (.int p1), .val (.int p2), .val (.int p3), .val (.int p4), .val (.int p5), .val (.int n_), .val (.int sl_), .val (.int o0), .val (.int o1), .val (.int o2), .val (.int o3), .unset, .unset, .unset, .unset, .unset] [])) _
      refine XS.iconst X0.here hx rfl (hb hby at_44) ?_
      show Steps p.tables e below (s₁.setTop (mkF m 45 #[.val (.int p0), .val (.int p1), .val (.int p2), .val (.int p3), .val (.int p4), .val (.int p5), .val (.int n_), .val (.int sl_), .val (.int o0), .val (.int o1), .val (.int o2), .val (.int o3), .unset, .unset, .unset, .unset, .unset] [(.int (1 : Int32))])) _
      refine st199 _ ?_
      show Steps p.tables e below (T199.setTop (mkF m 47 #[.val (.int p0), .val (.int p1), .val (.int p2), .val (.int p3), .val (.int p4), .val (.int p5), .val (.int n_), .val (.int sl_), .val (.int o0), .val (.int o1), .val (.int o2), .val (.int o3), .unset, .unset, .unset, .unset, .unset] [(.ref b199)])) _
      refine XS.dup X199.here hx rfl (hb hby at_47) rfl rfl ?_
      show Steps p.tables e below (T199.setTop (mkF m 48 #[.val (.int p0), .val (.int p1), .val (.int p2), .val (.int p3), .val (.int p4), .val (.int p5), .val (.int n_), .val (.int sl_), .val (.int o0), .val (.int o1), .val (.int o2), .val (.int o3), .unset, .unset, .unset, .unset, .unset] [(.ref b199), (.ref b199)])) _
      refine XS.iconst X199.here hx rfl (hb hby at_48) ?_
      show Steps p.tables e below (T199.setTop (mkF m 49 #[.val (.int p0), .val (.int p1), .val (.int p2), .val (.int p3), .val (.int p4), .val (.int p5), .val (.int n_), .val (.int sl_), .val (.int o0), .val (.int o1), .val (.int o2), .val (.int o3), .unset, .unset, .unset, .unset, .unset] [(.int (0 : Int32)), (.ref b199), (.ref b199)])) _
      refine X199.ldc2Long hx hown (mvT hZ (hw _ (List.mem_of_getElem? (i := 2) rfl))) (g := (mkF m 49 #[.val (.int p0), .val (.int p1), .val (.int p2), .val (.int p3), .val (.int p4), .val (.int p5), .val (.int n_), .val (.int sl_), .val (.int o0), .val (.int o1), .val (.int o2), .val (.int o3), .unset, .unset, .unset, .unset, .unset] [(.int (0 : Int32)), (.ref b199), (.ref b199)])) rfl (hb hby at_49) _ ?_
      show Steps p.tables e below (T199.setTop (mkF m 52 #[.val (.int p0), .val (.int p1), .val (.int p2), .val (.int p3), .val (.int p4), .val (.int p5), .val (.int n_), .val (.int sl_), .val (.int o0), .val (.int o1), .val (.int o2), .val (.int o3), .unset, .unset, .unset, .unset, .unset] [(.long (10 : Int64)), (.int (0 : Int32)), (.ref b199), (.ref b199)])) _
      refine st201 _ ?_
      show Steps p.tables e below (T201.setTop (mkF m 53 #[.val (.int p0), .val (.int p1), .val (.int p2), .val (.int p3), .val (.int p4), .val (.int p5), .val (.int n_), .val (.int sl_), .val (.int o0), .val (.int o1), .val (.int o2), .val (.int o3), .unset, .unset, .unset, .unset, .unset] [(.ref b199)])) _
      refine XS.astore X201.here hx rfl (hb hby at_53) rfl rfl (l' := #[.val (.int p0), .val (.int p1), .val (.int p2), .val (.int p3), .val (.int p4), .val (.int p5), .val (.int n_), .val (.int sl_), .val (.int o0), .val (.int o1), .val (.int o2), .val (.int o3), .val (.ref b199), .unset, .unset, .unset, .unset]) rfl ?_
      show Steps p.tables e below (T201.setTop (mkF m 55 #[.val (.int p0), .val (.int p1), .val (.int p2), .val (.int p3), .val (.int p4), .val (.int p5), .val (.int n_), .val (.int sl_), .val (.int o0), .val (.int o1), .val (.int o2), .val (.int o3), .val (.ref b199), .unset, .unset, .unset, .unset] [])) _
      refine XS.iconst X201.here hx rfl (hb hby at_55) ?_
      show Steps p.tables e below (T201.setTop (mkF m 56 #[.val (.int p0), .val (.int p1), .val (.int p2), .val (.int p3), .val (.int p4), .val (.int p5), .val (.int n_), .val (.int sl_), .val (.int o0), .val (.int o1), .val (.int o2), .val (.int o3), .val (.ref b199), .unset, .unset, .unset, .unset] [(.int (1 : Int32))])) _
      refine st202 _ ?_
      show Steps p.tables e below (T202.setTop (mkF m 58 #[.val (.int p0), .val (.int p1), .val (.int p2), .val (.int p3), .val (.int p4), .val (.int p5), .val (.int n_), .val (.int sl_), .val (.int o0), .val (.int o1), .val (.int o2), .val (.int o3), .val (.ref b199), .unset, .unset, .unset, .unset] [(.ref b202)])) _
      refine XS.dup X202.here hx rfl (hb hby at_58) rfl rfl ?_
      show Steps p.tables e below (T202.setTop (mkF m 59 #[.val (.int p0), .val (.int p1), .val (.int p2), .val (.int p3), .val (.int p4), .val (.int p5), .val (.int n_), .val (.int sl_), .val (.int o0), .val (.int o1), .val (.int o2), .val (.int o3), .val (.ref b199), .unset, .unset, .unset, .unset] [(.ref b202), (.ref b202)])) _
      refine XS.iconst X202.here hx rfl (hb hby at_59) ?_
      show Steps p.tables e below (T202.setTop (mkF m 60 #[.val (.int p0), .val (.int p1), .val (.int p2), .val (.int p3), .val (.int p4), .val (.int p5), .val (.int n_), .val (.int sl_), .val (.int o0), .val (.int o1), .val (.int o2), .val (.int o3), .val (.ref b199), .unset, .unset, .unset, .unset] [(.int (0 : Int32)), (.ref b202), (.ref b202)])) _
      refine XS.iload X202.here hx rfl (hb hby at_60) rfl ?_
      show Steps p.tables e below (T202.setTop (mkF m 62 #[.val (.int p0), .val (.int p1), .val (.int p2), .val (.int p3), .val (.int p4), .val (.int p5), .val (.int n_), .val (.int sl_), .val (.int o0), .val (.int o1), .val (.int o2), .val (.int o3), .val (.ref b199), .unset, .unset, .unset, .unset] [(.int o0), (.int (0 : Int32)), (.ref b202), (.ref b202)])) _
      refine st205 _ ?_
      show Steps p.tables e below (T205.setTop (mkF m 63 #[.val (.int p0), .val (.int p1), .val (.int p2), .val (.int p3), .val (.int p4), .val (.int p5), .val (.int n_), .val (.int sl_), .val (.int o0), .val (.int o1), .val (.int o2), .val (.int o3), .val (.ref b199), .unset, .unset, .unset, .unset] [(.ref b202)])) _
      refine XS.astore X205.here hx rfl (hb hby at_63) rfl rfl (l' := #[.val (.int p0), .val (.int p1), .val (.int p2), .val (.int p3), .val (.int p4), .val (.int p5), .val (.int n_), .val (.int sl_), .val (.int o0), .val (.int o1), .val (.int o2), .val (.int o3), .val (.ref b199), .val (.ref b202), .unset, .unset, .unset]) rfl ?_
      show Steps p.tables e below (T205.setTop (mkF m 65 #[.val (.int p0), .val (.int p1), .val (.int p2), .val (.int p3), .val (.int p4), .val (.int p5), .val (.int n_), .val (.int sl_), .val (.int o0), .val (.int o1), .val (.int o2), .val (.int o3), .val (.ref b199), .val (.ref b202), .unset, .unset, .unset] [])) _
      refine XS.goto X205.here hx rfl (pc0 := 65) (pc' := 215) rfl (hb hby at_65) (by decide) (by decide) ?_
      show Steps p.tables e below (T205.setTop (mkF m 215 #[.val (.int p0), .val (.int p1), .val (.int p2), .val (.int p3), .val (.int p4), .val (.int p5), .val (.int n_), .val (.int sl_), .val (.int o0), .val (.int o1), .val (.int o2), .val (.int o3), .val (.ref b199), .val (.ref b202), .unset, .unset, .unset] [])) _
      refine st207 _ ?_
      show Steps p.tables e below (T207.setTop (mkF m 218 #[.val (.int p0), .val (.int p1), .val (.int p2), .val (.int p3), .val (.int p4), .val (.int p5), .val (.int n_), .val (.int sl_), .val (.int o0), .val (.int o1), .val (.int o2), .val (.int o3), .val (.ref b199), .val (.ref b202), .unset, .unset, .unset] [(.ref b207)])) _
      refine XS.dup X207.here hx rfl (hb hby at_218) rfl rfl ?_
      show Steps p.tables e below (T207.setTop (mkF m 219 #[.val (.int p0), .val (.int p1), .val (.int p2), .val (.int p3), .val (.int p4), .val (.int p5), .val (.int n_), .val (.int sl_), .val (.int o0), .val (.int o1), .val (.int o2), .val (.int o3), .val (.ref b199), .val (.ref b202), .unset, .unset, .unset] [(.ref b207), (.ref b207)])) _
      refine XS.aconstNull X207.here hx rfl (hb hby at_219) ?_
      show Steps p.tables e below (T207.setTop (mkF m 220 #[.val (.int p0), .val (.int p1), .val (.int p2), .val (.int p3), .val (.int p4), .val (.int p5), .val (.int n_), .val (.int sl_), .val (.int o0), .val (.int o1), .val (.int o2), .val (.int o3), .val (.ref b199), .val (.ref b202), .unset, .unset, .unset] [.null, (.ref b207), (.ref b207)])) _
      refine XS.aconstNull X207.here hx rfl (hb hby at_220) ?_
      show Steps p.tables e below (T207.setTop (mkF m 221 #[.val (.int p0), .val (.int p1), .val (.int p2), .val (.int p3), .val (.int p4), .val (.int p5), .val (.int n_), .val (.int sl_), .val (.int o0), .val (.int o1), .val (.int o2), .val (.int o3), .val (.ref b199), .val (.ref b202), .unset, .unset, .unset] [.null, .null, (.ref b207), (.ref b207)])) _
      refine XS.iconst X207.here hx rfl (hb hby at_221) ?_
      show Steps p.tables e below (T207.setTop (mkF m 222 #[.val (.int p0), .val (.int p1), .val (.int p2), .val (.int p3), .val (.int p4), .val (.int p5), .val (.int n_), .val (.int sl_), .val (.int o0), .val (.int o1), .val (.int o2), .val (.int o3), .val (.ref b199), .val (.ref b202), .unset, .unset, .unset] [(.int (0 : Int32)), .null, .null, (.ref b207), (.ref b207)])) _
      refine XS.aload X207.here hx rfl (hb hby at_222) rfl rfl ?_
      show Steps p.tables e below (T207.setTop (mkF m 224 #[.val (.int p0), .val (.int p1), .val (.int p2), .val (.int p3), .val (.int p4), .val (.int p5), .val (.int n_), .val (.int sl_), .val (.int o0), .val (.int o1), .val (.int o2), .val (.int o3), .val (.ref b199), .val (.ref b202), .unset, .unset, .unset] [(.ref b199), (.int (0 : Int32)), .null, .null, (.ref b207), (.ref b207)])) _
      refine XS.aload X207.here hx rfl (hb hby at_224) rfl rfl ?_
      show Steps p.tables e below (T207.setTop (mkF m 226 #[.val (.int p0), .val (.int p1), .val (.int p2), .val (.int p3), .val (.int p4), .val (.int p5), .val (.int n_), .val (.int sl_), .val (.int o0), .val (.int o1), .val (.int o2), .val (.int o3), .val (.ref b199), .val (.ref b202), .unset, .unset, .unset] [(.ref b202), (.ref b199), (.int (0 : Int32)), .null, .null, (.ref b207), (.ref b207)])) _
      refine st210.trans ?_
      show Steps p.tables e below (T210.setTop (mkF m 229 #[.val (.int p0), .val (.int p1), .val (.int p2), .val (.int p3), .val (.int p4), .val (.int p5), .val (.int n_), .val (.int sl_), .val (.int o0), .val (.int o1), .val (.int o2), .val (.int o3), .val (.ref b199), .val (.ref b202), .unset, .unset, .unset] [(.ref b207)])) _
      refine XS.astore X210.here hx rfl (hb hby at_229) rfl rfl (l' := #[.val (.int p0), .val (.int p1), .val (.int p2), .val (.int p3), .val (.int p4), .val (.int p5), .val (.int n_), .val (.int sl_), .val (.int o0), .val (.int o1), .val (.int o2), .val (.int o3), .val (.ref b199), .val (.ref b202), .val (.ref b207), .unset, .unset]) rfl ?_
      show Steps p.tables e below (T210.setTop (mkF m 231 #[.val (.int p0), .val (.int p1), .val (.int p2), .val (.int p3), .val (.int p4), .val (.int p5), .val (.int n_), .val (.int sl_), .val (.int o0), .val (.int o1), .val (.int o2), .val (.int o3), .val (.ref b199), .val (.ref b202), .val (.ref b207), .unset, .unset] [])) _
      refine XS.iload X210.here hx rfl (hb hby at_231) rfl ?_
      show Steps p.tables e below (T210.setTop (mkF m 233 #[.val (.int p0), .val (.int p1), .val (.int p2), .val (.int p3), .val (.int p4), .val (.int p5), .val (.int n_), .val (.int sl_), .val (.int o0), .val (.int o1), .val (.int o2), .val (.int o3), .val (.ref b199), .val (.ref b202), .val (.ref b207), .unset, .unset] [(.int sl_)])) _
      refine XS.iconst X210.here hx rfl (hb hby at_233) ?_
      show Steps p.tables e below (T210.setTop (mkF m 234 #[.val (.int p0), .val (.int p1), .val (.int p2), .val (.int p3), .val (.int p4), .val (.int p5), .val (.int n_), .val (.int sl_), .val (.int o0), .val (.int o1), .val (.int o2), .val (.int o3), .val (.ref b199), .val (.ref b202), .val (.ref b207), .unset, .unset] [(.int (1 : Int32)), (.int sl_)])) _
      refine XS.iadd X210.here hx rfl (hb hby at_234) rfl ?_
      show Steps p.tables e below (T210.setTop (mkF m 235 #[.val (.int p0), .val (.int p1), .val (.int p2), .val (.int p3), .val (.int p4), .val (.int p5), .val (.int n_), .val (.int sl_), .val (.int o0), .val (.int o1), .val (.int o2), .val (.int o3), .val (.ref b199), .val (.ref b202), .val (.ref b207), .unset, .unset] [(.int (sl_ + (1 : Int32)))])) _
      refine XS.iload X210.here hx rfl (hb hby at_235) rfl ?_
      exact kk
    obtain ⟨iv216, hj_iv216⟩ : ∃ z : Int32, z = (if (sl_ + (1 : Int32)) = n_ then (0 : Int32) else (sl_ + (1 : Int32))) := ⟨_, rfl⟩
    have pre217 : ∀ t, Steps p.tables e below (T210.setTop (mkF m 248 #[.val (.int p0), .val (.int p1), .val (.int p2), .val (.int p3), .val (.int p4), .val (.int p5), .val (.int n_), .val (.int sl_), .val (.int o0), .val (.int o1), .val (.int o2), .val (.int o3), .val (.ref b199), .val (.ref b202), .val (.ref b207), .unset, .unset] [(.int iv216)])) t → Steps p.tables e below (s₁.setTop (entryFrame m #[(.int p0), (.int p1), (.int p2), (.int p3), (.int p4), (.int p5)] maxLocals)) t := by
      intro t kk
      by_cases hc237_214 : (sl_ + (1 : Int32)) = n_
      · rw [show iv216 = (0 : Int32) by rw [hj_iv216]; simp only [if_pos hc237_214]] at kk
        refine pre215 t ?_
        show Steps p.tables e below (T210.setTop (mkF m 237 #[.val (.int p0), .val (.int p1), .val (.int p2), .val (.int p3), .val (.int p4), .val (.int p5), .val (.int n_), .val (.int sl_), .val (.int o0), .val (.int o1), .val (.int o2), .val (.int o3), .val (.ref b199), .val (.ref b202), .val (.ref b207), .unset, .unset] [(.int n_), (.int (sl_ + (1 : Int32)))])) _
        refine XS.icmpNo X210.here hx rfl (hb hby at_237) rfl (teq hc237_214).2 ?_
        show Steps p.tables e below (T210.setTop (mkF m 240 #[.val (.int p0), .val (.int p1), .val (.int p2), .val (.int p3), .val (.int p4), .val (.int p5), .val (.int n_), .val (.int sl_), .val (.int o0), .val (.int o1), .val (.int o2), .val (.int o3), .val (.ref b199), .val (.ref b202), .val (.ref b207), .unset, .unset] [])) _
        refine XS.iconst X210.here hx rfl (hb hby at_240) ?_
        show Steps p.tables e below (T210.setTop (mkF m 241 #[.val (.int p0), .val (.int p1), .val (.int p2), .val (.int p3), .val (.int p4), .val (.int p5), .val (.int n_), .val (.int sl_), .val (.int o0), .val (.int o1), .val (.int o2), .val (.int o3), .val (.ref b199), .val (.ref b202), .val (.ref b207), .unset, .unset] [(.int (0 : Int32))])) _
        refine XS.goto X210.here hx rfl (pc0 := 241) (pc' := 248) rfl (hb hby at_241) (by decide) (by decide) ?_
        exact kk
      · rw [show iv216 = (sl_ + (1 : Int32)) by rw [hj_iv216]; simp only [if_neg hc237_214]] at kk
        refine pre215 t ?_
        show Steps p.tables e below (T210.setTop (mkF m 237 #[.val (.int p0), .val (.int p1), .val (.int p2), .val (.int p3), .val (.int p4), .val (.int p5), .val (.int n_), .val (.int sl_), .val (.int o0), .val (.int o1), .val (.int o2), .val (.int o3), .val (.ref b199), .val (.ref b202), .val (.ref b207), .unset, .unset] [(.int n_), (.int (sl_ + (1 : Int32)))])) _
        refine XS.icmpYes X210.here hx rfl (pc0 := 237) (pc' := 244) rfl (hb hby at_237) rfl (feq hc237_214).2 (by decide) (by decide) ?_
        show Steps p.tables e below (T210.setTop (mkF m 244 #[.val (.int p0), .val (.int p1), .val (.int p2), .val (.int p3), .val (.int p4), .val (.int p5), .val (.int n_), .val (.int sl_), .val (.int o0), .val (.int o1), .val (.int o2), .val (.int o3), .val (.ref b199), .val (.ref b202), .val (.ref b207), .unset, .unset] [])) _
        refine XS.iload X210.here hx rfl (hb hby at_244) rfl ?_
        show Steps p.tables e below (T210.setTop (mkF m 246 #[.val (.int p0), .val (.int p1), .val (.int p2), .val (.int p3), .val (.int p4), .val (.int p5), .val (.int n_), .val (.int sl_), .val (.int o0), .val (.int o1), .val (.int o2), .val (.int o3), .val (.ref b199), .val (.ref b202), .val (.ref b207), .unset, .unset] [(.int sl_)])) _
        refine XS.iconst X210.here hx rfl (hb hby at_246) ?_
        show Steps p.tables e below (T210.setTop (mkF m 247 #[.val (.int p0), .val (.int p1), .val (.int p2), .val (.int p3), .val (.int p4), .val (.int p5), .val (.int n_), .val (.int sl_), .val (.int o0), .val (.int o1), .val (.int o2), .val (.int o3), .val (.ref b199), .val (.ref b202), .val (.ref b207), .unset, .unset] [(.int (1 : Int32)), (.int sl_)])) _
        refine XS.iadd X210.here hx rfl (hb hby at_247) rfl ?_
        exact kk
    obtain ⟨_, _, ⟨T218, L218, k218, n218⟩, -, X218, ⟨Lc218, hQ218, l218, y218, z218⟩, st218⟩ := Jvm.LawKit.callS X210 hx (y := (⟨"com/example/clockwise/clockwise/RingIsFreePinLaw", "pick", "(IIIII)I"⟩ : MethodName)) hown (mvT hZ (hw _ (List.mem_of_getElem? (i := 54) rfl))) (mvT hZ (hw _ (List.mem_of_getElem? (i := 55) rfl))) (mvT hZ (hw _ (List.mem_of_getElem? (i := 56) rfl))) (mvT hZ (hw _ (List.mem_of_getElem? (i := 57) rfl))) (by decide) (backOf (W := 0) (rm8 l Z aA hw [] iv216 o0 o1 o2 o3  T210.heap n0 Z210 ) hZ (hw _ (List.mem_of_getElem? (i := 57) rfl)) (hw _ (List.mem_of_getElem? (i := 56) rfl)) (by decide) (by decide)) (g := (mkF m 260 #[.val (.int p0), .val (.int p1), .val (.int p2), .val (.int p3), .val (.int p4), .val (.int p5), .val (.int n_), .val (.int sl_), .val (.int o0), .val (.int o1), .val (.int o2), .val (.int o3), .val (.ref b199), .val (.ref b202), .val (.ref b207), .val (.int iv216), .unset] [(.int o3), (.int o2), (.int o1), (.int o0), (.int iv216)])) rfl (by rw [hml]; rfl) (argsL := [(.int iv216), (.int o0), (.int o1), (.int o2), (.int o3)]) (rest := []) (lenOf pd__28IIIII_29I rfl) rfl (by show 2 * 0 + _ ≤ _; exact Nat.le_of_eq rfl) (hb hby at_260) (fun _ _ => ⟨rfl, rfl, (by decide : 5 + 0 ≤ _), (by decide : 14 + 0 ≤ _)⟩)
    dsimp only [Pt.U, Pt.locs, Pt.cells, Pt.slots] at X218 l218 y218 z218 st218 hQ218
    subst l218 y218 z218
    obtain ⟨rfl, N218q, e218⟩ := hQ218
    have N218 := Fr.app N210 N218q
    obtain ⟨_, _, ⟨T219, L219, k219, n219⟩, -, X219, ⟨Lc219, hQ219, l219, y219, z219⟩, st219⟩ := Jvm.LawKit.callS X218 hx (y := (⟨"com/example/clockwise/clockwise/RingIsFreePinLaw", "pick", "(IIIII)I"⟩ : MethodName)) hown (mvT hZ (hw _ (List.mem_of_getElem? (i := 54) rfl))) (mvT hZ (hw _ (List.mem_of_getElem? (i := 55) rfl))) (mvT hZ (hw _ (List.mem_of_getElem? (i := 56) rfl))) (mvT hZ (hw _ (List.mem_of_getElem? (i := 57) rfl))) (by decide) (backOf (W := 1) (rm8 l Z aA hw [] sl_ o0 o1 o2 o3  T210.heap n0 Z210 ) hZ (hw _ (List.mem_of_getElem? (i := 57) rfl)) (hw _ (List.mem_of_getElem? (i := 56) rfl)) (by decide) (by decide)) (g := (mkF m 273 #[.val (.int p0), .val (.int p1), .val (.int p2), .val (.int p3), .val (.int p4), .val (.int p5), .val (.int n_), .val (.int sl_), .val (.int o0), .val (.int o1), .val (.int o2), .val (.int o3), .val (.ref b199), .val (.ref b202), .val (.ref b207), .val (.int iv216), .unset] [(.int o3), (.int o2), (.int o1), (.int o0), (.int sl_), (.int (F8 iv216 o0 o1 o2 o3))])) rfl (by rw [hml]; rfl) (argsL := [(.int sl_), (.int o0), (.int o1), (.int o2), (.int o3)]) (rest := [(.int (F8 iv216 o0 o1 o2 o3))]) (lenOf pd__28IIIII_29I rfl) rfl (by show 2 * 0 + _ ≤ _; exact Nat.le_of_eq rfl) (hb hby at_273) (fun _ _ => ⟨rfl, e218, (by decide : 5 + 0 ≤ _), (by decide : 14 + 0 ≤ _)⟩)
    dsimp only [Pt.U, Pt.locs, Pt.cells, Pt.slots] at X219 l219 y219 z219 st219 hQ219
    subst l219 y219 z219
    obtain ⟨rfl, N219q, e219⟩ := hQ219
    have N219 := Fr.app N218 N219q
    have pre221 : ∀ t, Steps p.tables e below (T219.setTop (mkF m 276 #[.val (.int p0), .val (.int p1), .val (.int p2), .val (.int p3), .val (.int p4), .val (.int p5), .val (.int n_), .val (.int sl_), .val (.int o0), .val (.int o1), .val (.int o2), .val (.int o3), .val (.ref b199), .val (.ref b202), .val (.ref b207), .val (.int iv216), .unset] [(.int (F8 sl_ o0 o1 o2 o3)), (.int (F8 iv216 o0 o1 o2 o3))])) t → Steps p.tables e below (s₁.setTop (entryFrame m #[(.int p0), (.int p1), (.int p2), (.int p3), (.int p4), (.int p5)] maxLocals)) t := by
      intro t kk
      refine pre217 t ?_
      show Steps p.tables e below (T210.setTop (mkF m 248 #[.val (.int p0), .val (.int p1), .val (.int p2), .val (.int p3), .val (.int p4), .val (.int p5), .val (.int n_), .val (.int sl_), .val (.int o0), .val (.int o1), .val (.int o2), .val (.int o3), .val (.ref b199), .val (.ref b202), .val (.ref b207), .unset, .unset] [(.int iv216)])) _
      refine XS.istore X210.here hx rfl (hb hby at_248) rfl (l' := #[.val (.int p0), .val (.int p1), .val (.int p2), .val (.int p3), .val (.int p4), .val (.int p5), .val (.int n_), .val (.int sl_), .val (.int o0), .val (.int o1), .val (.int o2), .val (.int o3), .val (.ref b199), .val (.ref b202), .val (.ref b207), .val (.int iv216), .unset]) rfl ?_
      show Steps p.tables e below (T210.setTop (mkF m 250 #[.val (.int p0), .val (.int p1), .val (.int p2), .val (.int p3), .val (.int p4), .val (.int p5), .val (.int n_), .val (.int sl_), .val (.int o0), .val (.int o1), .val (.int o2), .val (.int o3), .val (.ref b199), .val (.ref b202), .val (.ref b207), .val (.int iv216), .unset] [])) _
      refine XS.iload X210.here hx rfl (hb hby at_250) rfl ?_
      show Steps p.tables e below (T210.setTop (mkF m 252 #[.val (.int p0), .val (.int p1), .val (.int p2), .val (.int p3), .val (.int p4), .val (.int p5), .val (.int n_), .val (.int sl_), .val (.int o0), .val (.int o1), .val (.int o2), .val (.int o3), .val (.ref b199), .val (.ref b202), .val (.ref b207), .val (.int iv216), .unset] [(.int iv216)])) _
      refine XS.iload X210.here hx rfl (hb hby at_252) rfl ?_
      show Steps p.tables e below (T210.setTop (mkF m 254 #[.val (.int p0), .val (.int p1), .val (.int p2), .val (.int p3), .val (.int p4), .val (.int p5), .val (.int n_), .val (.int sl_), .val (.int o0), .val (.int o1), .val (.int o2), .val (.int o3), .val (.ref b199), .val (.ref b202), .val (.ref b207), .val (.int iv216), .unset] [(.int o0), (.int iv216)])) _
      refine XS.iload X210.here hx rfl (hb hby at_254) rfl ?_
      show Steps p.tables e below (T210.setTop (mkF m 256 #[.val (.int p0), .val (.int p1), .val (.int p2), .val (.int p3), .val (.int p4), .val (.int p5), .val (.int n_), .val (.int sl_), .val (.int o0), .val (.int o1), .val (.int o2), .val (.int o3), .val (.ref b199), .val (.ref b202), .val (.ref b207), .val (.int iv216), .unset] [(.int o1), (.int o0), (.int iv216)])) _
      refine XS.iload X210.here hx rfl (hb hby at_256) rfl ?_
      show Steps p.tables e below (T210.setTop (mkF m 258 #[.val (.int p0), .val (.int p1), .val (.int p2), .val (.int p3), .val (.int p4), .val (.int p5), .val (.int n_), .val (.int sl_), .val (.int o0), .val (.int o1), .val (.int o2), .val (.int o3), .val (.ref b199), .val (.ref b202), .val (.ref b207), .val (.int iv216), .unset] [(.int o2), (.int o1), (.int o0), (.int iv216)])) _
      refine XS.iload X210.here hx rfl (hb hby at_258) rfl ?_
      show Steps p.tables e below (T210.setTop (mkF m 260 #[.val (.int p0), .val (.int p1), .val (.int p2), .val (.int p3), .val (.int p4), .val (.int p5), .val (.int n_), .val (.int sl_), .val (.int o0), .val (.int o1), .val (.int o2), .val (.int o3), .val (.ref b199), .val (.ref b202), .val (.ref b207), .val (.int iv216), .unset] [(.int o3), (.int o2), (.int o1), (.int o0), (.int iv216)])) _
      refine st218 _ ?_
      show Steps p.tables e below (T218.setTop (mkF m 263 #[.val (.int p0), .val (.int p1), .val (.int p2), .val (.int p3), .val (.int p4), .val (.int p5), .val (.int n_), .val (.int sl_), .val (.int o0), .val (.int o1), .val (.int o2), .val (.int o3), .val (.ref b199), .val (.ref b202), .val (.ref b207), .val (.int iv216), .unset] [(.int (F8 iv216 o0 o1 o2 o3))])) _
      refine XS.iload X218.here hx rfl (hb hby at_263) rfl ?_
      show Steps p.tables e below (T218.setTop (mkF m 265 #[.val (.int p0), .val (.int p1), .val (.int p2), .val (.int p3), .val (.int p4), .val (.int p5), .val (.int n_), .val (.int sl_), .val (.int o0), .val (.int o1), .val (.int o2), .val (.int o3), .val (.ref b199), .val (.ref b202), .val (.ref b207), .val (.int iv216), .unset] [(.int sl_), (.int (F8 iv216 o0 o1 o2 o3))])) _
      refine XS.iload X218.here hx rfl (hb hby at_265) rfl ?_
      show Steps p.tables e below (T218.setTop (mkF m 267 #[.val (.int p0), .val (.int p1), .val (.int p2), .val (.int p3), .val (.int p4), .val (.int p5), .val (.int n_), .val (.int sl_), .val (.int o0), .val (.int o1), .val (.int o2), .val (.int o3), .val (.ref b199), .val (.ref b202), .val (.ref b207), .val (.int iv216), .unset] [(.int o0), (.int sl_), (.int (F8 iv216 o0 o1 o2 o3))])) _
      refine XS.iload X218.here hx rfl (hb hby at_267) rfl ?_
      show Steps p.tables e below (T218.setTop (mkF m 269 #[.val (.int p0), .val (.int p1), .val (.int p2), .val (.int p3), .val (.int p4), .val (.int p5), .val (.int n_), .val (.int sl_), .val (.int o0), .val (.int o1), .val (.int o2), .val (.int o3), .val (.ref b199), .val (.ref b202), .val (.ref b207), .val (.int iv216), .unset] [(.int o1), (.int o0), (.int sl_), (.int (F8 iv216 o0 o1 o2 o3))])) _
      refine XS.iload X218.here hx rfl (hb hby at_269) rfl ?_
      show Steps p.tables e below (T218.setTop (mkF m 271 #[.val (.int p0), .val (.int p1), .val (.int p2), .val (.int p3), .val (.int p4), .val (.int p5), .val (.int n_), .val (.int sl_), .val (.int o0), .val (.int o1), .val (.int o2), .val (.int o3), .val (.ref b199), .val (.ref b202), .val (.ref b207), .val (.int iv216), .unset] [(.int o2), (.int o1), (.int o0), (.int sl_), (.int (F8 iv216 o0 o1 o2 o3))])) _
      refine XS.iload X218.here hx rfl (hb hby at_271) rfl ?_
      show Steps p.tables e below (T218.setTop (mkF m 273 #[.val (.int p0), .val (.int p1), .val (.int p2), .val (.int p3), .val (.int p4), .val (.int p5), .val (.int n_), .val (.int sl_), .val (.int o0), .val (.int o1), .val (.int o2), .val (.int o3), .val (.ref b199), .val (.ref b202), .val (.ref b207), .val (.int iv216), .unset] [(.int o3), (.int o2), (.int o1), (.int o0), (.int sl_), (.int (F8 iv216 o0 o1 o2 o3))])) _
      refine st219 _ ?_
      exact kk
    obtain ⟨iv222, hj_iv222⟩ : ∃ z : Int32, z = (if (F8 iv216 o0 o1 o2 o3) = (F8 sl_ o0 o1 o2 o3) then (1 : Int32) else (0 : Int32)) := ⟨_, rfl⟩
    have pre223 : ∀ t, Steps p.tables e below (T219.setTop (mkF m 284 #[.val (.int p0), .val (.int p1), .val (.int p2), .val (.int p3), .val (.int p4), .val (.int p5), .val (.int n_), .val (.int sl_), .val (.int o0), .val (.int o1), .val (.int o2), .val (.int o3), .val (.ref b199), .val (.ref b202), .val (.ref b207), .val (.int iv216), .unset] [(.int iv222)])) t → Steps p.tables e below (s₁.setTop (entryFrame m #[(.int p0), (.int p1), (.int p2), (.int p3), (.int p4), (.int p5)] maxLocals)) t := by
      intro t kk
      by_cases hc276_220 : (F8 iv216 o0 o1 o2 o3) = (F8 sl_ o0 o1 o2 o3)
      · rw [show iv222 = (1 : Int32) by rw [hj_iv222]; simp only [if_pos hc276_220]] at kk
        refine pre221 t ?_
        show Steps p.tables e below (T219.setTop (mkF m 276 #[.val (.int p0), .val (.int p1), .val (.int p2), .val (.int p3), .val (.int p4), .val (.int p5), .val (.int n_), .val (.int sl_), .val (.int o0), .val (.int o1), .val (.int o2), .val (.int o3), .val (.ref b199), .val (.ref b202), .val (.ref b207), .val (.int iv216), .unset] [(.int (F8 sl_ o0 o1 o2 o3)), (.int (F8 iv216 o0 o1 o2 o3))])) _
        refine XS.icmpNo X219.here hx rfl (hb hby at_276) rfl (teq hc276_220).2 ?_
        show Steps p.tables e below (T219.setTop (mkF m 279 #[.val (.int p0), .val (.int p1), .val (.int p2), .val (.int p3), .val (.int p4), .val (.int p5), .val (.int n_), .val (.int sl_), .val (.int o0), .val (.int o1), .val (.int o2), .val (.int o3), .val (.ref b199), .val (.ref b202), .val (.ref b207), .val (.int iv216), .unset] [])) _
        refine XS.iconst X219.here hx rfl (hb hby at_279) ?_
        show Steps p.tables e below (T219.setTop (mkF m 280 #[.val (.int p0), .val (.int p1), .val (.int p2), .val (.int p3), .val (.int p4), .val (.int p5), .val (.int n_), .val (.int sl_), .val (.int o0), .val (.int o1), .val (.int o2), .val (.int o3), .val (.ref b199), .val (.ref b202), .val (.ref b207), .val (.int iv216), .unset] [(.int (1 : Int32))])) _
        refine XS.goto X219.here hx rfl (pc0 := 280) (pc' := 284) rfl (hb hby at_280) (by decide) (by decide) ?_
        exact kk
      · rw [show iv222 = (0 : Int32) by rw [hj_iv222]; simp only [if_neg hc276_220]] at kk
        refine pre221 t ?_
        show Steps p.tables e below (T219.setTop (mkF m 276 #[.val (.int p0), .val (.int p1), .val (.int p2), .val (.int p3), .val (.int p4), .val (.int p5), .val (.int n_), .val (.int sl_), .val (.int o0), .val (.int o1), .val (.int o2), .val (.int o3), .val (.ref b199), .val (.ref b202), .val (.ref b207), .val (.int iv216), .unset] [(.int (F8 sl_ o0 o1 o2 o3)), (.int (F8 iv216 o0 o1 o2 o3))])) _
        refine XS.icmpYes X219.here hx rfl (pc0 := 276) (pc' := 283) rfl (hb hby at_276) rfl (feq hc276_220).2 (by decide) (by decide) ?_
        show Steps p.tables e below (T219.setTop (mkF m 283 #[.val (.int p0), .val (.int p1), .val (.int p2), .val (.int p3), .val (.int p4), .val (.int p5), .val (.int n_), .val (.int sl_), .val (.int o0), .val (.int o1), .val (.int o2), .val (.int o3), .val (.ref b199), .val (.ref b202), .val (.ref b207), .val (.int iv216), .unset] [])) _
        refine XS.iconst X219.here hx rfl (hb hby at_283) ?_
        exact kk
    obtain ⟨cq224, kq224, q224a, q224b, q224c⟩ := isOf hZ e219 Eq210
    obtain ⟨_, _, ⟨T224, L224, k224, n224⟩, -, X224, ⟨Lc224, hQ224, l224, y224, z224⟩, st224⟩ := X219.virtualBack hx (y := (⟨"com/example/clockwise/clockwise/Ring", "isFree", "(I)Z"⟩ : MethodName)) (z := (⟨"com/example/clockwise/clockwise/Ring", "isFree", "(I)Z"⟩ : MethodName)) hown (mvT hZ (hw _ (List.mem_of_getElem? (i := 58) rfl))) (mvT hZ (hw _ (List.mem_of_getElem? (i := 59) rfl))) (notFace_of_selects (args := #[]) (mvT hZ (hw _ (List.mem_of_getElem? (i := 61) rfl)))) (mvT hZ (hw _ (List.mem_of_getElem? (i := 61) rfl))) (mvT hZ (hw _ (List.mem_of_getElem? (i := 60) rfl))) (by decide) (backOf (W := 0) (rm9 l Z aA hw [] b207 sl_ b202 k202 (1 : Int32) [o0] T210.heap n0 Z210 Fq210_owners V_b202_212 hs0 (hc41_197 ▸ hs1)) hZ (hw _ (List.mem_of_getElem? (i := 62) rfl)) (hw _ (List.mem_of_getElem? (i := 6) rfl)) (by decide) (by decide)) q224a q224c (g := (mkF m 290 #[.val (.int p0), .val (.int p1), .val (.int p2), .val (.int p3), .val (.int p4), .val (.int p5), .val (.int n_), .val (.int sl_), .val (.int o0), .val (.int o1), .val (.int o2), .val (.int o3), .val (.ref b199), .val (.ref b202), .val (.ref b207), .val (.int iv216), .val (.int iv222)] [(.int sl_), (.ref b207)])) rfl (by rw [hml]; rfl) (Steps.refl _) (argsL := [(.int sl_)]) (rest := []) (lenOf pd__28I_29Z rfl) rfl (by show 2 * 0 + _ ≤ _; exact Nat.le_of_eq rfl) (hb hby at_290) (fun _ _ => ⟨rfl, e219, (by decide : 5 + 0 ≤ _), (by decide : 14 + 0 ≤ _)⟩)
    dsimp only [Pt.U, Pt.locs, Pt.cells, Pt.slots] at X224 l224 y224 z224 st224 hQ224
    subst l224 y224 z224
    obtain ⟨rfl, N224q, e224⟩ := hQ224
    have N224 := Fr.app N219 N224q
    have pre225 : ∀ t, Steps p.tables e below (T224.setTop (mkF m 303 #[.val (.int p0), .val (.int p1), .val (.int p2), .val (.int p3), .val (.int p4), .val (.int p5), .val (.int n_), .val (.int sl_), .val (.int o0), .val (.int o1), .val (.int o2), .val (.int o3), .val (.ref b199), .val (.ref b202), .val (.ref b207), .val (.int iv216), .val (.int iv222)] [(.int (1 : Int32))])) t → Steps p.tables e below (s₁.setTop (entryFrame m #[(.int p0), (.int p1), (.int p2), (.int p3), (.int p4), (.int p5)] maxLocals)) t := by
      intro t kk
      refine pre223 t ?_
      show Steps p.tables e below (T219.setTop (mkF m 284 #[.val (.int p0), .val (.int p1), .val (.int p2), .val (.int p3), .val (.int p4), .val (.int p5), .val (.int n_), .val (.int sl_), .val (.int o0), .val (.int o1), .val (.int o2), .val (.int o3), .val (.ref b199), .val (.ref b202), .val (.ref b207), .val (.int iv216), .unset] [(.int iv222)])) _
      refine XS.istore X219.here hx rfl (hb hby at_284) rfl (l' := #[.val (.int p0), .val (.int p1), .val (.int p2), .val (.int p3), .val (.int p4), .val (.int p5), .val (.int n_), .val (.int sl_), .val (.int o0), .val (.int o1), .val (.int o2), .val (.int o3), .val (.ref b199), .val (.ref b202), .val (.ref b207), .val (.int iv216), .val (.int iv222)]) rfl ?_
      show Steps p.tables e below (T219.setTop (mkF m 286 #[.val (.int p0), .val (.int p1), .val (.int p2), .val (.int p3), .val (.int p4), .val (.int p5), .val (.int n_), .val (.int sl_), .val (.int o0), .val (.int o1), .val (.int o2), .val (.int o3), .val (.ref b199), .val (.ref b202), .val (.ref b207), .val (.int iv216), .val (.int iv222)] [])) _
      refine XS.aload X219.here hx rfl (hb hby at_286) rfl rfl ?_
      show Steps p.tables e below (T219.setTop (mkF m 288 #[.val (.int p0), .val (.int p1), .val (.int p2), .val (.int p3), .val (.int p4), .val (.int p5), .val (.int n_), .val (.int sl_), .val (.int o0), .val (.int o1), .val (.int o2), .val (.int o3), .val (.ref b199), .val (.ref b202), .val (.ref b207), .val (.int iv216), .val (.int iv222)] [(.ref b207)])) _
      refine XS.iload X219.here hx rfl (hb hby at_288) rfl ?_
      show Steps p.tables e below (T219.setTop (mkF m 290 #[.val (.int p0), .val (.int p1), .val (.int p2), .val (.int p3), .val (.int p4), .val (.int p5), .val (.int n_), .val (.int sl_), .val (.int o0), .val (.int o1), .val (.int o2), .val (.int o3), .val (.ref b199), .val (.ref b202), .val (.ref b207), .val (.int iv216), .val (.int iv222)] [(.int sl_), (.ref b207)])) _
      refine st224.trans ?_
      show Steps p.tables e below (T224.setTop (mkF m 293 #[.val (.int p0), .val (.int p1), .val (.int p2), .val (.int p3), .val (.int p4), .val (.int p5), .val (.int n_), .val (.int sl_), .val (.int o0), .val (.int o1), .val (.int o2), .val (.int o3), .val (.ref b199), .val (.ref b202), .val (.ref b207), .val (.int iv216), .val (.int iv222)] [(.int (F9 b207 sl_ b202 k202 (1 : Int32) [o0]))])) _
      refine XS.iload X224.here hx rfl (hb hby at_293) rfl ?_
      show Steps p.tables e below (T224.setTop (mkF m 295 #[.val (.int p0), .val (.int p1), .val (.int p2), .val (.int p3), .val (.int p4), .val (.int p5), .val (.int n_), .val (.int sl_), .val (.int o0), .val (.int o1), .val (.int o2), .val (.int o3), .val (.ref b199), .val (.ref b202), .val (.ref b207), .val (.int iv216), .val (.int iv222)] [(.int iv222), (.int (F9 b207 sl_ b202 k202 (1 : Int32) [o0]))])) _
      refine XS.icmpNo X224.here hx rfl (hb hby at_295) rfl (teq (by rw [hj_iv222, hj_iv216]; exact own_k1 _ _ _ n_ sl_ o0 o1 o2 o3 hc41_197 hs0 hs1)).2 ?_
      show Steps p.tables e below (T224.setTop (mkF m 298 #[.val (.int p0), .val (.int p1), .val (.int p2), .val (.int p3), .val (.int p4), .val (.int p5), .val (.int n_), .val (.int sl_), .val (.int o0), .val (.int o1), .val (.int o2), .val (.int o3), .val (.ref b199), .val (.ref b202), .val (.ref b207), .val (.int iv216), .val (.int iv222)] [])) _
      refine XS.iconst X224.here hx rfl (hb hby at_298) ?_
      show Steps p.tables e below (T224.setTop (mkF m 299 #[.val (.int p0), .val (.int p1), .val (.int p2), .val (.int p3), .val (.int p4), .val (.int p5), .val (.int n_), .val (.int sl_), .val (.int o0), .val (.int o1), .val (.int o2), .val (.int o3), .val (.ref b199), .val (.ref b202), .val (.ref b207), .val (.int iv216), .val (.int iv222)] [(.int (1 : Int32))])) _
      refine XS.goto X224.here hx rfl (pc0 := 299) (pc' := 303) rfl (hb hby at_299) (by decide) (by decide) ?_
      exact kk
    obtain ⟨fs, hr, hrun, hended, hW, hsame⟩ := X224.leave (v := some (.int (1 : Int32))) (fun h => by rw [Bd.returns] at h; cases h)
    refine ⟨_, _, pre225 _ ?_, hrun, hended, _, _, rfl, ?_, ⟨_, rfl⟩, hW, hsame.mono (by decide) (by decide)⟩
    · show Steps p.tables e below (T224.setTop (mkF m 303 #[.val (.int p0), .val (.int p1), .val (.int p2), .val (.int p3), .val (.int p4), .val (.int p5), .val (.int n_), .val (.int sl_), .val (.int o0), .val (.int o1), .val (.int o2), .val (.int o3), .val (.ref b199), .val (.ref b202), .val (.ref b207), .val (.int iv216), .val (.int iv222)] [(.int (1 : Int32))])) _
      exact retN X224 hx (t := .boolean) Bd.returns (by simp) (hb hby at_303) hr
    · show Q0 Z p0 p1 p2 p3 p4 p5 h0 n0 _ T224.heap _
      rw [e224]
      exact ⟨rfl, N224⟩
  · have pre227 : ∀ t, Steps p.tables e below (s₁.setTop (mkF m 71 #[.val (.int p0), .val (.int p1), .val (.int p2), .val (.int p3), .val (.int p4), .val (.int p5), .val (.int n_), .val (.int sl_), .val (.int o0), .val (.int o1), .val (.int o2), .val (.int o3), .unset, .unset, .unset, .unset, .unset] [(.int (2 : Int32)), (.int n_)])) t → Steps p.tables e below (s₁.setTop (entryFrame m #[(.int p0), (.int p1), (.int p2), (.int p3), (.int p4), (.int p5)] maxLocals)) t := by
      intro t kk
      refine pre198 t ?_
      show Steps p.tables e below (s₁.setTop (mkF m 41 #[.val (.int p0), .val (.int p1), .val (.int p2), .val (.int p3), .val (.int p4), .val (.int p5), .val (.int n_), .val (.int sl_), .val (.int o0), .val (.int o1), .val (.int o2), .val (.int o3), .unset, .unset, .unset, .unset, .unset] [(.int (1 : Int32)), (.int n_)])) _
      refine XS.icmpYes X0.here hx rfl (pc0 := 41) (pc' := 68) rfl (hb hby at_41) rfl (feq hc41_197).2 (by decide) (by decide) ?_
      show Steps p.tables e below (s₁.setTop (mkF m 68 #[.val (.int p0), .val (.int p1), .val (.int p2), .val (.int p3), .val (.int p4), .val (.int p5), .val (.int n_), .val (.int sl_), .val (.int o0), .val (.int o1), .val (.int o2), .val (.int o3), .unset, .unset, .unset, .unset, .unset] [])) _
      refine XS.iload X0.here hx rfl (hb hby at_68) rfl ?_
      show Steps p.tables e below (s₁.setTop (mkF m 70 #[.val (.int p0), .val (.int p1), .val (.int p2), .val (.int p3), .val (.int p4), .val (.int p5), .val (.int n_), .val (.int sl_), .val (.int o0), .val (.int o1), .val (.int o2), .val (.int o3), .unset, .unset, .unset, .unset, .unset] [(.int n_)])) _
      refine XS.iconst X0.here hx rfl (hb hby at_70) ?_
      exact kk
    by_cases hc71_226 : n_ = (2 : Int32)
    · obtain ⟨T228, h228, k228, X228, e228, E228, A228, st228⟩ := newP X0 hx hZ (hw _ (List.mem_of_getElem? (i := 1) rfl)) e0 (g := (mkF m 75 #[.val (.int p0), .val (.int p1), .val (.int p2), .val (.int p3), .val (.int p4), .val (.int p5), .val (.int n_), .val (.int sl_), .val (.int o0), .val (.int o1), .val (.int o2), .val (.int o3), .unset, .unset, .unset, .unset, .unset] [(.int (2 : Int32))])) rfl (hb hby at_75) rfl (by decide) (cap := 2) (by decide) (by decide) (by decide) (by decide)
      obtain ⟨b228, g228⟩ : ∃ z, z = h0.size := ⟨_, rfl⟩
      rw [← g228] at A228 st228
      have sz_b228 : h0.size ≤ b228 := Nat.le_trans KP0.1 (Nat.le_of_eq g228.symm)
      have g_b228 : n0 ≤ b228 := Nat.le_trans Z0 (Nat.le_of_eq g228.symm)
      have KP228 : Keep h0 h228 [] := KP0.ext E228
      have Z228 : n0 ≤ h228.size := Nat.le_trans Z0 E228.1
      have V_b228 : Arv Z h228 b228 k228 .long (2 : Int32) [(.long (0 : Int64)), (.long (0 : Int64))] (.long (0 : Int64)) := (Arv.new A228 (by decide)).pad (pad_rep [] (.long (0 : Int64)) 2)
      obtain ⟨cl229, Ar229, q229, S229, N229v, H229, G229⟩ := V_b228
      have hin229 : ¬ ((0 : Int32) < 0 ∨ cl229.slots.size ≤ ((0 : Int32)).toNatClampNeg) := inb_of S229 ⟨by decide, by decide⟩
      obtain ⟨T230, h230, X230, e230, W230, st230⟩ := stJ X228 hx hZ e228 Ar229 (j := (0 : Int32)) hin229 (g := (mkF m 82 #[.val (.int p0), .val (.int p1), .val (.int p2), .val (.int p3), .val (.int p4), .val (.int p5), .val (.int n_), .val (.int sl_), .val (.int o0), .val (.int o1), .val (.int o2), .val (.int o3), .unset, .unset, .unset, .unset, .unset] [(.long (10 : Int64)), (.int (0 : Int32)), (.ref b228), (.ref b228)])) rfl rfl (hb hby at_82)
      have Vw230 : Arv Z h230 b228 k228 .long (2 : Int32) [(.long (10 : Int64)), (.long (0 : Int64))] (.long (0 : Int64)) := Arv.set Ar229 q229 S229 N229v H229 G229 rfl W230 0 rfl (Nat.le_of_ble_eq_true rfl)
      have KP230 : Keep h0 h230 [] := KP228.wr W230 (Or.inr sz_b228)
      have Z230 : n0 ≤ h230.size := Nat.le_trans Z228 (Nat.le_of_eq W230.size.symm)
      have N230 := Fr.snoc X230 N0 g_b228
      obtain ⟨cl231, Ar231, q231, S231, N231v, H231, G231⟩ := Vw230
      have hin231 : ¬ ((1 : Int32) < 0 ∨ cl231.slots.size ≤ ((1 : Int32)).toNatClampNeg) := inb_of S231 ⟨by decide, by decide⟩
      obtain ⟨T232, h232, X232, e232, W232, st232⟩ := stJ X230 hx hZ e230 Ar231 (j := (1 : Int32)) hin231 (g := (mkF m 88 #[.val (.int p0), .val (.int p1), .val (.int p2), .val (.int p3), .val (.int p4), .val (.int p5), .val (.int n_), .val (.int sl_), .val (.int o0), .val (.int o1), .val (.int o2), .val (.int o3), .unset, .unset, .unset, .unset, .unset] [(.long (20 : Int64)), (.int (1 : Int32)), (.ref b228), (.ref b228)])) rfl rfl (hb hby at_88)
      have Vw232 : Arv Z h232 b228 k228 .long (2 : Int32) [(.long (10 : Int64)), (.long (20 : Int64))] (.long (0 : Int64)) := Arv.set Ar231 q231 S231 N231v H231 G231 rfl W232 1 rfl (Nat.le_of_ble_eq_true rfl)
      have KP232 : Keep h0 h232 [] := KP230.wr W232 (Or.inr sz_b228)
      have Z232 : n0 ≤ h232.size := Nat.le_trans Z230 (Nat.le_of_eq W232.size.symm)
      have N232 := Fr.snoc X232 N230 g_b228
      obtain ⟨T233, h233, k233, X233, e233, E233, A233, st233⟩ := newP X232 hx hZ (hw _ (List.mem_of_getElem? (i := 3) rfl)) e232 (g := (mkF m 92 #[.val (.int p0), .val (.int p1), .val (.int p2), .val (.int p3), .val (.int p4), .val (.int p5), .val (.int n_), .val (.int sl_), .val (.int o0), .val (.int o1), .val (.int o2), .val (.int o3), .val (.ref b228), .unset, .unset, .unset, .unset] [(.int (2 : Int32))])) rfl (hb hby at_92) rfl (by decide) (cap := 2) (by decide) (by decide) (by decide) (by decide)
      obtain ⟨b233, g233⟩ : ∃ z, z = h232.size := ⟨_, rfl⟩
      rw [← g233] at A233 st233
      have ne_b228_b233 : b228 ≠ b233 := Nat.ne_of_lt (Nat.lt_of_lt_of_le Vw232.lt (Nat.le_of_eq g233.symm))
      have sz_b233 : h0.size ≤ b233 := Nat.le_trans KP232.1 (Nat.le_of_eq g233.symm)
      have g_b233 : n0 ≤ b233 := Nat.le_trans Z232 (Nat.le_of_eq g233.symm)
      have KP233 : Keep h0 h233 [] := KP232.ext E233
      have Z233 : n0 ≤ h233.size := Nat.le_trans Z232 E233.1
      have V_b228_234 : Arv Z h233 b228 k228 .long (2 : Int32) [(.long (10 : Int64)), (.long (20 : Int64))] (.long (0 : Int64)) := Vw232.ext E233
      have V_b233 : Arv Z h233 b233 k233 .int (2 : Int32) [(.int (0 : Int32)), (.int (0 : Int32))] (.int (0 : Int32)) := (Arv.new A233 (by decide)).pad (pad_rep [] (.int (0 : Int32)) 2)
      obtain ⟨cl235, Ar235, q235, S235, N235v, H235, G235⟩ := V_b233
      have hin235 : ¬ ((0 : Int32) < 0 ∨ cl235.slots.size ≤ ((0 : Int32)).toNatClampNeg) := inb_of S235 ⟨by decide, by decide⟩
      obtain ⟨T236, h236, X236, e236, W236, st236⟩ := stI X233 hx hZ e233 Ar235 (j := (0 : Int32)) hin235 (g := (mkF m 98 #[.val (.int p0), .val (.int p1), .val (.int p2), .val (.int p3), .val (.int p4), .val (.int p5), .val (.int n_), .val (.int sl_), .val (.int o0), .val (.int o1), .val (.int o2), .val (.int o3), .val (.ref b228), .unset, .unset, .unset, .unset] [(.int o0), (.int (0 : Int32)), (.ref b233), (.ref b233)])) rfl rfl (hb hby at_98)
      have Vw236 : Arv Z h236 b233 k233 .int (2 : Int32) [(.int o0), (.int (0 : Int32))] (.int (0 : Int32)) := Arv.set Ar235 q235 S235 N235v H235 G235 rfl W236 0 rfl (Nat.le_of_ble_eq_true rfl)
      have KP236 : Keep h0 h236 [] := KP233.wr W236 (Or.inr sz_b233)
      have Z236 : n0 ≤ h236.size := Nat.le_trans Z233 (Nat.le_of_eq W236.size.symm)
      have N236 := Fr.snoc X236 N232 g_b233
      have V_b228_237 : Arv Z h236 b228 k228 .long (2 : Int32) [(.long (10 : Int64)), (.long (20 : Int64))] (.long (0 : Int64)) := V_b228_234.other W236 ne_b228_b233
      obtain ⟨cl238, Ar238, q238, S238, N238v, H238, G238⟩ := Vw236
      have hin238 : ¬ ((1 : Int32) < 0 ∨ cl238.slots.size ≤ ((1 : Int32)).toNatClampNeg) := inb_of S238 ⟨by decide, by decide⟩
      obtain ⟨T239, h239, X239, e239, W239, st239⟩ := stI X236 hx hZ e236 Ar238 (j := (1 : Int32)) hin238 (g := (mkF m 103 #[.val (.int p0), .val (.int p1), .val (.int p2), .val (.int p3), .val (.int p4), .val (.int p5), .val (.int n_), .val (.int sl_), .val (.int o0), .val (.int o1), .val (.int o2), .val (.int o3), .val (.ref b228), .unset, .unset, .unset, .unset] [(.int o1), (.int (1 : Int32)), (.ref b233), (.ref b233)])) rfl rfl (hb hby at_103)
      have Vw239 : Arv Z h239 b233 k233 .int (2 : Int32) [(.int o0), (.int o1)] (.int (0 : Int32)) := Arv.set Ar238 q238 S238 N238v H238 G238 rfl W239 1 rfl (Nat.le_of_ble_eq_true rfl)
      have KP239 : Keep h0 h239 [] := KP236.wr W239 (Or.inr sz_b233)
      have Z239 : n0 ≤ h239.size := Nat.le_trans Z236 (Nat.le_of_eq W239.size.symm)
      have N239 := Fr.snoc X239 N236 g_b233
      have V_b228_240 : Arv Z h239 b228 k228 .long (2 : Int32) [(.long (10 : Int64)), (.long (20 : Int64))] (.long (0 : Int64)) := V_b228_237.other W239 ne_b228_b233
      obtain ⟨T241, h241, X241, e241, E241, A241, D241, -, st241⟩ := newO X239 hx hZ hown (hw _ (List.mem_of_getElem? (i := 4) rfl)) (hw _ (List.mem_of_getElem? (i := 5) rfl)) (hw _ (List.mem_of_getElem? (i := 6) rfl)) e239 (g := (mkF m 215 #[.val (.int p0), .val (.int p1), .val (.int p2), .val (.int p3), .val (.int p4), .val (.int p5), .val (.int n_), .val (.int sl_), .val (.int o0), .val (.int o1), .val (.int o2), .val (.int o3), .val (.ref b228), .val (.ref b233), .unset, .unset, .unset] [])) rfl (hb hby at_215) (by decide) (by decide)
      obtain ⟨b241, g241⟩ : ∃ z, z = h239.size := ⟨_, rfl⟩
      rw [← g241] at A241 D241 st241
      have ne_b228_b241 : b228 ≠ b241 := Nat.ne_of_lt (Nat.lt_of_lt_of_le V_b228_240.lt (Nat.le_of_eq g241.symm))
      have ne_b233_b241 : b233 ≠ b241 := Nat.ne_of_lt (Nat.lt_of_lt_of_le Vw239.lt (Nat.le_of_eq g241.symm))
      have sz_b241 : h0.size ≤ b241 := Nat.le_trans KP239.1 (Nat.le_of_eq g241.symm)
      have g_b241 : n0 ≤ b241 := Nat.le_trans Z239 (Nat.le_of_eq g241.symm)
      have KP241 : Keep h0 h241 [] := KP239.ext E241
      have Z241 : n0 ≤ h241.size := Nat.le_trans Z239 E241.1
      have V_b228_242 : Arv Z h241 b228 k228 .long (2 : Int32) [(.long (10 : Int64)), (.long (20 : Int64))] (.long (0 : Int64)) := V_b228_240.ext E241
      have V_b233_243 : Arv Z h241 b233 k233 .int (2 : Int32) [(.int o0), (.int o1)] (.int (0 : Int32)) := Vw239.ext E241
      have F_placement_b241 : Fld Z h241 b241 "com/example/clockwise/clockwise/Ring" "placement" "Lcom/example/clockwise/clockwise/Placement;" .null := D241 (Or.inr (hw _ (List.mem_of_getElem? (i := 14) rfl))) (ty := (.object "com/example/clockwise/clockwise/Placement")) (by decide)
      have F_members_b241 : Fld Z h241 b241 "com/example/clockwise/clockwise/Ring" "members" "Lcom/example/clockwise/clockwise/Ring$Membership;" .null := D241 (Or.inr (hw _ (List.mem_of_getElem? (i := 16) rfl))) (ty := (.object "com/example/clockwise/clockwise/Ring$Membership")) (by decide)
      have F_vnodes_b241 : Fld Z h241 b241 "com/example/clockwise/clockwise/Ring" "vnodes" "I" (.int (0 : Int32)) := D241 (Or.inr (hw _ (List.mem_of_getElem? (i := 18) rfl))) (ty := .int) (by decide)
      have F_positions_b241 : Fld Z h241 b241 "com/example/clockwise/clockwise/Ring" "positions" "[J" .null := D241 (Or.inr (hw _ (List.mem_of_getElem? (i := 20) rfl))) (ty := (.array .long)) (by decide)
      have F_owners_b241 : Fld Z h241 b241 "com/example/clockwise/clockwise/Ring" "owners" "[I" .null := D241 (Or.inr (hw _ (List.mem_of_getElem? (i := 22) rfl))) (ty := (.array .int)) (by decide)
      have F_slotIndex_b241 : Fld Z h241 b241 "com/example/clockwise/clockwise/Ring" "slotIndex" "Lcom/example/clockwise/clockwise/SlotIndex;" .null := D241 (Or.inr (hw _ (List.mem_of_getElem? (i := 53) rfl))) (ty := (.object "com/example/clockwise/clockwise/SlotIndex")) (by decide)
      obtain ⟨_, _, ⟨T244, L244, k244, n244⟩, -, X244, ⟨Lc244, hQ244, l244, y244, z244⟩, st244⟩ := X241.specialBack hx (y := (⟨"com/example/clockwise/clockwise/Ring", "<init>", "(Lcom/example/clockwise/clockwise/Placement;Lcom/example/clockwise/clockwise/Ring$Membership;I[J[I)V"⟩ : MethodName)) rfl hown (mvT hZ (hw _ (List.mem_of_getElem? (i := 7) rfl))) (mvT hZ (hw _ (List.mem_of_getElem? (i := 8) rfl))) (mvT hZ (hw _ (List.mem_of_getElem? (i := 9) rfl))) (by decide) (backOf (W := 1) (rm1 l Z aA hw [] b241 (0 : Int32) b228 b233 k228 (2 : Int32) [(.long (10 : Int64)), (.long (20 : Int64))] (.long (0 : Int64)) h241 n0 Z241 A241 g_b241 (Ne.symm ne_b228_b241) V_b228_242 (by decide) (by decide) (by decide) F_placement_b241 F_members_b241 F_vnodes_b241 F_positions_b241 F_owners_b241 F_slotIndex_b241) hZ (hw _ (List.mem_of_getElem? (i := 9) rfl)) (hw _ (List.mem_of_getElem? (i := 6) rfl)) (by decide) (by decide)) (g := (mkF m 226 #[.val (.int p0), .val (.int p1), .val (.int p2), .val (.int p3), .val (.int p4), .val (.int p5), .val (.int n_), .val (.int sl_), .val (.int o0), .val (.int o1), .val (.int o2), .val (.int o3), .val (.ref b228), .val (.ref b233), .unset, .unset, .unset] [(.ref b233), (.ref b228), (.int (0 : Int32)), .null, .null, (.ref b241), (.ref b241)])) rfl (by rw [hml]; rfl) (Steps.refl _) (a := b241) (argsL := [.null, .null, (.int (0 : Int32)), (.ref b228), (.ref b233)]) (rest := [(.ref b241)]) (lenOf pd__28Lcom_2fexample_2fclockwise_2fclockwise_2fPlacement_3bLcom_2fexample_2fclockwise_2fclockwise_2fRing_24Membership_3bI_5bJ_5bI_29V rfl) rfl (by show 2 * 0 + _ ≤ _; exact Nat.le_of_eq rfl) (hb hby at_226) (fun _ _ => ⟨rfl, e241, (by decide : 3 + 2 ≤ _), (by decide : 10 + 6 ≤ _)⟩)
      dsimp only [Pt.U, Pt.locs, Pt.cells, Pt.slots] at X244 l244 y244 z244 st244 hQ244
      subst l244 y244 z244
      obtain ⟨rfl, N244q, K244, Eq244, Fq244_placement, Fq244_members, Fq244_vnodes, Fq244_positions, Fq244_owners⟩ := hQ244
      have N244 := Fr.app N239 N244q
      have KP244 : Keep h0 T244.heap [] := KP241.trans K244 (allS (Or.inr sz_b241) all0)
      have Z244 : n0 ≤ T244.heap.size := Nat.le_trans Z241 K244.1
      have V_b228_245 : Arv Z T244.heap b228 k228 .long (2 : Int32) [(.long (10 : Int64)), (.long (20 : Int64))] (.long (0 : Int64)) := V_b228_242.keep K244 (ninS ne_b228_b241 nin0)
      have V_b233_246 : Arv Z T244.heap b233 k233 .int (2 : Int32) [(.int o0), (.int o1)] (.int (0 : Int32)) := V_b233_243.keep K244 (ninS ne_b233_b241 nin0)
      have E_b241_247 : Exa Z T244.heap b241 "com/example/clockwise/clockwise/Ring" := A241.keep K244
      have pre249 : ∀ t, Steps p.tables e below (T244.setTop (mkF m 237 #[.val (.int p0), .val (.int p1), .val (.int p2), .val (.int p3), .val (.int p4), .val (.int p5), .val (.int n_), .val (.int sl_), .val (.int o0), .val (.int o1), .val (.int o2), .val (.int o3), .val (.ref b228), .val (.ref b233), .val (.ref b241), .unset, .unset] [(.int n_), (.int (sl_ + (1 : Int32)))])) t → Steps p.tables e below (s₁.setTop (entryFrame m #[(.int p0), (.int p1), (.int p2), (.int p3), (.int p4), (.int p5)] maxLocals)) t := by
        intro t kk
        refine pre227 t ?_
        show Steps p.tables e below (s₁.setTop (mkF m 71 #[.val (.int p0), .val (.int p1), .val (.int p2), .val (.int p3), .val (.int p4), .val (.int p5), .val (.int n_), .val (.int sl_), .val (.int o0), .val (.int o1), .val (.int o2), .val (.int o3), .unset, .unset, .unset, .unset, .unset] [(.int (2 : Int32)), (.int n_)])) _
        refine XS.icmpNo X0.here hx rfl (hb hby at_71) rfl (teq hc71_226).2 ?_
        show Steps p.tables e below (s₁.setTop (mkF m 74 #[.val (.int p0), .val (.int p1), .val (.int p2), .val (.int p3), .val (.int p4), .val (.int p5), .val (.int n_), .val (.int sl_), .val (.int o0), .val (.int o1), .val (.int o2), .val (.int o3), .unset, .unset, .unset, .unset, .unset] [])) _
        refine XS.iconst X0.here hx rfl (hb hby at_74) ?_
        show Steps p.tables e below (s₁.setTop (mkF m 75 #[.val (.int p0), .val (.int p1), .val (.int p2), .val (.int p3), .val (.int p4), .val (.int p5), .val (.int n_), .val (.int sl_), .val (.int o0), .val (.int o1), .val (.int o2), .val (.int o3), .unset, .unset, .unset, .unset, .unset] [(.int (2 : Int32))])) _
        refine st228 _ ?_
        show Steps p.tables e below (T228.setTop (mkF m 77 #[.val (.int p0), .val (.int p1), .val (.int p2), .val (.int p3), .val (.int p4), .val (.int p5), .val (.int n_), .val (.int sl_), .val (.int o0), .val (.int o1), .val (.int o2), .val (.int o3), .unset, .unset, .unset, .unset, .unset] [(.ref b228)])) _
        refine XS.dup X228.here hx rfl (hb hby at_77) rfl rfl ?_
        show Steps p.tables e below (T228.setTop (mkF m 78 #[.val (.int p0), .val (.int p1), .val (.int p2), .val (.int p3), .val (.int p4), .val (.int p5), .val (.int n_), .val (.int sl_), .val (.int o0), .val (.int o1), .val (.int o2), .val (.int o3), .unset, .unset, .unset, .unset, .unset] [(.ref b228), (.ref b228)])) _
        refine XS.iconst X228.here hx rfl (hb hby at_78) ?_
        show Steps p.tables e below (T228.setTop (mkF m 79 #[.val (.int p0), .val (.int p1), .val (.int p2), .val (.int p3), .val (.int p4), .val (.int p5), .val (.int n_), .val (.int sl_), .val (.int o0), .val (.int o1), .val (.int o2), .val (.int o3), .unset, .unset, .unset, .unset, .unset] [(.int (0 : Int32)), (.ref b228), (.ref b228)])) _
        refine X228.ldc2Long hx hown (mvT hZ (hw _ (List.mem_of_getElem? (i := 2) rfl))) (g := (mkF m 79 #[.val (.int p0), .val (.int p1), .val (.int p2), .val (.int p3), .val (.int p4), .val (.int p5), .val (.int n_), .val (.int sl_), .val (.int o0), .val (.int o1), .val (.int o2), .val (.int o3), .unset, .unset, .unset, .unset, .unset] [(.int (0 : Int32)), (.ref b228), (.ref b228)])) rfl (hb hby at_79) _ ?_
        show Steps p.tables e below (T228.setTop (mkF m 82 #[.val (.int p0), .val (.int p1), .val (.int p2), .val (.int p3), .val (.int p4), .val (.int p5), .val (.int n_), .val (.int sl_), .val (.int o0), .val (.int o1), .val (.int o2), .val (.int o3), .unset, .unset, .unset, .unset, .unset] [(.long (10 : Int64)), (.int (0 : Int32)), (.ref b228), (.ref b228)])) _
        refine st230 _ ?_
        show Steps p.tables e below (T230.setTop (mkF m 83 #[.val (.int p0), .val (.int p1), .val (.int p2), .val (.int p3), .val (.int p4), .val (.int p5), .val (.int n_), .val (.int sl_), .val (.int o0), .val (.int o1), .val (.int o2), .val (.int o3), .unset, .unset, .unset, .unset, .unset] [(.ref b228)])) _
        refine XS.dup X230.here hx rfl (hb hby at_83) rfl rfl ?_
        show Steps p.tables e below (T230.setTop (mkF m 84 #[.val (.int p0), .val (.int p1), .val (.int p2), .val (.int p3), .val (.int p4), .val (.int p5), .val (.int n_), .val (.int sl_), .val (.int o0), .val (.int o1), .val (.int o2), .val (.int o3), .unset, .unset, .unset, .unset, .unset] [(.ref b228), (.ref b228)])) _
        refine XS.iconst X230.here hx rfl (hb hby at_84) ?_
        show Steps p.tables e below (T230.setTop (mkF m 85 #[.val (.int p0), .val (.int p1), .val (.int p2), .val (.int p3), .val (.int p4), .val (.int p5), .val (.int n_), .val (.int sl_), .val (.int o0), .val (.int o1), .val (.int o2), .val (.int o3), .unset, .unset, .unset, .unset, .unset] [(.int (1 : Int32)), (.ref b228), (.ref b228)])) _
        refine X230.ldc2Long hx hown (mvT hZ (hw _ (List.mem_of_getElem? (i := 63) rfl))) (g := (mkF m 85 #[.val (.int p0), .val (.int p1), .val (.int p2), .val (.int p3), .val (.int p4), .val (.int p5), .val (.int n_), .val (.int sl_), .val (.int o0), .val (.int o1), .val (.int o2), .val (.int o3), .unset, .unset, .unset, .unset, .unset] [(.int (1 : Int32)), (.ref b228), (.ref b228)])) rfl (hb hby at_85) _ ?_
        show Steps p.tables e below (T230.setTop (mkF m 88 #[.val (.int p0), .val (.int p1), .val (.int p2), .val (.int p3), .val (.int p4), .val (.int p5), .val (.int n_), .val (.int sl_), .val (.int o0), .val (.int o1), .val (.int o2), .val (.int o3), .unset, .unset, .unset, .unset, .unset] [(.long (20 : Int64)), (.int (1 : Int32)), (.ref b228), (.ref b228)])) _
        refine st232 _ ?_
        show Steps p.tables e below (T232.setTop (mkF m 89 #[.val (.int p0), .val (.int p1), .val (.int p2), .val (.int p3), .val (.int p4), .val (.int p5), .val (.int n_), .val (.int sl_), .val (.int o0), .val (.int o1), .val (.int o2), .val (.int o3), .unset, .unset, .unset, .unset, .unset] [(.ref b228)])) _
        refine XS.astore X232.here hx rfl (hb hby at_89) rfl rfl (l' := #[.val (.int p0), .val (.int p1), .val (.int p2), .val (.int p3), .val (.int p4), .val (.int p5), .val (.int n_), .val (.int sl_), .val (.int o0), .val (.int o1), .val (.int o2), .val (.int o3), .val (.ref b228), .unset, .unset, .unset, .unset]) rfl ?_
        show Steps p.tables e below (T232.setTop (mkF m 91 #[.val (.int p0), .val (.int p1), .val (.int p2), .val (.int p3), .val (.int p4), .val (.int p5), .val (.int n_), .val (.int sl_), .val (.int o0), .val (.int o1), .val (.int o2), .val (.int o3), .val (.ref b228), .unset, .unset, .unset, .unset] [])) _
        refine XS.iconst X232.here hx rfl (hb hby at_91) ?_
        show Steps p.tables e below (T232.setTop (mkF m 92 #[.val (.int p0), .val (.int p1), .val (.int p2), .val (.int p3), .val (.int p4), .val (.int p5), .val (.int n_), .val (.int sl_), .val (.int o0), .val (.int o1), .val (.int o2), .val (.int o3), .val (.ref b228), .unset, .unset, .unset, .unset] [(.int (2 : Int32))])) _
        refine st233 _ ?_
        show Steps p.tables e below (T233.setTop (mkF m 94 #[.val (.int p0), .val (.int p1), .val (.int p2), .val (.int p3), .val (.int p4), .val (.int p5), .val (.int n_), .val (.int sl_), .val (.int o0), .val (.int o1), .val (.int o2), .val (.int o3), .val (.ref b228), .unset, .unset, .unset, .unset] [(.ref b233)])) _
        refine XS.dup X233.here hx rfl (hb hby at_94) rfl rfl ?_
        show Steps p.tables e below (T233.setTop (mkF m 95 #[.val (.int p0), .val (.int p1), .val (.int p2), .val (.int p3), .val (.int p4), .val (.int p5), .val (.int n_), .val (.int sl_), .val (.int o0), .val (.int o1), .val (.int o2), .val (.int o3), .val (.ref b228), .unset, .unset, .unset, .unset] [(.ref b233), (.ref b233)])) _
        refine XS.iconst X233.here hx rfl (hb hby at_95) ?_
        show Steps p.tables e below (T233.setTop (mkF m 96 #[.val (.int p0), .val (.int p1), .val (.int p2), .val (.int p3), .val (.int p4), .val (.int p5), .val (.int n_), .val (.int sl_), .val (.int o0), .val (.int o1), .val (.int o2), .val (.int o3), .val (.ref b228), .unset, .unset, .unset, .unset] [(.int (0 : Int32)), (.ref b233), (.ref b233)])) _
        refine XS.iload X233.here hx rfl (hb hby at_96) rfl ?_
        show Steps p.tables e below (T233.setTop (mkF m 98 #[.val (.int p0), .val (.int p1), .val (.int p2), .val (.int p3), .val (.int p4), .val (.int p5), .val (.int n_), .val (.int sl_), .val (.int o0), .val (.int o1), .val (.int o2), .val (.int o3), .val (.ref b228), .unset, .unset, .unset, .unset] [(.int o0), (.int (0 : Int32)), (.ref b233), (.ref b233)])) _
        refine st236 _ ?_
        show Steps p.tables e below (T236.setTop (mkF m 99 #[.val (.int p0), .val (.int p1), .val (.int p2), .val (.int p3), .val (.int p4), .val (.int p5), .val (.int n_), .val (.int sl_), .val (.int o0), .val (.int o1), .val (.int o2), .val (.int o3), .val (.ref b228), .unset, .unset, .unset, .unset] [(.ref b233)])) _
        refine XS.dup X236.here hx rfl (hb hby at_99) rfl rfl ?_
        show Steps p.tables e below (T236.setTop (mkF m 100 #[.val (.int p0), .val (.int p1), .val (.int p2), .val (.int p3), .val (.int p4), .val (.int p5), .val (.int n_), .val (.int sl_), .val (.int o0), .val (.int o1), .val (.int o2), .val (.int o3), .val (.ref b228), .unset, .unset, .unset, .unset] [(.ref b233), (.ref b233)])) _
        refine XS.iconst X236.here hx rfl (hb hby at_100) ?_
        show Steps p.tables e below (T236.setTop (mkF m 101 #[.val (.int p0), .val (.int p1), .val (.int p2), .val (.int p3), .val (.int p4), .val (.int p5), .val (.int n_), .val (.int sl_), .val (.int o0), .val (.int o1), .val (.int o2), .val (.int o3), .val (.ref b228), .unset, .unset, .unset, .unset] [(.int (1 : Int32)), (.ref b233), (.ref b233)])) _
        refine XS.iload X236.here hx rfl (hb hby at_101) rfl ?_
        show Steps p.tables e below (T236.setTop (mkF m 103 #[.val (.int p0), .val (.int p1), .val (.int p2), .val (.int p3), .val (.int p4), .val (.int p5), .val (.int n_), .val (.int sl_), .val (.int o0), .val (.int o1), .val (.int o2), .val (.int o3), .val (.ref b228), .unset, .unset, .unset, .unset] [(.int o1), (.int (1 : Int32)), (.ref b233), (.ref b233)])) _
        refine st239 _ ?_
        show Steps p.tables e below (T239.setTop (mkF m 104 #[.val (.int p0), .val (.int p1), .val (.int p2), .val (.int p3), .val (.int p4), .val (.int p5), .val (.int n_), .val (.int sl_), .val (.int o0), .val (.int o1), .val (.int o2), .val (.int o3), .val (.ref b228), .unset, .unset, .unset, .unset] [(.ref b233)])) _
        refine XS.astore X239.here hx rfl (hb hby at_104) rfl rfl (l' := #[.val (.int p0), .val (.int p1), .val (.int p2), .val (.int p3), .val (.int p4), .val (.int p5), .val (.int n_), .val (.int sl_), .val (.int o0), .val (.int o1), .val (.int o2), .val (.int o3), .val (.ref b228), .val (.ref b233), .unset, .unset, .unset]) rfl ?_
        show Steps p.tables e below (T239.setTop (mkF m 106 #[.val (.int p0), .val (.int p1), .val (.int p2), .val (.int p3), .val (.int p4), .val (.int p5), .val (.int n_), .val (.int sl_), .val (.int o0), .val (.int o1), .val (.int o2), .val (.int o3), .val (.ref b228), .val (.ref b233), .unset, .unset, .unset] [])) _
        refine XS.goto X239.here hx rfl (pc0 := 106) (pc' := 215) rfl (hb hby at_106) (by decide) (by decide) ?_
        show Steps p.tables e below (T239.setTop (mkF m 215 #[.val (.int p0), .val (.int p1), .val (.int p2), .val (.int p3), .val (.int p4), .val (.int p5), .val (.int n_), .val (.int sl_), .val (.int o0), .val (.int o1), .val (.int o2), .val (.int o3), .val (.ref b228), .val (.ref b233), .unset, .unset, .unset] [])) _
        refine st241 _ ?_
        show Steps p.tables e below (T241.setTop (mkF m 218 #[.val (.int p0), .val (.int p1), .val (.int p2), .val (.int p3), .val (.int p4), .val (.int p5), .val (.int n_), .val (.int sl_), .val (.int o0), .val (.int o1), .val (.int o2), .val (.int o3), .val (.ref b228), .val (.ref b233), .unset, .unset, .unset] [(.ref b241)])) _
        refine XS.dup X241.here hx rfl (hb hby at_218) rfl rfl ?_
        show Steps p.tables e below (T241.setTop (mkF m 219 #[.val (.int p0), .val (.int p1), .val (.int p2), .val (.int p3), .val (.int p4), .val (.int p5), .val (.int n_), .val (.int sl_), .val (.int o0), .val (.int o1), .val (.int o2), .val (.int o3), .val (.ref b228), .val (.ref b233), .unset, .unset, .unset] [(.ref b241), (.ref b241)])) _
        refine XS.aconstNull X241.here hx rfl (hb hby at_219) ?_
        show Steps p.tables e below (T241.setTop (mkF m 220 #[.val (.int p0), .val (.int p1), .val (.int p2), .val (.int p3), .val (.int p4), .val (.int p5), .val (.int n_), .val (.int sl_), .val (.int o0), .val (.int o1), .val (.int o2), .val (.int o3), .val (.ref b228), .val (.ref b233), .unset, .unset, .unset] [.null, (.ref b241), (.ref b241)])) _
        refine XS.aconstNull X241.here hx rfl (hb hby at_220) ?_
        show Steps p.tables e below (T241.setTop (mkF m 221 #[.val (.int p0), .val (.int p1), .val (.int p2), .val (.int p3), .val (.int p4), .val (.int p5), .val (.int n_), .val (.int sl_), .val (.int o0), .val (.int o1), .val (.int o2), .val (.int o3), .val (.ref b228), .val (.ref b233), .unset, .unset, .unset] [.null, .null, (.ref b241), (.ref b241)])) _
        refine XS.iconst X241.here hx rfl (hb hby at_221) ?_
        show Steps p.tables e below (T241.setTop (mkF m 222 #[.val (.int p0), .val (.int p1), .val (.int p2), .val (.int p3), .val (.int p4), .val (.int p5), .val (.int n_), .val (.int sl_), .val (.int o0), .val (.int o1), .val (.int o2), .val (.int o3), .val (.ref b228), .val (.ref b233), .unset, .unset, .unset] [(.int (0 : Int32)), .null, .null, (.ref b241), (.ref b241)])) _
        refine XS.aload X241.here hx rfl (hb hby at_222) rfl rfl ?_
        show Steps p.tables e below (T241.setTop (mkF m 224 #[.val (.int p0), .val (.int p1), .val (.int p2), .val (.int p3), .val (.int p4), .val (.int p5), .val (.int n_), .val (.int sl_), .val (.int o0), .val (.int o1), .val (.int o2), .val (.int o3), .val (.ref b228), .val (.ref b233), .unset, .unset, .unset] [(.ref b228), (.int (0 : Int32)), .null, .null, (.ref b241), (.ref b241)])) _
        refine XS.aload X241.here hx rfl (hb hby at_224) rfl rfl ?_
        show Steps p.tables e below (T241.setTop (mkF m 226 #[.val (.int p0), .val (.int p1), .val (.int p2), .val (.int p3), .val (.int p4), .val (.int p5), .val (.int n_), .val (.int sl_), .val (.int o0), .val (.int o1), .val (.int o2), .val (.int o3), .val (.ref b228), .val (.ref b233), .unset, .unset, .unset] [(.ref b233), (.ref b228), (.int (0 : Int32)), .null, .null, (.ref b241), (.ref b241)])) _
        refine st244.trans ?_
        show Steps p.tables e below (T244.setTop (mkF m 229 #[.val (.int p0), .val (.int p1), .val (.int p2), .val (.int p3), .val (.int p4), .val (.int p5), .val (.int n_), .val (.int sl_), .val (.int o0), .val (.int o1), .val (.int o2), .val (.int o3), .val (.ref b228), .val (.ref b233), .unset, .unset, .unset] [(.ref b241)])) _
        refine XS.astore X244.here hx rfl (hb hby at_229) rfl rfl (l' := #[.val (.int p0), .val (.int p1), .val (.int p2), .val (.int p3), .val (.int p4), .val (.int p5), .val (.int n_), .val (.int sl_), .val (.int o0), .val (.int o1), .val (.int o2), .val (.int o3), .val (.ref b228), .val (.ref b233), .val (.ref b241), .unset, .unset]) rfl ?_
        show Steps p.tables e below (T244.setTop (mkF m 231 #[.val (.int p0), .val (.int p1), .val (.int p2), .val (.int p3), .val (.int p4), .val (.int p5), .val (.int n_), .val (.int sl_), .val (.int o0), .val (.int o1), .val (.int o2), .val (.int o3), .val (.ref b228), .val (.ref b233), .val (.ref b241), .unset, .unset] [])) _
        refine XS.iload X244.here hx rfl (hb hby at_231) rfl ?_
        show Steps p.tables e below (T244.setTop (mkF m 233 #[.val (.int p0), .val (.int p1), .val (.int p2), .val (.int p3), .val (.int p4), .val (.int p5), .val (.int n_), .val (.int sl_), .val (.int o0), .val (.int o1), .val (.int o2), .val (.int o3), .val (.ref b228), .val (.ref b233), .val (.ref b241), .unset, .unset] [(.int sl_)])) _
        refine XS.iconst X244.here hx rfl (hb hby at_233) ?_
        show Steps p.tables e below (T244.setTop (mkF m 234 #[.val (.int p0), .val (.int p1), .val (.int p2), .val (.int p3), .val (.int p4), .val (.int p5), .val (.int n_), .val (.int sl_), .val (.int o0), .val (.int o1), .val (.int o2), .val (.int o3), .val (.ref b228), .val (.ref b233), .val (.ref b241), .unset, .unset] [(.int (1 : Int32)), (.int sl_)])) _
        refine XS.iadd X244.here hx rfl (hb hby at_234) rfl ?_
        show Steps p.tables e below (T244.setTop (mkF m 235 #[.val (.int p0), .val (.int p1), .val (.int p2), .val (.int p3), .val (.int p4), .val (.int p5), .val (.int n_), .val (.int sl_), .val (.int o0), .val (.int o1), .val (.int o2), .val (.int o3), .val (.ref b228), .val (.ref b233), .val (.ref b241), .unset, .unset] [(.int (sl_ + (1 : Int32)))])) _
        refine XS.iload X244.here hx rfl (hb hby at_235) rfl ?_
        exact kk
      obtain ⟨iv250, hj_iv250⟩ : ∃ z : Int32, z = (if (sl_ + (1 : Int32)) = n_ then (0 : Int32) else (sl_ + (1 : Int32))) := ⟨_, rfl⟩
      have pre251 : ∀ t, Steps p.tables e below (T244.setTop (mkF m 248 #[.val (.int p0), .val (.int p1), .val (.int p2), .val (.int p3), .val (.int p4), .val (.int p5), .val (.int n_), .val (.int sl_), .val (.int o0), .val (.int o1), .val (.int o2), .val (.int o3), .val (.ref b228), .val (.ref b233), .val (.ref b241), .unset, .unset] [(.int iv250)])) t → Steps p.tables e below (s₁.setTop (entryFrame m #[(.int p0), (.int p1), (.int p2), (.int p3), (.int p4), (.int p5)] maxLocals)) t := by
        intro t kk
        by_cases hc237_248 : (sl_ + (1 : Int32)) = n_
        · rw [show iv250 = (0 : Int32) by rw [hj_iv250]; simp only [if_pos hc237_248]] at kk
          refine pre249 t ?_
          show Steps p.tables e below (T244.setTop (mkF m 237 #[.val (.int p0), .val (.int p1), .val (.int p2), .val (.int p3), .val (.int p4), .val (.int p5), .val (.int n_), .val (.int sl_), .val (.int o0), .val (.int o1), .val (.int o2), .val (.int o3), .val (.ref b228), .val (.ref b233), .val (.ref b241), .unset, .unset] [(.int n_), (.int (sl_ + (1 : Int32)))])) _
          refine XS.icmpNo X244.here hx rfl (hb hby at_237) rfl (teq hc237_248).2 ?_
          show Steps p.tables e below (T244.setTop (mkF m 240 #[.val (.int p0), .val (.int p1), .val (.int p2), .val (.int p3), .val (.int p4), .val (.int p5), .val (.int n_), .val (.int sl_), .val (.int o0), .val (.int o1), .val (.int o2), .val (.int o3), .val (.ref b228), .val (.ref b233), .val (.ref b241), .unset, .unset] [])) _
          refine XS.iconst X244.here hx rfl (hb hby at_240) ?_
          show Steps p.tables e below (T244.setTop (mkF m 241 #[.val (.int p0), .val (.int p1), .val (.int p2), .val (.int p3), .val (.int p4), .val (.int p5), .val (.int n_), .val (.int sl_), .val (.int o0), .val (.int o1), .val (.int o2), .val (.int o3), .val (.ref b228), .val (.ref b233), .val (.ref b241), .unset, .unset] [(.int (0 : Int32))])) _
          refine XS.goto X244.here hx rfl (pc0 := 241) (pc' := 248) rfl (hb hby at_241) (by decide) (by decide) ?_
          exact kk
        · rw [show iv250 = (sl_ + (1 : Int32)) by rw [hj_iv250]; simp only [if_neg hc237_248]] at kk
          refine pre249 t ?_
          show Steps p.tables e below (T244.setTop (mkF m 237 #[.val (.int p0), .val (.int p1), .val (.int p2), .val (.int p3), .val (.int p4), .val (.int p5), .val (.int n_), .val (.int sl_), .val (.int o0), .val (.int o1), .val (.int o2), .val (.int o3), .val (.ref b228), .val (.ref b233), .val (.ref b241), .unset, .unset] [(.int n_), (.int (sl_ + (1 : Int32)))])) _
          refine XS.icmpYes X244.here hx rfl (pc0 := 237) (pc' := 244) rfl (hb hby at_237) rfl (feq hc237_248).2 (by decide) (by decide) ?_
          show Steps p.tables e below (T244.setTop (mkF m 244 #[.val (.int p0), .val (.int p1), .val (.int p2), .val (.int p3), .val (.int p4), .val (.int p5), .val (.int n_), .val (.int sl_), .val (.int o0), .val (.int o1), .val (.int o2), .val (.int o3), .val (.ref b228), .val (.ref b233), .val (.ref b241), .unset, .unset] [])) _
          refine XS.iload X244.here hx rfl (hb hby at_244) rfl ?_
          show Steps p.tables e below (T244.setTop (mkF m 246 #[.val (.int p0), .val (.int p1), .val (.int p2), .val (.int p3), .val (.int p4), .val (.int p5), .val (.int n_), .val (.int sl_), .val (.int o0), .val (.int o1), .val (.int o2), .val (.int o3), .val (.ref b228), .val (.ref b233), .val (.ref b241), .unset, .unset] [(.int sl_)])) _
          refine XS.iconst X244.here hx rfl (hb hby at_246) ?_
          show Steps p.tables e below (T244.setTop (mkF m 247 #[.val (.int p0), .val (.int p1), .val (.int p2), .val (.int p3), .val (.int p4), .val (.int p5), .val (.int n_), .val (.int sl_), .val (.int o0), .val (.int o1), .val (.int o2), .val (.int o3), .val (.ref b228), .val (.ref b233), .val (.ref b241), .unset, .unset] [(.int (1 : Int32)), (.int sl_)])) _
          refine XS.iadd X244.here hx rfl (hb hby at_247) rfl ?_
          exact kk
      obtain ⟨_, _, ⟨T252, L252, k252, n252⟩, -, X252, ⟨Lc252, hQ252, l252, y252, z252⟩, st252⟩ := Jvm.LawKit.callS X244 hx (y := (⟨"com/example/clockwise/clockwise/RingIsFreePinLaw", "pick", "(IIIII)I"⟩ : MethodName)) hown (mvT hZ (hw _ (List.mem_of_getElem? (i := 54) rfl))) (mvT hZ (hw _ (List.mem_of_getElem? (i := 55) rfl))) (mvT hZ (hw _ (List.mem_of_getElem? (i := 56) rfl))) (mvT hZ (hw _ (List.mem_of_getElem? (i := 57) rfl))) (by decide) (backOf (W := 0) (rm8 l Z aA hw [] iv250 o0 o1 o2 o3  T244.heap n0 Z244 ) hZ (hw _ (List.mem_of_getElem? (i := 57) rfl)) (hw _ (List.mem_of_getElem? (i := 56) rfl)) (by decide) (by decide)) (g := (mkF m 260 #[.val (.int p0), .val (.int p1), .val (.int p2), .val (.int p3), .val (.int p4), .val (.int p5), .val (.int n_), .val (.int sl_), .val (.int o0), .val (.int o1), .val (.int o2), .val (.int o3), .val (.ref b228), .val (.ref b233), .val (.ref b241), .val (.int iv250), .unset] [(.int o3), (.int o2), (.int o1), (.int o0), (.int iv250)])) rfl (by rw [hml]; rfl) (argsL := [(.int iv250), (.int o0), (.int o1), (.int o2), (.int o3)]) (rest := []) (lenOf pd__28IIIII_29I rfl) rfl (by show 2 * 0 + _ ≤ _; exact Nat.le_of_eq rfl) (hb hby at_260) (fun _ _ => ⟨rfl, rfl, (by decide : 5 + 0 ≤ _), (by decide : 16 + 0 ≤ _)⟩)
      dsimp only [Pt.U, Pt.locs, Pt.cells, Pt.slots] at X252 l252 y252 z252 st252 hQ252
      subst l252 y252 z252
      obtain ⟨rfl, N252q, e252⟩ := hQ252
      have N252 := Fr.app N244 N252q
      obtain ⟨_, _, ⟨T253, L253, k253, n253⟩, -, X253, ⟨Lc253, hQ253, l253, y253, z253⟩, st253⟩ := Jvm.LawKit.callS X252 hx (y := (⟨"com/example/clockwise/clockwise/RingIsFreePinLaw", "pick", "(IIIII)I"⟩ : MethodName)) hown (mvT hZ (hw _ (List.mem_of_getElem? (i := 54) rfl))) (mvT hZ (hw _ (List.mem_of_getElem? (i := 55) rfl))) (mvT hZ (hw _ (List.mem_of_getElem? (i := 56) rfl))) (mvT hZ (hw _ (List.mem_of_getElem? (i := 57) rfl))) (by decide) (backOf (W := 1) (rm8 l Z aA hw [] sl_ o0 o1 o2 o3  T244.heap n0 Z244 ) hZ (hw _ (List.mem_of_getElem? (i := 57) rfl)) (hw _ (List.mem_of_getElem? (i := 56) rfl)) (by decide) (by decide)) (g := (mkF m 273 #[.val (.int p0), .val (.int p1), .val (.int p2), .val (.int p3), .val (.int p4), .val (.int p5), .val (.int n_), .val (.int sl_), .val (.int o0), .val (.int o1), .val (.int o2), .val (.int o3), .val (.ref b228), .val (.ref b233), .val (.ref b241), .val (.int iv250), .unset] [(.int o3), (.int o2), (.int o1), (.int o0), (.int sl_), (.int (F8 iv250 o0 o1 o2 o3))])) rfl (by rw [hml]; rfl) (argsL := [(.int sl_), (.int o0), (.int o1), (.int o2), (.int o3)]) (rest := [(.int (F8 iv250 o0 o1 o2 o3))]) (lenOf pd__28IIIII_29I rfl) rfl (by show 2 * 0 + _ ≤ _; exact Nat.le_of_eq rfl) (hb hby at_273) (fun _ _ => ⟨rfl, e252, (by decide : 5 + 0 ≤ _), (by decide : 16 + 0 ≤ _)⟩)
      dsimp only [Pt.U, Pt.locs, Pt.cells, Pt.slots] at X253 l253 y253 z253 st253 hQ253
      subst l253 y253 z253
      obtain ⟨rfl, N253q, e253⟩ := hQ253
      have N253 := Fr.app N252 N253q
      have pre255 : ∀ t, Steps p.tables e below (T253.setTop (mkF m 276 #[.val (.int p0), .val (.int p1), .val (.int p2), .val (.int p3), .val (.int p4), .val (.int p5), .val (.int n_), .val (.int sl_), .val (.int o0), .val (.int o1), .val (.int o2), .val (.int o3), .val (.ref b228), .val (.ref b233), .val (.ref b241), .val (.int iv250), .unset] [(.int (F8 sl_ o0 o1 o2 o3)), (.int (F8 iv250 o0 o1 o2 o3))])) t → Steps p.tables e below (s₁.setTop (entryFrame m #[(.int p0), (.int p1), (.int p2), (.int p3), (.int p4), (.int p5)] maxLocals)) t := by
        intro t kk
        refine pre251 t ?_
        show Steps p.tables e below (T244.setTop (mkF m 248 #[.val (.int p0), .val (.int p1), .val (.int p2), .val (.int p3), .val (.int p4), .val (.int p5), .val (.int n_), .val (.int sl_), .val (.int o0), .val (.int o1), .val (.int o2), .val (.int o3), .val (.ref b228), .val (.ref b233), .val (.ref b241), .unset, .unset] [(.int iv250)])) _
        refine XS.istore X244.here hx rfl (hb hby at_248) rfl (l' := #[.val (.int p0), .val (.int p1), .val (.int p2), .val (.int p3), .val (.int p4), .val (.int p5), .val (.int n_), .val (.int sl_), .val (.int o0), .val (.int o1), .val (.int o2), .val (.int o3), .val (.ref b228), .val (.ref b233), .val (.ref b241), .val (.int iv250), .unset]) rfl ?_
        show Steps p.tables e below (T244.setTop (mkF m 250 #[.val (.int p0), .val (.int p1), .val (.int p2), .val (.int p3), .val (.int p4), .val (.int p5), .val (.int n_), .val (.int sl_), .val (.int o0), .val (.int o1), .val (.int o2), .val (.int o3), .val (.ref b228), .val (.ref b233), .val (.ref b241), .val (.int iv250), .unset] [])) _
        refine XS.iload X244.here hx rfl (hb hby at_250) rfl ?_
        show Steps p.tables e below (T244.setTop (mkF m 252 #[.val (.int p0), .val (.int p1), .val (.int p2), .val (.int p3), .val (.int p4), .val (.int p5), .val (.int n_), .val (.int sl_), .val (.int o0), .val (.int o1), .val (.int o2), .val (.int o3), .val (.ref b228), .val (.ref b233), .val (.ref b241), .val (.int iv250), .unset] [(.int iv250)])) _
        refine XS.iload X244.here hx rfl (hb hby at_252) rfl ?_
        show Steps p.tables e below (T244.setTop (mkF m 254 #[.val (.int p0), .val (.int p1), .val (.int p2), .val (.int p3), .val (.int p4), .val (.int p5), .val (.int n_), .val (.int sl_), .val (.int o0), .val (.int o1), .val (.int o2), .val (.int o3), .val (.ref b228), .val (.ref b233), .val (.ref b241), .val (.int iv250), .unset] [(.int o0), (.int iv250)])) _
        refine XS.iload X244.here hx rfl (hb hby at_254) rfl ?_
        show Steps p.tables e below (T244.setTop (mkF m 256 #[.val (.int p0), .val (.int p1), .val (.int p2), .val (.int p3), .val (.int p4), .val (.int p5), .val (.int n_), .val (.int sl_), .val (.int o0), .val (.int o1), .val (.int o2), .val (.int o3), .val (.ref b228), .val (.ref b233), .val (.ref b241), .val (.int iv250), .unset] [(.int o1), (.int o0), (.int iv250)])) _
        refine XS.iload X244.here hx rfl (hb hby at_256) rfl ?_
        show Steps p.tables e below (T244.setTop (mkF m 258 #[.val (.int p0), .val (.int p1), .val (.int p2), .val (.int p3), .val (.int p4), .val (.int p5), .val (.int n_), .val (.int sl_), .val (.int o0), .val (.int o1), .val (.int o2), .val (.int o3), .val (.ref b228), .val (.ref b233), .val (.ref b241), .val (.int iv250), .unset] [(.int o2), (.int o1), (.int o0), (.int iv250)])) _
        refine XS.iload X244.here hx rfl (hb hby at_258) rfl ?_
        show Steps p.tables e below (T244.setTop (mkF m 260 #[.val (.int p0), .val (.int p1), .val (.int p2), .val (.int p3), .val (.int p4), .val (.int p5), .val (.int n_), .val (.int sl_), .val (.int o0), .val (.int o1), .val (.int o2), .val (.int o3), .val (.ref b228), .val (.ref b233), .val (.ref b241), .val (.int iv250), .unset] [(.int o3), (.int o2), (.int o1), (.int o0), (.int iv250)])) _
        refine st252 _ ?_
        show Steps p.tables e below (T252.setTop (mkF m 263 #[.val (.int p0), .val (.int p1), .val (.int p2), .val (.int p3), .val (.int p4), .val (.int p5), .val (.int n_), .val (.int sl_), .val (.int o0), .val (.int o1), .val (.int o2), .val (.int o3), .val (.ref b228), .val (.ref b233), .val (.ref b241), .val (.int iv250), .unset] [(.int (F8 iv250 o0 o1 o2 o3))])) _
        refine XS.iload X252.here hx rfl (hb hby at_263) rfl ?_
        show Steps p.tables e below (T252.setTop (mkF m 265 #[.val (.int p0), .val (.int p1), .val (.int p2), .val (.int p3), .val (.int p4), .val (.int p5), .val (.int n_), .val (.int sl_), .val (.int o0), .val (.int o1), .val (.int o2), .val (.int o3), .val (.ref b228), .val (.ref b233), .val (.ref b241), .val (.int iv250), .unset] [(.int sl_), (.int (F8 iv250 o0 o1 o2 o3))])) _
        refine XS.iload X252.here hx rfl (hb hby at_265) rfl ?_
        show Steps p.tables e below (T252.setTop (mkF m 267 #[.val (.int p0), .val (.int p1), .val (.int p2), .val (.int p3), .val (.int p4), .val (.int p5), .val (.int n_), .val (.int sl_), .val (.int o0), .val (.int o1), .val (.int o2), .val (.int o3), .val (.ref b228), .val (.ref b233), .val (.ref b241), .val (.int iv250), .unset] [(.int o0), (.int sl_), (.int (F8 iv250 o0 o1 o2 o3))])) _
        refine XS.iload X252.here hx rfl (hb hby at_267) rfl ?_
        show Steps p.tables e below (T252.setTop (mkF m 269 #[.val (.int p0), .val (.int p1), .val (.int p2), .val (.int p3), .val (.int p4), .val (.int p5), .val (.int n_), .val (.int sl_), .val (.int o0), .val (.int o1), .val (.int o2), .val (.int o3), .val (.ref b228), .val (.ref b233), .val (.ref b241), .val (.int iv250), .unset] [(.int o1), (.int o0), (.int sl_), (.int (F8 iv250 o0 o1 o2 o3))])) _
        refine XS.iload X252.here hx rfl (hb hby at_269) rfl ?_
        show Steps p.tables e below (T252.setTop (mkF m 271 #[.val (.int p0), .val (.int p1), .val (.int p2), .val (.int p3), .val (.int p4), .val (.int p5), .val (.int n_), .val (.int sl_), .val (.int o0), .val (.int o1), .val (.int o2), .val (.int o3), .val (.ref b228), .val (.ref b233), .val (.ref b241), .val (.int iv250), .unset] [(.int o2), (.int o1), (.int o0), (.int sl_), (.int (F8 iv250 o0 o1 o2 o3))])) _
        refine XS.iload X252.here hx rfl (hb hby at_271) rfl ?_
        show Steps p.tables e below (T252.setTop (mkF m 273 #[.val (.int p0), .val (.int p1), .val (.int p2), .val (.int p3), .val (.int p4), .val (.int p5), .val (.int n_), .val (.int sl_), .val (.int o0), .val (.int o1), .val (.int o2), .val (.int o3), .val (.ref b228), .val (.ref b233), .val (.ref b241), .val (.int iv250), .unset] [(.int o3), (.int o2), (.int o1), (.int o0), (.int sl_), (.int (F8 iv250 o0 o1 o2 o3))])) _
        refine st253 _ ?_
        exact kk
      obtain ⟨iv256, hj_iv256⟩ : ∃ z : Int32, z = (if (F8 iv250 o0 o1 o2 o3) = (F8 sl_ o0 o1 o2 o3) then (1 : Int32) else (0 : Int32)) := ⟨_, rfl⟩
      have pre257 : ∀ t, Steps p.tables e below (T253.setTop (mkF m 284 #[.val (.int p0), .val (.int p1), .val (.int p2), .val (.int p3), .val (.int p4), .val (.int p5), .val (.int n_), .val (.int sl_), .val (.int o0), .val (.int o1), .val (.int o2), .val (.int o3), .val (.ref b228), .val (.ref b233), .val (.ref b241), .val (.int iv250), .unset] [(.int iv256)])) t → Steps p.tables e below (s₁.setTop (entryFrame m #[(.int p0), (.int p1), (.int p2), (.int p3), (.int p4), (.int p5)] maxLocals)) t := by
        intro t kk
        by_cases hc276_254 : (F8 iv250 o0 o1 o2 o3) = (F8 sl_ o0 o1 o2 o3)
        · rw [show iv256 = (1 : Int32) by rw [hj_iv256]; simp only [if_pos hc276_254]] at kk
          refine pre255 t ?_
          show Steps p.tables e below (T253.setTop (mkF m 276 #[.val (.int p0), .val (.int p1), .val (.int p2), .val (.int p3), .val (.int p4), .val (.int p5), .val (.int n_), .val (.int sl_), .val (.int o0), .val (.int o1), .val (.int o2), .val (.int o3), .val (.ref b228), .val (.ref b233), .val (.ref b241), .val (.int iv250), .unset] [(.int (F8 sl_ o0 o1 o2 o3)), (.int (F8 iv250 o0 o1 o2 o3))])) _
          refine XS.icmpNo X253.here hx rfl (hb hby at_276) rfl (teq hc276_254).2 ?_
          show Steps p.tables e below (T253.setTop (mkF m 279 #[.val (.int p0), .val (.int p1), .val (.int p2), .val (.int p3), .val (.int p4), .val (.int p5), .val (.int n_), .val (.int sl_), .val (.int o0), .val (.int o1), .val (.int o2), .val (.int o3), .val (.ref b228), .val (.ref b233), .val (.ref b241), .val (.int iv250), .unset] [])) _
          refine XS.iconst X253.here hx rfl (hb hby at_279) ?_
          show Steps p.tables e below (T253.setTop (mkF m 280 #[.val (.int p0), .val (.int p1), .val (.int p2), .val (.int p3), .val (.int p4), .val (.int p5), .val (.int n_), .val (.int sl_), .val (.int o0), .val (.int o1), .val (.int o2), .val (.int o3), .val (.ref b228), .val (.ref b233), .val (.ref b241), .val (.int iv250), .unset] [(.int (1 : Int32))])) _
          refine XS.goto X253.here hx rfl (pc0 := 280) (pc' := 284) rfl (hb hby at_280) (by decide) (by decide) ?_
          exact kk
        · rw [show iv256 = (0 : Int32) by rw [hj_iv256]; simp only [if_neg hc276_254]] at kk
          refine pre255 t ?_
          show Steps p.tables e below (T253.setTop (mkF m 276 #[.val (.int p0), .val (.int p1), .val (.int p2), .val (.int p3), .val (.int p4), .val (.int p5), .val (.int n_), .val (.int sl_), .val (.int o0), .val (.int o1), .val (.int o2), .val (.int o3), .val (.ref b228), .val (.ref b233), .val (.ref b241), .val (.int iv250), .unset] [(.int (F8 sl_ o0 o1 o2 o3)), (.int (F8 iv250 o0 o1 o2 o3))])) _
          refine XS.icmpYes X253.here hx rfl (pc0 := 276) (pc' := 283) rfl (hb hby at_276) rfl (feq hc276_254).2 (by decide) (by decide) ?_
          show Steps p.tables e below (T253.setTop (mkF m 283 #[.val (.int p0), .val (.int p1), .val (.int p2), .val (.int p3), .val (.int p4), .val (.int p5), .val (.int n_), .val (.int sl_), .val (.int o0), .val (.int o1), .val (.int o2), .val (.int o3), .val (.ref b228), .val (.ref b233), .val (.ref b241), .val (.int iv250), .unset] [])) _
          refine XS.iconst X253.here hx rfl (hb hby at_283) ?_
          exact kk
      obtain ⟨cq258, kq258, q258a, q258b, q258c⟩ := isOf hZ e253 Eq244
      obtain ⟨_, _, ⟨T258, L258, k258, n258⟩, -, X258, ⟨Lc258, hQ258, l258, y258, z258⟩, st258⟩ := X253.virtualBack hx (y := (⟨"com/example/clockwise/clockwise/Ring", "isFree", "(I)Z"⟩ : MethodName)) (z := (⟨"com/example/clockwise/clockwise/Ring", "isFree", "(I)Z"⟩ : MethodName)) hown (mvT hZ (hw _ (List.mem_of_getElem? (i := 58) rfl))) (mvT hZ (hw _ (List.mem_of_getElem? (i := 59) rfl))) (notFace_of_selects (args := #[]) (mvT hZ (hw _ (List.mem_of_getElem? (i := 61) rfl)))) (mvT hZ (hw _ (List.mem_of_getElem? (i := 61) rfl))) (mvT hZ (hw _ (List.mem_of_getElem? (i := 60) rfl))) (by decide) (backOf (W := 0) (rm9 l Z aA hw [] b241 sl_ b233 k233 (2 : Int32) [o0, o1] T244.heap n0 Z244 Fq244_owners V_b233_246 hs0 (hc71_226 ▸ hs1)) hZ (hw _ (List.mem_of_getElem? (i := 62) rfl)) (hw _ (List.mem_of_getElem? (i := 6) rfl)) (by decide) (by decide)) q258a q258c (g := (mkF m 290 #[.val (.int p0), .val (.int p1), .val (.int p2), .val (.int p3), .val (.int p4), .val (.int p5), .val (.int n_), .val (.int sl_), .val (.int o0), .val (.int o1), .val (.int o2), .val (.int o3), .val (.ref b228), .val (.ref b233), .val (.ref b241), .val (.int iv250), .val (.int iv256)] [(.int sl_), (.ref b241)])) rfl (by rw [hml]; rfl) (Steps.refl _) (argsL := [(.int sl_)]) (rest := []) (lenOf pd__28I_29Z rfl) rfl (by show 2 * 0 + _ ≤ _; exact Nat.le_of_eq rfl) (hb hby at_290) (fun _ _ => ⟨rfl, e253, (by decide : 5 + 0 ≤ _), (by decide : 16 + 0 ≤ _)⟩)
      dsimp only [Pt.U, Pt.locs, Pt.cells, Pt.slots] at X258 l258 y258 z258 st258 hQ258
      subst l258 y258 z258
      obtain ⟨rfl, N258q, e258⟩ := hQ258
      have N258 := Fr.app N253 N258q
      have pre259 : ∀ t, Steps p.tables e below (T258.setTop (mkF m 303 #[.val (.int p0), .val (.int p1), .val (.int p2), .val (.int p3), .val (.int p4), .val (.int p5), .val (.int n_), .val (.int sl_), .val (.int o0), .val (.int o1), .val (.int o2), .val (.int o3), .val (.ref b228), .val (.ref b233), .val (.ref b241), .val (.int iv250), .val (.int iv256)] [(.int (1 : Int32))])) t → Steps p.tables e below (s₁.setTop (entryFrame m #[(.int p0), (.int p1), (.int p2), (.int p3), (.int p4), (.int p5)] maxLocals)) t := by
        intro t kk
        refine pre257 t ?_
        show Steps p.tables e below (T253.setTop (mkF m 284 #[.val (.int p0), .val (.int p1), .val (.int p2), .val (.int p3), .val (.int p4), .val (.int p5), .val (.int n_), .val (.int sl_), .val (.int o0), .val (.int o1), .val (.int o2), .val (.int o3), .val (.ref b228), .val (.ref b233), .val (.ref b241), .val (.int iv250), .unset] [(.int iv256)])) _
        refine XS.istore X253.here hx rfl (hb hby at_284) rfl (l' := #[.val (.int p0), .val (.int p1), .val (.int p2), .val (.int p3), .val (.int p4), .val (.int p5), .val (.int n_), .val (.int sl_), .val (.int o0), .val (.int o1), .val (.int o2), .val (.int o3), .val (.ref b228), .val (.ref b233), .val (.ref b241), .val (.int iv250), .val (.int iv256)]) rfl ?_
        show Steps p.tables e below (T253.setTop (mkF m 286 #[.val (.int p0), .val (.int p1), .val (.int p2), .val (.int p3), .val (.int p4), .val (.int p5), .val (.int n_), .val (.int sl_), .val (.int o0), .val (.int o1), .val (.int o2), .val (.int o3), .val (.ref b228), .val (.ref b233), .val (.ref b241), .val (.int iv250), .val (.int iv256)] [])) _
        refine XS.aload X253.here hx rfl (hb hby at_286) rfl rfl ?_
        show Steps p.tables e below (T253.setTop (mkF m 288 #[.val (.int p0), .val (.int p1), .val (.int p2), .val (.int p3), .val (.int p4), .val (.int p5), .val (.int n_), .val (.int sl_), .val (.int o0), .val (.int o1), .val (.int o2), .val (.int o3), .val (.ref b228), .val (.ref b233), .val (.ref b241), .val (.int iv250), .val (.int iv256)] [(.ref b241)])) _
        refine XS.iload X253.here hx rfl (hb hby at_288) rfl ?_
        show Steps p.tables e below (T253.setTop (mkF m 290 #[.val (.int p0), .val (.int p1), .val (.int p2), .val (.int p3), .val (.int p4), .val (.int p5), .val (.int n_), .val (.int sl_), .val (.int o0), .val (.int o1), .val (.int o2), .val (.int o3), .val (.ref b228), .val (.ref b233), .val (.ref b241), .val (.int iv250), .val (.int iv256)] [(.int sl_), (.ref b241)])) _
        refine st258.trans ?_
        show Steps p.tables e below (T258.setTop (mkF m 293 #[.val (.int p0), .val (.int p1), .val (.int p2), .val (.int p3), .val (.int p4), .val (.int p5), .val (.int n_), .val (.int sl_), .val (.int o0), .val (.int o1), .val (.int o2), .val (.int o3), .val (.ref b228), .val (.ref b233), .val (.ref b241), .val (.int iv250), .val (.int iv256)] [(.int (F9 b241 sl_ b233 k233 (2 : Int32) [o0, o1]))])) _
        refine XS.iload X258.here hx rfl (hb hby at_293) rfl ?_
        show Steps p.tables e below (T258.setTop (mkF m 295 #[.val (.int p0), .val (.int p1), .val (.int p2), .val (.int p3), .val (.int p4), .val (.int p5), .val (.int n_), .val (.int sl_), .val (.int o0), .val (.int o1), .val (.int o2), .val (.int o3), .val (.ref b228), .val (.ref b233), .val (.ref b241), .val (.int iv250), .val (.int iv256)] [(.int iv256), (.int (F9 b241 sl_ b233 k233 (2 : Int32) [o0, o1]))])) _
        refine XS.icmpNo X258.here hx rfl (hb hby at_295) rfl (teq (by rw [hj_iv256, hj_iv250]; exact own_k2 _ _ _ n_ sl_ o0 o1 o2 o3 hc71_226 hs0 hs1)).2 ?_
        show Steps p.tables e below (T258.setTop (mkF m 298 #[.val (.int p0), .val (.int p1), .val (.int p2), .val (.int p3), .val (.int p4), .val (.int p5), .val (.int n_), .val (.int sl_), .val (.int o0), .val (.int o1), .val (.int o2), .val (.int o3), .val (.ref b228), .val (.ref b233), .val (.ref b241), .val (.int iv250), .val (.int iv256)] [])) _
        refine XS.iconst X258.here hx rfl (hb hby at_298) ?_
        show Steps p.tables e below (T258.setTop (mkF m 299 #[.val (.int p0), .val (.int p1), .val (.int p2), .val (.int p3), .val (.int p4), .val (.int p5), .val (.int n_), .val (.int sl_), .val (.int o0), .val (.int o1), .val (.int o2), .val (.int o3), .val (.ref b228), .val (.ref b233), .val (.ref b241), .val (.int iv250), .val (.int iv256)] [(.int (1 : Int32))])) _
        refine XS.goto X258.here hx rfl (pc0 := 299) (pc' := 303) rfl (hb hby at_299) (by decide) (by decide) ?_
        exact kk
      obtain ⟨fs, hr, hrun, hended, hW, hsame⟩ := X258.leave (v := some (.int (1 : Int32))) (fun h => by rw [Bd.returns] at h; cases h)
      refine ⟨_, _, pre259 _ ?_, hrun, hended, _, _, rfl, ?_, ⟨_, rfl⟩, hW, hsame.mono (by decide) (by decide)⟩
      · show Steps p.tables e below (T258.setTop (mkF m 303 #[.val (.int p0), .val (.int p1), .val (.int p2), .val (.int p3), .val (.int p4), .val (.int p5), .val (.int n_), .val (.int sl_), .val (.int o0), .val (.int o1), .val (.int o2), .val (.int o3), .val (.ref b228), .val (.ref b233), .val (.ref b241), .val (.int iv250), .val (.int iv256)] [(.int (1 : Int32))])) _
        exact retN X258 hx (t := .boolean) Bd.returns (by simp) (hb hby at_303) hr
      · show Q0 Z p0 p1 p2 p3 p4 p5 h0 n0 _ T258.heap _
        rw [e258]
        exact ⟨rfl, N258⟩
    · have pre261 : ∀ t, Steps p.tables e below (s₁.setTop (mkF m 112 #[.val (.int p0), .val (.int p1), .val (.int p2), .val (.int p3), .val (.int p4), .val (.int p5), .val (.int n_), .val (.int sl_), .val (.int o0), .val (.int o1), .val (.int o2), .val (.int o3), .unset, .unset, .unset, .unset, .unset] [(.int (3 : Int32)), (.int n_)])) t → Steps p.tables e below (s₁.setTop (entryFrame m #[(.int p0), (.int p1), (.int p2), (.int p3), (.int p4), (.int p5)] maxLocals)) t := by
        intro t kk
        refine pre227 t ?_
        show Steps p.tables e below (s₁.setTop (mkF m 71 #[.val (.int p0), .val (.int p1), .val (.int p2), .val (.int p3), .val (.int p4), .val (.int p5), .val (.int n_), .val (.int sl_), .val (.int o0), .val (.int o1), .val (.int o2), .val (.int o3), .unset, .unset, .unset, .unset, .unset] [(.int (2 : Int32)), (.int n_)])) _
        refine XS.icmpYes X0.here hx rfl (pc0 := 71) (pc' := 109) rfl (hb hby at_71) rfl (feq hc71_226).2 (by decide) (by decide) ?_
        show Steps p.tables e below (s₁.setTop (mkF m 109 #[.val (.int p0), .val (.int p1), .val (.int p2), .val (.int p3), .val (.int p4), .val (.int p5), .val (.int n_), .val (.int sl_), .val (.int o0), .val (.int o1), .val (.int o2), .val (.int o3), .unset, .unset, .unset, .unset, .unset] [])) _
        refine XS.iload X0.here hx rfl (hb hby at_109) rfl ?_
        show Steps p.tables e below (s₁.setTop (mkF m 111 #[.val (.int p0), .val (.int p1), .val (.int p2), .val (.int p3), .val (.int p4), .val (.int p5), .val (.int n_), .val (.int sl_), .val (.int o0), .val (.int o1), .val (.int o2), .val (.int o3), .unset, .unset, .unset, .unset, .unset] [(.int n_)])) _
        refine XS.iconst X0.here hx rfl (hb hby at_111) ?_
        exact kk
      by_cases hc112_260 : n_ = (3 : Int32)
      · obtain ⟨T262, h262, k262, X262, e262, E262, A262, st262⟩ := newP X0 hx hZ (hw _ (List.mem_of_getElem? (i := 1) rfl)) e0 (g := (mkF m 116 #[.val (.int p0), .val (.int p1), .val (.int p2), .val (.int p3), .val (.int p4), .val (.int p5), .val (.int n_), .val (.int sl_), .val (.int o0), .val (.int o1), .val (.int o2), .val (.int o3), .unset, .unset, .unset, .unset, .unset] [(.int (3 : Int32))])) rfl (hb hby at_116) rfl (by decide) (cap := 3) (by decide) (by decide) (by decide) (by decide)
        obtain ⟨b262, g262⟩ : ∃ z, z = h0.size := ⟨_, rfl⟩
        rw [← g262] at A262 st262
        have sz_b262 : h0.size ≤ b262 := Nat.le_trans KP0.1 (Nat.le_of_eq g262.symm)
        have g_b262 : n0 ≤ b262 := Nat.le_trans Z0 (Nat.le_of_eq g262.symm)
        have KP262 : Keep h0 h262 [] := KP0.ext E262
        have Z262 : n0 ≤ h262.size := Nat.le_trans Z0 E262.1
        have V_b262 : Arv Z h262 b262 k262 .long (3 : Int32) [(.long (0 : Int64)), (.long (0 : Int64)), (.long (0 : Int64))] (.long (0 : Int64)) := (Arv.new A262 (by decide)).pad (pad_rep [] (.long (0 : Int64)) 3)
        obtain ⟨cl263, Ar263, q263, S263, N263v, H263, G263⟩ := V_b262
        have hin263 : ¬ ((0 : Int32) < 0 ∨ cl263.slots.size ≤ ((0 : Int32)).toNatClampNeg) := inb_of S263 ⟨by decide, by decide⟩
        obtain ⟨T264, h264, X264, e264, W264, st264⟩ := stJ X262 hx hZ e262 Ar263 (j := (0 : Int32)) hin263 (g := (mkF m 123 #[.val (.int p0), .val (.int p1), .val (.int p2), .val (.int p3), .val (.int p4), .val (.int p5), .val (.int n_), .val (.int sl_), .val (.int o0), .val (.int o1), .val (.int o2), .val (.int o3), .unset, .unset, .unset, .unset, .unset] [(.long (10 : Int64)), (.int (0 : Int32)), (.ref b262), (.ref b262)])) rfl rfl (hb hby at_123)
        have Vw264 : Arv Z h264 b262 k262 .long (3 : Int32) [(.long (10 : Int64)), (.long (0 : Int64)), (.long (0 : Int64))] (.long (0 : Int64)) := Arv.set Ar263 q263 S263 N263v H263 G263 rfl W264 0 rfl (Nat.le_of_ble_eq_true rfl)
        have KP264 : Keep h0 h264 [] := KP262.wr W264 (Or.inr sz_b262)
        have Z264 : n0 ≤ h264.size := Nat.le_trans Z262 (Nat.le_of_eq W264.size.symm)
        have N264 := Fr.snoc X264 N0 g_b262
        obtain ⟨cl265, Ar265, q265, S265, N265v, H265, G265⟩ := Vw264
        have hin265 : ¬ ((1 : Int32) < 0 ∨ cl265.slots.size ≤ ((1 : Int32)).toNatClampNeg) := inb_of S265 ⟨by decide, by decide⟩
        obtain ⟨T266, h266, X266, e266, W266, st266⟩ := stJ X264 hx hZ e264 Ar265 (j := (1 : Int32)) hin265 (g := (mkF m 129 #[.val (.int p0), .val (.int p1), .val (.int p2), .val (.int p3), .val (.int p4), .val (.int p5), .val (.int n_), .val (.int sl_), .val (.int o0), .val (.int o1), .val (.int o2), .val (.int o3), .unset, .unset, .unset, .unset, .unset] [(.long (20 : Int64)), (.int (1 : Int32)), (.ref b262), (.ref b262)])) rfl rfl (hb hby at_129)
        have Vw266 : Arv Z h266 b262 k262 .long (3 : Int32) [(.long (10 : Int64)), (.long (20 : Int64)), (.long (0 : Int64))] (.long (0 : Int64)) := Arv.set Ar265 q265 S265 N265v H265 G265 rfl W266 1 rfl (Nat.le_of_ble_eq_true rfl)
        have KP266 : Keep h0 h266 [] := KP264.wr W266 (Or.inr sz_b262)
        have Z266 : n0 ≤ h266.size := Nat.le_trans Z264 (Nat.le_of_eq W266.size.symm)
        have N266 := Fr.snoc X266 N264 g_b262
        obtain ⟨cl267, Ar267, q267, S267, N267v, H267, G267⟩ := Vw266
        have hin267 : ¬ ((2 : Int32) < 0 ∨ cl267.slots.size ≤ ((2 : Int32)).toNatClampNeg) := inb_of S267 ⟨by decide, by decide⟩
        obtain ⟨T268, h268, X268, e268, W268, st268⟩ := stJ X266 hx hZ e266 Ar267 (j := (2 : Int32)) hin267 (g := (mkF m 135 #[.val (.int p0), .val (.int p1), .val (.int p2), .val (.int p3), .val (.int p4), .val (.int p5), .val (.int n_), .val (.int sl_), .val (.int o0), .val (.int o1), .val (.int o2), .val (.int o3), .unset, .unset, .unset, .unset, .unset] [(.long (30 : Int64)), (.int (2 : Int32)), (.ref b262), (.ref b262)])) rfl rfl (hb hby at_135)
        have Vw268 : Arv Z h268 b262 k262 .long (3 : Int32) [(.long (10 : Int64)), (.long (20 : Int64)), (.long (30 : Int64))] (.long (0 : Int64)) := Arv.set Ar267 q267 S267 N267v H267 G267 rfl W268 2 rfl (Nat.le_of_ble_eq_true rfl)
        have KP268 : Keep h0 h268 [] := KP266.wr W268 (Or.inr sz_b262)
        have Z268 : n0 ≤ h268.size := Nat.le_trans Z266 (Nat.le_of_eq W268.size.symm)
        have N268 := Fr.snoc X268 N266 g_b262
        obtain ⟨T269, h269, k269, X269, e269, E269, A269, st269⟩ := newP X268 hx hZ (hw _ (List.mem_of_getElem? (i := 3) rfl)) e268 (g := (mkF m 139 #[.val (.int p0), .val (.int p1), .val (.int p2), .val (.int p3), .val (.int p4), .val (.int p5), .val (.int n_), .val (.int sl_), .val (.int o0), .val (.int o1), .val (.int o2), .val (.int o3), .val (.ref b262), .unset, .unset, .unset, .unset] [(.int (3 : Int32))])) rfl (hb hby at_139) rfl (by decide) (cap := 3) (by decide) (by decide) (by decide) (by decide)
        obtain ⟨b269, g269⟩ : ∃ z, z = h268.size := ⟨_, rfl⟩
        rw [← g269] at A269 st269
        have ne_b262_b269 : b262 ≠ b269 := Nat.ne_of_lt (Nat.lt_of_lt_of_le Vw268.lt (Nat.le_of_eq g269.symm))
        have sz_b269 : h0.size ≤ b269 := Nat.le_trans KP268.1 (Nat.le_of_eq g269.symm)
        have g_b269 : n0 ≤ b269 := Nat.le_trans Z268 (Nat.le_of_eq g269.symm)
        have KP269 : Keep h0 h269 [] := KP268.ext E269
        have Z269 : n0 ≤ h269.size := Nat.le_trans Z268 E269.1
        have V_b262_270 : Arv Z h269 b262 k262 .long (3 : Int32) [(.long (10 : Int64)), (.long (20 : Int64)), (.long (30 : Int64))] (.long (0 : Int64)) := Vw268.ext E269
        have V_b269 : Arv Z h269 b269 k269 .int (3 : Int32) [(.int (0 : Int32)), (.int (0 : Int32)), (.int (0 : Int32))] (.int (0 : Int32)) := (Arv.new A269 (by decide)).pad (pad_rep [] (.int (0 : Int32)) 3)
        obtain ⟨cl271, Ar271, q271, S271, N271v, H271, G271⟩ := V_b269
        have hin271 : ¬ ((0 : Int32) < 0 ∨ cl271.slots.size ≤ ((0 : Int32)).toNatClampNeg) := inb_of S271 ⟨by decide, by decide⟩
        obtain ⟨T272, h272, X272, e272, W272, st272⟩ := stI X269 hx hZ e269 Ar271 (j := (0 : Int32)) hin271 (g := (mkF m 145 #[.val (.int p0), .val (.int p1), .val (.int p2), .val (.int p3), .val (.int p4), .val (.int p5), .val (.int n_), .val (.int sl_), .val (.int o0), .val (.int o1), .val (.int o2), .val (.int o3), .val (.ref b262), .unset, .unset, .unset, .unset] [(.int o0), (.int (0 : Int32)), (.ref b269), (.ref b269)])) rfl rfl (hb hby at_145)
        have Vw272 : Arv Z h272 b269 k269 .int (3 : Int32) [(.int o0), (.int (0 : Int32)), (.int (0 : Int32))] (.int (0 : Int32)) := Arv.set Ar271 q271 S271 N271v H271 G271 rfl W272 0 rfl (Nat.le_of_ble_eq_true rfl)
        have KP272 : Keep h0 h272 [] := KP269.wr W272 (Or.inr sz_b269)
        have Z272 : n0 ≤ h272.size := Nat.le_trans Z269 (Nat.le_of_eq W272.size.symm)
        have N272 := Fr.snoc X272 N268 g_b269
        have V_b262_273 : Arv Z h272 b262 k262 .long (3 : Int32) [(.long (10 : Int64)), (.long (20 : Int64)), (.long (30 : Int64))] (.long (0 : Int64)) := V_b262_270.other W272 ne_b262_b269
        obtain ⟨cl274, Ar274, q274, S274, N274v, H274, G274⟩ := Vw272
        have hin274 : ¬ ((1 : Int32) < 0 ∨ cl274.slots.size ≤ ((1 : Int32)).toNatClampNeg) := inb_of S274 ⟨by decide, by decide⟩
        obtain ⟨T275, h275, X275, e275, W275, st275⟩ := stI X272 hx hZ e272 Ar274 (j := (1 : Int32)) hin274 (g := (mkF m 150 #[.val (.int p0), .val (.int p1), .val (.int p2), .val (.int p3), .val (.int p4), .val (.int p5), .val (.int n_), .val (.int sl_), .val (.int o0), .val (.int o1), .val (.int o2), .val (.int o3), .val (.ref b262), .unset, .unset, .unset, .unset] [(.int o1), (.int (1 : Int32)), (.ref b269), (.ref b269)])) rfl rfl (hb hby at_150)
        have Vw275 : Arv Z h275 b269 k269 .int (3 : Int32) [(.int o0), (.int o1), (.int (0 : Int32))] (.int (0 : Int32)) := Arv.set Ar274 q274 S274 N274v H274 G274 rfl W275 1 rfl (Nat.le_of_ble_eq_true rfl)
        have KP275 : Keep h0 h275 [] := KP272.wr W275 (Or.inr sz_b269)
        have Z275 : n0 ≤ h275.size := Nat.le_trans Z272 (Nat.le_of_eq W275.size.symm)
        have N275 := Fr.snoc X275 N272 g_b269
        have V_b262_276 : Arv Z h275 b262 k262 .long (3 : Int32) [(.long (10 : Int64)), (.long (20 : Int64)), (.long (30 : Int64))] (.long (0 : Int64)) := V_b262_273.other W275 ne_b262_b269
        obtain ⟨cl277, Ar277, q277, S277, N277v, H277, G277⟩ := Vw275
        have hin277 : ¬ ((2 : Int32) < 0 ∨ cl277.slots.size ≤ ((2 : Int32)).toNatClampNeg) := inb_of S277 ⟨by decide, by decide⟩
        obtain ⟨T278, h278, X278, e278, W278, st278⟩ := stI X275 hx hZ e275 Ar277 (j := (2 : Int32)) hin277 (g := (mkF m 155 #[.val (.int p0), .val (.int p1), .val (.int p2), .val (.int p3), .val (.int p4), .val (.int p5), .val (.int n_), .val (.int sl_), .val (.int o0), .val (.int o1), .val (.int o2), .val (.int o3), .val (.ref b262), .unset, .unset, .unset, .unset] [(.int o2), (.int (2 : Int32)), (.ref b269), (.ref b269)])) rfl rfl (hb hby at_155)
        have Vw278 : Arv Z h278 b269 k269 .int (3 : Int32) [(.int o0), (.int o1), (.int o2)] (.int (0 : Int32)) := Arv.set Ar277 q277 S277 N277v H277 G277 rfl W278 2 rfl (Nat.le_of_ble_eq_true rfl)
        have KP278 : Keep h0 h278 [] := KP275.wr W278 (Or.inr sz_b269)
        have Z278 : n0 ≤ h278.size := Nat.le_trans Z275 (Nat.le_of_eq W278.size.symm)
        have N278 := Fr.snoc X278 N275 g_b269
        have V_b262_279 : Arv Z h278 b262 k262 .long (3 : Int32) [(.long (10 : Int64)), (.long (20 : Int64)), (.long (30 : Int64))] (.long (0 : Int64)) := V_b262_276.other W278 ne_b262_b269
        obtain ⟨T280, h280, X280, e280, E280, A280, D280, -, st280⟩ := newO X278 hx hZ hown (hw _ (List.mem_of_getElem? (i := 4) rfl)) (hw _ (List.mem_of_getElem? (i := 5) rfl)) (hw _ (List.mem_of_getElem? (i := 6) rfl)) e278 (g := (mkF m 215 #[.val (.int p0), .val (.int p1), .val (.int p2), .val (.int p3), .val (.int p4), .val (.int p5), .val (.int n_), .val (.int sl_), .val (.int o0), .val (.int o1), .val (.int o2), .val (.int o3), .val (.ref b262), .val (.ref b269), .unset, .unset, .unset] [])) rfl (hb hby at_215) (by decide) (by decide)
        obtain ⟨b280, g280⟩ : ∃ z, z = h278.size := ⟨_, rfl⟩
        rw [← g280] at A280 D280 st280
        have ne_b262_b280 : b262 ≠ b280 := Nat.ne_of_lt (Nat.lt_of_lt_of_le V_b262_279.lt (Nat.le_of_eq g280.symm))
        have ne_b269_b280 : b269 ≠ b280 := Nat.ne_of_lt (Nat.lt_of_lt_of_le Vw278.lt (Nat.le_of_eq g280.symm))
        have sz_b280 : h0.size ≤ b280 := Nat.le_trans KP278.1 (Nat.le_of_eq g280.symm)
        have g_b280 : n0 ≤ b280 := Nat.le_trans Z278 (Nat.le_of_eq g280.symm)
        have KP280 : Keep h0 h280 [] := KP278.ext E280
        have Z280 : n0 ≤ h280.size := Nat.le_trans Z278 E280.1
        have V_b262_281 : Arv Z h280 b262 k262 .long (3 : Int32) [(.long (10 : Int64)), (.long (20 : Int64)), (.long (30 : Int64))] (.long (0 : Int64)) := V_b262_279.ext E280
        have V_b269_282 : Arv Z h280 b269 k269 .int (3 : Int32) [(.int o0), (.int o1), (.int o2)] (.int (0 : Int32)) := Vw278.ext E280
        have F_placement_b280 : Fld Z h280 b280 "com/example/clockwise/clockwise/Ring" "placement" "Lcom/example/clockwise/clockwise/Placement;" .null := D280 (Or.inr (hw _ (List.mem_of_getElem? (i := 14) rfl))) (ty := (.object "com/example/clockwise/clockwise/Placement")) (by decide)
        have F_members_b280 : Fld Z h280 b280 "com/example/clockwise/clockwise/Ring" "members" "Lcom/example/clockwise/clockwise/Ring$Membership;" .null := D280 (Or.inr (hw _ (List.mem_of_getElem? (i := 16) rfl))) (ty := (.object "com/example/clockwise/clockwise/Ring$Membership")) (by decide)
        have F_vnodes_b280 : Fld Z h280 b280 "com/example/clockwise/clockwise/Ring" "vnodes" "I" (.int (0 : Int32)) := D280 (Or.inr (hw _ (List.mem_of_getElem? (i := 18) rfl))) (ty := .int) (by decide)
        have F_positions_b280 : Fld Z h280 b280 "com/example/clockwise/clockwise/Ring" "positions" "[J" .null := D280 (Or.inr (hw _ (List.mem_of_getElem? (i := 20) rfl))) (ty := (.array .long)) (by decide)
        have F_owners_b280 : Fld Z h280 b280 "com/example/clockwise/clockwise/Ring" "owners" "[I" .null := D280 (Or.inr (hw _ (List.mem_of_getElem? (i := 22) rfl))) (ty := (.array .int)) (by decide)
        have F_slotIndex_b280 : Fld Z h280 b280 "com/example/clockwise/clockwise/Ring" "slotIndex" "Lcom/example/clockwise/clockwise/SlotIndex;" .null := D280 (Or.inr (hw _ (List.mem_of_getElem? (i := 53) rfl))) (ty := (.object "com/example/clockwise/clockwise/SlotIndex")) (by decide)
        obtain ⟨_, _, ⟨T283, L283, k283, n283⟩, -, X283, ⟨Lc283, hQ283, l283, y283, z283⟩, st283⟩ := X280.specialBack hx (y := (⟨"com/example/clockwise/clockwise/Ring", "<init>", "(Lcom/example/clockwise/clockwise/Placement;Lcom/example/clockwise/clockwise/Ring$Membership;I[J[I)V"⟩ : MethodName)) rfl hown (mvT hZ (hw _ (List.mem_of_getElem? (i := 7) rfl))) (mvT hZ (hw _ (List.mem_of_getElem? (i := 8) rfl))) (mvT hZ (hw _ (List.mem_of_getElem? (i := 9) rfl))) (by decide) (backOf (W := 1) (rm1 l Z aA hw [] b280 (0 : Int32) b262 b269 k262 (3 : Int32) [(.long (10 : Int64)), (.long (20 : Int64)), (.long (30 : Int64))] (.long (0 : Int64)) h280 n0 Z280 A280 g_b280 (Ne.symm ne_b262_b280) V_b262_281 (by decide) (by decide) (by decide) F_placement_b280 F_members_b280 F_vnodes_b280 F_positions_b280 F_owners_b280 F_slotIndex_b280) hZ (hw _ (List.mem_of_getElem? (i := 9) rfl)) (hw _ (List.mem_of_getElem? (i := 6) rfl)) (by decide) (by decide)) (g := (mkF m 226 #[.val (.int p0), .val (.int p1), .val (.int p2), .val (.int p3), .val (.int p4), .val (.int p5), .val (.int n_), .val (.int sl_), .val (.int o0), .val (.int o1), .val (.int o2), .val (.int o3), .val (.ref b262), .val (.ref b269), .unset, .unset, .unset] [(.ref b269), (.ref b262), (.int (0 : Int32)), .null, .null, (.ref b280), (.ref b280)])) rfl (by rw [hml]; rfl) (Steps.refl _) (a := b280) (argsL := [.null, .null, (.int (0 : Int32)), (.ref b262), (.ref b269)]) (rest := [(.ref b280)]) (lenOf pd__28Lcom_2fexample_2fclockwise_2fclockwise_2fPlacement_3bLcom_2fexample_2fclockwise_2fclockwise_2fRing_24Membership_3bI_5bJ_5bI_29V rfl) rfl (by show 2 * 0 + _ ≤ _; exact Nat.le_of_eq rfl) (hb hby at_226) (fun _ _ => ⟨rfl, e280, (by decide : 3 + 2 ≤ _), (by decide : 12 + 6 ≤ _)⟩)
        dsimp only [Pt.U, Pt.locs, Pt.cells, Pt.slots] at X283 l283 y283 z283 st283 hQ283
        subst l283 y283 z283
        obtain ⟨rfl, N283q, K283, Eq283, Fq283_placement, Fq283_members, Fq283_vnodes, Fq283_positions, Fq283_owners⟩ := hQ283
        have N283 := Fr.app N278 N283q
        have KP283 : Keep h0 T283.heap [] := KP280.trans K283 (allS (Or.inr sz_b280) all0)
        have Z283 : n0 ≤ T283.heap.size := Nat.le_trans Z280 K283.1
        have V_b262_284 : Arv Z T283.heap b262 k262 .long (3 : Int32) [(.long (10 : Int64)), (.long (20 : Int64)), (.long (30 : Int64))] (.long (0 : Int64)) := V_b262_281.keep K283 (ninS ne_b262_b280 nin0)
        have V_b269_285 : Arv Z T283.heap b269 k269 .int (3 : Int32) [(.int o0), (.int o1), (.int o2)] (.int (0 : Int32)) := V_b269_282.keep K283 (ninS ne_b269_b280 nin0)
        have E_b280_286 : Exa Z T283.heap b280 "com/example/clockwise/clockwise/Ring" := A280.keep K283
        have pre288 : ∀ t, Steps p.tables e below (T283.setTop (mkF m 237 #[.val (.int p0), .val (.int p1), .val (.int p2), .val (.int p3), .val (.int p4), .val (.int p5), .val (.int n_), .val (.int sl_), .val (.int o0), .val (.int o1), .val (.int o2), .val (.int o3), .val (.ref b262), .val (.ref b269), .val (.ref b280), .unset, .unset] [(.int n_), (.int (sl_ + (1 : Int32)))])) t → Steps p.tables e below (s₁.setTop (entryFrame m #[(.int p0), (.int p1), (.int p2), (.int p3), (.int p4), (.int p5)] maxLocals)) t := by
          intro t kk
          refine pre261 t ?_
          show Steps p.tables e below (s₁.setTop (mkF m 112 #[.val (.int p0), .val (.int p1), .val (.int p2), .val (.int p3), .val (.int p4), .val (.int p5), .val (.int n_), .val (.int sl_), .val (.int o0), .val (.int o1), .val (.int o2), .val (.int o3), .unset, .unset, .unset, .unset, .unset] [(.int (3 : Int32)), (.int n_)])) _
          refine XS.icmpNo X0.here hx rfl (hb hby at_112) rfl (teq hc112_260).2 ?_
          show Steps p.tables e below (s₁.setTop (mkF m 115 #[.val (.int p0), .val (.int p1), .val (.int p2), .val (.int p3), .val (.int p4), .val (.int p5), .val (.int n_), .val (.int sl_), .val (.int o0), .val (.int o1), .val (.int o2), .val (.int o3), .unset, .unset, .unset, .unset, .unset] [])) _
          refine XS.iconst X0.here hx rfl (hb hby at_115) ?_
          show Steps p.tables e below (s₁.setTop (mkF m 116 #[.val (.int p0), .val (.int p1), .val (.int p2), .val (.int p3), .val (.int p4), .val (.int p5), .val (.int n_), .val (.int sl_), .val (.int o0), .val (.int o1), .val (.int o2), .val (.int o3), .unset, .unset, .unset, .unset, .unset] [(.int (3 : Int32))])) _
          refine st262 _ ?_
          show Steps p.tables e below (T262.setTop (mkF m 118 #[.val (.int p0), .val (.int p1), .val (.int p2), .val (.int p3), .val (.int p4), .val (.int p5), .val (.int n_), .val (.int sl_), .val (.int o0), .val (.int o1), .val (.int o2), .val (.int o3), .unset, .unset, .unset, .unset, .unset] [(.ref b262)])) _
          refine XS.dup X262.here hx rfl (hb hby at_118) rfl rfl ?_
          show Steps p.tables e below (T262.setTop (mkF m 119 #[.val (.int p0), .val (.int p1), .val (.int p2), .val (.int p3), .val (.int p4), .val (.int p5), .val (.int n_), .val (.int sl_), .val (.int o0), .val (.int o1), .val (.int o2), .val (.int o3), .unset, .unset, .unset, .unset, .unset] [(.ref b262), (.ref b262)])) _
          refine XS.iconst X262.here hx rfl (hb hby at_119) ?_
          show Steps p.tables e below (T262.setTop (mkF m 120 #[.val (.int p0), .val (.int p1), .val (.int p2), .val (.int p3), .val (.int p4), .val (.int p5), .val (.int n_), .val (.int sl_), .val (.int o0), .val (.int o1), .val (.int o2), .val (.int o3), .unset, .unset, .unset, .unset, .unset] [(.int (0 : Int32)), (.ref b262), (.ref b262)])) _
          refine X262.ldc2Long hx hown (mvT hZ (hw _ (List.mem_of_getElem? (i := 2) rfl))) (g := (mkF m 120 #[.val (.int p0), .val (.int p1), .val (.int p2), .val (.int p3), .val (.int p4), .val (.int p5), .val (.int n_), .val (.int sl_), .val (.int o0), .val (.int o1), .val (.int o2), .val (.int o3), .unset, .unset, .unset, .unset, .unset] [(.int (0 : Int32)), (.ref b262), (.ref b262)])) rfl (hb hby at_120) _ ?_
          show Steps p.tables e below (T262.setTop (mkF m 123 #[.val (.int p0), .val (.int p1), .val (.int p2), .val (.int p3), .val (.int p4), .val (.int p5), .val (.int n_), .val (.int sl_), .val (.int o0), .val (.int o1), .val (.int o2), .val (.int o3), .unset, .unset, .unset, .unset, .unset] [(.long (10 : Int64)), (.int (0 : Int32)), (.ref b262), (.ref b262)])) _
          refine st264 _ ?_
          show Steps p.tables e below (T264.setTop (mkF m 124 #[.val (.int p0), .val (.int p1), .val (.int p2), .val (.int p3), .val (.int p4), .val (.int p5), .val (.int n_), .val (.int sl_), .val (.int o0), .val (.int o1), .val (.int o2), .val (.int o3), .unset, .unset, .unset, .unset, .unset] [(.ref b262)])) _
          refine XS.dup X264.here hx rfl (hb hby at_124) rfl rfl ?_
          show Steps p.tables e below (T264.setTop (mkF m 125 #[.val (.int p0), .val (.int p1), .val (.int p2), .val (.int p3), .val (.int p4), .val (.int p5), .val (.int n_), .val (.int sl_), .val (.int o0), .val (.int o1), .val (.int o2), .val (.int o3), .unset, .unset, .unset, .unset, .unset] [(.ref b262), (.ref b262)])) _
          refine XS.iconst X264.here hx rfl (hb hby at_125) ?_
          show Steps p.tables e below (T264.setTop (mkF m 126 #[.val (.int p0), .val (.int p1), .val (.int p2), .val (.int p3), .val (.int p4), .val (.int p5), .val (.int n_), .val (.int sl_), .val (.int o0), .val (.int o1), .val (.int o2), .val (.int o3), .unset, .unset, .unset, .unset, .unset] [(.int (1 : Int32)), (.ref b262), (.ref b262)])) _
          refine X264.ldc2Long hx hown (mvT hZ (hw _ (List.mem_of_getElem? (i := 63) rfl))) (g := (mkF m 126 #[.val (.int p0), .val (.int p1), .val (.int p2), .val (.int p3), .val (.int p4), .val (.int p5), .val (.int n_), .val (.int sl_), .val (.int o0), .val (.int o1), .val (.int o2), .val (.int o3), .unset, .unset, .unset, .unset, .unset] [(.int (1 : Int32)), (.ref b262), (.ref b262)])) rfl (hb hby at_126) _ ?_
          show Steps p.tables e below (T264.setTop (mkF m 129 #[.val (.int p0), .val (.int p1), .val (.int p2), .val (.int p3), .val (.int p4), .val (.int p5), .val (.int n_), .val (.int sl_), .val (.int o0), .val (.int o1), .val (.int o2), .val (.int o3), .unset, .unset, .unset, .unset, .unset] [(.long (20 : Int64)), (.int (1 : Int32)), (.ref b262), (.ref b262)])) _
          refine st266 _ ?_
          show Steps p.tables e below (T266.setTop (mkF m 130 #[.val (.int p0), .val (.int p1), .val (.int p2), .val (.int p3), .val (.int p4), .val (.int p5), .val (.int n_), .val (.int sl_), .val (.int o0), .val (.int o1), .val (.int o2), .val (.int o3), .unset, .unset, .unset, .unset, .unset] [(.ref b262)])) _
          refine XS.dup X266.here hx rfl (hb hby at_130) rfl rfl ?_
          show Steps p.tables e below (T266.setTop (mkF m 131 #[.val (.int p0), .val (.int p1), .val (.int p2), .val (.int p3), .val (.int p4), .val (.int p5), .val (.int n_), .val (.int sl_), .val (.int o0), .val (.int o1), .val (.int o2), .val (.int o3), .unset, .unset, .unset, .unset, .unset] [(.ref b262), (.ref b262)])) _
          refine XS.iconst X266.here hx rfl (hb hby at_131) ?_
          show Steps p.tables e below (T266.setTop (mkF m 132 #[.val (.int p0), .val (.int p1), .val (.int p2), .val (.int p3), .val (.int p4), .val (.int p5), .val (.int n_), .val (.int sl_), .val (.int o0), .val (.int o1), .val (.int o2), .val (.int o3), .unset, .unset, .unset, .unset, .unset] [(.int (2 : Int32)), (.ref b262), (.ref b262)])) _
          refine X266.ldc2Long hx hown (mvT hZ (hw _ (List.mem_of_getElem? (i := 64) rfl))) (g := (mkF m 132 #[.val (.int p0), .val (.int p1), .val (.int p2), .val (.int p3), .val (.int p4), .val (.int p5), .val (.int n_), .val (.int sl_), .val (.int o0), .val (.int o1), .val (.int o2), .val (.int o3), .unset, .unset, .unset, .unset, .unset] [(.int (2 : Int32)), (.ref b262), (.ref b262)])) rfl (hb hby at_132) _ ?_
          show Steps p.tables e below (T266.setTop (mkF m 135 #[.val (.int p0), .val (.int p1), .val (.int p2), .val (.int p3), .val (.int p4), .val (.int p5), .val (.int n_), .val (.int sl_), .val (.int o0), .val (.int o1), .val (.int o2), .val (.int o3), .unset, .unset, .unset, .unset, .unset] [(.long (30 : Int64)), (.int (2 : Int32)), (.ref b262), (.ref b262)])) _
          refine st268 _ ?_
          show Steps p.tables e below (T268.setTop (mkF m 136 #[.val (.int p0), .val (.int p1), .val (.int p2), .val (.int p3), .val (.int p4), .val (.int p5), .val (.int n_), .val (.int sl_), .val (.int o0), .val (.int o1), .val (.int o2), .val (.int o3), .unset, .unset, .unset, .unset, .unset] [(.ref b262)])) _
          refine XS.astore X268.here hx rfl (hb hby at_136) rfl rfl (l' := #[.val (.int p0), .val (.int p1), .val (.int p2), .val (.int p3), .val (.int p4), .val (.int p5), .val (.int n_), .val (.int sl_), .val (.int o0), .val (.int o1), .val (.int o2), .val (.int o3), .val (.ref b262), .unset, .unset, .unset, .unset]) rfl ?_
          show Steps p.tables e below (T268.setTop (mkF m 138 #[.val (.int p0), .val (.int p1), .val (.int p2), .val (.int p3), .val (.int p4), .val (.int p5), .val (.int n_), .val (.int sl_), .val (.int o0), .val (.int o1), .val (.int o2), .val (.int o3), .val (.ref b262), .unset, .unset, .unset, .unset] [])) _
          refine XS.iconst X268.here hx rfl (hb hby at_138) ?_
          show Steps p.tables e below (T268.setTop (mkF m 139 #[.val (.int p0), .val (.int p1), .val (.int p2), .val (.int p3), .val (.int p4), .val (.int p5), .val (.int n_), .val (.int sl_), .val (.int o0), .val (.int o1), .val (.int o2), .val (.int o3), .val (.ref b262), .unset, .unset, .unset, .unset] [(.int (3 : Int32))])) _
          refine st269 _ ?_
          show Steps p.tables e below (T269.setTop (mkF m 141 #[.val (.int p0), .val (.int p1), .val (.int p2), .val (.int p3), .val (.int p4), .val (.int p5), .val (.int n_), .val (.int sl_), .val (.int o0), .val (.int o1), .val (.int o2), .val (.int o3), .val (.ref b262), .unset, .unset, .unset, .unset] [(.ref b269)])) _
          refine XS.dup X269.here hx rfl (hb hby at_141) rfl rfl ?_
          show Steps p.tables e below (T269.setTop (mkF m 142 #[.val (.int p0), .val (.int p1), .val (.int p2), .val (.int p3), .val (.int p4), .val (.int p5), .val (.int n_), .val (.int sl_), .val (.int o0), .val (.int o1), .val (.int o2), .val (.int o3), .val (.ref b262), .unset, .unset, .unset, .unset] [(.ref b269), (.ref b269)])) _
          refine XS.iconst X269.here hx rfl (hb hby at_142) ?_
          show Steps p.tables e below (T269.setTop (mkF m 143 #[.val (.int p0), .val (.int p1), .val (.int p2), .val (.int p3), .val (.int p4), .val (.int p5), .val (.int n_), .val (.int sl_), .val (.int o0), .val (.int o1), .val (.int o2), .val (.int o3), .val (.ref b262), .unset, .unset, .unset, .unset] [(.int (0 : Int32)), (.ref b269), (.ref b269)])) _
          refine XS.iload X269.here hx rfl (hb hby at_143) rfl ?_
          show Steps p.tables e below (T269.setTop (mkF m 145 #[.val (.int p0), .val (.int p1), .val (.int p2), .val (.int p3), .val (.int p4), .val (.int p5), .val (.int n_), .val (.int sl_), .val (.int o0), .val (.int o1), .val (.int o2), .val (.int o3), .val (.ref b262), .unset, .unset, .unset, .unset] [(.int o0), (.int (0 : Int32)), (.ref b269), (.ref b269)])) _
          refine st272 _ ?_
          show Steps p.tables e below (T272.setTop (mkF m 146 #[.val (.int p0), .val (.int p1), .val (.int p2), .val (.int p3), .val (.int p4), .val (.int p5), .val (.int n_), .val (.int sl_), .val (.int o0), .val (.int o1), .val (.int o2), .val (.int o3), .val (.ref b262), .unset, .unset, .unset, .unset] [(.ref b269)])) _
          refine XS.dup X272.here hx rfl (hb hby at_146) rfl rfl ?_
          show Steps p.tables e below (T272.setTop (mkF m 147 #[.val (.int p0), .val (.int p1), .val (.int p2), .val (.int p3), .val (.int p4), .val (.int p5), .val (.int n_), .val (.int sl_), .val (.int o0), .val (.int o1), .val (.int o2), .val (.int o3), .val (.ref b262), .unset, .unset, .unset, .unset] [(.ref b269), (.ref b269)])) _
          refine XS.iconst X272.here hx rfl (hb hby at_147) ?_
          show Steps p.tables e below (T272.setTop (mkF m 148 #[.val (.int p0), .val (.int p1), .val (.int p2), .val (.int p3), .val (.int p4), .val (.int p5), .val (.int n_), .val (.int sl_), .val (.int o0), .val (.int o1), .val (.int o2), .val (.int o3), .val (.ref b262), .unset, .unset, .unset, .unset] [(.int (1 : Int32)), (.ref b269), (.ref b269)])) _
          refine XS.iload X272.here hx rfl (hb hby at_148) rfl ?_
          show Steps p.tables e below (T272.setTop (mkF m 150 #[.val (.int p0), .val (.int p1), .val (.int p2), .val (.int p3), .val (.int p4), .val (.int p5), .val (.int n_), .val (.int sl_), .val (.int o0), .val (.int o1), .val (.int o2), .val (.int o3), .val (.ref b262), .unset, .unset, .unset, .unset] [(.int o1), (.int (1 : Int32)), (.ref b269), (.ref b269)])) _
          refine st275 _ ?_
          show Steps p.tables e below (T275.setTop (mkF m 151 #[.val (.int p0), .val (.int p1), .val (.int p2), .val (.int p3), .val (.int p4), .val (.int p5), .val (.int n_), .val (.int sl_), .val (.int o0), .val (.int o1), .val (.int o2), .val (.int o3), .val (.ref b262), .unset, .unset, .unset, .unset] [(.ref b269)])) _
          refine XS.dup X275.here hx rfl (hb hby at_151) rfl rfl ?_
          show Steps p.tables e below (T275.setTop (mkF m 152 #[.val (.int p0), .val (.int p1), .val (.int p2), .val (.int p3), .val (.int p4), .val (.int p5), .val (.int n_), .val (.int sl_), .val (.int o0), .val (.int o1), .val (.int o2), .val (.int o3), .val (.ref b262), .unset, .unset, .unset, .unset] [(.ref b269), (.ref b269)])) _
          refine XS.iconst X275.here hx rfl (hb hby at_152) ?_
          show Steps p.tables e below (T275.setTop (mkF m 153 #[.val (.int p0), .val (.int p1), .val (.int p2), .val (.int p3), .val (.int p4), .val (.int p5), .val (.int n_), .val (.int sl_), .val (.int o0), .val (.int o1), .val (.int o2), .val (.int o3), .val (.ref b262), .unset, .unset, .unset, .unset] [(.int (2 : Int32)), (.ref b269), (.ref b269)])) _
          refine XS.iload X275.here hx rfl (hb hby at_153) rfl ?_
          show Steps p.tables e below (T275.setTop (mkF m 155 #[.val (.int p0), .val (.int p1), .val (.int p2), .val (.int p3), .val (.int p4), .val (.int p5), .val (.int n_), .val (.int sl_), .val (.int o0), .val (.int o1), .val (.int o2), .val (.int o3), .val (.ref b262), .unset, .unset, .unset, .unset] [(.int o2), (.int (2 : Int32)), (.ref b269), (.ref b269)])) _
          refine st278 _ ?_
          show Steps p.tables e below (T278.setTop (mkF m 156 #[.val (.int p0), .val (.int p1), .val (.int p2), .val (.int p3), .val (.int p4), .val (.int p5), .val (.int n_), .val (.int sl_), .val (.int o0), .val (.int o1), .val (.int o2), .val (.int o3), .val (.ref b262), .unset, .unset, .unset, .unset] [(.ref b269)])) _
          refine XS.astore X278.here hx rfl (hb hby at_156) rfl rfl (l' := #[.val (.int p0), .val (.int p1), .val (.int p2), .val (.int p3), .val (.int p4), .val (.int p5), .val (.int n_), .val (.int sl_), .val (.int o0), .val (.int o1), .val (.int o2), .val (.int o3), .val (.ref b262), .val (.ref b269), .unset, .unset, .unset]) rfl ?_
          show Steps p.tables e below (T278.setTop (mkF m 158 #[.val (.int p0), .val (.int p1), .val (.int p2), .val (.int p3), .val (.int p4), .val (.int p5), .val (.int n_), .val (.int sl_), .val (.int o0), .val (.int o1), .val (.int o2), .val (.int o3), .val (.ref b262), .val (.ref b269), .unset, .unset, .unset] [])) _
          refine XS.goto X278.here hx rfl (pc0 := 158) (pc' := 215) rfl (hb hby at_158) (by decide) (by decide) ?_
          show Steps p.tables e below (T278.setTop (mkF m 215 #[.val (.int p0), .val (.int p1), .val (.int p2), .val (.int p3), .val (.int p4), .val (.int p5), .val (.int n_), .val (.int sl_), .val (.int o0), .val (.int o1), .val (.int o2), .val (.int o3), .val (.ref b262), .val (.ref b269), .unset, .unset, .unset] [])) _
          refine st280 _ ?_
          show Steps p.tables e below (T280.setTop (mkF m 218 #[.val (.int p0), .val (.int p1), .val (.int p2), .val (.int p3), .val (.int p4), .val (.int p5), .val (.int n_), .val (.int sl_), .val (.int o0), .val (.int o1), .val (.int o2), .val (.int o3), .val (.ref b262), .val (.ref b269), .unset, .unset, .unset] [(.ref b280)])) _
          refine XS.dup X280.here hx rfl (hb hby at_218) rfl rfl ?_
          show Steps p.tables e below (T280.setTop (mkF m 219 #[.val (.int p0), .val (.int p1), .val (.int p2), .val (.int p3), .val (.int p4), .val (.int p5), .val (.int n_), .val (.int sl_), .val (.int o0), .val (.int o1), .val (.int o2), .val (.int o3), .val (.ref b262), .val (.ref b269), .unset, .unset, .unset] [(.ref b280), (.ref b280)])) _
          refine XS.aconstNull X280.here hx rfl (hb hby at_219) ?_
          show Steps p.tables e below (T280.setTop (mkF m 220 #[.val (.int p0), .val (.int p1), .val (.int p2), .val (.int p3), .val (.int p4), .val (.int p5), .val (.int n_), .val (.int sl_), .val (.int o0), .val (.int o1), .val (.int o2), .val (.int o3), .val (.ref b262), .val (.ref b269), .unset, .unset, .unset] [.null, (.ref b280), (.ref b280)])) _
          refine XS.aconstNull X280.here hx rfl (hb hby at_220) ?_
          show Steps p.tables e below (T280.setTop (mkF m 221 #[.val (.int p0), .val (.int p1), .val (.int p2), .val (.int p3), .val (.int p4), .val (.int p5), .val (.int n_), .val (.int sl_), .val (.int o0), .val (.int o1), .val (.int o2), .val (.int o3), .val (.ref b262), .val (.ref b269), .unset, .unset, .unset] [.null, .null, (.ref b280), (.ref b280)])) _
          refine XS.iconst X280.here hx rfl (hb hby at_221) ?_
          show Steps p.tables e below (T280.setTop (mkF m 222 #[.val (.int p0), .val (.int p1), .val (.int p2), .val (.int p3), .val (.int p4), .val (.int p5), .val (.int n_), .val (.int sl_), .val (.int o0), .val (.int o1), .val (.int o2), .val (.int o3), .val (.ref b262), .val (.ref b269), .unset, .unset, .unset] [(.int (0 : Int32)), .null, .null, (.ref b280), (.ref b280)])) _
          refine XS.aload X280.here hx rfl (hb hby at_222) rfl rfl ?_
          show Steps p.tables e below (T280.setTop (mkF m 224 #[.val (.int p0), .val (.int p1), .val (.int p2), .val (.int p3), .val (.int p4), .val (.int p5), .val (.int n_), .val (.int sl_), .val (.int o0), .val (.int o1), .val (.int o2), .val (.int o3), .val (.ref b262), .val (.ref b269), .unset, .unset, .unset] [(.ref b262), (.int (0 : Int32)), .null, .null, (.ref b280), (.ref b280)])) _
          refine XS.aload X280.here hx rfl (hb hby at_224) rfl rfl ?_
          show Steps p.tables e below (T280.setTop (mkF m 226 #[.val (.int p0), .val (.int p1), .val (.int p2), .val (.int p3), .val (.int p4), .val (.int p5), .val (.int n_), .val (.int sl_), .val (.int o0), .val (.int o1), .val (.int o2), .val (.int o3), .val (.ref b262), .val (.ref b269), .unset, .unset, .unset] [(.ref b269), (.ref b262), (.int (0 : Int32)), .null, .null, (.ref b280), (.ref b280)])) _
          refine st283.trans ?_
          show Steps p.tables e below (T283.setTop (mkF m 229 #[.val (.int p0), .val (.int p1), .val (.int p2), .val (.int p3), .val (.int p4), .val (.int p5), .val (.int n_), .val (.int sl_), .val (.int o0), .val (.int o1), .val (.int o2), .val (.int o3), .val (.ref b262), .val (.ref b269), .unset, .unset, .unset] [(.ref b280)])) _
          refine XS.astore X283.here hx rfl (hb hby at_229) rfl rfl (l' := #[.val (.int p0), .val (.int p1), .val (.int p2), .val (.int p3), .val (.int p4), .val (.int p5), .val (.int n_), .val (.int sl_), .val (.int o0), .val (.int o1), .val (.int o2), .val (.int o3), .val (.ref b262), .val (.ref b269), .val (.ref b280), .unset, .unset]) rfl ?_
          show Steps p.tables e below (T283.setTop (mkF m 231 #[.val (.int p0), .val (.int p1), .val (.int p2), .val (.int p3), .val (.int p4), .val (.int p5), .val (.int n_), .val (.int sl_), .val (.int o0), .val (.int o1), .val (.int o2), .val (.int o3), .val (.ref b262), .val (.ref b269), .val (.ref b280), .unset, .unset] [])) _
          refine XS.iload X283.here hx rfl (hb hby at_231) rfl ?_
          show Steps p.tables e below (T283.setTop (mkF m 233 #[.val (.int p0), .val (.int p1), .val (.int p2), .val (.int p3), .val (.int p4), .val (.int p5), .val (.int n_), .val (.int sl_), .val (.int o0), .val (.int o1), .val (.int o2), .val (.int o3), .val (.ref b262), .val (.ref b269), .val (.ref b280), .unset, .unset] [(.int sl_)])) _
          refine XS.iconst X283.here hx rfl (hb hby at_233) ?_
          show Steps p.tables e below (T283.setTop (mkF m 234 #[.val (.int p0), .val (.int p1), .val (.int p2), .val (.int p3), .val (.int p4), .val (.int p5), .val (.int n_), .val (.int sl_), .val (.int o0), .val (.int o1), .val (.int o2), .val (.int o3), .val (.ref b262), .val (.ref b269), .val (.ref b280), .unset, .unset] [(.int (1 : Int32)), (.int sl_)])) _
          refine XS.iadd X283.here hx rfl (hb hby at_234) rfl ?_
          show Steps p.tables e below (T283.setTop (mkF m 235 #[.val (.int p0), .val (.int p1), .val (.int p2), .val (.int p3), .val (.int p4), .val (.int p5), .val (.int n_), .val (.int sl_), .val (.int o0), .val (.int o1), .val (.int o2), .val (.int o3), .val (.ref b262), .val (.ref b269), .val (.ref b280), .unset, .unset] [(.int (sl_ + (1 : Int32)))])) _
          refine XS.iload X283.here hx rfl (hb hby at_235) rfl ?_
          exact kk
        obtain ⟨iv289, hj_iv289⟩ : ∃ z : Int32, z = (if (sl_ + (1 : Int32)) = n_ then (0 : Int32) else (sl_ + (1 : Int32))) := ⟨_, rfl⟩
        have pre290 : ∀ t, Steps p.tables e below (T283.setTop (mkF m 248 #[.val (.int p0), .val (.int p1), .val (.int p2), .val (.int p3), .val (.int p4), .val (.int p5), .val (.int n_), .val (.int sl_), .val (.int o0), .val (.int o1), .val (.int o2), .val (.int o3), .val (.ref b262), .val (.ref b269), .val (.ref b280), .unset, .unset] [(.int iv289)])) t → Steps p.tables e below (s₁.setTop (entryFrame m #[(.int p0), (.int p1), (.int p2), (.int p3), (.int p4), (.int p5)] maxLocals)) t := by
          intro t kk
          by_cases hc237_287 : (sl_ + (1 : Int32)) = n_
          · rw [show iv289 = (0 : Int32) by rw [hj_iv289]; simp only [if_pos hc237_287]] at kk
            refine pre288 t ?_
            show Steps p.tables e below (T283.setTop (mkF m 237 #[.val (.int p0), .val (.int p1), .val (.int p2), .val (.int p3), .val (.int p4), .val (.int p5), .val (.int n_), .val (.int sl_), .val (.int o0), .val (.int o1), .val (.int o2), .val (.int o3), .val (.ref b262), .val (.ref b269), .val (.ref b280), .unset, .unset] [(.int n_), (.int (sl_ + (1 : Int32)))])) _
            refine XS.icmpNo X283.here hx rfl (hb hby at_237) rfl (teq hc237_287).2 ?_
            show Steps p.tables e below (T283.setTop (mkF m 240 #[.val (.int p0), .val (.int p1), .val (.int p2), .val (.int p3), .val (.int p4), .val (.int p5), .val (.int n_), .val (.int sl_), .val (.int o0), .val (.int o1), .val (.int o2), .val (.int o3), .val (.ref b262), .val (.ref b269), .val (.ref b280), .unset, .unset] [])) _
            refine XS.iconst X283.here hx rfl (hb hby at_240) ?_
            show Steps p.tables e below (T283.setTop (mkF m 241 #[.val (.int p0), .val (.int p1), .val (.int p2), .val (.int p3), .val (.int p4), .val (.int p5), .val (.int n_), .val (.int sl_), .val (.int o0), .val (.int o1), .val (.int o2), .val (.int o3), .val (.ref b262), .val (.ref b269), .val (.ref b280), .unset, .unset] [(.int (0 : Int32))])) _
            refine XS.goto X283.here hx rfl (pc0 := 241) (pc' := 248) rfl (hb hby at_241) (by decide) (by decide) ?_
            exact kk
          · rw [show iv289 = (sl_ + (1 : Int32)) by rw [hj_iv289]; simp only [if_neg hc237_287]] at kk
            refine pre288 t ?_
            show Steps p.tables e below (T283.setTop (mkF m 237 #[.val (.int p0), .val (.int p1), .val (.int p2), .val (.int p3), .val (.int p4), .val (.int p5), .val (.int n_), .val (.int sl_), .val (.int o0), .val (.int o1), .val (.int o2), .val (.int o3), .val (.ref b262), .val (.ref b269), .val (.ref b280), .unset, .unset] [(.int n_), (.int (sl_ + (1 : Int32)))])) _
            refine XS.icmpYes X283.here hx rfl (pc0 := 237) (pc' := 244) rfl (hb hby at_237) rfl (feq hc237_287).2 (by decide) (by decide) ?_
            show Steps p.tables e below (T283.setTop (mkF m 244 #[.val (.int p0), .val (.int p1), .val (.int p2), .val (.int p3), .val (.int p4), .val (.int p5), .val (.int n_), .val (.int sl_), .val (.int o0), .val (.int o1), .val (.int o2), .val (.int o3), .val (.ref b262), .val (.ref b269), .val (.ref b280), .unset, .unset] [])) _
            refine XS.iload X283.here hx rfl (hb hby at_244) rfl ?_
            show Steps p.tables e below (T283.setTop (mkF m 246 #[.val (.int p0), .val (.int p1), .val (.int p2), .val (.int p3), .val (.int p4), .val (.int p5), .val (.int n_), .val (.int sl_), .val (.int o0), .val (.int o1), .val (.int o2), .val (.int o3), .val (.ref b262), .val (.ref b269), .val (.ref b280), .unset, .unset] [(.int sl_)])) _
            refine XS.iconst X283.here hx rfl (hb hby at_246) ?_
            show Steps p.tables e below (T283.setTop (mkF m 247 #[.val (.int p0), .val (.int p1), .val (.int p2), .val (.int p3), .val (.int p4), .val (.int p5), .val (.int n_), .val (.int sl_), .val (.int o0), .val (.int o1), .val (.int o2), .val (.int o3), .val (.ref b262), .val (.ref b269), .val (.ref b280), .unset, .unset] [(.int (1 : Int32)), (.int sl_)])) _
            refine XS.iadd X283.here hx rfl (hb hby at_247) rfl ?_
            exact kk
        obtain ⟨_, _, ⟨T291, L291, k291, n291⟩, -, X291, ⟨Lc291, hQ291, l291, y291, z291⟩, st291⟩ := Jvm.LawKit.callS X283 hx (y := (⟨"com/example/clockwise/clockwise/RingIsFreePinLaw", "pick", "(IIIII)I"⟩ : MethodName)) hown (mvT hZ (hw _ (List.mem_of_getElem? (i := 54) rfl))) (mvT hZ (hw _ (List.mem_of_getElem? (i := 55) rfl))) (mvT hZ (hw _ (List.mem_of_getElem? (i := 56) rfl))) (mvT hZ (hw _ (List.mem_of_getElem? (i := 57) rfl))) (by decide) (backOf (W := 0) (rm8 l Z aA hw [] iv289 o0 o1 o2 o3  T283.heap n0 Z283 ) hZ (hw _ (List.mem_of_getElem? (i := 57) rfl)) (hw _ (List.mem_of_getElem? (i := 56) rfl)) (by decide) (by decide)) (g := (mkF m 260 #[.val (.int p0), .val (.int p1), .val (.int p2), .val (.int p3), .val (.int p4), .val (.int p5), .val (.int n_), .val (.int sl_), .val (.int o0), .val (.int o1), .val (.int o2), .val (.int o3), .val (.ref b262), .val (.ref b269), .val (.ref b280), .val (.int iv289), .unset] [(.int o3), (.int o2), (.int o1), (.int o0), (.int iv289)])) rfl (by rw [hml]; rfl) (argsL := [(.int iv289), (.int o0), (.int o1), (.int o2), (.int o3)]) (rest := []) (lenOf pd__28IIIII_29I rfl) rfl (by show 2 * 0 + _ ≤ _; exact Nat.le_of_eq rfl) (hb hby at_260) (fun _ _ => ⟨rfl, rfl, (by decide : 5 + 0 ≤ _), (by decide : 18 + 0 ≤ _)⟩)
        dsimp only [Pt.U, Pt.locs, Pt.cells, Pt.slots] at X291 l291 y291 z291 st291 hQ291
        subst l291 y291 z291
        obtain ⟨rfl, N291q, e291⟩ := hQ291
        have N291 := Fr.app N283 N291q
        obtain ⟨_, _, ⟨T292, L292, k292, n292⟩, -, X292, ⟨Lc292, hQ292, l292, y292, z292⟩, st292⟩ := Jvm.LawKit.callS X291 hx (y := (⟨"com/example/clockwise/clockwise/RingIsFreePinLaw", "pick", "(IIIII)I"⟩ : MethodName)) hown (mvT hZ (hw _ (List.mem_of_getElem? (i := 54) rfl))) (mvT hZ (hw _ (List.mem_of_getElem? (i := 55) rfl))) (mvT hZ (hw _ (List.mem_of_getElem? (i := 56) rfl))) (mvT hZ (hw _ (List.mem_of_getElem? (i := 57) rfl))) (by decide) (backOf (W := 1) (rm8 l Z aA hw [] sl_ o0 o1 o2 o3  T283.heap n0 Z283 ) hZ (hw _ (List.mem_of_getElem? (i := 57) rfl)) (hw _ (List.mem_of_getElem? (i := 56) rfl)) (by decide) (by decide)) (g := (mkF m 273 #[.val (.int p0), .val (.int p1), .val (.int p2), .val (.int p3), .val (.int p4), .val (.int p5), .val (.int n_), .val (.int sl_), .val (.int o0), .val (.int o1), .val (.int o2), .val (.int o3), .val (.ref b262), .val (.ref b269), .val (.ref b280), .val (.int iv289), .unset] [(.int o3), (.int o2), (.int o1), (.int o0), (.int sl_), (.int (F8 iv289 o0 o1 o2 o3))])) rfl (by rw [hml]; rfl) (argsL := [(.int sl_), (.int o0), (.int o1), (.int o2), (.int o3)]) (rest := [(.int (F8 iv289 o0 o1 o2 o3))]) (lenOf pd__28IIIII_29I rfl) rfl (by show 2 * 0 + _ ≤ _; exact Nat.le_of_eq rfl) (hb hby at_273) (fun _ _ => ⟨rfl, e291, (by decide : 5 + 0 ≤ _), (by decide : 18 + 0 ≤ _)⟩)
        dsimp only [Pt.U, Pt.locs, Pt.cells, Pt.slots] at X292 l292 y292 z292 st292 hQ292
        subst l292 y292 z292
        obtain ⟨rfl, N292q, e292⟩ := hQ292
        have N292 := Fr.app N291 N292q
        have pre294 : ∀ t, Steps p.tables e below (T292.setTop (mkF m 276 #[.val (.int p0), .val (.int p1), .val (.int p2), .val (.int p3), .val (.int p4), .val (.int p5), .val (.int n_), .val (.int sl_), .val (.int o0), .val (.int o1), .val (.int o2), .val (.int o3), .val (.ref b262), .val (.ref b269), .val (.ref b280), .val (.int iv289), .unset] [(.int (F8 sl_ o0 o1 o2 o3)), (.int (F8 iv289 o0 o1 o2 o3))])) t → Steps p.tables e below (s₁.setTop (entryFrame m #[(.int p0), (.int p1), (.int p2), (.int p3), (.int p4), (.int p5)] maxLocals)) t := by
          intro t kk
          refine pre290 t ?_
          show Steps p.tables e below (T283.setTop (mkF m 248 #[.val (.int p0), .val (.int p1), .val (.int p2), .val (.int p3), .val (.int p4), .val (.int p5), .val (.int n_), .val (.int sl_), .val (.int o0), .val (.int o1), .val (.int o2), .val (.int o3), .val (.ref b262), .val (.ref b269), .val (.ref b280), .unset, .unset] [(.int iv289)])) _
          refine XS.istore X283.here hx rfl (hb hby at_248) rfl (l' := #[.val (.int p0), .val (.int p1), .val (.int p2), .val (.int p3), .val (.int p4), .val (.int p5), .val (.int n_), .val (.int sl_), .val (.int o0), .val (.int o1), .val (.int o2), .val (.int o3), .val (.ref b262), .val (.ref b269), .val (.ref b280), .val (.int iv289), .unset]) rfl ?_
          show Steps p.tables e below (T283.setTop (mkF m 250 #[.val (.int p0), .val (.int p1), .val (.int p2), .val (.int p3), .val (.int p4), .val (.int p5), .val (.int n_), .val (.int sl_), .val (.int o0), .val (.int o1), .val (.int o2), .val (.int o3), .val (.ref b262), .val (.ref b269), .val (.ref b280), .val (.int iv289), .unset] [])) _
          refine XS.iload X283.here hx rfl (hb hby at_250) rfl ?_
          show Steps p.tables e below (T283.setTop (mkF m 252 #[.val (.int p0), .val (.int p1), .val (.int p2), .val (.int p3), .val (.int p4), .val (.int p5), .val (.int n_), .val (.int sl_), .val (.int o0), .val (.int o1), .val (.int o2), .val (.int o3), .val (.ref b262), .val (.ref b269), .val (.ref b280), .val (.int iv289), .unset] [(.int iv289)])) _
          refine XS.iload X283.here hx rfl (hb hby at_252) rfl ?_
          show Steps p.tables e below (T283.setTop (mkF m 254 #[.val (.int p0), .val (.int p1), .val (.int p2), .val (.int p3), .val (.int p4), .val (.int p5), .val (.int n_), .val (.int sl_), .val (.int o0), .val (.int o1), .val (.int o2), .val (.int o3), .val (.ref b262), .val (.ref b269), .val (.ref b280), .val (.int iv289), .unset] [(.int o0), (.int iv289)])) _
          refine XS.iload X283.here hx rfl (hb hby at_254) rfl ?_
          show Steps p.tables e below (T283.setTop (mkF m 256 #[.val (.int p0), .val (.int p1), .val (.int p2), .val (.int p3), .val (.int p4), .val (.int p5), .val (.int n_), .val (.int sl_), .val (.int o0), .val (.int o1), .val (.int o2), .val (.int o3), .val (.ref b262), .val (.ref b269), .val (.ref b280), .val (.int iv289), .unset] [(.int o1), (.int o0), (.int iv289)])) _
          refine XS.iload X283.here hx rfl (hb hby at_256) rfl ?_
          show Steps p.tables e below (T283.setTop (mkF m 258 #[.val (.int p0), .val (.int p1), .val (.int p2), .val (.int p3), .val (.int p4), .val (.int p5), .val (.int n_), .val (.int sl_), .val (.int o0), .val (.int o1), .val (.int o2), .val (.int o3), .val (.ref b262), .val (.ref b269), .val (.ref b280), .val (.int iv289), .unset] [(.int o2), (.int o1), (.int o0), (.int iv289)])) _
          refine XS.iload X283.here hx rfl (hb hby at_258) rfl ?_
          show Steps p.tables e below (T283.setTop (mkF m 260 #[.val (.int p0), .val (.int p1), .val (.int p2), .val (.int p3), .val (.int p4), .val (.int p5), .val (.int n_), .val (.int sl_), .val (.int o0), .val (.int o1), .val (.int o2), .val (.int o3), .val (.ref b262), .val (.ref b269), .val (.ref b280), .val (.int iv289), .unset] [(.int o3), (.int o2), (.int o1), (.int o0), (.int iv289)])) _
          refine st291 _ ?_
          show Steps p.tables e below (T291.setTop (mkF m 263 #[.val (.int p0), .val (.int p1), .val (.int p2), .val (.int p3), .val (.int p4), .val (.int p5), .val (.int n_), .val (.int sl_), .val (.int o0), .val (.int o1), .val (.int o2), .val (.int o3), .val (.ref b262), .val (.ref b269), .val (.ref b280), .val (.int iv289), .unset] [(.int (F8 iv289 o0 o1 o2 o3))])) _
          refine XS.iload X291.here hx rfl (hb hby at_263) rfl ?_
          show Steps p.tables e below (T291.setTop (mkF m 265 #[.val (.int p0), .val (.int p1), .val (.int p2), .val (.int p3), .val (.int p4), .val (.int p5), .val (.int n_), .val (.int sl_), .val (.int o0), .val (.int o1), .val (.int o2), .val (.int o3), .val (.ref b262), .val (.ref b269), .val (.ref b280), .val (.int iv289), .unset] [(.int sl_), (.int (F8 iv289 o0 o1 o2 o3))])) _
          refine XS.iload X291.here hx rfl (hb hby at_265) rfl ?_
          show Steps p.tables e below (T291.setTop (mkF m 267 #[.val (.int p0), .val (.int p1), .val (.int p2), .val (.int p3), .val (.int p4), .val (.int p5), .val (.int n_), .val (.int sl_), .val (.int o0), .val (.int o1), .val (.int o2), .val (.int o3), .val (.ref b262), .val (.ref b269), .val (.ref b280), .val (.int iv289), .unset] [(.int o0), (.int sl_), (.int (F8 iv289 o0 o1 o2 o3))])) _
          refine XS.iload X291.here hx rfl (hb hby at_267) rfl ?_
          show Steps p.tables e below (T291.setTop (mkF m 269 #[.val (.int p0), .val (.int p1), .val (.int p2), .val (.int p3), .val (.int p4), .val (.int p5), .val (.int n_), .val (.int sl_), .val (.int o0), .val (.int o1), .val (.int o2), .val (.int o3), .val (.ref b262), .val (.ref b269), .val (.ref b280), .val (.int iv289), .unset] [(.int o1), (.int o0), (.int sl_), (.int (F8 iv289 o0 o1 o2 o3))])) _
          refine XS.iload X291.here hx rfl (hb hby at_269) rfl ?_
          show Steps p.tables e below (T291.setTop (mkF m 271 #[.val (.int p0), .val (.int p1), .val (.int p2), .val (.int p3), .val (.int p4), .val (.int p5), .val (.int n_), .val (.int sl_), .val (.int o0), .val (.int o1), .val (.int o2), .val (.int o3), .val (.ref b262), .val (.ref b269), .val (.ref b280), .val (.int iv289), .unset] [(.int o2), (.int o1), (.int o0), (.int sl_), (.int (F8 iv289 o0 o1 o2 o3))])) _
          refine XS.iload X291.here hx rfl (hb hby at_271) rfl ?_
          show Steps p.tables e below (T291.setTop (mkF m 273 #[.val (.int p0), .val (.int p1), .val (.int p2), .val (.int p3), .val (.int p4), .val (.int p5), .val (.int n_), .val (.int sl_), .val (.int o0), .val (.int o1), .val (.int o2), .val (.int o3), .val (.ref b262), .val (.ref b269), .val (.ref b280), .val (.int iv289), .unset] [(.int o3), (.int o2), (.int o1), (.int o0), (.int sl_), (.int (F8 iv289 o0 o1 o2 o3))])) _
          refine st292 _ ?_
          exact kk
        obtain ⟨iv295, hj_iv295⟩ : ∃ z : Int32, z = (if (F8 iv289 o0 o1 o2 o3) = (F8 sl_ o0 o1 o2 o3) then (1 : Int32) else (0 : Int32)) := ⟨_, rfl⟩
        have pre296 : ∀ t, Steps p.tables e below (T292.setTop (mkF m 284 #[.val (.int p0), .val (.int p1), .val (.int p2), .val (.int p3), .val (.int p4), .val (.int p5), .val (.int n_), .val (.int sl_), .val (.int o0), .val (.int o1), .val (.int o2), .val (.int o3), .val (.ref b262), .val (.ref b269), .val (.ref b280), .val (.int iv289), .unset] [(.int iv295)])) t → Steps p.tables e below (s₁.setTop (entryFrame m #[(.int p0), (.int p1), (.int p2), (.int p3), (.int p4), (.int p5)] maxLocals)) t := by
          intro t kk
          by_cases hc276_293 : (F8 iv289 o0 o1 o2 o3) = (F8 sl_ o0 o1 o2 o3)
          · rw [show iv295 = (1 : Int32) by rw [hj_iv295]; simp only [if_pos hc276_293]] at kk
            refine pre294 t ?_
            show Steps p.tables e below (T292.setTop (mkF m 276 #[.val (.int p0), .val (.int p1), .val (.int p2), .val (.int p3), .val (.int p4), .val (.int p5), .val (.int n_), .val (.int sl_), .val (.int o0), .val (.int o1), .val (.int o2), .val (.int o3), .val (.ref b262), .val (.ref b269), .val (.ref b280), .val (.int iv289), .unset] [(.int (F8 sl_ o0 o1 o2 o3)), (.int (F8 iv289 o0 o1 o2 o3))])) _
            refine XS.icmpNo X292.here hx rfl (hb hby at_276) rfl (teq hc276_293).2 ?_
            show Steps p.tables e below (T292.setTop (mkF m 279 #[.val (.int p0), .val (.int p1), .val (.int p2), .val (.int p3), .val (.int p4), .val (.int p5), .val (.int n_), .val (.int sl_), .val (.int o0), .val (.int o1), .val (.int o2), .val (.int o3), .val (.ref b262), .val (.ref b269), .val (.ref b280), .val (.int iv289), .unset] [])) _
            refine XS.iconst X292.here hx rfl (hb hby at_279) ?_
            show Steps p.tables e below (T292.setTop (mkF m 280 #[.val (.int p0), .val (.int p1), .val (.int p2), .val (.int p3), .val (.int p4), .val (.int p5), .val (.int n_), .val (.int sl_), .val (.int o0), .val (.int o1), .val (.int o2), .val (.int o3), .val (.ref b262), .val (.ref b269), .val (.ref b280), .val (.int iv289), .unset] [(.int (1 : Int32))])) _
            refine XS.goto X292.here hx rfl (pc0 := 280) (pc' := 284) rfl (hb hby at_280) (by decide) (by decide) ?_
            exact kk
          · rw [show iv295 = (0 : Int32) by rw [hj_iv295]; simp only [if_neg hc276_293]] at kk
            refine pre294 t ?_
            show Steps p.tables e below (T292.setTop (mkF m 276 #[.val (.int p0), .val (.int p1), .val (.int p2), .val (.int p3), .val (.int p4), .val (.int p5), .val (.int n_), .val (.int sl_), .val (.int o0), .val (.int o1), .val (.int o2), .val (.int o3), .val (.ref b262), .val (.ref b269), .val (.ref b280), .val (.int iv289), .unset] [(.int (F8 sl_ o0 o1 o2 o3)), (.int (F8 iv289 o0 o1 o2 o3))])) _
            refine XS.icmpYes X292.here hx rfl (pc0 := 276) (pc' := 283) rfl (hb hby at_276) rfl (feq hc276_293).2 (by decide) (by decide) ?_
            show Steps p.tables e below (T292.setTop (mkF m 283 #[.val (.int p0), .val (.int p1), .val (.int p2), .val (.int p3), .val (.int p4), .val (.int p5), .val (.int n_), .val (.int sl_), .val (.int o0), .val (.int o1), .val (.int o2), .val (.int o3), .val (.ref b262), .val (.ref b269), .val (.ref b280), .val (.int iv289), .unset] [])) _
            refine XS.iconst X292.here hx rfl (hb hby at_283) ?_
            exact kk
        obtain ⟨cq297, kq297, q297a, q297b, q297c⟩ := isOf hZ e292 Eq283
        obtain ⟨_, _, ⟨T297, L297, k297, n297⟩, -, X297, ⟨Lc297, hQ297, l297, y297, z297⟩, st297⟩ := X292.virtualBack hx (y := (⟨"com/example/clockwise/clockwise/Ring", "isFree", "(I)Z"⟩ : MethodName)) (z := (⟨"com/example/clockwise/clockwise/Ring", "isFree", "(I)Z"⟩ : MethodName)) hown (mvT hZ (hw _ (List.mem_of_getElem? (i := 58) rfl))) (mvT hZ (hw _ (List.mem_of_getElem? (i := 59) rfl))) (notFace_of_selects (args := #[]) (mvT hZ (hw _ (List.mem_of_getElem? (i := 61) rfl)))) (mvT hZ (hw _ (List.mem_of_getElem? (i := 61) rfl))) (mvT hZ (hw _ (List.mem_of_getElem? (i := 60) rfl))) (by decide) (backOf (W := 0) (rm9 l Z aA hw [] b280 sl_ b269 k269 (3 : Int32) [o0, o1, o2] T283.heap n0 Z283 Fq283_owners V_b269_285 hs0 (hc112_260 ▸ hs1)) hZ (hw _ (List.mem_of_getElem? (i := 62) rfl)) (hw _ (List.mem_of_getElem? (i := 6) rfl)) (by decide) (by decide)) q297a q297c (g := (mkF m 290 #[.val (.int p0), .val (.int p1), .val (.int p2), .val (.int p3), .val (.int p4), .val (.int p5), .val (.int n_), .val (.int sl_), .val (.int o0), .val (.int o1), .val (.int o2), .val (.int o3), .val (.ref b262), .val (.ref b269), .val (.ref b280), .val (.int iv289), .val (.int iv295)] [(.int sl_), (.ref b280)])) rfl (by rw [hml]; rfl) (Steps.refl _) (argsL := [(.int sl_)]) (rest := []) (lenOf pd__28I_29Z rfl) rfl (by show 2 * 0 + _ ≤ _; exact Nat.le_of_eq rfl) (hb hby at_290) (fun _ _ => ⟨rfl, e292, (by decide : 5 + 0 ≤ _), (by decide : 18 + 0 ≤ _)⟩)
        dsimp only [Pt.U, Pt.locs, Pt.cells, Pt.slots] at X297 l297 y297 z297 st297 hQ297
        subst l297 y297 z297
        obtain ⟨rfl, N297q, e297⟩ := hQ297
        have N297 := Fr.app N292 N297q
        have pre298 : ∀ t, Steps p.tables e below (T297.setTop (mkF m 303 #[.val (.int p0), .val (.int p1), .val (.int p2), .val (.int p3), .val (.int p4), .val (.int p5), .val (.int n_), .val (.int sl_), .val (.int o0), .val (.int o1), .val (.int o2), .val (.int o3), .val (.ref b262), .val (.ref b269), .val (.ref b280), .val (.int iv289), .val (.int iv295)] [(.int (1 : Int32))])) t → Steps p.tables e below (s₁.setTop (entryFrame m #[(.int p0), (.int p1), (.int p2), (.int p3), (.int p4), (.int p5)] maxLocals)) t := by
          intro t kk
          refine pre296 t ?_
          show Steps p.tables e below (T292.setTop (mkF m 284 #[.val (.int p0), .val (.int p1), .val (.int p2), .val (.int p3), .val (.int p4), .val (.int p5), .val (.int n_), .val (.int sl_), .val (.int o0), .val (.int o1), .val (.int o2), .val (.int o3), .val (.ref b262), .val (.ref b269), .val (.ref b280), .val (.int iv289), .unset] [(.int iv295)])) _
          refine XS.istore X292.here hx rfl (hb hby at_284) rfl (l' := #[.val (.int p0), .val (.int p1), .val (.int p2), .val (.int p3), .val (.int p4), .val (.int p5), .val (.int n_), .val (.int sl_), .val (.int o0), .val (.int o1), .val (.int o2), .val (.int o3), .val (.ref b262), .val (.ref b269), .val (.ref b280), .val (.int iv289), .val (.int iv295)]) rfl ?_
          show Steps p.tables e below (T292.setTop (mkF m 286 #[.val (.int p0), .val (.int p1), .val (.int p2), .val (.int p3), .val (.int p4), .val (.int p5), .val (.int n_), .val (.int sl_), .val (.int o0), .val (.int o1), .val (.int o2), .val (.int o3), .val (.ref b262), .val (.ref b269), .val (.ref b280), .val (.int iv289), .val (.int iv295)] [])) _
          refine XS.aload X292.here hx rfl (hb hby at_286) rfl rfl ?_
          show Steps p.tables e below (T292.setTop (mkF m 288 #[.val (.int p0), .val (.int p1), .val (.int p2), .val (.int p3), .val (.int p4), .val (.int p5), .val (.int n_), .val (.int sl_), .val (.int o0), .val (.int o1), .val (.int o2), .val (.int o3), .val (.ref b262), .val (.ref b269), .val (.ref b280), .val (.int iv289), .val (.int iv295)] [(.ref b280)])) _
          refine XS.iload X292.here hx rfl (hb hby at_288) rfl ?_
          show Steps p.tables e below (T292.setTop (mkF m 290 #[.val (.int p0), .val (.int p1), .val (.int p2), .val (.int p3), .val (.int p4), .val (.int p5), .val (.int n_), .val (.int sl_), .val (.int o0), .val (.int o1), .val (.int o2), .val (.int o3), .val (.ref b262), .val (.ref b269), .val (.ref b280), .val (.int iv289), .val (.int iv295)] [(.int sl_), (.ref b280)])) _
          refine st297.trans ?_
          show Steps p.tables e below (T297.setTop (mkF m 293 #[.val (.int p0), .val (.int p1), .val (.int p2), .val (.int p3), .val (.int p4), .val (.int p5), .val (.int n_), .val (.int sl_), .val (.int o0), .val (.int o1), .val (.int o2), .val (.int o3), .val (.ref b262), .val (.ref b269), .val (.ref b280), .val (.int iv289), .val (.int iv295)] [(.int (F9 b280 sl_ b269 k269 (3 : Int32) [o0, o1, o2]))])) _
          refine XS.iload X297.here hx rfl (hb hby at_293) rfl ?_
          show Steps p.tables e below (T297.setTop (mkF m 295 #[.val (.int p0), .val (.int p1), .val (.int p2), .val (.int p3), .val (.int p4), .val (.int p5), .val (.int n_), .val (.int sl_), .val (.int o0), .val (.int o1), .val (.int o2), .val (.int o3), .val (.ref b262), .val (.ref b269), .val (.ref b280), .val (.int iv289), .val (.int iv295)] [(.int iv295), (.int (F9 b280 sl_ b269 k269 (3 : Int32) [o0, o1, o2]))])) _
          refine XS.icmpNo X297.here hx rfl (hb hby at_295) rfl (teq (by rw [hj_iv295, hj_iv289]; exact own_k3 _ _ _ n_ sl_ o0 o1 o2 o3 hc112_260 hs0 hs1)).2 ?_
          show Steps p.tables e below (T297.setTop (mkF m 298 #[.val (.int p0), .val (.int p1), .val (.int p2), .val (.int p3), .val (.int p4), .val (.int p5), .val (.int n_), .val (.int sl_), .val (.int o0), .val (.int o1), .val (.int o2), .val (.int o3), .val (.ref b262), .val (.ref b269), .val (.ref b280), .val (.int iv289), .val (.int iv295)] [])) _
          refine XS.iconst X297.here hx rfl (hb hby at_298) ?_
          show Steps p.tables e below (T297.setTop (mkF m 299 #[.val (.int p0), .val (.int p1), .val (.int p2), .val (.int p3), .val (.int p4), .val (.int p5), .val (.int n_), .val (.int sl_), .val (.int o0), .val (.int o1), .val (.int o2), .val (.int o3), .val (.ref b262), .val (.ref b269), .val (.ref b280), .val (.int iv289), .val (.int iv295)] [(.int (1 : Int32))])) _
          refine XS.goto X297.here hx rfl (pc0 := 299) (pc' := 303) rfl (hb hby at_299) (by decide) (by decide) ?_
          exact kk
        obtain ⟨fs, hr, hrun, hended, hW, hsame⟩ := X297.leave (v := some (.int (1 : Int32))) (fun h => by rw [Bd.returns] at h; cases h)
        refine ⟨_, _, pre298 _ ?_, hrun, hended, _, _, rfl, ?_, ⟨_, rfl⟩, hW, hsame.mono (by decide) (by decide)⟩
        · show Steps p.tables e below (T297.setTop (mkF m 303 #[.val (.int p0), .val (.int p1), .val (.int p2), .val (.int p3), .val (.int p4), .val (.int p5), .val (.int n_), .val (.int sl_), .val (.int o0), .val (.int o1), .val (.int o2), .val (.int o3), .val (.ref b262), .val (.ref b269), .val (.ref b280), .val (.int iv289), .val (.int iv295)] [(.int (1 : Int32))])) _
          exact retN X297 hx (t := .boolean) Bd.returns (by simp) (hb hby at_303) hr
        · show Q0 Z p0 p1 p2 p3 p4 p5 h0 n0 _ T297.heap _
          rw [e297]
          exact ⟨rfl, N297⟩
      · obtain ⟨T299, h299, k299, X299, e299, E299, A299, st299⟩ := newP X0 hx hZ (hw _ (List.mem_of_getElem? (i := 1) rfl)) e0 (g := (mkF m 162 #[.val (.int p0), .val (.int p1), .val (.int p2), .val (.int p3), .val (.int p4), .val (.int p5), .val (.int n_), .val (.int sl_), .val (.int o0), .val (.int o1), .val (.int o2), .val (.int o3), .unset, .unset, .unset, .unset, .unset] [(.int (4 : Int32))])) rfl (hb hby at_162) rfl (by decide) (cap := 4) (by decide) (by decide) (by decide) (by decide)
        obtain ⟨b299, g299⟩ : ∃ z, z = h0.size := ⟨_, rfl⟩
        rw [← g299] at A299 st299
        have sz_b299 : h0.size ≤ b299 := Nat.le_trans KP0.1 (Nat.le_of_eq g299.symm)
        have g_b299 : n0 ≤ b299 := Nat.le_trans Z0 (Nat.le_of_eq g299.symm)
        have KP299 : Keep h0 h299 [] := KP0.ext E299
        have Z299 : n0 ≤ h299.size := Nat.le_trans Z0 E299.1
        have V_b299 : Arv Z h299 b299 k299 .long (4 : Int32) [(.long (0 : Int64)), (.long (0 : Int64)), (.long (0 : Int64)), (.long (0 : Int64))] (.long (0 : Int64)) := (Arv.new A299 (by decide)).pad (pad_rep [] (.long (0 : Int64)) 4)
        obtain ⟨cl300, Ar300, q300, S300, N300v, H300, G300⟩ := V_b299
        have hin300 : ¬ ((0 : Int32) < 0 ∨ cl300.slots.size ≤ ((0 : Int32)).toNatClampNeg) := inb_of S300 ⟨by decide, by decide⟩
        obtain ⟨T301, h301, X301, e301, W301, st301⟩ := stJ X299 hx hZ e299 Ar300 (j := (0 : Int32)) hin300 (g := (mkF m 169 #[.val (.int p0), .val (.int p1), .val (.int p2), .val (.int p3), .val (.int p4), .val (.int p5), .val (.int n_), .val (.int sl_), .val (.int o0), .val (.int o1), .val (.int o2), .val (.int o3), .unset, .unset, .unset, .unset, .unset] [(.long (10 : Int64)), (.int (0 : Int32)), (.ref b299), (.ref b299)])) rfl rfl (hb hby at_169)
        have Vw301 : Arv Z h301 b299 k299 .long (4 : Int32) [(.long (10 : Int64)), (.long (0 : Int64)), (.long (0 : Int64)), (.long (0 : Int64))] (.long (0 : Int64)) := Arv.set Ar300 q300 S300 N300v H300 G300 rfl W301 0 rfl (Nat.le_of_ble_eq_true rfl)
        have KP301 : Keep h0 h301 [] := KP299.wr W301 (Or.inr sz_b299)
        have Z301 : n0 ≤ h301.size := Nat.le_trans Z299 (Nat.le_of_eq W301.size.symm)
        have N301 := Fr.snoc X301 N0 g_b299
        obtain ⟨cl302, Ar302, q302, S302, N302v, H302, G302⟩ := Vw301
        have hin302 : ¬ ((1 : Int32) < 0 ∨ cl302.slots.size ≤ ((1 : Int32)).toNatClampNeg) := inb_of S302 ⟨by decide, by decide⟩
        obtain ⟨T303, h303, X303, e303, W303, st303⟩ := stJ X301 hx hZ e301 Ar302 (j := (1 : Int32)) hin302 (g := (mkF m 175 #[.val (.int p0), .val (.int p1), .val (.int p2), .val (.int p3), .val (.int p4), .val (.int p5), .val (.int n_), .val (.int sl_), .val (.int o0), .val (.int o1), .val (.int o2), .val (.int o3), .unset, .unset, .unset, .unset, .unset] [(.long (20 : Int64)), (.int (1 : Int32)), (.ref b299), (.ref b299)])) rfl rfl (hb hby at_175)
        have Vw303 : Arv Z h303 b299 k299 .long (4 : Int32) [(.long (10 : Int64)), (.long (20 : Int64)), (.long (0 : Int64)), (.long (0 : Int64))] (.long (0 : Int64)) := Arv.set Ar302 q302 S302 N302v H302 G302 rfl W303 1 rfl (Nat.le_of_ble_eq_true rfl)
        have KP303 : Keep h0 h303 [] := KP301.wr W303 (Or.inr sz_b299)
        have Z303 : n0 ≤ h303.size := Nat.le_trans Z301 (Nat.le_of_eq W303.size.symm)
        have N303 := Fr.snoc X303 N301 g_b299
        obtain ⟨cl304, Ar304, q304, S304, N304v, H304, G304⟩ := Vw303
        have hin304 : ¬ ((2 : Int32) < 0 ∨ cl304.slots.size ≤ ((2 : Int32)).toNatClampNeg) := inb_of S304 ⟨by decide, by decide⟩
        obtain ⟨T305, h305, X305, e305, W305, st305⟩ := stJ X303 hx hZ e303 Ar304 (j := (2 : Int32)) hin304 (g := (mkF m 181 #[.val (.int p0), .val (.int p1), .val (.int p2), .val (.int p3), .val (.int p4), .val (.int p5), .val (.int n_), .val (.int sl_), .val (.int o0), .val (.int o1), .val (.int o2), .val (.int o3), .unset, .unset, .unset, .unset, .unset] [(.long (30 : Int64)), (.int (2 : Int32)), (.ref b299), (.ref b299)])) rfl rfl (hb hby at_181)
        have Vw305 : Arv Z h305 b299 k299 .long (4 : Int32) [(.long (10 : Int64)), (.long (20 : Int64)), (.long (30 : Int64)), (.long (0 : Int64))] (.long (0 : Int64)) := Arv.set Ar304 q304 S304 N304v H304 G304 rfl W305 2 rfl (Nat.le_of_ble_eq_true rfl)
        have KP305 : Keep h0 h305 [] := KP303.wr W305 (Or.inr sz_b299)
        have Z305 : n0 ≤ h305.size := Nat.le_trans Z303 (Nat.le_of_eq W305.size.symm)
        have N305 := Fr.snoc X305 N303 g_b299
        obtain ⟨cl306, Ar306, q306, S306, N306v, H306, G306⟩ := Vw305
        have hin306 : ¬ ((3 : Int32) < 0 ∨ cl306.slots.size ≤ ((3 : Int32)).toNatClampNeg) := inb_of S306 ⟨by decide, by decide⟩
        obtain ⟨T307, h307, X307, e307, W307, st307⟩ := stJ X305 hx hZ e305 Ar306 (j := (3 : Int32)) hin306 (g := (mkF m 187 #[.val (.int p0), .val (.int p1), .val (.int p2), .val (.int p3), .val (.int p4), .val (.int p5), .val (.int n_), .val (.int sl_), .val (.int o0), .val (.int o1), .val (.int o2), .val (.int o3), .unset, .unset, .unset, .unset, .unset] [(.long (40 : Int64)), (.int (3 : Int32)), (.ref b299), (.ref b299)])) rfl rfl (hb hby at_187)
        have Vw307 : Arv Z h307 b299 k299 .long (4 : Int32) [(.long (10 : Int64)), (.long (20 : Int64)), (.long (30 : Int64)), (.long (40 : Int64))] (.long (0 : Int64)) := Arv.set Ar306 q306 S306 N306v H306 G306 rfl W307 3 rfl (Nat.le_of_ble_eq_true rfl)
        have KP307 : Keep h0 h307 [] := KP305.wr W307 (Or.inr sz_b299)
        have Z307 : n0 ≤ h307.size := Nat.le_trans Z305 (Nat.le_of_eq W307.size.symm)
        have N307 := Fr.snoc X307 N305 g_b299
        obtain ⟨T308, h308, k308, X308, e308, E308, A308, st308⟩ := newP X307 hx hZ (hw _ (List.mem_of_getElem? (i := 3) rfl)) e307 (g := (mkF m 191 #[.val (.int p0), .val (.int p1), .val (.int p2), .val (.int p3), .val (.int p4), .val (.int p5), .val (.int n_), .val (.int sl_), .val (.int o0), .val (.int o1), .val (.int o2), .val (.int o3), .val (.ref b299), .unset, .unset, .unset, .unset] [(.int (4 : Int32))])) rfl (hb hby at_191) rfl (by decide) (cap := 4) (by decide) (by decide) (by decide) (by decide)
        obtain ⟨b308, g308⟩ : ∃ z, z = h307.size := ⟨_, rfl⟩
        rw [← g308] at A308 st308
        have ne_b299_b308 : b299 ≠ b308 := Nat.ne_of_lt (Nat.lt_of_lt_of_le Vw307.lt (Nat.le_of_eq g308.symm))
        have sz_b308 : h0.size ≤ b308 := Nat.le_trans KP307.1 (Nat.le_of_eq g308.symm)
        have g_b308 : n0 ≤ b308 := Nat.le_trans Z307 (Nat.le_of_eq g308.symm)
        have KP308 : Keep h0 h308 [] := KP307.ext E308
        have Z308 : n0 ≤ h308.size := Nat.le_trans Z307 E308.1
        have V_b299_309 : Arv Z h308 b299 k299 .long (4 : Int32) [(.long (10 : Int64)), (.long (20 : Int64)), (.long (30 : Int64)), (.long (40 : Int64))] (.long (0 : Int64)) := Vw307.ext E308
        have V_b308 : Arv Z h308 b308 k308 .int (4 : Int32) [(.int (0 : Int32)), (.int (0 : Int32)), (.int (0 : Int32)), (.int (0 : Int32))] (.int (0 : Int32)) := (Arv.new A308 (by decide)).pad (pad_rep [] (.int (0 : Int32)) 4)
        obtain ⟨cl310, Ar310, q310, S310, N310v, H310, G310⟩ := V_b308
        have hin310 : ¬ ((0 : Int32) < 0 ∨ cl310.slots.size ≤ ((0 : Int32)).toNatClampNeg) := inb_of S310 ⟨by decide, by decide⟩
        obtain ⟨T311, h311, X311, e311, W311, st311⟩ := stI X308 hx hZ e308 Ar310 (j := (0 : Int32)) hin310 (g := (mkF m 197 #[.val (.int p0), .val (.int p1), .val (.int p2), .val (.int p3), .val (.int p4), .val (.int p5), .val (.int n_), .val (.int sl_), .val (.int o0), .val (.int o1), .val (.int o2), .val (.int o3), .val (.ref b299), .unset, .unset, .unset, .unset] [(.int o0), (.int (0 : Int32)), (.ref b308), (.ref b308)])) rfl rfl (hb hby at_197)
        have Vw311 : Arv Z h311 b308 k308 .int (4 : Int32) [(.int o0), (.int (0 : Int32)), (.int (0 : Int32)), (.int (0 : Int32))] (.int (0 : Int32)) := Arv.set Ar310 q310 S310 N310v H310 G310 rfl W311 0 rfl (Nat.le_of_ble_eq_true rfl)
        have KP311 : Keep h0 h311 [] := KP308.wr W311 (Or.inr sz_b308)
        have Z311 : n0 ≤ h311.size := Nat.le_trans Z308 (Nat.le_of_eq W311.size.symm)
        have N311 := Fr.snoc X311 N307 g_b308
        have V_b299_312 : Arv Z h311 b299 k299 .long (4 : Int32) [(.long (10 : Int64)), (.long (20 : Int64)), (.long (30 : Int64)), (.long (40 : Int64))] (.long (0 : Int64)) := V_b299_309.other W311 ne_b299_b308
        obtain ⟨cl313, Ar313, q313, S313, N313v, H313, G313⟩ := Vw311
        have hin313 : ¬ ((1 : Int32) < 0 ∨ cl313.slots.size ≤ ((1 : Int32)).toNatClampNeg) := inb_of S313 ⟨by decide, by decide⟩
        obtain ⟨T314, h314, X314, e314, W314, st314⟩ := stI X311 hx hZ e311 Ar313 (j := (1 : Int32)) hin313 (g := (mkF m 202 #[.val (.int p0), .val (.int p1), .val (.int p2), .val (.int p3), .val (.int p4), .val (.int p5), .val (.int n_), .val (.int sl_), .val (.int o0), .val (.int o1), .val (.int o2), .val (.int o3), .val (.ref b299), .unset, .unset, .unset, .unset] [(.int o1), (.int (1 : Int32)), (.ref b308), (.ref b308)])) rfl rfl (hb hby at_202)
        have Vw314 : Arv Z h314 b308 k308 .int (4 : Int32) [(.int o0), (.int o1), (.int (0 : Int32)), (.int (0 : Int32))] (.int (0 : Int32)) := Arv.set Ar313 q313 S313 N313v H313 G313 rfl W314 1 rfl (Nat.le_of_ble_eq_true rfl)
        have KP314 : Keep h0 h314 [] := KP311.wr W314 (Or.inr sz_b308)
        have Z314 : n0 ≤ h314.size := Nat.le_trans Z311 (Nat.le_of_eq W314.size.symm)
        have N314 := Fr.snoc X314 N311 g_b308
        have V_b299_315 : Arv Z h314 b299 k299 .long (4 : Int32) [(.long (10 : Int64)), (.long (20 : Int64)), (.long (30 : Int64)), (.long (40 : Int64))] (.long (0 : Int64)) := V_b299_312.other W314 ne_b299_b308
        obtain ⟨cl316, Ar316, q316, S316, N316v, H316, G316⟩ := Vw314
        have hin316 : ¬ ((2 : Int32) < 0 ∨ cl316.slots.size ≤ ((2 : Int32)).toNatClampNeg) := inb_of S316 ⟨by decide, by decide⟩
        obtain ⟨T317, h317, X317, e317, W317, st317⟩ := stI X314 hx hZ e314 Ar316 (j := (2 : Int32)) hin316 (g := (mkF m 207 #[.val (.int p0), .val (.int p1), .val (.int p2), .val (.int p3), .val (.int p4), .val (.int p5), .val (.int n_), .val (.int sl_), .val (.int o0), .val (.int o1), .val (.int o2), .val (.int o3), .val (.ref b299), .unset, .unset, .unset, .unset] [(.int o2), (.int (2 : Int32)), (.ref b308), (.ref b308)])) rfl rfl (hb hby at_207)
        have Vw317 : Arv Z h317 b308 k308 .int (4 : Int32) [(.int o0), (.int o1), (.int o2), (.int (0 : Int32))] (.int (0 : Int32)) := Arv.set Ar316 q316 S316 N316v H316 G316 rfl W317 2 rfl (Nat.le_of_ble_eq_true rfl)
        have KP317 : Keep h0 h317 [] := KP314.wr W317 (Or.inr sz_b308)
        have Z317 : n0 ≤ h317.size := Nat.le_trans Z314 (Nat.le_of_eq W317.size.symm)
        have N317 := Fr.snoc X317 N314 g_b308
        have V_b299_318 : Arv Z h317 b299 k299 .long (4 : Int32) [(.long (10 : Int64)), (.long (20 : Int64)), (.long (30 : Int64)), (.long (40 : Int64))] (.long (0 : Int64)) := V_b299_315.other W317 ne_b299_b308
        obtain ⟨cl319, Ar319, q319, S319, N319v, H319, G319⟩ := Vw317
        have hin319 : ¬ ((3 : Int32) < 0 ∨ cl319.slots.size ≤ ((3 : Int32)).toNatClampNeg) := inb_of S319 ⟨by decide, by decide⟩
        obtain ⟨T320, h320, X320, e320, W320, st320⟩ := stI X317 hx hZ e317 Ar319 (j := (3 : Int32)) hin319 (g := (mkF m 212 #[.val (.int p0), .val (.int p1), .val (.int p2), .val (.int p3), .val (.int p4), .val (.int p5), .val (.int n_), .val (.int sl_), .val (.int o0), .val (.int o1), .val (.int o2), .val (.int o3), .val (.ref b299), .unset, .unset, .unset, .unset] [(.int o3), (.int (3 : Int32)), (.ref b308), (.ref b308)])) rfl rfl (hb hby at_212)
        have Vw320 : Arv Z h320 b308 k308 .int (4 : Int32) [(.int o0), (.int o1), (.int o2), (.int o3)] (.int (0 : Int32)) := Arv.set Ar319 q319 S319 N319v H319 G319 rfl W320 3 rfl (Nat.le_of_ble_eq_true rfl)
        have KP320 : Keep h0 h320 [] := KP317.wr W320 (Or.inr sz_b308)
        have Z320 : n0 ≤ h320.size := Nat.le_trans Z317 (Nat.le_of_eq W320.size.symm)
        have N320 := Fr.snoc X320 N317 g_b308
        have V_b299_321 : Arv Z h320 b299 k299 .long (4 : Int32) [(.long (10 : Int64)), (.long (20 : Int64)), (.long (30 : Int64)), (.long (40 : Int64))] (.long (0 : Int64)) := V_b299_318.other W320 ne_b299_b308
        have hn4 := own_four p0 n_ h_n_ hc41_197 hc71_226 hc112_260
        obtain ⟨T322, h322, X322, e322, E322, A322, D322, -, st322⟩ := newO X320 hx hZ hown (hw _ (List.mem_of_getElem? (i := 4) rfl)) (hw _ (List.mem_of_getElem? (i := 5) rfl)) (hw _ (List.mem_of_getElem? (i := 6) rfl)) e320 (g := (mkF m 215 #[.val (.int p0), .val (.int p1), .val (.int p2), .val (.int p3), .val (.int p4), .val (.int p5), .val (.int n_), .val (.int sl_), .val (.int o0), .val (.int o1), .val (.int o2), .val (.int o3), .val (.ref b299), .val (.ref b308), .unset, .unset, .unset] [])) rfl (hb hby at_215) (by decide) (by decide)
        obtain ⟨b322, g322⟩ : ∃ z, z = h320.size := ⟨_, rfl⟩
        rw [← g322] at A322 D322 st322
        have ne_b299_b322 : b299 ≠ b322 := Nat.ne_of_lt (Nat.lt_of_lt_of_le V_b299_321.lt (Nat.le_of_eq g322.symm))
        have ne_b308_b322 : b308 ≠ b322 := Nat.ne_of_lt (Nat.lt_of_lt_of_le Vw320.lt (Nat.le_of_eq g322.symm))
        have sz_b322 : h0.size ≤ b322 := Nat.le_trans KP320.1 (Nat.le_of_eq g322.symm)
        have g_b322 : n0 ≤ b322 := Nat.le_trans Z320 (Nat.le_of_eq g322.symm)
        have KP322 : Keep h0 h322 [] := KP320.ext E322
        have Z322 : n0 ≤ h322.size := Nat.le_trans Z320 E322.1
        have V_b299_323 : Arv Z h322 b299 k299 .long (4 : Int32) [(.long (10 : Int64)), (.long (20 : Int64)), (.long (30 : Int64)), (.long (40 : Int64))] (.long (0 : Int64)) := V_b299_321.ext E322
        have V_b308_324 : Arv Z h322 b308 k308 .int (4 : Int32) [(.int o0), (.int o1), (.int o2), (.int o3)] (.int (0 : Int32)) := Vw320.ext E322
        have F_placement_b322 : Fld Z h322 b322 "com/example/clockwise/clockwise/Ring" "placement" "Lcom/example/clockwise/clockwise/Placement;" .null := D322 (Or.inr (hw _ (List.mem_of_getElem? (i := 14) rfl))) (ty := (.object "com/example/clockwise/clockwise/Placement")) (by decide)
        have F_members_b322 : Fld Z h322 b322 "com/example/clockwise/clockwise/Ring" "members" "Lcom/example/clockwise/clockwise/Ring$Membership;" .null := D322 (Or.inr (hw _ (List.mem_of_getElem? (i := 16) rfl))) (ty := (.object "com/example/clockwise/clockwise/Ring$Membership")) (by decide)
        have F_vnodes_b322 : Fld Z h322 b322 "com/example/clockwise/clockwise/Ring" "vnodes" "I" (.int (0 : Int32)) := D322 (Or.inr (hw _ (List.mem_of_getElem? (i := 18) rfl))) (ty := .int) (by decide)
        have F_positions_b322 : Fld Z h322 b322 "com/example/clockwise/clockwise/Ring" "positions" "[J" .null := D322 (Or.inr (hw _ (List.mem_of_getElem? (i := 20) rfl))) (ty := (.array .long)) (by decide)
        have F_owners_b322 : Fld Z h322 b322 "com/example/clockwise/clockwise/Ring" "owners" "[I" .null := D322 (Or.inr (hw _ (List.mem_of_getElem? (i := 22) rfl))) (ty := (.array .int)) (by decide)
        have F_slotIndex_b322 : Fld Z h322 b322 "com/example/clockwise/clockwise/Ring" "slotIndex" "Lcom/example/clockwise/clockwise/SlotIndex;" .null := D322 (Or.inr (hw _ (List.mem_of_getElem? (i := 53) rfl))) (ty := (.object "com/example/clockwise/clockwise/SlotIndex")) (by decide)
        obtain ⟨_, _, ⟨T325, L325, k325, n325⟩, -, X325, ⟨Lc325, hQ325, l325, y325, z325⟩, st325⟩ := X322.specialBack hx (y := (⟨"com/example/clockwise/clockwise/Ring", "<init>", "(Lcom/example/clockwise/clockwise/Placement;Lcom/example/clockwise/clockwise/Ring$Membership;I[J[I)V"⟩ : MethodName)) rfl hown (mvT hZ (hw _ (List.mem_of_getElem? (i := 7) rfl))) (mvT hZ (hw _ (List.mem_of_getElem? (i := 8) rfl))) (mvT hZ (hw _ (List.mem_of_getElem? (i := 9) rfl))) (by decide) (backOf (W := 1) (rm1 l Z aA hw [] b322 (0 : Int32) b299 b308 k299 (4 : Int32) [(.long (10 : Int64)), (.long (20 : Int64)), (.long (30 : Int64)), (.long (40 : Int64))] (.long (0 : Int64)) h322 n0 Z322 A322 g_b322 (Ne.symm ne_b299_b322) V_b299_323 (by decide) (by decide) (by decide) F_placement_b322 F_members_b322 F_vnodes_b322 F_positions_b322 F_owners_b322 F_slotIndex_b322) hZ (hw _ (List.mem_of_getElem? (i := 9) rfl)) (hw _ (List.mem_of_getElem? (i := 6) rfl)) (by decide) (by decide)) (g := (mkF m 226 #[.val (.int p0), .val (.int p1), .val (.int p2), .val (.int p3), .val (.int p4), .val (.int p5), .val (.int n_), .val (.int sl_), .val (.int o0), .val (.int o1), .val (.int o2), .val (.int o3), .val (.ref b299), .val (.ref b308), .unset, .unset, .unset] [(.ref b308), (.ref b299), (.int (0 : Int32)), .null, .null, (.ref b322), (.ref b322)])) rfl (by rw [hml]; rfl) (Steps.refl _) (a := b322) (argsL := [.null, .null, (.int (0 : Int32)), (.ref b299), (.ref b308)]) (rest := [(.ref b322)]) (lenOf pd__28Lcom_2fexample_2fclockwise_2fclockwise_2fPlacement_3bLcom_2fexample_2fclockwise_2fclockwise_2fRing_24Membership_3bI_5bJ_5bI_29V rfl) rfl (by show 2 * 0 + _ ≤ _; exact Nat.le_of_eq rfl) (hb hby at_226) (fun _ _ => ⟨rfl, e322, (by decide : 3 + 2 ≤ _), (by decide : 14 + 6 ≤ _)⟩)
        dsimp only [Pt.U, Pt.locs, Pt.cells, Pt.slots] at X325 l325 y325 z325 st325 hQ325
        subst l325 y325 z325
        obtain ⟨rfl, N325q, K325, Eq325, Fq325_placement, Fq325_members, Fq325_vnodes, Fq325_positions, Fq325_owners⟩ := hQ325
        have N325 := Fr.app N320 N325q
        have KP325 : Keep h0 T325.heap [] := KP322.trans K325 (allS (Or.inr sz_b322) all0)
        have Z325 : n0 ≤ T325.heap.size := Nat.le_trans Z322 K325.1
        have V_b299_326 : Arv Z T325.heap b299 k299 .long (4 : Int32) [(.long (10 : Int64)), (.long (20 : Int64)), (.long (30 : Int64)), (.long (40 : Int64))] (.long (0 : Int64)) := V_b299_323.keep K325 (ninS ne_b299_b322 nin0)
        have V_b308_327 : Arv Z T325.heap b308 k308 .int (4 : Int32) [(.int o0), (.int o1), (.int o2), (.int o3)] (.int (0 : Int32)) := V_b308_324.keep K325 (ninS ne_b308_b322 nin0)
        have E_b322_328 : Exa Z T325.heap b322 "com/example/clockwise/clockwise/Ring" := A322.keep K325
        have pre330 : ∀ t, Steps p.tables e below (T325.setTop (mkF m 237 #[.val (.int p0), .val (.int p1), .val (.int p2), .val (.int p3), .val (.int p4), .val (.int p5), .val (.int n_), .val (.int sl_), .val (.int o0), .val (.int o1), .val (.int o2), .val (.int o3), .val (.ref b299), .val (.ref b308), .val (.ref b322), .unset, .unset] [(.int n_), (.int (sl_ + (1 : Int32)))])) t → Steps p.tables e below (s₁.setTop (entryFrame m #[(.int p0), (.int p1), (.int p2), (.int p3), (.int p4), (.int p5)] maxLocals)) t := by
          intro t kk
          refine pre261 t ?_
          show Steps p.tables e below (s₁.setTop (mkF m 112 #[.val (.int p0), .val (.int p1), .val (.int p2), .val (.int p3), .val (.int p4), .val (.int p5), .val (.int n_), .val (.int sl_), .val (.int o0), .val (.int o1), .val (.int o2), .val (.int o3), .unset, .unset, .unset, .unset, .unset] [(.int (3 : Int32)), (.int n_)])) _
          refine XS.icmpYes X0.here hx rfl (pc0 := 112) (pc' := 161) rfl (hb hby at_112) rfl (feq hc112_260).2 (by decide) (by decide) ?_
          show Steps p.tables e below (s₁.setTop (mkF m 161 #[.val (.int p0), .val (.int p1), .val (.int p2), .val (.int p3), .val (.int p4), .val (.int p5), .val (.int n_), .val (.int sl_), .val (.int o0), .val (.int o1), .val (.int o2), .val (.int o3), .unset, .unset, .unset, .unset, .unset] [])) _
          refine XS.iconst X0.here hx rfl (hb hby at_161) ?_
          show Steps p.tables e below (s₁.setTop (mkF m 162 #[.val (.int p0), .val (.int p1), .val (.int p2), .val (.int p3), .val (.int p4), .val (.int p5), .val (.int n_), .val (.int sl_), .val (.int o0), .val (.int o1), .val (.int o2), .val (.int o3), .unset, .unset, .unset, .unset, .unset] [(.int (4 : Int32))])) _
          refine st299 _ ?_
          show Steps p.tables e below (T299.setTop (mkF m 164 #[.val (.int p0), .val (.int p1), .val (.int p2), .val (.int p3), .val (.int p4), .val (.int p5), .val (.int n_), .val (.int sl_), .val (.int o0), .val (.int o1), .val (.int o2), .val (.int o3), .unset, .unset, .unset, .unset, .unset] [(.ref b299)])) _
          refine XS.dup X299.here hx rfl (hb hby at_164) rfl rfl ?_
          show Steps p.tables e below (T299.setTop (mkF m 165 #[.val (.int p0), .val (.int p1), .val (.int p2), .val (.int p3), .val (.int p4), .val (.int p5), .val (.int n_), .val (.int sl_), .val (.int o0), .val (.int o1), .val (.int o2), .val (.int o3), .unset, .unset, .unset, .unset, .unset] [(.ref b299), (.ref b299)])) _
          refine XS.iconst X299.here hx rfl (hb hby at_165) ?_
          show Steps p.tables e below (T299.setTop (mkF m 166 #[.val (.int p0), .val (.int p1), .val (.int p2), .val (.int p3), .val (.int p4), .val (.int p5), .val (.int n_), .val (.int sl_), .val (.int o0), .val (.int o1), .val (.int o2), .val (.int o3), .unset, .unset, .unset, .unset, .unset] [(.int (0 : Int32)), (.ref b299), (.ref b299)])) _
          refine X299.ldc2Long hx hown (mvT hZ (hw _ (List.mem_of_getElem? (i := 2) rfl))) (g := (mkF m 166 #[.val (.int p0), .val (.int p1), .val (.int p2), .val (.int p3), .val (.int p4), .val (.int p5), .val (.int n_), .val (.int sl_), .val (.int o0), .val (.int o1), .val (.int o2), .val (.int o3), .unset, .unset, .unset, .unset, .unset] [(.int (0 : Int32)), (.ref b299), (.ref b299)])) rfl (hb hby at_166) _ ?_
          show Steps p.tables e below (T299.setTop (mkF m 169 #[.val (.int p0), .val (.int p1), .val (.int p2), .val (.int p3), .val (.int p4), .val (.int p5), .val (.int n_), .val (.int sl_), .val (.int o0), .val (.int o1), .val (.int o2), .val (.int o3), .unset, .unset, .unset, .unset, .unset] [(.long (10 : Int64)), (.int (0 : Int32)), (.ref b299), (.ref b299)])) _
          refine st301 _ ?_
          show Steps p.tables e below (T301.setTop (mkF m 170 #[.val (.int p0), .val (.int p1), .val (.int p2), .val (.int p3), .val (.int p4), .val (.int p5), .val (.int n_), .val (.int sl_), .val (.int o0), .val (.int o1), .val (.int o2), .val (.int o3), .unset, .unset, .unset, .unset, .unset] [(.ref b299)])) _
          refine XS.dup X301.here hx rfl (hb hby at_170) rfl rfl ?_
          show Steps p.tables e below (T301.setTop (mkF m 171 #[.val (.int p0), .val (.int p1), .val (.int p2), .val (.int p3), .val (.int p4), .val (.int p5), .val (.int n_), .val (.int sl_), .val (.int o0), .val (.int o1), .val (.int o2), .val (.int o3), .unset, .unset, .unset, .unset, .unset] [(.ref b299), (.ref b299)])) _
          refine XS.iconst X301.here hx rfl (hb hby at_171) ?_
          show Steps p.tables e below (T301.setTop (mkF m 172 #[.val (.int p0), .val (.int p1), .val (.int p2), .val (.int p3), .val (.int p4), .val (.int p5), .val (.int n_), .val (.int sl_), .val (.int o0), .val (.int o1), .val (.int o2), .val (.int o3), .unset, .unset, .unset, .unset, .unset] [(.int (1 : Int32)), (.ref b299), (.ref b299)])) _
          refine X301.ldc2Long hx hown (mvT hZ (hw _ (List.mem_of_getElem? (i := 63) rfl))) (g := (mkF m 172 #[.val (.int p0), .val (.int p1), .val (.int p2), .val (.int p3), .val (.int p4), .val (.int p5), .val (.int n_), .val (.int sl_), .val (.int o0), .val (.int o1), .val (.int o2), .val (.int o3), .unset, .unset, .unset, .unset, .unset] [(.int (1 : Int32)), (.ref b299), (.ref b299)])) rfl (hb hby at_172) _ ?_
          show Steps p.tables e below (T301.setTop (mkF m 175 #[.val (.int p0), .val (.int p1), .val (.int p2), .val (.int p3), .val (.int p4), .val (.int p5), .val (.int n_), .val (.int sl_), .val (.int o0), .val (.int o1), .val (.int o2), .val (.int o3), .unset, .unset, .unset, .unset, .unset] [(.long (20 : Int64)), (.int (1 : Int32)), (.ref b299), (.ref b299)])) _
          refine st303 _ ?_
          show Steps p.tables e below (T303.setTop (mkF m 176 #[.val (.int p0), .val (.int p1), .val (.int p2), .val (.int p3), .val (.int p4), .val (.int p5), .val (.int n_), .val (.int sl_), .val (.int o0), .val (.int o1), .val (.int o2), .val (.int o3), .unset, .unset, .unset, .unset, .unset] [(.ref b299)])) _
          refine XS.dup X303.here hx rfl (hb hby at_176) rfl rfl ?_
          show Steps p.tables e below (T303.setTop (mkF m 177 #[.val (.int p0), .val (.int p1), .val (.int p2), .val (.int p3), .val (.int p4), .val (.int p5), .val (.int n_), .val (.int sl_), .val (.int o0), .val (.int o1), .val (.int o2), .val (.int o3), .unset, .unset, .unset, .unset, .unset] [(.ref b299), (.ref b299)])) _
          refine XS.iconst X303.here hx rfl (hb hby at_177) ?_
          show Steps p.tables e below (T303.setTop (mkF m 178 #[.val (.int p0), .val (.int p1), .val (.int p2), .val (.int p3), .val (.int p4), .val (.int p5), .val (.int n_), .val (.int sl_), .val (.int o0), .val (.int o1), .val (.int o2), .val (.int o3), .unset, .unset, .unset, .unset, .unset] [(.int (2 : Int32)), (.ref b299), (.ref b299)])) _
          refine X303.ldc2Long hx hown (mvT hZ (hw _ (List.mem_of_getElem? (i := 64) rfl))) (g := (mkF m 178 #[.val (.int p0), .val (.int p1), .val (.int p2), .val (.int p3), .val (.int p4), .val (.int p5), .val (.int n_), .val (.int sl_), .val (.int o0), .val (.int o1), .val (.int o2), .val (.int o3), .unset, .unset, .unset, .unset, .unset] [(.int (2 : Int32)), (.ref b299), (.ref b299)])) rfl (hb hby at_178) _ ?_
          show Steps p.tables e below (T303.setTop (mkF m 181 #[.val (.int p0), .val (.int p1), .val (.int p2), .val (.int p3), .val (.int p4), .val (.int p5), .val (.int n_), .val (.int sl_), .val (.int o0), .val (.int o1), .val (.int o2), .val (.int o3), .unset, .unset, .unset, .unset, .unset] [(.long (30 : Int64)), (.int (2 : Int32)), (.ref b299), (.ref b299)])) _
          refine st305 _ ?_
          show Steps p.tables e below (T305.setTop (mkF m 182 #[.val (.int p0), .val (.int p1), .val (.int p2), .val (.int p3), .val (.int p4), .val (.int p5), .val (.int n_), .val (.int sl_), .val (.int o0), .val (.int o1), .val (.int o2), .val (.int o3), .unset, .unset, .unset, .unset, .unset] [(.ref b299)])) _
          refine XS.dup X305.here hx rfl (hb hby at_182) rfl rfl ?_
          show Steps p.tables e below (T305.setTop (mkF m 183 #[.val (.int p0), .val (.int p1), .val (.int p2), .val (.int p3), .val (.int p4), .val (.int p5), .val (.int n_), .val (.int sl_), .val (.int o0), .val (.int o1), .val (.int o2), .val (.int o3), .unset, .unset, .unset, .unset, .unset] [(.ref b299), (.ref b299)])) _
          refine XS.iconst X305.here hx rfl (hb hby at_183) ?_
          show Steps p.tables e below (T305.setTop (mkF m 184 #[.val (.int p0), .val (.int p1), .val (.int p2), .val (.int p3), .val (.int p4), .val (.int p5), .val (.int n_), .val (.int sl_), .val (.int o0), .val (.int o1), .val (.int o2), .val (.int o3), .unset, .unset, .unset, .unset, .unset] [(.int (3 : Int32)), (.ref b299), (.ref b299)])) _
          refine X305.ldc2Long hx hown (mvT hZ (hw _ (List.mem_of_getElem? (i := 65) rfl))) (g := (mkF m 184 #[.val (.int p0), .val (.int p1), .val (.int p2), .val (.int p3), .val (.int p4), .val (.int p5), .val (.int n_), .val (.int sl_), .val (.int o0), .val (.int o1), .val (.int o2), .val (.int o3), .unset, .unset, .unset, .unset, .unset] [(.int (3 : Int32)), (.ref b299), (.ref b299)])) rfl (hb hby at_184) _ ?_
          show Steps p.tables e below (T305.setTop (mkF m 187 #[.val (.int p0), .val (.int p1), .val (.int p2), .val (.int p3), .val (.int p4), .val (.int p5), .val (.int n_), .val (.int sl_), .val (.int o0), .val (.int o1), .val (.int o2), .val (.int o3), .unset, .unset, .unset, .unset, .unset] [(.long (40 : Int64)), (.int (3 : Int32)), (.ref b299), (.ref b299)])) _
          refine st307 _ ?_
          show Steps p.tables e below (T307.setTop (mkF m 188 #[.val (.int p0), .val (.int p1), .val (.int p2), .val (.int p3), .val (.int p4), .val (.int p5), .val (.int n_), .val (.int sl_), .val (.int o0), .val (.int o1), .val (.int o2), .val (.int o3), .unset, .unset, .unset, .unset, .unset] [(.ref b299)])) _
          refine XS.astore X307.here hx rfl (hb hby at_188) rfl rfl (l' := #[.val (.int p0), .val (.int p1), .val (.int p2), .val (.int p3), .val (.int p4), .val (.int p5), .val (.int n_), .val (.int sl_), .val (.int o0), .val (.int o1), .val (.int o2), .val (.int o3), .val (.ref b299), .unset, .unset, .unset, .unset]) rfl ?_
          show Steps p.tables e below (T307.setTop (mkF m 190 #[.val (.int p0), .val (.int p1), .val (.int p2), .val (.int p3), .val (.int p4), .val (.int p5), .val (.int n_), .val (.int sl_), .val (.int o0), .val (.int o1), .val (.int o2), .val (.int o3), .val (.ref b299), .unset, .unset, .unset, .unset] [])) _
          refine XS.iconst X307.here hx rfl (hb hby at_190) ?_
          show Steps p.tables e below (T307.setTop (mkF m 191 #[.val (.int p0), .val (.int p1), .val (.int p2), .val (.int p3), .val (.int p4), .val (.int p5), .val (.int n_), .val (.int sl_), .val (.int o0), .val (.int o1), .val (.int o2), .val (.int o3), .val (.ref b299), .unset, .unset, .unset, .unset] [(.int (4 : Int32))])) _
          refine st308 _ ?_
          show Steps p.tables e below (T308.setTop (mkF m 193 #[.val (.int p0), .val (.int p1), .val (.int p2), .val (.int p3), .val (.int p4), .val (.int p5), .val (.int n_), .val (.int sl_), .val (.int o0), .val (.int o1), .val (.int o2), .val (.int o3), .val (.ref b299), .unset, .unset, .unset, .unset] [(.ref b308)])) _
          refine XS.dup X308.here hx rfl (hb hby at_193) rfl rfl ?_
          show Steps p.tables e below (T308.setTop (mkF m 194 #[.val (.int p0), .val (.int p1), .val (.int p2), .val (.int p3), .val (.int p4), .val (.int p5), .val (.int n_), .val (.int sl_), .val (.int o0), .val (.int o1), .val (.int o2), .val (.int o3), .val (.ref b299), .unset, .unset, .unset, .unset] [(.ref b308), (.ref b308)])) _
          refine XS.iconst X308.here hx rfl (hb hby at_194) ?_
          show Steps p.tables e below (T308.setTop (mkF m 195 #[.val (.int p0), .val (.int p1), .val (.int p2), .val (.int p3), .val (.int p4), .val (.int p5), .val (.int n_), .val (.int sl_), .val (.int o0), .val (.int o1), .val (.int o2), .val (.int o3), .val (.ref b299), .unset, .unset, .unset, .unset] [(.int (0 : Int32)), (.ref b308), (.ref b308)])) _
          refine XS.iload X308.here hx rfl (hb hby at_195) rfl ?_
          show Steps p.tables e below (T308.setTop (mkF m 197 #[.val (.int p0), .val (.int p1), .val (.int p2), .val (.int p3), .val (.int p4), .val (.int p5), .val (.int n_), .val (.int sl_), .val (.int o0), .val (.int o1), .val (.int o2), .val (.int o3), .val (.ref b299), .unset, .unset, .unset, .unset] [(.int o0), (.int (0 : Int32)), (.ref b308), (.ref b308)])) _
          refine st311 _ ?_
          show Steps p.tables e below (T311.setTop (mkF m 198 #[.val (.int p0), .val (.int p1), .val (.int p2), .val (.int p3), .val (.int p4), .val (.int p5), .val (.int n_), .val (.int sl_), .val (.int o0), .val (.int o1), .val (.int o2), .val (.int o3), .val (.ref b299), .unset, .unset, .unset, .unset] [(.ref b308)])) _
          refine XS.dup X311.here hx rfl (hb hby at_198) rfl rfl ?_
          show Steps p.tables e below (T311.setTop (mkF m 199 #[.val (.int p0), .val (.int p1), .val (.int p2), .val (.int p3), .val (.int p4), .val (.int p5), .val (.int n_), .val (.int sl_), .val (.int o0), .val (.int o1), .val (.int o2), .val (.int o3), .val (.ref b299), .unset, .unset, .unset, .unset] [(.ref b308), (.ref b308)])) _
          refine XS.iconst X311.here hx rfl (hb hby at_199) ?_
          show Steps p.tables e below (T311.setTop (mkF m 200 #[.val (.int p0), .val (.int p1), .val (.int p2), .val (.int p3), .val (.int p4), .val (.int p5), .val (.int n_), .val (.int sl_), .val (.int o0), .val (.int o1), .val (.int o2), .val (.int o3), .val (.ref b299), .unset, .unset, .unset, .unset] [(.int (1 : Int32)), (.ref b308), (.ref b308)])) _
          refine XS.iload X311.here hx rfl (hb hby at_200) rfl ?_
          show Steps p.tables e below (T311.setTop (mkF m 202 #[.val (.int p0), .val (.int p1), .val (.int p2), .val (.int p3), .val (.int p4), .val (.int p5), .val (.int n_), .val (.int sl_), .val (.int o0), .val (.int o1), .val (.int o2), .val (.int o3), .val (.ref b299), .unset, .unset, .unset, .unset] [(.int o1), (.int (1 : Int32)), (.ref b308), (.ref b308)])) _
          refine st314 _ ?_
          show Steps p.tables e below (T314.setTop (mkF m 203 #[.val (.int p0), .val (.int p1), .val (.int p2), .val (.int p3), .val (.int p4), .val (.int p5), .val (.int n_), .val (.int sl_), .val (.int o0), .val (.int o1), .val (.int o2), .val (.int o3), .val (.ref b299), .unset, .unset, .unset, .unset] [(.ref b308)])) _
          refine XS.dup X314.here hx rfl (hb hby at_203) rfl rfl ?_
          show Steps p.tables e below (T314.setTop (mkF m 204 #[.val (.int p0), .val (.int p1), .val (.int p2), .val (.int p3), .val (.int p4), .val (.int p5), .val (.int n_), .val (.int sl_), .val (.int o0), .val (.int o1), .val (.int o2), .val (.int o3), .val (.ref b299), .unset, .unset, .unset, .unset] [(.ref b308), (.ref b308)])) _
          refine XS.iconst X314.here hx rfl (hb hby at_204) ?_
          show Steps p.tables e below (T314.setTop (mkF m 205 #[.val (.int p0), .val (.int p1), .val (.int p2), .val (.int p3), .val (.int p4), .val (.int p5), .val (.int n_), .val (.int sl_), .val (.int o0), .val (.int o1), .val (.int o2), .val (.int o3), .val (.ref b299), .unset, .unset, .unset, .unset] [(.int (2 : Int32)), (.ref b308), (.ref b308)])) _
          refine XS.iload X314.here hx rfl (hb hby at_205) rfl ?_
          show Steps p.tables e below (T314.setTop (mkF m 207 #[.val (.int p0), .val (.int p1), .val (.int p2), .val (.int p3), .val (.int p4), .val (.int p5), .val (.int n_), .val (.int sl_), .val (.int o0), .val (.int o1), .val (.int o2), .val (.int o3), .val (.ref b299), .unset, .unset, .unset, .unset] [(.int o2), (.int (2 : Int32)), (.ref b308), (.ref b308)])) _
          refine st317 _ ?_
          show Steps p.tables e below (T317.setTop (mkF m 208 #[.val (.int p0), .val (.int p1), .val (.int p2), .val (.int p3), .val (.int p4), .val (.int p5), .val (.int n_), .val (.int sl_), .val (.int o0), .val (.int o1), .val (.int o2), .val (.int o3), .val (.ref b299), .unset, .unset, .unset, .unset] [(.ref b308)])) _
          refine XS.dup X317.here hx rfl (hb hby at_208) rfl rfl ?_
          show Steps p.tables e below (T317.setTop (mkF m 209 #[.val (.int p0), .val (.int p1), .val (.int p2), .val (.int p3), .val (.int p4), .val (.int p5), .val (.int n_), .val (.int sl_), .val (.int o0), .val (.int o1), .val (.int o2), .val (.int o3), .val (.ref b299), .unset, .unset, .unset, .unset] [(.ref b308), (.ref b308)])) _
          refine XS.iconst X317.here hx rfl (hb hby at_209) ?_
          show Steps p.tables e below (T317.setTop (mkF m 210 #[.val (.int p0), .val (.int p1), .val (.int p2), .val (.int p3), .val (.int p4), .val (.int p5), .val (.int n_), .val (.int sl_), .val (.int o0), .val (.int o1), .val (.int o2), .val (.int o3), .val (.ref b299), .unset, .unset, .unset, .unset] [(.int (3 : Int32)), (.ref b308), (.ref b308)])) _
          refine XS.iload X317.here hx rfl (hb hby at_210) rfl ?_
          show Steps p.tables e below (T317.setTop (mkF m 212 #[.val (.int p0), .val (.int p1), .val (.int p2), .val (.int p3), .val (.int p4), .val (.int p5), .val (.int n_), .val (.int sl_), .val (.int o0), .val (.int o1), .val (.int o2), .val (.int o3), .val (.ref b299), .unset, .unset, .unset, .unset] [(.int o3), (.int (3 : Int32)), (.ref b308), (.ref b308)])) _
          refine st320 _ ?_
          show Steps p.tables e below (T320.setTop (mkF m 213 #[.val (.int p0), .val (.int p1), .val (.int p2), .val (.int p3), .val (.int p4), .val (.int p5), .val (.int n_), .val (.int sl_), .val (.int o0), .val (.int o1), .val (.int o2), .val (.int o3), .val (.ref b299), .unset, .unset, .unset, .unset] [(.ref b308)])) _
          refine XS.astore X320.here hx rfl (hb hby at_213) rfl rfl (l' := #[.val (.int p0), .val (.int p1), .val (.int p2), .val (.int p3), .val (.int p4), .val (.int p5), .val (.int n_), .val (.int sl_), .val (.int o0), .val (.int o1), .val (.int o2), .val (.int o3), .val (.ref b299), .val (.ref b308), .unset, .unset, .unset]) rfl ?_
          show Steps p.tables e below (T320.setTop (mkF m 215 #[.val (.int p0), .val (.int p1), .val (.int p2), .val (.int p3), .val (.int p4), .val (.int p5), .val (.int n_), .val (.int sl_), .val (.int o0), .val (.int o1), .val (.int o2), .val (.int o3), .val (.ref b299), .val (.ref b308), .unset, .unset, .unset] [])) _
          refine st322 _ ?_
          show Steps p.tables e below (T322.setTop (mkF m 218 #[.val (.int p0), .val (.int p1), .val (.int p2), .val (.int p3), .val (.int p4), .val (.int p5), .val (.int n_), .val (.int sl_), .val (.int o0), .val (.int o1), .val (.int o2), .val (.int o3), .val (.ref b299), .val (.ref b308), .unset, .unset, .unset] [(.ref b322)])) _
          refine XS.dup X322.here hx rfl (hb hby at_218) rfl rfl ?_
          show Steps p.tables e below (T322.setTop (mkF m 219 #[.val (.int p0), .val (.int p1), .val (.int p2), .val (.int p3), .val (.int p4), .val (.int p5), .val (.int n_), .val (.int sl_), .val (.int o0), .val (.int o1), .val (.int o2), .val (.int o3), .val (.ref b299), .val (.ref b308), .unset, .unset, .unset] [(.ref b322), (.ref b322)])) _
          refine XS.aconstNull X322.here hx rfl (hb hby at_219) ?_
          show Steps p.tables e below (T322.setTop (mkF m 220 #[.val (.int p0), .val (.int p1), .val (.int p2), .val (.int p3), .val (.int p4), .val (.int p5), .val (.int n_), .val (.int sl_), .val (.int o0), .val (.int o1), .val (.int o2), .val (.int o3), .val (.ref b299), .val (.ref b308), .unset, .unset, .unset] [.null, (.ref b322), (.ref b322)])) _
          refine XS.aconstNull X322.here hx rfl (hb hby at_220) ?_
          show Steps p.tables e below (T322.setTop (mkF m 221 #[.val (.int p0), .val (.int p1), .val (.int p2), .val (.int p3), .val (.int p4), .val (.int p5), .val (.int n_), .val (.int sl_), .val (.int o0), .val (.int o1), .val (.int o2), .val (.int o3), .val (.ref b299), .val (.ref b308), .unset, .unset, .unset] [.null, .null, (.ref b322), (.ref b322)])) _
          refine XS.iconst X322.here hx rfl (hb hby at_221) ?_
          show Steps p.tables e below (T322.setTop (mkF m 222 #[.val (.int p0), .val (.int p1), .val (.int p2), .val (.int p3), .val (.int p4), .val (.int p5), .val (.int n_), .val (.int sl_), .val (.int o0), .val (.int o1), .val (.int o2), .val (.int o3), .val (.ref b299), .val (.ref b308), .unset, .unset, .unset] [(.int (0 : Int32)), .null, .null, (.ref b322), (.ref b322)])) _
          refine XS.aload X322.here hx rfl (hb hby at_222) rfl rfl ?_
          show Steps p.tables e below (T322.setTop (mkF m 224 #[.val (.int p0), .val (.int p1), .val (.int p2), .val (.int p3), .val (.int p4), .val (.int p5), .val (.int n_), .val (.int sl_), .val (.int o0), .val (.int o1), .val (.int o2), .val (.int o3), .val (.ref b299), .val (.ref b308), .unset, .unset, .unset] [(.ref b299), (.int (0 : Int32)), .null, .null, (.ref b322), (.ref b322)])) _
          refine XS.aload X322.here hx rfl (hb hby at_224) rfl rfl ?_
          show Steps p.tables e below (T322.setTop (mkF m 226 #[.val (.int p0), .val (.int p1), .val (.int p2), .val (.int p3), .val (.int p4), .val (.int p5), .val (.int n_), .val (.int sl_), .val (.int o0), .val (.int o1), .val (.int o2), .val (.int o3), .val (.ref b299), .val (.ref b308), .unset, .unset, .unset] [(.ref b308), (.ref b299), (.int (0 : Int32)), .null, .null, (.ref b322), (.ref b322)])) _
          refine st325.trans ?_
          show Steps p.tables e below (T325.setTop (mkF m 229 #[.val (.int p0), .val (.int p1), .val (.int p2), .val (.int p3), .val (.int p4), .val (.int p5), .val (.int n_), .val (.int sl_), .val (.int o0), .val (.int o1), .val (.int o2), .val (.int o3), .val (.ref b299), .val (.ref b308), .unset, .unset, .unset] [(.ref b322)])) _
          refine XS.astore X325.here hx rfl (hb hby at_229) rfl rfl (l' := #[.val (.int p0), .val (.int p1), .val (.int p2), .val (.int p3), .val (.int p4), .val (.int p5), .val (.int n_), .val (.int sl_), .val (.int o0), .val (.int o1), .val (.int o2), .val (.int o3), .val (.ref b299), .val (.ref b308), .val (.ref b322), .unset, .unset]) rfl ?_
          show Steps p.tables e below (T325.setTop (mkF m 231 #[.val (.int p0), .val (.int p1), .val (.int p2), .val (.int p3), .val (.int p4), .val (.int p5), .val (.int n_), .val (.int sl_), .val (.int o0), .val (.int o1), .val (.int o2), .val (.int o3), .val (.ref b299), .val (.ref b308), .val (.ref b322), .unset, .unset] [])) _
          refine XS.iload X325.here hx rfl (hb hby at_231) rfl ?_
          show Steps p.tables e below (T325.setTop (mkF m 233 #[.val (.int p0), .val (.int p1), .val (.int p2), .val (.int p3), .val (.int p4), .val (.int p5), .val (.int n_), .val (.int sl_), .val (.int o0), .val (.int o1), .val (.int o2), .val (.int o3), .val (.ref b299), .val (.ref b308), .val (.ref b322), .unset, .unset] [(.int sl_)])) _
          refine XS.iconst X325.here hx rfl (hb hby at_233) ?_
          show Steps p.tables e below (T325.setTop (mkF m 234 #[.val (.int p0), .val (.int p1), .val (.int p2), .val (.int p3), .val (.int p4), .val (.int p5), .val (.int n_), .val (.int sl_), .val (.int o0), .val (.int o1), .val (.int o2), .val (.int o3), .val (.ref b299), .val (.ref b308), .val (.ref b322), .unset, .unset] [(.int (1 : Int32)), (.int sl_)])) _
          refine XS.iadd X325.here hx rfl (hb hby at_234) rfl ?_
          show Steps p.tables e below (T325.setTop (mkF m 235 #[.val (.int p0), .val (.int p1), .val (.int p2), .val (.int p3), .val (.int p4), .val (.int p5), .val (.int n_), .val (.int sl_), .val (.int o0), .val (.int o1), .val (.int o2), .val (.int o3), .val (.ref b299), .val (.ref b308), .val (.ref b322), .unset, .unset] [(.int (sl_ + (1 : Int32)))])) _
          refine XS.iload X325.here hx rfl (hb hby at_235) rfl ?_
          exact kk
        obtain ⟨iv331, hj_iv331⟩ : ∃ z : Int32, z = (if (sl_ + (1 : Int32)) = n_ then (0 : Int32) else (sl_ + (1 : Int32))) := ⟨_, rfl⟩
        have pre332 : ∀ t, Steps p.tables e below (T325.setTop (mkF m 248 #[.val (.int p0), .val (.int p1), .val (.int p2), .val (.int p3), .val (.int p4), .val (.int p5), .val (.int n_), .val (.int sl_), .val (.int o0), .val (.int o1), .val (.int o2), .val (.int o3), .val (.ref b299), .val (.ref b308), .val (.ref b322), .unset, .unset] [(.int iv331)])) t → Steps p.tables e below (s₁.setTop (entryFrame m #[(.int p0), (.int p1), (.int p2), (.int p3), (.int p4), (.int p5)] maxLocals)) t := by
          intro t kk
          by_cases hc237_329 : (sl_ + (1 : Int32)) = n_
          · rw [show iv331 = (0 : Int32) by rw [hj_iv331]; simp only [if_pos hc237_329]] at kk
            refine pre330 t ?_
            show Steps p.tables e below (T325.setTop (mkF m 237 #[.val (.int p0), .val (.int p1), .val (.int p2), .val (.int p3), .val (.int p4), .val (.int p5), .val (.int n_), .val (.int sl_), .val (.int o0), .val (.int o1), .val (.int o2), .val (.int o3), .val (.ref b299), .val (.ref b308), .val (.ref b322), .unset, .unset] [(.int n_), (.int (sl_ + (1 : Int32)))])) _
            refine XS.icmpNo X325.here hx rfl (hb hby at_237) rfl (teq hc237_329).2 ?_
            show Steps p.tables e below (T325.setTop (mkF m 240 #[.val (.int p0), .val (.int p1), .val (.int p2), .val (.int p3), .val (.int p4), .val (.int p5), .val (.int n_), .val (.int sl_), .val (.int o0), .val (.int o1), .val (.int o2), .val (.int o3), .val (.ref b299), .val (.ref b308), .val (.ref b322), .unset, .unset] [])) _
            refine XS.iconst X325.here hx rfl (hb hby at_240) ?_
            show Steps p.tables e below (T325.setTop (mkF m 241 #[.val (.int p0), .val (.int p1), .val (.int p2), .val (.int p3), .val (.int p4), .val (.int p5), .val (.int n_), .val (.int sl_), .val (.int o0), .val (.int o1), .val (.int o2), .val (.int o3), .val (.ref b299), .val (.ref b308), .val (.ref b322), .unset, .unset] [(.int (0 : Int32))])) _
            refine XS.goto X325.here hx rfl (pc0 := 241) (pc' := 248) rfl (hb hby at_241) (by decide) (by decide) ?_
            exact kk
          · rw [show iv331 = (sl_ + (1 : Int32)) by rw [hj_iv331]; simp only [if_neg hc237_329]] at kk
            refine pre330 t ?_
            show Steps p.tables e below (T325.setTop (mkF m 237 #[.val (.int p0), .val (.int p1), .val (.int p2), .val (.int p3), .val (.int p4), .val (.int p5), .val (.int n_), .val (.int sl_), .val (.int o0), .val (.int o1), .val (.int o2), .val (.int o3), .val (.ref b299), .val (.ref b308), .val (.ref b322), .unset, .unset] [(.int n_), (.int (sl_ + (1 : Int32)))])) _
            refine XS.icmpYes X325.here hx rfl (pc0 := 237) (pc' := 244) rfl (hb hby at_237) rfl (feq hc237_329).2 (by decide) (by decide) ?_
            show Steps p.tables e below (T325.setTop (mkF m 244 #[.val (.int p0), .val (.int p1), .val (.int p2), .val (.int p3), .val (.int p4), .val (.int p5), .val (.int n_), .val (.int sl_), .val (.int o0), .val (.int o1), .val (.int o2), .val (.int o3), .val (.ref b299), .val (.ref b308), .val (.ref b322), .unset, .unset] [])) _
            refine XS.iload X325.here hx rfl (hb hby at_244) rfl ?_
            show Steps p.tables e below (T325.setTop (mkF m 246 #[.val (.int p0), .val (.int p1), .val (.int p2), .val (.int p3), .val (.int p4), .val (.int p5), .val (.int n_), .val (.int sl_), .val (.int o0), .val (.int o1), .val (.int o2), .val (.int o3), .val (.ref b299), .val (.ref b308), .val (.ref b322), .unset, .unset] [(.int sl_)])) _
            refine XS.iconst X325.here hx rfl (hb hby at_246) ?_
            show Steps p.tables e below (T325.setTop (mkF m 247 #[.val (.int p0), .val (.int p1), .val (.int p2), .val (.int p3), .val (.int p4), .val (.int p5), .val (.int n_), .val (.int sl_), .val (.int o0), .val (.int o1), .val (.int o2), .val (.int o3), .val (.ref b299), .val (.ref b308), .val (.ref b322), .unset, .unset] [(.int (1 : Int32)), (.int sl_)])) _
            refine XS.iadd X325.here hx rfl (hb hby at_247) rfl ?_
            exact kk
        obtain ⟨_, _, ⟨T333, L333, k333, n333⟩, -, X333, ⟨Lc333, hQ333, l333, y333, z333⟩, st333⟩ := Jvm.LawKit.callS X325 hx (y := (⟨"com/example/clockwise/clockwise/RingIsFreePinLaw", "pick", "(IIIII)I"⟩ : MethodName)) hown (mvT hZ (hw _ (List.mem_of_getElem? (i := 54) rfl))) (mvT hZ (hw _ (List.mem_of_getElem? (i := 55) rfl))) (mvT hZ (hw _ (List.mem_of_getElem? (i := 56) rfl))) (mvT hZ (hw _ (List.mem_of_getElem? (i := 57) rfl))) (by decide) (backOf (W := 0) (rm8 l Z aA hw [] iv331 o0 o1 o2 o3  T325.heap n0 Z325 ) hZ (hw _ (List.mem_of_getElem? (i := 57) rfl)) (hw _ (List.mem_of_getElem? (i := 56) rfl)) (by decide) (by decide)) (g := (mkF m 260 #[.val (.int p0), .val (.int p1), .val (.int p2), .val (.int p3), .val (.int p4), .val (.int p5), .val (.int n_), .val (.int sl_), .val (.int o0), .val (.int o1), .val (.int o2), .val (.int o3), .val (.ref b299), .val (.ref b308), .val (.ref b322), .val (.int iv331), .unset] [(.int o3), (.int o2), (.int o1), (.int o0), (.int iv331)])) rfl (by rw [hml]; rfl) (argsL := [(.int iv331), (.int o0), (.int o1), (.int o2), (.int o3)]) (rest := []) (lenOf pd__28IIIII_29I rfl) rfl (by show 2 * 0 + _ ≤ _; exact Nat.le_of_eq rfl) (hb hby at_260) (fun _ _ => ⟨rfl, rfl, (by decide : 5 + 0 ≤ _), (by decide : 20 + 0 ≤ _)⟩)
        dsimp only [Pt.U, Pt.locs, Pt.cells, Pt.slots] at X333 l333 y333 z333 st333 hQ333
        subst l333 y333 z333
        obtain ⟨rfl, N333q, e333⟩ := hQ333
        have N333 := Fr.app N325 N333q
        obtain ⟨_, _, ⟨T334, L334, k334, n334⟩, -, X334, ⟨Lc334, hQ334, l334, y334, z334⟩, st334⟩ := Jvm.LawKit.callS X333 hx (y := (⟨"com/example/clockwise/clockwise/RingIsFreePinLaw", "pick", "(IIIII)I"⟩ : MethodName)) hown (mvT hZ (hw _ (List.mem_of_getElem? (i := 54) rfl))) (mvT hZ (hw _ (List.mem_of_getElem? (i := 55) rfl))) (mvT hZ (hw _ (List.mem_of_getElem? (i := 56) rfl))) (mvT hZ (hw _ (List.mem_of_getElem? (i := 57) rfl))) (by decide) (backOf (W := 1) (rm8 l Z aA hw [] sl_ o0 o1 o2 o3  T325.heap n0 Z325 ) hZ (hw _ (List.mem_of_getElem? (i := 57) rfl)) (hw _ (List.mem_of_getElem? (i := 56) rfl)) (by decide) (by decide)) (g := (mkF m 273 #[.val (.int p0), .val (.int p1), .val (.int p2), .val (.int p3), .val (.int p4), .val (.int p5), .val (.int n_), .val (.int sl_), .val (.int o0), .val (.int o1), .val (.int o2), .val (.int o3), .val (.ref b299), .val (.ref b308), .val (.ref b322), .val (.int iv331), .unset] [(.int o3), (.int o2), (.int o1), (.int o0), (.int sl_), (.int (F8 iv331 o0 o1 o2 o3))])) rfl (by rw [hml]; rfl) (argsL := [(.int sl_), (.int o0), (.int o1), (.int o2), (.int o3)]) (rest := [(.int (F8 iv331 o0 o1 o2 o3))]) (lenOf pd__28IIIII_29I rfl) rfl (by show 2 * 0 + _ ≤ _; exact Nat.le_of_eq rfl) (hb hby at_273) (fun _ _ => ⟨rfl, e333, (by decide : 5 + 0 ≤ _), (by decide : 20 + 0 ≤ _)⟩)
        dsimp only [Pt.U, Pt.locs, Pt.cells, Pt.slots] at X334 l334 y334 z334 st334 hQ334
        subst l334 y334 z334
        obtain ⟨rfl, N334q, e334⟩ := hQ334
        have N334 := Fr.app N333 N334q
        have pre336 : ∀ t, Steps p.tables e below (T334.setTop (mkF m 276 #[.val (.int p0), .val (.int p1), .val (.int p2), .val (.int p3), .val (.int p4), .val (.int p5), .val (.int n_), .val (.int sl_), .val (.int o0), .val (.int o1), .val (.int o2), .val (.int o3), .val (.ref b299), .val (.ref b308), .val (.ref b322), .val (.int iv331), .unset] [(.int (F8 sl_ o0 o1 o2 o3)), (.int (F8 iv331 o0 o1 o2 o3))])) t → Steps p.tables e below (s₁.setTop (entryFrame m #[(.int p0), (.int p1), (.int p2), (.int p3), (.int p4), (.int p5)] maxLocals)) t := by
          intro t kk
          refine pre332 t ?_
          show Steps p.tables e below (T325.setTop (mkF m 248 #[.val (.int p0), .val (.int p1), .val (.int p2), .val (.int p3), .val (.int p4), .val (.int p5), .val (.int n_), .val (.int sl_), .val (.int o0), .val (.int o1), .val (.int o2), .val (.int o3), .val (.ref b299), .val (.ref b308), .val (.ref b322), .unset, .unset] [(.int iv331)])) _
          refine XS.istore X325.here hx rfl (hb hby at_248) rfl (l' := #[.val (.int p0), .val (.int p1), .val (.int p2), .val (.int p3), .val (.int p4), .val (.int p5), .val (.int n_), .val (.int sl_), .val (.int o0), .val (.int o1), .val (.int o2), .val (.int o3), .val (.ref b299), .val (.ref b308), .val (.ref b322), .val (.int iv331), .unset]) rfl ?_
          show Steps p.tables e below (T325.setTop (mkF m 250 #[.val (.int p0), .val (.int p1), .val (.int p2), .val (.int p3), .val (.int p4), .val (.int p5), .val (.int n_), .val (.int sl_), .val (.int o0), .val (.int o1), .val (.int o2), .val (.int o3), .val (.ref b299), .val (.ref b308), .val (.ref b322), .val (.int iv331), .unset] [])) _
          refine XS.iload X325.here hx rfl (hb hby at_250) rfl ?_
          show Steps p.tables e below (T325.setTop (mkF m 252 #[.val (.int p0), .val (.int p1), .val (.int p2), .val (.int p3), .val (.int p4), .val (.int p5), .val (.int n_), .val (.int sl_), .val (.int o0), .val (.int o1), .val (.int o2), .val (.int o3), .val (.ref b299), .val (.ref b308), .val (.ref b322), .val (.int iv331), .unset] [(.int iv331)])) _
          refine XS.iload X325.here hx rfl (hb hby at_252) rfl ?_
          show Steps p.tables e below (T325.setTop (mkF m 254 #[.val (.int p0), .val (.int p1), .val (.int p2), .val (.int p3), .val (.int p4), .val (.int p5), .val (.int n_), .val (.int sl_), .val (.int o0), .val (.int o1), .val (.int o2), .val (.int o3), .val (.ref b299), .val (.ref b308), .val (.ref b322), .val (.int iv331), .unset] [(.int o0), (.int iv331)])) _
          refine XS.iload X325.here hx rfl (hb hby at_254) rfl ?_
          show Steps p.tables e below (T325.setTop (mkF m 256 #[.val (.int p0), .val (.int p1), .val (.int p2), .val (.int p3), .val (.int p4), .val (.int p5), .val (.int n_), .val (.int sl_), .val (.int o0), .val (.int o1), .val (.int o2), .val (.int o3), .val (.ref b299), .val (.ref b308), .val (.ref b322), .val (.int iv331), .unset] [(.int o1), (.int o0), (.int iv331)])) _
          refine XS.iload X325.here hx rfl (hb hby at_256) rfl ?_
          show Steps p.tables e below (T325.setTop (mkF m 258 #[.val (.int p0), .val (.int p1), .val (.int p2), .val (.int p3), .val (.int p4), .val (.int p5), .val (.int n_), .val (.int sl_), .val (.int o0), .val (.int o1), .val (.int o2), .val (.int o3), .val (.ref b299), .val (.ref b308), .val (.ref b322), .val (.int iv331), .unset] [(.int o2), (.int o1), (.int o0), (.int iv331)])) _
          refine XS.iload X325.here hx rfl (hb hby at_258) rfl ?_
          show Steps p.tables e below (T325.setTop (mkF m 260 #[.val (.int p0), .val (.int p1), .val (.int p2), .val (.int p3), .val (.int p4), .val (.int p5), .val (.int n_), .val (.int sl_), .val (.int o0), .val (.int o1), .val (.int o2), .val (.int o3), .val (.ref b299), .val (.ref b308), .val (.ref b322), .val (.int iv331), .unset] [(.int o3), (.int o2), (.int o1), (.int o0), (.int iv331)])) _
          refine st333 _ ?_
          show Steps p.tables e below (T333.setTop (mkF m 263 #[.val (.int p0), .val (.int p1), .val (.int p2), .val (.int p3), .val (.int p4), .val (.int p5), .val (.int n_), .val (.int sl_), .val (.int o0), .val (.int o1), .val (.int o2), .val (.int o3), .val (.ref b299), .val (.ref b308), .val (.ref b322), .val (.int iv331), .unset] [(.int (F8 iv331 o0 o1 o2 o3))])) _
          refine XS.iload X333.here hx rfl (hb hby at_263) rfl ?_
          show Steps p.tables e below (T333.setTop (mkF m 265 #[.val (.int p0), .val (.int p1), .val (.int p2), .val (.int p3), .val (.int p4), .val (.int p5), .val (.int n_), .val (.int sl_), .val (.int o0), .val (.int o1), .val (.int o2), .val (.int o3), .val (.ref b299), .val (.ref b308), .val (.ref b322), .val (.int iv331), .unset] [(.int sl_), (.int (F8 iv331 o0 o1 o2 o3))])) _
          refine XS.iload X333.here hx rfl (hb hby at_265) rfl ?_
          show Steps p.tables e below (T333.setTop (mkF m 267 #[.val (.int p0), .val (.int p1), .val (.int p2), .val (.int p3), .val (.int p4), .val (.int p5), .val (.int n_), .val (.int sl_), .val (.int o0), .val (.int o1), .val (.int o2), .val (.int o3), .val (.ref b299), .val (.ref b308), .val (.ref b322), .val (.int iv331), .unset] [(.int o0), (.int sl_), (.int (F8 iv331 o0 o1 o2 o3))])) _
          refine XS.iload X333.here hx rfl (hb hby at_267) rfl ?_
          show Steps p.tables e below (T333.setTop (mkF m 269 #[.val (.int p0), .val (.int p1), .val (.int p2), .val (.int p3), .val (.int p4), .val (.int p5), .val (.int n_), .val (.int sl_), .val (.int o0), .val (.int o1), .val (.int o2), .val (.int o3), .val (.ref b299), .val (.ref b308), .val (.ref b322), .val (.int iv331), .unset] [(.int o1), (.int o0), (.int sl_), (.int (F8 iv331 o0 o1 o2 o3))])) _
          refine XS.iload X333.here hx rfl (hb hby at_269) rfl ?_
          show Steps p.tables e below (T333.setTop (mkF m 271 #[.val (.int p0), .val (.int p1), .val (.int p2), .val (.int p3), .val (.int p4), .val (.int p5), .val (.int n_), .val (.int sl_), .val (.int o0), .val (.int o1), .val (.int o2), .val (.int o3), .val (.ref b299), .val (.ref b308), .val (.ref b322), .val (.int iv331), .unset] [(.int o2), (.int o1), (.int o0), (.int sl_), (.int (F8 iv331 o0 o1 o2 o3))])) _
          refine XS.iload X333.here hx rfl (hb hby at_271) rfl ?_
          show Steps p.tables e below (T333.setTop (mkF m 273 #[.val (.int p0), .val (.int p1), .val (.int p2), .val (.int p3), .val (.int p4), .val (.int p5), .val (.int n_), .val (.int sl_), .val (.int o0), .val (.int o1), .val (.int o2), .val (.int o3), .val (.ref b299), .val (.ref b308), .val (.ref b322), .val (.int iv331), .unset] [(.int o3), (.int o2), (.int o1), (.int o0), (.int sl_), (.int (F8 iv331 o0 o1 o2 o3))])) _
          refine st334 _ ?_
          exact kk
        obtain ⟨iv337, hj_iv337⟩ : ∃ z : Int32, z = (if (F8 iv331 o0 o1 o2 o3) = (F8 sl_ o0 o1 o2 o3) then (1 : Int32) else (0 : Int32)) := ⟨_, rfl⟩
        have pre338 : ∀ t, Steps p.tables e below (T334.setTop (mkF m 284 #[.val (.int p0), .val (.int p1), .val (.int p2), .val (.int p3), .val (.int p4), .val (.int p5), .val (.int n_), .val (.int sl_), .val (.int o0), .val (.int o1), .val (.int o2), .val (.int o3), .val (.ref b299), .val (.ref b308), .val (.ref b322), .val (.int iv331), .unset] [(.int iv337)])) t → Steps p.tables e below (s₁.setTop (entryFrame m #[(.int p0), (.int p1), (.int p2), (.int p3), (.int p4), (.int p5)] maxLocals)) t := by
          intro t kk
          by_cases hc276_335 : (F8 iv331 o0 o1 o2 o3) = (F8 sl_ o0 o1 o2 o3)
          · rw [show iv337 = (1 : Int32) by rw [hj_iv337]; simp only [if_pos hc276_335]] at kk
            refine pre336 t ?_
            show Steps p.tables e below (T334.setTop (mkF m 276 #[.val (.int p0), .val (.int p1), .val (.int p2), .val (.int p3), .val (.int p4), .val (.int p5), .val (.int n_), .val (.int sl_), .val (.int o0), .val (.int o1), .val (.int o2), .val (.int o3), .val (.ref b299), .val (.ref b308), .val (.ref b322), .val (.int iv331), .unset] [(.int (F8 sl_ o0 o1 o2 o3)), (.int (F8 iv331 o0 o1 o2 o3))])) _
            refine XS.icmpNo X334.here hx rfl (hb hby at_276) rfl (teq hc276_335).2 ?_
            show Steps p.tables e below (T334.setTop (mkF m 279 #[.val (.int p0), .val (.int p1), .val (.int p2), .val (.int p3), .val (.int p4), .val (.int p5), .val (.int n_), .val (.int sl_), .val (.int o0), .val (.int o1), .val (.int o2), .val (.int o3), .val (.ref b299), .val (.ref b308), .val (.ref b322), .val (.int iv331), .unset] [])) _
            refine XS.iconst X334.here hx rfl (hb hby at_279) ?_
            show Steps p.tables e below (T334.setTop (mkF m 280 #[.val (.int p0), .val (.int p1), .val (.int p2), .val (.int p3), .val (.int p4), .val (.int p5), .val (.int n_), .val (.int sl_), .val (.int o0), .val (.int o1), .val (.int o2), .val (.int o3), .val (.ref b299), .val (.ref b308), .val (.ref b322), .val (.int iv331), .unset] [(.int (1 : Int32))])) _
            refine XS.goto X334.here hx rfl (pc0 := 280) (pc' := 284) rfl (hb hby at_280) (by decide) (by decide) ?_
            exact kk
          · rw [show iv337 = (0 : Int32) by rw [hj_iv337]; simp only [if_neg hc276_335]] at kk
            refine pre336 t ?_
            show Steps p.tables e below (T334.setTop (mkF m 276 #[.val (.int p0), .val (.int p1), .val (.int p2), .val (.int p3), .val (.int p4), .val (.int p5), .val (.int n_), .val (.int sl_), .val (.int o0), .val (.int o1), .val (.int o2), .val (.int o3), .val (.ref b299), .val (.ref b308), .val (.ref b322), .val (.int iv331), .unset] [(.int (F8 sl_ o0 o1 o2 o3)), (.int (F8 iv331 o0 o1 o2 o3))])) _
            refine XS.icmpYes X334.here hx rfl (pc0 := 276) (pc' := 283) rfl (hb hby at_276) rfl (feq hc276_335).2 (by decide) (by decide) ?_
            show Steps p.tables e below (T334.setTop (mkF m 283 #[.val (.int p0), .val (.int p1), .val (.int p2), .val (.int p3), .val (.int p4), .val (.int p5), .val (.int n_), .val (.int sl_), .val (.int o0), .val (.int o1), .val (.int o2), .val (.int o3), .val (.ref b299), .val (.ref b308), .val (.ref b322), .val (.int iv331), .unset] [])) _
            refine XS.iconst X334.here hx rfl (hb hby at_283) ?_
            exact kk
        obtain ⟨cq339, kq339, q339a, q339b, q339c⟩ := isOf hZ e334 Eq325
        obtain ⟨_, _, ⟨T339, L339, k339, n339⟩, -, X339, ⟨Lc339, hQ339, l339, y339, z339⟩, st339⟩ := X334.virtualBack hx (y := (⟨"com/example/clockwise/clockwise/Ring", "isFree", "(I)Z"⟩ : MethodName)) (z := (⟨"com/example/clockwise/clockwise/Ring", "isFree", "(I)Z"⟩ : MethodName)) hown (mvT hZ (hw _ (List.mem_of_getElem? (i := 58) rfl))) (mvT hZ (hw _ (List.mem_of_getElem? (i := 59) rfl))) (notFace_of_selects (args := #[]) (mvT hZ (hw _ (List.mem_of_getElem? (i := 61) rfl)))) (mvT hZ (hw _ (List.mem_of_getElem? (i := 61) rfl))) (mvT hZ (hw _ (List.mem_of_getElem? (i := 60) rfl))) (by decide) (backOf (W := 0) (rm9 l Z aA hw [] b322 sl_ b308 k308 (4 : Int32) [o0, o1, o2, o3] T325.heap n0 Z325 Fq325_owners V_b308_327 hs0 (hn4 ▸ hs1)) hZ (hw _ (List.mem_of_getElem? (i := 62) rfl)) (hw _ (List.mem_of_getElem? (i := 6) rfl)) (by decide) (by decide)) q339a q339c (g := (mkF m 290 #[.val (.int p0), .val (.int p1), .val (.int p2), .val (.int p3), .val (.int p4), .val (.int p5), .val (.int n_), .val (.int sl_), .val (.int o0), .val (.int o1), .val (.int o2), .val (.int o3), .val (.ref b299), .val (.ref b308), .val (.ref b322), .val (.int iv331), .val (.int iv337)] [(.int sl_), (.ref b322)])) rfl (by rw [hml]; rfl) (Steps.refl _) (argsL := [(.int sl_)]) (rest := []) (lenOf pd__28I_29Z rfl) rfl (by show 2 * 0 + _ ≤ _; exact Nat.le_of_eq rfl) (hb hby at_290) (fun _ _ => ⟨rfl, e334, (by decide : 5 + 0 ≤ _), (by decide : 20 + 0 ≤ _)⟩)
        dsimp only [Pt.U, Pt.locs, Pt.cells, Pt.slots] at X339 l339 y339 z339 st339 hQ339
        subst l339 y339 z339
        obtain ⟨rfl, N339q, e339⟩ := hQ339
        have N339 := Fr.app N334 N339q
        have pre340 : ∀ t, Steps p.tables e below (T339.setTop (mkF m 303 #[.val (.int p0), .val (.int p1), .val (.int p2), .val (.int p3), .val (.int p4), .val (.int p5), .val (.int n_), .val (.int sl_), .val (.int o0), .val (.int o1), .val (.int o2), .val (.int o3), .val (.ref b299), .val (.ref b308), .val (.ref b322), .val (.int iv331), .val (.int iv337)] [(.int (1 : Int32))])) t → Steps p.tables e below (s₁.setTop (entryFrame m #[(.int p0), (.int p1), (.int p2), (.int p3), (.int p4), (.int p5)] maxLocals)) t := by
          intro t kk
          refine pre338 t ?_
          show Steps p.tables e below (T334.setTop (mkF m 284 #[.val (.int p0), .val (.int p1), .val (.int p2), .val (.int p3), .val (.int p4), .val (.int p5), .val (.int n_), .val (.int sl_), .val (.int o0), .val (.int o1), .val (.int o2), .val (.int o3), .val (.ref b299), .val (.ref b308), .val (.ref b322), .val (.int iv331), .unset] [(.int iv337)])) _
          refine XS.istore X334.here hx rfl (hb hby at_284) rfl (l' := #[.val (.int p0), .val (.int p1), .val (.int p2), .val (.int p3), .val (.int p4), .val (.int p5), .val (.int n_), .val (.int sl_), .val (.int o0), .val (.int o1), .val (.int o2), .val (.int o3), .val (.ref b299), .val (.ref b308), .val (.ref b322), .val (.int iv331), .val (.int iv337)]) rfl ?_
          show Steps p.tables e below (T334.setTop (mkF m 286 #[.val (.int p0), .val (.int p1), .val (.int p2), .val (.int p3), .val (.int p4), .val (.int p5), .val (.int n_), .val (.int sl_), .val (.int o0), .val (.int o1), .val (.int o2), .val (.int o3), .val (.ref b299), .val (.ref b308), .val (.ref b322), .val (.int iv331), .val (.int iv337)] [])) _
          refine XS.aload X334.here hx rfl (hb hby at_286) rfl rfl ?_
          show Steps p.tables e below (T334.setTop (mkF m 288 #[.val (.int p0), .val (.int p1), .val (.int p2), .val (.int p3), .val (.int p4), .val (.int p5), .val (.int n_), .val (.int sl_), .val (.int o0), .val (.int o1), .val (.int o2), .val (.int o3), .val (.ref b299), .val (.ref b308), .val (.ref b322), .val (.int iv331), .val (.int iv337)] [(.ref b322)])) _
          refine XS.iload X334.here hx rfl (hb hby at_288) rfl ?_
          show Steps p.tables e below (T334.setTop (mkF m 290 #[.val (.int p0), .val (.int p1), .val (.int p2), .val (.int p3), .val (.int p4), .val (.int p5), .val (.int n_), .val (.int sl_), .val (.int o0), .val (.int o1), .val (.int o2), .val (.int o3), .val (.ref b299), .val (.ref b308), .val (.ref b322), .val (.int iv331), .val (.int iv337)] [(.int sl_), (.ref b322)])) _
          refine st339.trans ?_
          show Steps p.tables e below (T339.setTop (mkF m 293 #[.val (.int p0), .val (.int p1), .val (.int p2), .val (.int p3), .val (.int p4), .val (.int p5), .val (.int n_), .val (.int sl_), .val (.int o0), .val (.int o1), .val (.int o2), .val (.int o3), .val (.ref b299), .val (.ref b308), .val (.ref b322), .val (.int iv331), .val (.int iv337)] [(.int (F9 b322 sl_ b308 k308 (4 : Int32) [o0, o1, o2, o3]))])) _
          refine XS.iload X339.here hx rfl (hb hby at_293) rfl ?_
          show Steps p.tables e below (T339.setTop (mkF m 295 #[.val (.int p0), .val (.int p1), .val (.int p2), .val (.int p3), .val (.int p4), .val (.int p5), .val (.int n_), .val (.int sl_), .val (.int o0), .val (.int o1), .val (.int o2), .val (.int o3), .val (.ref b299), .val (.ref b308), .val (.ref b322), .val (.int iv331), .val (.int iv337)] [(.int iv337), (.int (F9 b322 sl_ b308 k308 (4 : Int32) [o0, o1, o2, o3]))])) _
          refine XS.icmpNo X339.here hx rfl (hb hby at_295) rfl (teq (by rw [hj_iv337, hj_iv331]; exact own_k4 _ _ _ n_ sl_ o0 o1 o2 o3 hn4 hs0 hs1)).2 ?_
          show Steps p.tables e below (T339.setTop (mkF m 298 #[.val (.int p0), .val (.int p1), .val (.int p2), .val (.int p3), .val (.int p4), .val (.int p5), .val (.int n_), .val (.int sl_), .val (.int o0), .val (.int o1), .val (.int o2), .val (.int o3), .val (.ref b299), .val (.ref b308), .val (.ref b322), .val (.int iv331), .val (.int iv337)] [])) _
          refine XS.iconst X339.here hx rfl (hb hby at_298) ?_
          show Steps p.tables e below (T339.setTop (mkF m 299 #[.val (.int p0), .val (.int p1), .val (.int p2), .val (.int p3), .val (.int p4), .val (.int p5), .val (.int n_), .val (.int sl_), .val (.int o0), .val (.int o1), .val (.int o2), .val (.int o3), .val (.ref b299), .val (.ref b308), .val (.ref b322), .val (.int iv331), .val (.int iv337)] [(.int (1 : Int32))])) _
          refine XS.goto X339.here hx rfl (pc0 := 299) (pc' := 303) rfl (hb hby at_299) (by decide) (by decide) ?_
          exact kk
        obtain ⟨fs, hr, hrun, hended, hW, hsame⟩ := X339.leave (v := some (.int (1 : Int32))) (fun h => by rw [Bd.returns] at h; cases h)
        refine ⟨_, _, pre340 _ ?_, hrun, hended, _, _, rfl, ?_, ⟨_, rfl⟩, hW, hsame.mono (by decide) (by decide)⟩
        · show Steps p.tables e below (T339.setTop (mkF m 303 #[.val (.int p0), .val (.int p1), .val (.int p2), .val (.int p3), .val (.int p4), .val (.int p5), .val (.int n_), .val (.int sl_), .val (.int o0), .val (.int o1), .val (.int o2), .val (.int o3), .val (.ref b299), .val (.ref b308), .val (.ref b322), .val (.int iv331), .val (.int iv337)] [(.int (1 : Int32))])) _
          exact retN X339 hx (t := .boolean) Bd.returns (by simp) (hb hby at_303) hr
        · show Q0 Z p0 p1 p2 p3 p4 p5 h0 n0 _ T339.heap _
          rw [e339]
          exact ⟨rfl, N339⟩
set_option maxRecDepth 65536 in
set_option maxHeartbeats 40000000 in
theorem comes_1 {Post : Tables → Env → Array Value → State → Outcome → State → Prop} (hpost : ∀ tb e args s v u, (limb_1_1.after args s (.returned v) u = true ∧ limb_1_2.after args s (.returned v) u = true ∧ True) → FrameEnd s (.returned v) u (Jvm.fieldLocs frame_1_writes args s ++ Jvm.arrayLocs frame_1_arrays args s ++ Jvm.staticLocs frame_1_statics s) 24 128 → Post tb e args s (.returned v) u) :
    ArmFor flags0 classFile x code maxLocals ret World_1 tables_1 room_1 Calls_1 rest_1 Pre_1 Post := by
  intro l hfl _ _ p e ha hc hk s m args below hf hA hF happ hP
  obtain ⟨hcalls, hrest, hpre⟩ := hP
  obtain ⟨-, -, -, hnamed, -, -, -, hat⟩ := (Spec.applies_iff hf).mp happ
  obtain ⟨hg, hn⟩ := and_e (Cond.before_iff.mp (show (Jvm.Cond.and given_1 narrow_1).before args s = true from hpre))
  obtain ⟨hcount, hg0⟩ := and_e hg
  obtain ⟨ga0, hg1⟩ := and_e hg0
  obtain ⟨ga1, hg2⟩ := and_e hg1
  obtain ⟨ga2, hg3⟩ := and_e hg2
  obtain ⟨ga3, hg4⟩ := and_e hg3
  obtain ⟨ga4, hg5⟩ := and_e hg4
  have ga5 := hg5
  obtain ⟨w0, w1, w2, w3, w4, w5, rfl⟩ : ∃ w0 w1 w2 w3 w4 w5 : Value, args = #[w0, w1, w2, w3, w4, w5] := by
    have hs : args.size = 6 := by simpa [Cond.value, given_1] using hcount
    obtain ⟨L⟩ := args
    match L, hs with
    | [w0, w1, w2, w3, w4, w5], _ => exact ⟨w0, w1, w2, w3, w4, w5, rfl⟩
  have hw := fun d (hd : d ∈ tables_1) => atoms_spec (ws := Jvm.Cond.code x code maxLocals ret :: tables_1) hat d (List.mem_cons_of_mem _ hd)
  have hfit : Fit s := fun {y c} hc i hi => by
    obtain ⟨ha, rfl⟩ := Array.getElem?_eq_some_iff.mp hc
    have q := List.all_eq_true.mp ((Array.all_eq_true_iff_forall_mem.mp hF) _ (Array.getElem_mem ha)) i (List.mem_range.mpr hi)
    simpa [Array.getElem?_eq_getElem hi] using q
  obtain ⟨i0, ei0⟩ := is_v ga0
  obtain rfl : w0 = (.int i0) := Option.some.inj ei0
  obtain ⟨i1, ei1⟩ := is_v ga1
  obtain rfl : w1 = (.int i1) := Option.some.inj ei1
  obtain ⟨i2, ei2⟩ := is_v ga2
  obtain rfl : w2 = (.int i2) := Option.some.inj ei2
  obtain ⟨i3, ei3⟩ := is_v ga3
  obtain rfl : w3 = (.int i3) := Option.some.inj ei3
  obtain ⟨i4, ei4⟩ := is_v ga4
  obtain rfl : w4 = (.int i4) := Option.some.inj ei4
  obtain ⟨i5, ei5⟩ := is_v ga5
  obtain rfl : w5 = (.int i5) := Option.some.inj ei5
  obtain ⟨n, o, h1, h2, h3, _, L, rfl, ⟨rfl, N⟩, hq⟩ := rm0 l s _ hw tables_1 i0 i1 i2 i3 i4 i5  s.heap s.heap.size (Nat.le_refl _)  p e ha hc hk s m _ below hf ((Spec.applies_iff_loose hf).mp happ).1 ⟨rfl, State.Warmed39.refl s, rfl⟩ trivial
  refine ⟨n, _, h1, h2, h3, hpost _ _ _ _ _ _ ⟨Cond.after_iff.mpr rfl, Cond.after_iff.mpr (eq_i res_at (Term.int_eval (1)) rfl), trivial⟩ ⟨hq.1, hq.2.1, (hq.2.2.sift fun y hy => Or.inr (N y hy)).mono (by decide) (by decide)⟩⟩
theorem main_1_1 : Claimed_1_1 := comes_1 fun _ _ _ _ _ _ h hF => ⟨h.1, hF⟩
theorem main_1_2 : Claimed_1_2 := comes_1 fun _ _ _ _ _ _ h hF => ⟨h.2.1, hF⟩
end Jvm.Pilot.@@N@@
namespace Jvm.Pilot.@@N@@
open Jvm Jvm.ClassFile Sem Op Lib Jvm.Free Jvm.Stand Jvm.Pilot.@@N@@.Jvm.D
/-! MADE BY PROGRAM (witnessworld.py) out of the Statement's table words and the real class files: 18 classes; the members and pool entries that the words name. The judged class is class 1, her method 1. -/
namespace start1
open Jvm.ClassFile
def u (s : String) : CpInfo := .utf8 (stringToUtf16 s)
/-- a pool by its gaps: so many unusable entries, then the entry; so many at the end -/
def gap : Nat → List CpInfo → List CpInfo
  | 0, r => r
  | n + 1, r => .unusable :: gap n r
def poolList (es : List (Nat × CpInfo)) (last : Nat) : List CpInfo := es.foldr (fun e r => gap e.1 (e.2 :: r)) (gap last [])
def pool (es : List (Nat × CpInfo)) (last : Nat) : Array CpInfo := ⟨poolList es last⟩
def fileOf (pool : Array CpInfo) (this : Nat) (attrs : Array Attribute := #[]) (ms : Array MethodInfo := #[]) (fl : Nat := 33) (sup : Nat := 0) (ifs : Array Nat := #[]) (fds : Array FieldInfo := #[]) : ClassFile where
  minorVersion := 0
  majorVersion := 65
  constantPool := pool
  accessFlags := fl
  thisClass := this
  superClass := sup
  interfaces := ifs
  fields := fds
  methods := ms
  attributes := attrs
def plain (name : String) (sup : Option ClassId) : Class where
  name := name
  kind := .ordinary
  loader := none
  accessFlags := 33
  super := sup
  interfaces := #[]
  cf := none
  fields := #[]
  methods := #[]
  instanceTypes := #[]
  staticTypes := #[]
  resolved := #[]
  callSites := []
  init := .initialized
  statics := none
  mirror := none

def pool0 : Array CpInfo := pool [(5, u "<init>"), (0, u "()V"), (1, .class_ 10), (1, u "java/lang/Object")] 113

def k0c0 : Code := { maxStack := 0, maxLocals := 1, code := object_method_1_code, exceptionTable := #[], attributes := #[] }
def k0m0 : Method := { name := "<init>", desc := "()V", sig := { parameters := [], returnType := none }, accessFlags := 1, code := some k0c0 }
/-- java/lang/Object -/
def k0 : Class := { plain "java/lang/Object" none with
  accessFlags := 33
  interfaces := #[]
  cf := some (fileOf pool0 8 #[] #[{ accessFlags := 1, nameIndex := 5, descriptorIndex := 6, attributes := #[] }] 33 0 #[] #[])
  fields := #[]
  methods := #[k0m0]
  instanceTypes := #[]
  staticTypes := #[]
  resolved := Array.replicate 124 none
  statics := none }

def pool1 : Array CpInfo := pool [(2, .class_ 4), (1, u "java/lang/Object"), (0, u "<init>"), (0, u "()V"), (0, .integer 2147483647), (0, .long 10), (1, .long 20), (1, .long 30), (1, .long 40), (1, .class_ 17), (0, u "com/example/clockwise/clockwise/Ring"), (0, .methodref 16 19), (0, .nameAndType 5 20), (0, u "(Lcom/example/clockwise/clockwise/Placement;Lcom/example/clockwise/clockwise/Ring$Membership;I[J[I)V"), (0, .methodref 22 23), (0, .class_ 24), (0, .nameAndType 25 26), (0, u "com/example/clockwise/clockwise/RingIsFreePinLaw"), (0, u "pick"), (0, u "(IIIII)I"), (0, .methodref 16 28), (0, .nameAndType 29 30), (0, u "isFree"), (0, u "(I)Z"), (2, u "law"), (0, u "(IIIIII)Z")] 11

def k1m0 : Method := { name := "<init>", desc := "()V", sig := { parameters := [], returnType := none }, accessFlags := 1, code := none }
def k1c1 : Code := { maxStack := 7, maxLocals := 17, code := code, exceptionTable := #[], attributes := #[] }
def k1m1 : Method := { name := "law", desc := "(IIIIII)Z", sig := { parameters := [.int, .int, .int, .int, .int, .int], returnType := some .boolean }, accessFlags := 9, code := some k1c1 }
def k1c2 : Code := { maxStack := 2, maxLocals := 5, code := method_3_code, exceptionTable := #[], attributes := #[] }
def k1m2 : Method := { name := "pick", desc := "(IIIII)I", sig := { parameters := [.int, .int, .int, .int, .int], returnType := some .int }, accessFlags := 10, code := some k1c2 }
/-- com/example/clockwise/clockwise/RingIsFreePinLaw -/
def k1 : Class := { plain "com/example/clockwise/clockwise/RingIsFreePinLaw" (some 0) with
  accessFlags := 49
  interfaces := #[]
  cf := some (fileOf pool1 22 #[] #[{ accessFlags := 1, nameIndex := 5, descriptorIndex := 6, attributes := #[] }, { accessFlags := 9, nameIndex := 33, descriptorIndex := 34, attributes := #[] }, { accessFlags := 10, nameIndex := 25, descriptorIndex := 26, attributes := #[] }] 49 2 #[] #[])
  fields := #[]
  methods := #[k1m0, k1m1, k1m2]
  instanceTypes := #[]
  staticTypes := #[]
  resolved := Array.replicate 46 none
  statics := none }

def pool2 : Array CpInfo := pool [(1, .methodref 2 3), (0, .class_ 4), (0, .nameAndType 5 6), (0, u "java/lang/Object"), (0, u "<init>"), (0, u "()V"), (0, .fieldref 8 9), (0, .class_ 10), (0, .nameAndType 11 12), (0, u "com/example/clockwise/clockwise/Ring"), (0, u "placement"), (0, u "Lcom/example/clockwise/clockwise/Placement;"), (0, .fieldref 8 14), (0, .nameAndType 15 16), (0, u "members"), (0, u "Lcom/example/clockwise/clockwise/Ring$Membership;"), (0, .fieldref 8 18), (0, .nameAndType 19 20), (0, u "vnodes"), (0, u "I"), (0, .fieldref 8 22), (0, .nameAndType 23 24), (0, u "positions"), (0, u "[J"), (0, .fieldref 8 26), (0, .nameAndType 27 28), (0, u "owners"), (0, u "[I"), (0, .class_ 30), (0, u "com/example/clockwise/clockwise/SlotIndex"), (0, .methodref 29 32), (0, .nameAndType 5 33), (0, u "([J)V"), (0, .fieldref 8 35), (0, .nameAndType 36 37), (0, u "slotIndex"), (0, u "Lcom/example/clockwise/clockwise/SlotIndex;"), (11, .class_ 51), (1, u "com/example/clockwise/clockwise/Ring$Membership"), (18, u "(Lcom/example/clockwise/clockwise/Placement;Lcom/example/clockwise/clockwise/Ring$Membership;I[J[I)V"), (320, .class_ 392), (0, u "com/example/clockwise/clockwise/Ring$PositionCount"), (4, u "(I)Z"), (144, u "ONE_POSITION"), (0, u "Ljava/math/BigDecimal;"), (0, u "DEFAULT_VNODES"), (2, u "MAX_VNODES"), (1, u "MAX_WEIGHT"), (1, u "MAX_POINTS"), (1, u "MAX_NODE_NAME_BYTES"), (35, u "isFree")] 104

def k2c0 : Code := { maxStack := 4, maxLocals := 6, code := prog_20_method_1_code, exceptionTable := #[], attributes := #[] }
def k2m0 : Method := { name := "<init>", desc := "(Lcom/example/clockwise/clockwise/Placement;Lcom/example/clockwise/clockwise/Ring$Membership;I[J[I)V", sig := { parameters := [(.object "com/example/clockwise/clockwise/Placement"), (.object "com/example/clockwise/clockwise/Ring$Membership"), .int, (.array .long), (.array .int)], returnType := none }, accessFlags := 0, code := some k2c0 }
def k2c1 : Code := { maxStack := 3, maxLocals := 2, code := prog_20_method_37_code, exceptionTable := #[], attributes := #[] }
def k2m1 : Method := { name := "isFree", desc := "(I)Z", sig := { parameters := [.int], returnType := some .boolean }, accessFlags := 0, code := some k2c1 }
/-- com/example/clockwise/clockwise/Ring -/
def k2 : Class := { plain "com/example/clockwise/clockwise/Ring" (some 0) with
  accessFlags := 49
  interfaces := #[]
  cf := some (fileOf pool2 8 #[.nestMembers #[391, 49]] #[{ accessFlags := 0, nameIndex := 5, descriptorIndex := 70, attributes := #[] }, { accessFlags := 0, nameIndex := 589, descriptorIndex := 397, attributes := #[] }] 49 2 #[] #[{ accessFlags := 25, nameIndex := 544, descriptorIndex := 20, attributes := #[] }, { accessFlags := 25, nameIndex := 547, descriptorIndex := 20, attributes := #[] }, { accessFlags := 25, nameIndex := 549, descriptorIndex := 20, attributes := #[] }, { accessFlags := 25, nameIndex := 551, descriptorIndex := 20, attributes := #[] }, { accessFlags := 25, nameIndex := 553, descriptorIndex := 20, attributes := #[] }, { accessFlags := 26, nameIndex := 542, descriptorIndex := 543, attributes := #[] }, { accessFlags := 18, nameIndex := 11, descriptorIndex := 12, attributes := #[] }, { accessFlags := 18, nameIndex := 15, descriptorIndex := 16, attributes := #[] }, { accessFlags := 18, nameIndex := 19, descriptorIndex := 20, attributes := #[] }, { accessFlags := 18, nameIndex := 23, descriptorIndex := 24, attributes := #[] }, { accessFlags := 18, nameIndex := 27, descriptorIndex := 28, attributes := #[] }, { accessFlags := 18, nameIndex := 36, descriptorIndex := 37, attributes := #[] }])
  fields := #[{ name := "DEFAULT_VNODES", type := .int, accessFlags := 25, slot := 0, constantValue := 0 }, { name := "MAX_VNODES", type := .int, accessFlags := 25, slot := 1, constantValue := 0 }, { name := "MAX_WEIGHT", type := .int, accessFlags := 25, slot := 2, constantValue := 0 }, { name := "MAX_POINTS", type := .int, accessFlags := 25, slot := 3, constantValue := 0 }, { name := "MAX_NODE_NAME_BYTES", type := .int, accessFlags := 25, slot := 4, constantValue := 0 }, { name := "ONE_POSITION", type := (.object "java/math/BigDecimal"), accessFlags := 26, slot := 5, constantValue := 0 }, { name := "placement", type := (.object "com/example/clockwise/clockwise/Placement"), accessFlags := 18, slot := 0, constantValue := 0 }, { name := "members", type := (.object "com/example/clockwise/clockwise/Ring$Membership"), accessFlags := 18, slot := 1, constantValue := 0 }, { name := "vnodes", type := .int, accessFlags := 18, slot := 2, constantValue := 0 }, { name := "positions", type := (.array .long), accessFlags := 18, slot := 3, constantValue := 0 }, { name := "owners", type := (.array .int), accessFlags := 18, slot := 4, constantValue := 0 }, { name := "slotIndex", type := (.object "com/example/clockwise/clockwise/SlotIndex"), accessFlags := 18, slot := 5, constantValue := 0 }]
  methods := #[k2m0, k2m1]
  instanceTypes := #[(.object "com/example/clockwise/clockwise/Placement"), (.object "com/example/clockwise/clockwise/Ring$Membership"), .int, (.array .long), (.array .int), (.object "com/example/clockwise/clockwise/SlotIndex")]
  staticTypes := #[.int, .int, .int, .int, .int, (.object "java/math/BigDecimal")]
  resolved := Array.replicate 694 none
  statics := none }

def pool3 : Array CpInfo := pool [(1, .methodref 2 3), (0, .class_ 4), (0, .nameAndType 5 6), (0, u "java/lang/Object"), (0, u "<init>"), (0, u "()V"), (0, .fieldref 8 9), (0, .class_ 10), (0, .nameAndType 11 12), (0, u "com/example/clockwise/clockwise/SlotIndex"), (0, u "positions"), (0, u "[J"), (0, .methodref 14 15), (0, .class_ 16), (0, .nameAndType 17 18), (0, u "java/lang/Math"), (0, u "max"), (0, u "(II)I"), (0, .methodref 20 21), (0, .class_ 22), (0, .nameAndType 23 24), (0, u "java/lang/Integer"), (0, u "highestOneBit"), (0, u "(I)I"), (0, .methodref 20 26), (0, .nameAndType 27 24), (0, u "numberOfTrailingZeros"), (0, .fieldref 8 29), (0, .nameAndType 30 31), (0, u "shift"), (0, u "I"), (0, .fieldref 8 33), (0, .nameAndType 34 35), (0, u "firstSlots"), (0, u "[I"), (10, u "POINTS_PER_BUCKET"), (2, u "([J)V")] 7

def k3c0 : Code := { maxStack := 4, maxLocals := 5, code := prog_27_method_1_code, exceptionTable := #[], attributes := #[] }
def k3m0 : Method := { name := "<init>", desc := "([J)V", sig := { parameters := [(.array .long)], returnType := none }, accessFlags := 0, code := some k3c0 }
/-- com/example/clockwise/clockwise/SlotIndex -/
def k3 : Class := { plain "com/example/clockwise/clockwise/SlotIndex" (some 0) with
  accessFlags := 48
  interfaces := #[]
  cf := some (fileOf pool3 8 #[] #[{ accessFlags := 0, nameIndex := 5, descriptorIndex := 49, attributes := #[] }] 48 2 #[] #[{ accessFlags := 24, nameIndex := 46, descriptorIndex := 31, attributes := #[] }, { accessFlags := 18, nameIndex := 11, descriptorIndex := 12, attributes := #[] }, { accessFlags := 18, nameIndex := 30, descriptorIndex := 31, attributes := #[] }, { accessFlags := 18, nameIndex := 34, descriptorIndex := 35, attributes := #[] }])
  fields := #[{ name := "POINTS_PER_BUCKET", type := .int, accessFlags := 24, slot := 0, constantValue := 0 }, { name := "positions", type := (.array .long), accessFlags := 18, slot := 0, constantValue := 0 }, { name := "shift", type := .int, accessFlags := 18, slot := 1, constantValue := 0 }, { name := "firstSlots", type := (.array .int), accessFlags := 18, slot := 2, constantValue := 0 }]
  methods := #[k3m0]
  instanceTypes := #[(.array .long), .int, (.array .int)]
  staticTypes := #[.int]
  resolved := Array.replicate 57 none
  statics := none }

def pool4 : Array CpInfo := pool [(1, .class_ 2), (0, u "java/lang/Math"), (1, .class_ 6), (1, u "java/lang/Object"), (0, u "<init>"), (0, u "()V"), (89, .class_ 100), (1, u "java/lang/Math$RandomNumberGeneratorHolder"), (71, u "negativeZeroFloatBits"), (0, u "J"), (2, u "negativeZeroDoubleBits"), (21, u "max"), (46, u "$assertionsDisabled"), (0, u "Z"), (88, u "(II)I"), (2, u "twoToTheDoubleScaleDown"), (0, u "D"), (4, u "twoToTheDoubleScaleUp"), (9, u "E"), (3, u "PI"), (2, u "TAU"), (2, u "DEGREES_TO_RADIANS"), (0, u "RADIANS_TO_DEGREES")] 94

def k4m0 : Method := { name := "<init>", desc := "()V", sig := { parameters := [], returnType := none }, accessFlags := 2, code := none }
def k4c1 : Code := { maxStack := 2, maxLocals := 2, code := jdk_29_method_65_code, exceptionTable := #[], attributes := #[] }
def k4m1 : Method := { name := "max", desc := "(II)I", sig := { parameters := [.int, .int], returnType := some .int }, accessFlags := 9, code := some k4c1 }
/-- java/lang/Math -/
def k4 : Class := { plain "java/lang/Math" (some 0) with
  accessFlags := 49
  interfaces := #[]
  cf := some (fileOf pool4 1 #[.nestMembers #[98]] #[{ accessFlags := 2, nameIndex := 7, descriptorIndex := 8, attributes := #[] }, { accessFlags := 9, nameIndex := 198, descriptorIndex := 335, attributes := #[] }] 49 4 #[] #[{ accessFlags := 25, nameIndex := 354, descriptorIndex := 339, attributes := #[] }, { accessFlags := 25, nameIndex := 358, descriptorIndex := 339, attributes := #[] }, { accessFlags := 25, nameIndex := 361, descriptorIndex := 339, attributes := #[] }, { accessFlags := 26, nameIndex := 364, descriptorIndex := 339, attributes := #[] }, { accessFlags := 26, nameIndex := 365, descriptorIndex := 339, attributes := #[] }, { accessFlags := 26, nameIndex := 172, descriptorIndex := 173, attributes := #[] }, { accessFlags := 26, nameIndex := 176, descriptorIndex := 173, attributes := #[] }, { accessFlags := 8, nameIndex := 344, descriptorIndex := 339, attributes := #[] }, { accessFlags := 8, nameIndex := 338, descriptorIndex := 339, attributes := #[] }, { accessFlags := 4120, nameIndex := 245, descriptorIndex := 246, attributes := #[] }])
  fields := #[{ name := "E", type := .double, accessFlags := 25, slot := 0, constantValue := 0 }, { name := "PI", type := .double, accessFlags := 25, slot := 1, constantValue := 0 }, { name := "TAU", type := .double, accessFlags := 25, slot := 2, constantValue := 0 }, { name := "DEGREES_TO_RADIANS", type := .double, accessFlags := 26, slot := 3, constantValue := 0 }, { name := "RADIANS_TO_DEGREES", type := .double, accessFlags := 26, slot := 4, constantValue := 0 }, { name := "negativeZeroFloatBits", type := .long, accessFlags := 26, slot := 5, constantValue := 0 }, { name := "negativeZeroDoubleBits", type := .long, accessFlags := 26, slot := 6, constantValue := 0 }, { name := "twoToTheDoubleScaleUp", type := .double, accessFlags := 8, slot := 7, constantValue := 0 }, { name := "twoToTheDoubleScaleDown", type := .double, accessFlags := 8, slot := 8, constantValue := 0 }, { name := "$assertionsDisabled", type := .boolean, accessFlags := 4120, slot := 9, constantValue := 0 }]
  methods := #[k4m0, k4m1]
  instanceTypes := #[]
  staticTypes := #[.double, .double, .double, .double, .double, .long, .long, .double, .double, .boolean]
  resolved := Array.replicate 460 none
  statics := none }

def pool5 : Array CpInfo := pool [(1, .class_ 2), (0, u "java/io/Serializable"), (0, .class_ 4), (0, u "java/lang/Object")] 2

/-- java/io/Serializable -/
def k5 : Class := { plain "java/io/Serializable" (some 0) with
  accessFlags := 1537
  interfaces := #[]
  cf := some (fileOf pool5 1 #[] #[] 1537 3 #[] #[])
  fields := #[]
  methods := #[]
  instanceTypes := #[]
  staticTypes := #[]
  resolved := Array.replicate 7 none
  statics := none }

def pool6 : Array CpInfo := pool [(2, .class_ 4), (1, u "java/lang/Object"), (0, u "<init>"), (0, u "()V"), (1, .class_ 10), (1, u "java/lang/Number"), (2, .class_ 14), (0, u "java/io/Serializable"), (0, u "serialVersionUID"), (0, u "J")] 20

def k6m0 : Method := { name := "<init>", desc := "()V", sig := { parameters := [], returnType := none }, accessFlags := 1, code := none }
/-- java/lang/Number -/
def k6 : Class := { plain "java/lang/Number" (some 0) with
  accessFlags := 1057
  interfaces := #[5]
  cf := some (fileOf pool6 8 #[] #[{ accessFlags := 1, nameIndex := 5, descriptorIndex := 6, attributes := #[] }] 1057 2 #[13] #[{ accessFlags := 26, nameIndex := 15, descriptorIndex := 16, attributes := #[] }])
  fields := #[{ name := "serialVersionUID", type := .long, accessFlags := 26, slot := 0, constantValue := 0 }]
  methods := #[k6m0]
  instanceTypes := #[]
  staticTypes := #[.long]
  resolved := Array.replicate 37 none
  statics := none }

def pool7 : Array CpInfo := pool [(1, .class_ 2), (0, u "java/lang/Comparable"), (0, .class_ 4), (0, u "java/lang/Object")] 7

/-- java/lang/Comparable -/
def k7 : Class := { plain "java/lang/Comparable" (some 0) with
  accessFlags := 1537
  interfaces := #[]
  cf := some (fileOf pool7 1 #[] #[] 1537 3 #[] #[])
  fields := #[]
  methods := #[]
  instanceTypes := #[]
  staticTypes := #[]
  resolved := Array.replicate 12 none
  statics := none }

def pool8 : Array CpInfo := pool [(1, .class_ 2), (0, u "java/lang/constant/Constable"), (0, .class_ 4), (0, u "java/lang/Object")] 6

/-- java/lang/constant/Constable -/
def k8 : Class := { plain "java/lang/constant/Constable" (some 0) with
  accessFlags := 1537
  interfaces := #[]
  cf := some (fileOf pool8 1 #[] #[] 1537 3 #[] #[])
  fields := #[]
  methods := #[]
  instanceTypes := #[]
  staticTypes := #[]
  resolved := Array.replicate 11 none
  statics := none }

def pool9 : Array CpInfo := pool [(1, .class_ 2), (0, u "java/lang/constant/ConstantDesc"), (0, .class_ 4), (0, u "java/lang/Object")] 32

/-- java/lang/constant/ConstantDesc -/
def k9 : Class := { plain "java/lang/constant/ConstantDesc" (some 0) with
  accessFlags := 1537
  interfaces := #[]
  cf := some (fileOf pool9 1 #[] #[] 1537 3 #[] #[])
  fields := #[]
  methods := #[]
  instanceTypes := #[]
  staticTypes := #[]
  resolved := Array.replicate 37 none
  statics := none }

def pool10 : Array CpInfo := pool [(1, .class_ 2), (0, u "java/lang/Integer"), (16, u "digits"), (0, u "[C"), (30, .methodref 1 52), (0, .nameAndType 53 54), (0, u "numberOfLeadingZeros"), (0, u "(I)I"), (30, u "DigitOnes"), (0, u "[B"), (2, u "DigitTens"), (37, .integer 2147483648), (61, .class_ 190), (0, u "java/lang/Integer$IntegerCache"), (3, u "I"), (8, .class_ 204), (0, u "java/lang/Number"), (2, u "value"), (56, .integer 65536), (37, u "TYPE"), (0, u "Ljava/lang/Class;"), (0, .class_ 305), (0, u "java/lang/Comparable"), (0, .class_ 307), (0, u "java/lang/constant/Constable"), (0, .class_ 309), (0, u "java/lang/constant/ConstantDesc"), (0, u "MIN_VALUE"), (1, u "MAX_VALUE"), (3, u "SIZE"), (1, u "BYTES"), (1, u "serialVersionUID"), (0, u "J"), (81, u "highestOneBit"), (2, u "numberOfTrailingZeros")] 46

def k10c0 : Code := { maxStack := 3, maxLocals := 1, code := jdk_33_method_45_code, exceptionTable := #[], attributes := #[] }
def k10m0 : Method := { name := "highestOneBit", desc := "(I)I", sig := { parameters := [.int], returnType := some .int }, accessFlags := 9, code := some k10c0 }
def k10c1 : Code := { maxStack := 3, maxLocals := 2, code := jdk_33_method_47_code, exceptionTable := #[], attributes := #[] }
def k10m1 : Method := { name := "numberOfLeadingZeros", desc := "(I)I", sig := { parameters := [.int], returnType := some .int }, accessFlags := 9, code := some k10c1 }
def k10c2 : Code := { maxStack := 3, maxLocals := 2, code := jdk_33_method_48_code, exceptionTable := #[], attributes := #[] }
def k10m2 : Method := { name := "numberOfTrailingZeros", desc := "(I)I", sig := { parameters := [.int], returnType := some .int }, accessFlags := 9, code := some k10c2 }
/-- java/lang/Integer -/
def k10 : Class := { plain "java/lang/Integer" (some 6) with
  accessFlags := 49
  interfaces := #[7, 8, 9]
  cf := some (fileOf pool10 1 #[.nestMembers #[189]] #[{ accessFlags := 9, nameIndex := 403, descriptorIndex := 54, attributes := #[] }, { accessFlags := 9, nameIndex := 53, descriptorIndex := 54, attributes := #[] }, { accessFlags := 9, nameIndex := 406, descriptorIndex := 54, attributes := #[] }] 49 203 #[304, 306, 308] #[{ accessFlags := 25, nameIndex := 310, descriptorIndex := 194, attributes := #[] }, { accessFlags := 25, nameIndex := 312, descriptorIndex := 194, attributes := #[] }, { accessFlags := 25, nameIndex := 302, descriptorIndex := 303, attributes := #[] }, { accessFlags := 24, nameIndex := 19, descriptorIndex := 20, attributes := #[] }, { accessFlags := 24, nameIndex := 89, descriptorIndex := 86, attributes := #[] }, { accessFlags := 24, nameIndex := 85, descriptorIndex := 86, attributes := #[] }, { accessFlags := 18, nameIndex := 207, descriptorIndex := 194, attributes := #[] }, { accessFlags := 25, nameIndex := 316, descriptorIndex := 194, attributes := #[] }, { accessFlags := 25, nameIndex := 318, descriptorIndex := 194, attributes := #[] }, { accessFlags := 26, nameIndex := 320, descriptorIndex := 321, attributes := #[] }])
  fields := #[{ name := "MIN_VALUE", type := .int, accessFlags := 25, slot := 0, constantValue := 0 }, { name := "MAX_VALUE", type := .int, accessFlags := 25, slot := 1, constantValue := 0 }, { name := "TYPE", type := (.object "java/lang/Class"), accessFlags := 25, slot := 2, constantValue := 0 }, { name := "digits", type := (.array .char), accessFlags := 24, slot := 3, constantValue := 0 }, { name := "DigitTens", type := (.array .byte), accessFlags := 24, slot := 4, constantValue := 0 }, { name := "DigitOnes", type := (.array .byte), accessFlags := 24, slot := 5, constantValue := 0 }, { name := "value", type := .int, accessFlags := 18, slot := 0, constantValue := 0 }, { name := "SIZE", type := .int, accessFlags := 25, slot := 6, constantValue := 0 }, { name := "BYTES", type := .int, accessFlags := 25, slot := 7, constantValue := 0 }, { name := "serialVersionUID", type := .long, accessFlags := 26, slot := 8, constantValue := 0 }]
  methods := #[k10m0, k10m1, k10m2]
  instanceTypes := #[.int]
  staticTypes := #[.int, .int, (.object "java/lang/Class"), (.array .char), (.array .byte), (.array .byte), .int, .int, .long]
  resolved := Array.replicate 453 none
  statics := none }

def pool11 : Array CpInfo := pool [(1, u "java/lang/Cloneable"), (0, .class_ 1), (0, u "java/lang/Object"), (0, .class_ 3)] 3

/-- java/lang/Cloneable -/
def k11 : Class := { plain "java/lang/Cloneable" (some 0) with
  accessFlags := 1537
  interfaces := #[]
  cf := some (fileOf pool11 2 #[] #[] 1537 4 #[] #[])
  fields := #[]
  methods := #[]
  instanceTypes := #[]
  staticTypes := #[]
  resolved := Array.replicate 8 none
  statics := none }

/-- the primitive byte -/
def k12 : Class := { plain "byte" none with kind := .primitive 'B', accessFlags := 0x411 }
/-- [B -/
def k13 : Class := { plain "[B" (some 0) with kind := .array 12 .byte, interfaces := #[11, 5], accessFlags := 1041 }

/-- the primitive int -/
def k14 : Class := { plain "int" none with kind := .primitive 'I', accessFlags := 0x411 }
/-- [I -/
def k15 : Class := { plain "[I" (some 0) with kind := .array 14 .int, interfaces := #[11, 5], accessFlags := 1041 }

/-- the primitive long -/
def k16 : Class := { plain "long" none with kind := .primitive 'J', accessFlags := 0x411 }
/-- [J -/
def k17 : Class := { plain "[J" (some 0) with kind := .array 16 .long, interfaces := #[11, 5], accessFlags := 1041 }

def heap : Heap := #[]
def classes : Array Class := #[k0, k1, k2, k3, k4, k5, k6, k7, k8, k9, k10, k11, k12, k13, k14, k15, k16, k17]
def interned : List (Array UInt16 × Addr) := []
def slotsUsed : Nat := 0
def theMethod : MethodId := ⟨1, 1⟩
def args0 : Array Value := #[.int 1, .int 2, .int 3, .int 4, .int 5, .int 6]
def aboutOver (below : List Frame) : State where
  vm := { classes := classes, interned := interned.toArray }
  heap := heap
  slotsUsed := slotsUsed
  threads := #[{ frames := .invoking theMethod args0 :: below }]
def below0 : List Frame := [.native { method := ⟨0, 0⟩, args := #[] }]
def about1 : State := aboutOver below0
def p0 : Program := .bare "" "" ""
def e0 : Env := launch0.env 0 0 0
theorem w_frames : about1.frames = Frame.invoking theMethod args0 :: below0 := rfl
set_option maxRecDepth 65536 in
theorem w_args : argsFit about1.vm theMethod args0 = true := by decide +kernel
set_option maxRecDepth 65536 in
theorem w_heap : heapFits about1 = true := by decide +kernel
set_option maxRecDepth 65536 in
theorem w_runnable : about1.curStatus? = some .runnable := by decide +kernel
set_option maxRecDepth 65536 in
theorem w_alone : about1.alone = true := by decide +kernel
set_option maxRecDepth 65536 in
theorem w_named : about1.methodNamed? x = some theMethod := by decide +kernel
set_option maxRecDepth 65536 in
theorem w_hears : about1.hears theMethod below0 = true := by decide +kernel
set_option maxRecDepth 65536 in
theorem w_ripe : about1.ripe theMethod args0 below0 = true := by decide +kernel
theorem w_running : about1.status = .running := rfl
set_option maxRecDepth 65536 in
theorem w_room : about1.hasRoom e0.platform room_1 = true :=
  launch0.hasRoom_least _ room_1 (by decide +kernel) (by decide +kernel) (by decide +kernel) (by decide +kernel) (by decide +kernel) (by decide +kernel)
theorem allAtoms_all (ts : List Jvm.Cond) (a : Array Jvm.Value) (st : Jvm.State) : (allAtoms ts).before a st = ts.all (fun c => c.before a st) := by
  induction ts with
  | nil => rfl
  | cons c t ih =>
    show (Jvm.Cond.and c (allAtoms t)).before a st = _
    rw [Jvm.Cond.before_and, ih, List.all_cons]
def words1 : List Jvm.Cond := Jvm.Cond.code x code maxLocals ret :: tables_1
/-- a 'code' word, met by the world's own term for the bytes: nothing is compared byte by byte -/
theorem code_word {y : MethodName} {bytes : ByteArray} {mx : Nat} {rt : Option FieldType} {a : Array Value} {s : State} {m : MethodId} {meth : Method} {c : Code} (h1 : s.methodNamed? y = some m) (h2 : s.vm.method? m = some meth) (h3 : meth.code = some c) (h4 : c.code = bytes)
    (h5 : (c.maxLocals == mx && c.exceptionTable.isEmpty && decide (c.maxStack ≤ mostOperands) && decide (meth.sig.returnType = rt) && !meth.locks && decide (parseMethodDescriptor y.desc = some meth.sig)) = true) : (Jvm.Cond.code y bytes mx rt).before a s = true := by
  simp only [Bool.and_eq_true, beq_iff_eq, Bool.not_eq_true', decide_eq_true_eq] at h5
  obtain ⟨⟨⟨⟨⟨g1, g2⟩, g3⟩, g4⟩, g5⟩, g6⟩ := h5
  simp [Cond.before, Cond.holds, Cond.value, h1, h2, h3, h4, g1, g2, g3, g4, g5, g6]
def isCode : Jvm.Cond → Bool
  | .code _ _ _ _ => true
  | _ => false
theorem all_split {L : List Jvm.Cond} {P : Jvm.Cond → Bool} (h1 : L.all (fun c => isCode c || P c) = true) (h2 : ∀ c ∈ L.filter isCode, P c = true) : L.all P = true := by
  refine List.all_eq_true.mpr fun c hc => ?_
  have h := List.all_eq_true.mp h1 c hc
  rcases Bool.eq_false_or_eq_true (isCode c) with hi | hi
  · exact h2 c (List.mem_filter.mpr ⟨hc, hi⟩)
  · simpa [hi] using h
set_option maxRecDepth 65536 in
theorem w_c0 : (Jvm.Cond.code x code maxLocals ret).before args0 about1 = true := code_word (m := ⟨1, 1⟩) (meth := k1m1) (c := k1c1) (by decide +kernel) rfl rfl rfl (by decide +kernel)
set_option maxRecDepth 65536 in
theorem w_c1 : (Jvm.Cond.code ({ cls := "com/example/clockwise/clockwise/Ring", name := "<init>", desc := "(Lcom/example/clockwise/clockwise/Placement;Lcom/example/clockwise/clockwise/Ring$Membership;I[J[I)V" } : Jvm.MethodName) prog_20_method_1_code (6 : Nat) (Option.none : Option Jvm.ClassFile.FieldType)).before args0 about1 = true := code_word (m := ⟨2, 0⟩) (meth := k2m0) (c := k2c0) (by decide +kernel) rfl rfl rfl (by decide +kernel)
set_option maxRecDepth 65536 in
theorem w_c2 : (Jvm.Cond.code ({ cls := "java/lang/Object", name := "<init>", desc := "()V" } : Jvm.MethodName) object_method_1_code (1 : Nat) (Option.none : Option Jvm.ClassFile.FieldType)).before args0 about1 = true := code_word (m := ⟨0, 0⟩) (meth := k0m0) (c := k0c0) (by decide +kernel) rfl rfl rfl (by decide +kernel)
set_option maxRecDepth 65536 in
theorem w_c3 : (Jvm.Cond.code ({ cls := "com/example/clockwise/clockwise/SlotIndex", name := "<init>", desc := "([J)V" } : Jvm.MethodName) prog_27_method_1_code (5 : Nat) (Option.none : Option Jvm.ClassFile.FieldType)).before args0 about1 = true := code_word (m := ⟨3, 0⟩) (meth := k3m0) (c := k3c0) (by decide +kernel) rfl rfl rfl (by decide +kernel)
set_option maxRecDepth 65536 in
theorem w_c4 : (Jvm.Cond.code ({ cls := "java/lang/Math", name := "max", desc := "(II)I" } : Jvm.MethodName) jdk_29_method_65_code (2 : Nat) (Option.some Jvm.ClassFile.FieldType.int)).before args0 about1 = true := code_word (m := ⟨4, 1⟩) (meth := k4m1) (c := k4c1) (by decide +kernel) rfl rfl rfl (by decide +kernel)
set_option maxRecDepth 65536 in
theorem w_c5 : (Jvm.Cond.code ({ cls := "java/lang/Integer", name := "highestOneBit", desc := "(I)I" } : Jvm.MethodName) jdk_33_method_45_code (1 : Nat) (Option.some Jvm.ClassFile.FieldType.int)).before args0 about1 = true := code_word (m := ⟨10, 0⟩) (meth := k10m0) (c := k10c0) (by decide +kernel) rfl rfl rfl (by decide +kernel)
set_option maxRecDepth 65536 in
theorem w_c6 : (Jvm.Cond.code ({ cls := "java/lang/Integer", name := "numberOfLeadingZeros", desc := "(I)I" } : Jvm.MethodName) jdk_33_method_47_code (2 : Nat) (Option.some Jvm.ClassFile.FieldType.int)).before args0 about1 = true := code_word (m := ⟨10, 1⟩) (meth := k10m1) (c := k10c1) (by decide +kernel) rfl rfl rfl (by decide +kernel)
set_option maxRecDepth 65536 in
theorem w_c7 : (Jvm.Cond.code ({ cls := "java/lang/Integer", name := "numberOfTrailingZeros", desc := "(I)I" } : Jvm.MethodName) jdk_33_method_48_code (2 : Nat) (Option.some Jvm.ClassFile.FieldType.int)).before args0 about1 = true := code_word (m := ⟨10, 2⟩) (meth := k10m2) (c := k10c2) (by decide +kernel) rfl rfl rfl (by decide +kernel)
set_option maxRecDepth 65536 in
theorem w_c8 : (Jvm.Cond.code ({ cls := "com/example/clockwise/clockwise/RingIsFreePinLaw", name := "pick", desc := "(IIIII)I" } : Jvm.MethodName) method_3_code (5 : Nat) (Option.some Jvm.ClassFile.FieldType.int)).before args0 about1 = true := code_word (m := ⟨1, 2⟩) (meth := k1m2) (c := k1c2) (by decide +kernel) rfl rfl rfl (by decide +kernel)
set_option maxRecDepth 65536 in
theorem w_c9 : (Jvm.Cond.code ({ cls := "com/example/clockwise/clockwise/Ring", name := "isFree", desc := "(I)Z" } : Jvm.MethodName) prog_20_method_37_code (2 : Nat) (Option.some Jvm.ClassFile.FieldType.boolean)).before args0 about1 = true := code_word (m := ⟨2, 1⟩) (meth := k2m1) (c := k2c1) (by decide +kernel) rfl rfl rfl (by decide +kernel)
def codes1 : List Jvm.Cond := [Jvm.Cond.code x code maxLocals ret, Jvm.Cond.code ({ cls := "com/example/clockwise/clockwise/Ring", name := "<init>", desc := "(Lcom/example/clockwise/clockwise/Placement;Lcom/example/clockwise/clockwise/Ring$Membership;I[J[I)V" } : Jvm.MethodName) prog_20_method_1_code (6 : Nat) (Option.none : Option Jvm.ClassFile.FieldType), Jvm.Cond.code ({ cls := "java/lang/Object", name := "<init>", desc := "()V" } : Jvm.MethodName) object_method_1_code (1 : Nat) (Option.none : Option Jvm.ClassFile.FieldType), Jvm.Cond.code ({ cls := "com/example/clockwise/clockwise/SlotIndex", name := "<init>", desc := "([J)V" } : Jvm.MethodName) prog_27_method_1_code (5 : Nat) (Option.none : Option Jvm.ClassFile.FieldType), Jvm.Cond.code ({ cls := "java/lang/Math", name := "max", desc := "(II)I" } : Jvm.MethodName) jdk_29_method_65_code (2 : Nat) (Option.some Jvm.ClassFile.FieldType.int), Jvm.Cond.code ({ cls := "java/lang/Integer", name := "highestOneBit", desc := "(I)I" } : Jvm.MethodName) jdk_33_method_45_code (1 : Nat) (Option.some Jvm.ClassFile.FieldType.int), Jvm.Cond.code ({ cls := "java/lang/Integer", name := "numberOfLeadingZeros", desc := "(I)I" } : Jvm.MethodName) jdk_33_method_47_code (2 : Nat) (Option.some Jvm.ClassFile.FieldType.int), Jvm.Cond.code ({ cls := "java/lang/Integer", name := "numberOfTrailingZeros", desc := "(I)I" } : Jvm.MethodName) jdk_33_method_48_code (2 : Nat) (Option.some Jvm.ClassFile.FieldType.int), Jvm.Cond.code ({ cls := "com/example/clockwise/clockwise/RingIsFreePinLaw", name := "pick", desc := "(IIIII)I" } : Jvm.MethodName) method_3_code (5 : Nat) (Option.some Jvm.ClassFile.FieldType.int), Jvm.Cond.code ({ cls := "com/example/clockwise/clockwise/Ring", name := "isFree", desc := "(I)Z" } : Jvm.MethodName) prog_20_method_37_code (2 : Nat) (Option.some Jvm.ClassFile.FieldType.boolean)]
set_option maxRecDepth 65536 in
theorem codes_eq : words1.filter isCode = codes1 := rfl
theorem w_codes : ∀ c ∈ words1.filter isCode, c.before args0 about1 = true := by
  rw [codes_eq]
  intro c hc
  simp only [codes1, List.mem_cons, List.not_mem_nil, or_false] at hc
  rcases hc with rfl | rfl | rfl | rfl | rfl | rfl | rfl | rfl | rfl | rfl
  · exact w_c0
  · exact w_c1
  · exact w_c2
  · exact w_c3
  · exact w_c4
  · exact w_c5
  · exact w_c6
  · exact w_c7
  · exact w_c8
  · exact w_c9
set_option maxRecDepth 65536 in
theorem w_t1 : (words1.take 24).all (fun c => isCode c || c.before args0 about1) = true := by decide +kernel
set_option maxRecDepth 65536 in
theorem w_t2 : ((words1.drop 24).take 24).all (fun c => isCode c || c.before args0 about1) = true := by decide +kernel
set_option maxRecDepth 65536 in
theorem w_t3 : ((words1.drop 24).drop 24).all (fun c => isCode c || c.before args0 about1) = true := by decide +kernel
theorem w_tables : (allAtoms (Jvm.Cond.code x code maxLocals ret :: tables_1)).before args0 about1 = true := by
  rw [allAtoms_all]
  show words1.all (fun c => c.before args0 about1) = true
  refine all_split ?_ w_codes
  rw [← List.take_append_drop 24 words1, List.all_append, w_t1, ← List.take_append_drop 24 (words1.drop 24), List.all_append, w_t2, w_t3]
  rfl
set_option maxRecDepth 65536 in
theorem w_case : (Jvm.Cond.and given_1 narrow_1).before args0 about1 = true := by decide +kernel
theorem w_applies : (headSpec (Jvm.Cond.code x code maxLocals ret :: tables_1) room_1).applies x e0.platform about1 = true :=
  (Spec.applies_iff w_frames).mpr ⟨w_running, w_runnable, w_alone, w_named, w_hears, w_ripe, w_room, w_tables⟩
theorem atStart : AtStart classFile x code maxLocals ret World_1 tables_1 room_1 Calls_1 rest_1 Pre_1 launch0 p0 e0 about1 theMethod args0 below0 :=
  ⟨lists_1, trivial, launch0.admits_env _ _ _, launch0.least_env, fairChoices_fair.cas, fairChoices_fair.clock, w_frames, w_args, w_heap, w_applies, trivial, trivial, w_case⟩
end start1
theorem witness_1 : WitnessClaimed_1 := ⟨start1.p0, start1.e0, start1.about1, start1.theMethod, start1.args0, start1.below0, start1.atStart⟩
end Jvm.Pilot.@@N@@
