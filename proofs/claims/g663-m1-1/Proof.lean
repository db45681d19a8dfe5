import JvmDerived
import JvmDerived.Pilot.@@N@@Statement
import JvmDerived.Pilot.@@N@@Code
set_option linter.unusedVariables false
set_option linter.unusedSimpArgs false
namespace Jvm.Pilot.@@N@@
open Jvm Jvm.ClassFile Sem Op Lib Jvm.Free Jvm.Stand Jvm.LawKit Jvm.RoadKit Bundle Jvm.Pilot.@@N@@.Jvm.D

def F1 (p0 : Int32) : Int32 := (if p0 = (32 : Int32) then (1 : Int32) else (if p0 = (9 : Int32) then (1 : Int32) else (if p0 = (10 : Int32) then (1 : Int32) else (if p0 = (13 : Int32) then (1 : Int32) else (0 : Int32)))))
theorem d1_0 : decode prog_32_method_33_code 0 = .ok (.iload_n 0, 1) := by decide +kernel
theorem d1_1 : decode prog_32_method_33_code 1 = .ok (.bipush 32, 2) := by decide +kernel
theorem d1_3 : decode prog_32_method_33_code 3 = .ok (.if_icmp .eq 21, 3) := by decide +kernel
theorem d1_6 : decode prog_32_method_33_code 6 = .ok (.iload_n 0, 1) := by decide +kernel
theorem d1_7 : decode prog_32_method_33_code 7 = .ok (.bipush 9, 2) := by decide +kernel
theorem d1_9 : decode prog_32_method_33_code 9 = .ok (.if_icmp .eq 15, 3) := by decide +kernel
theorem d1_12 : decode prog_32_method_33_code 12 = .ok (.iload_n 0, 1) := by decide +kernel
theorem d1_13 : decode prog_32_method_33_code 13 = .ok (.bipush 10, 2) := by decide +kernel
theorem d1_15 : decode prog_32_method_33_code 15 = .ok (.if_icmp .eq 9, 3) := by decide +kernel
theorem d1_18 : decode prog_32_method_33_code 18 = .ok (.iload_n 0, 1) := by decide +kernel
theorem d1_19 : decode prog_32_method_33_code 19 = .ok (.bipush 13, 2) := by decide +kernel
theorem d1_21 : decode prog_32_method_33_code 21 = .ok (.if_icmp .ne 7, 3) := by decide +kernel
theorem d1_24 : decode prog_32_method_33_code 24 = .ok (.iconst 1, 1) := by decide +kernel
theorem d1_25 : decode prog_32_method_33_code 25 = .ok (.goto 4, 3) := by decide +kernel
theorem d1_28 : decode prog_32_method_33_code 28 = .ok (.iconst 0, 1) := by decide +kernel
theorem d1_29 : decode prog_32_method_33_code 29 = .ok (.ireturn, 1) := by decide +kernel
theorem pn_com_example_lean_index_leanindex_internal_json_JsonText : plainName "com/example/lean_index/leanindex/internal/json/JsonText" = true := by first | (simp [plainName, overriddenIn]; done) | decide +kernel
theorem ef_1_I (m : MethodId) (x0 : Int32) : entryFrame m #[(.int x0)] 1 = mkF m 0 #[.val (.int x0)] [] := by first | (simp [entryFrame, mkF, argsToLocals, Value.category]; done) | rfl
def Q1 (Z : State) (p0 : Int32) (h0 : Heap) (n0 : Nat) (v : Option Value) (h : Heap) (L : List Loc) : Prop := v = some (.int (F1 p0)) ∧ Fr n0 L ∧ h = h0
set_option maxRecDepth 65536 in
set_option maxHeartbeats 40000000 in
theorem rm1 (l : Launch) (Z : State) (a0 : Array Value) (hw : ∀ d ∈ tables_1, d.before a0 Z = true) (ws : List Jvm.Cond) (p0 : Int32) (h0 : Heap) (n0 : Nat) (Z0 : n0 ≤ h0.size) :
    MetFree l (⟨"com/example/lean_index/leanindex/internal/json/JsonText", "isWhiteSpace", "(B)Z"⟩ : MethodName) (head1 (Jvm.Cond.code (⟨"com/example/lean_index/leanindex/internal/json/JsonText", "isWhiteSpace", "(B)Z"⟩ : MethodName) prog_32_method_33_code 1 (some .boolean) :: ws) ({ frames := 0, cells := 0, slots := 0, locals := 0 } : Room)) (fun a U => a = #[(.int p0)] ∧ Z.Warmed39 U.vm ∧ U.heap = h0) (fun _ _ _ _ _ => True) (fun _ U o U' => ∃ v L, o = .returned v ∧ Q1 Z p0 h0 n0 v U'.heap L ∧ FrameEnd U o U' L ({ frames := 0, cells := 0, slots := 0, locals := 0 } : Room).cells ({ frames := 0, cells := 0, slots := 0, locals := 0 } : Room).slots) := by
  refine MetFree.of_bodySF (plainFor_of_name pn_com_example_lean_index_leanindex_internal_json_JsonText) hisR ?_
  intro p e s m args below meth c s₁ Bd hml0 hP hK
  obtain ⟨rfl, hZ, hh⟩ := hP
  have hx := Bd.exec
  have hby := Bd.bytes
  have hml : c.maxLocals = 1 := hml0
  have hown : s.vm.findClass "com/example/lean_index/leanindex/internal/json/JsonText" = some m.cls := findClass_of_methodNamed Bd.named
  have hnm := (name_of_methodNamed Bd.named Bd.method).1
  have X0 : Stand p l e ({ frames := 0, cells := 0, slots := 0, locals := 0 } : Room) s m #[(.int p0)] below meth c s₁ [] 0 0 := Stand.of_body Bd
  have e0 : s₁.heap = h0 := by rw [← hh, Bd.state]; rfl
  have N0 := Fr.nil n0
  have KP0 : Keep h0 h0 [] := Keep.refl h0 _
  have pre0 : ∀ t, Steps p.tables e below (s₁.setTop (mkF m 0 #[.val (.int p0)] [])) t → Steps p.tables e below (s₁.setTop (entryFrame m #[(.int p0)] 1)) t := fun t k => castTop (ef_1_I m p0) k
  have pre2 : ∀ t, Steps p.tables e below (s₁.setTop (mkF m 3 #[.val (.int p0)] [(.int (32 : Int32)), (.int p0)])) t → Steps p.tables e below (s₁.setTop (entryFrame m #[(.int p0)] 1)) t := by
    intro t kk
    refine pre0 t ?_
    show Steps p.tables e below (s₁.setTop (mkF m 0 #[.val (.int p0)] [])) _
    refine XS.iloadN X0.here hx rfl (hb hby d1_0) rfl ?_
    show Steps p.tables e below (s₁.setTop (mkF m 1 #[.val (.int p0)] [(.int p0)])) _
    refine XS.bipush X0.here hx rfl (hb hby d1_1) ?_
    exact kk
  by_cases hc3_1 : p0 = (32 : Int32)
  · have hF3 : (F1 p0) = (1 : Int32) := (if_pos hc3_1)
    have pre4 : ∀ t, Steps p.tables e below (s₁.setTop (mkF m 29 #[.val (.int p0)] [(.int (1 : Int32))])) t → Steps p.tables e below (s₁.setTop (entryFrame m #[(.int p0)] 1)) t := by
      intro t kk
      refine pre2 t ?_
      show Steps p.tables e below (s₁.setTop (mkF m 3 #[.val (.int p0)] [(.int (32 : Int32)), (.int p0)])) _
      refine XS.icmpYes X0.here hx rfl (pc0 := 3) (pc' := 24) rfl (hb hby d1_3) rfl (teq hc3_1).1 (by decide) (by decide) ?_
      show Steps p.tables e below (s₁.setTop (mkF m 24 #[.val (.int p0)] [])) _
      refine XS.iconst X0.here hx rfl (hb hby d1_24) ?_
      show Steps p.tables e below (s₁.setTop (mkF m 25 #[.val (.int p0)] [(.int (1 : Int32))])) _
      refine XS.goto X0.here hx rfl (pc0 := 25) (pc' := 29) rfl (hb hby d1_25) (by decide) (by decide) ?_
      exact kk
    obtain ⟨fs, hr, hrun, hended, hW, hsame⟩ := X0.leave (v := some (.int (1 : Int32))) (fun h => by rw [Bd.returns] at h; cases h)
    refine ⟨_, _, pre4 _ ?_, hrun, hended, _, _, rfl, ?_, ⟨_, rfl⟩, hW, hsame.mono (by decide) (by decide)⟩
    · show Steps p.tables e below (s₁.setTop (mkF m 29 #[.val (.int p0)] [(.int (1 : Int32))])) _
      exact retN X0 hx (t := .boolean) Bd.returns (by simp) (hb hby d1_29) hr
    · show Q1 Z p0 h0 n0 _ s₁.heap _
      rw [e0]
      exact ⟨congrArg (fun z => some (Value.int z)) hF3.symm, N0, rfl⟩
  · have pre6 : ∀ t, Steps p.tables e below (s₁.setTop (mkF m 9 #[.val (.int p0)] [(.int (9 : Int32)), (.int p0)])) t → Steps p.tables e below (s₁.setTop (entryFrame m #[(.int p0)] 1)) t := by
      intro t kk
      refine pre2 t ?_
      show Steps p.tables e below (s₁.setTop (mkF m 3 #[.val (.int p0)] [(.int (32 : Int32)), (.int p0)])) _
      refine XS.icmpNo X0.here hx rfl (hb hby d1_3) rfl (feq hc3_1).1 ?_
      show Steps p.tables e below (s₁.setTop (mkF m 6 #[.val (.int p0)] [])) _
      refine XS.iloadN X0.here hx rfl (hb hby d1_6) rfl ?_
      show Steps p.tables e below (s₁.setTop (mkF m 7 #[.val (.int p0)] [(.int p0)])) _
      refine XS.bipush X0.here hx rfl (hb hby d1_7) ?_
      exact kk
    by_cases hc9_5 : p0 = (9 : Int32)
    · have hF7 : (F1 p0) = (1 : Int32) := ((if_neg hc3_1).trans (if_pos hc9_5))
      have pre8 : ∀ t, Steps p.tables e below (s₁.setTop (mkF m 29 #[.val (.int p0)] [(.int (1 : Int32))])) t → Steps p.tables e below (s₁.setTop (entryFrame m #[(.int p0)] 1)) t := by
        intro t kk
        refine pre6 t ?_
        show Steps p.tables e below (s₁.setTop (mkF m 9 #[.val (.int p0)] [(.int (9 : Int32)), (.int p0)])) _
        refine XS.icmpYes X0.here hx rfl (pc0 := 9) (pc' := 24) rfl (hb hby d1_9) rfl (teq hc9_5).1 (by decide) (by decide) ?_
        show Steps p.tables e below (s₁.setTop (mkF m 24 #[.val (.int p0)] [])) _
        refine XS.iconst X0.here hx rfl (hb hby d1_24) ?_
        show Steps p.tables e below (s₁.setTop (mkF m 25 #[.val (.int p0)] [(.int (1 : Int32))])) _
        refine XS.goto X0.here hx rfl (pc0 := 25) (pc' := 29) rfl (hb hby d1_25) (by decide) (by decide) ?_
        exact kk
      obtain ⟨fs, hr, hrun, hended, hW, hsame⟩ := X0.leave (v := some (.int (1 : Int32))) (fun h => by rw [Bd.returns] at h; cases h)
      refine ⟨_, _, pre8 _ ?_, hrun, hended, _, _, rfl, ?_, ⟨_, rfl⟩, hW, hsame.mono (by decide) (by decide)⟩
      · show Steps p.tables e below (s₁.setTop (mkF m 29 #[.val (.int p0)] [(.int (1 : Int32))])) _
        exact retN X0 hx (t := .boolean) Bd.returns (by simp) (hb hby d1_29) hr
      · show Q1 Z p0 h0 n0 _ s₁.heap _
        rw [e0]
        exact ⟨congrArg (fun z => some (Value.int z)) hF7.symm, N0, rfl⟩
    · have pre10 : ∀ t, Steps p.tables e below (s₁.setTop (mkF m 15 #[.val (.int p0)] [(.int (10 : Int32)), (.int p0)])) t → Steps p.tables e below (s₁.setTop (entryFrame m #[(.int p0)] 1)) t := by
        intro t kk
        refine pre6 t ?_
        show Steps p.tables e below (s₁.setTop (mkF m 9 #[.val (.int p0)] [(.int (9 : Int32)), (.int p0)])) _
        refine XS.icmpNo X0.here hx rfl (hb hby d1_9) rfl (feq hc9_5).1 ?_
        show Steps p.tables e below (s₁.setTop (mkF m 12 #[.val (.int p0)] [])) _
        refine XS.iloadN X0.here hx rfl (hb hby d1_12) rfl ?_
        show Steps p.tables e below (s₁.setTop (mkF m 13 #[.val (.int p0)] [(.int p0)])) _
        refine XS.bipush X0.here hx rfl (hb hby d1_13) ?_
        exact kk
      by_cases hc15_9 : p0 = (10 : Int32)
      · have hF11 : (F1 p0) = (1 : Int32) := ((if_neg hc3_1).trans ((if_neg hc9_5).trans (if_pos hc15_9)))
        have pre12 : ∀ t, Steps p.tables e below (s₁.setTop (mkF m 29 #[.val (.int p0)] [(.int (1 : Int32))])) t → Steps p.tables e below (s₁.setTop (entryFrame m #[(.int p0)] 1)) t := by
          intro t kk
          refine pre10 t ?_
          show Steps p.tables e below (s₁.setTop (mkF m 15 #[.val (.int p0)] [(.int (10 : Int32)), (.int p0)])) _
          refine XS.icmpYes X0.here hx rfl (pc0 := 15) (pc' := 24) rfl (hb hby d1_15) rfl (teq hc15_9).1 (by decide) (by decide) ?_
          show Steps p.tables e below (s₁.setTop (mkF m 24 #[.val (.int p0)] [])) _
          refine XS.iconst X0.here hx rfl (hb hby d1_24) ?_
          show Steps p.tables e below (s₁.setTop (mkF m 25 #[.val (.int p0)] [(.int (1 : Int32))])) _
          refine XS.goto X0.here hx rfl (pc0 := 25) (pc' := 29) rfl (hb hby d1_25) (by decide) (by decide) ?_
          exact kk
        obtain ⟨fs, hr, hrun, hended, hW, hsame⟩ := X0.leave (v := some (.int (1 : Int32))) (fun h => by rw [Bd.returns] at h; cases h)
        refine ⟨_, _, pre12 _ ?_, hrun, hended, _, _, rfl, ?_, ⟨_, rfl⟩, hW, hsame.mono (by decide) (by decide)⟩
        · show Steps p.tables e below (s₁.setTop (mkF m 29 #[.val (.int p0)] [(.int (1 : Int32))])) _
          exact retN X0 hx (t := .boolean) Bd.returns (by simp) (hb hby d1_29) hr
        · show Q1 Z p0 h0 n0 _ s₁.heap _
          rw [e0]
          exact ⟨congrArg (fun z => some (Value.int z)) hF11.symm, N0, rfl⟩
      · have pre14 : ∀ t, Steps p.tables e below (s₁.setTop (mkF m 21 #[.val (.int p0)] [(.int (13 : Int32)), (.int p0)])) t → Steps p.tables e below (s₁.setTop (entryFrame m #[(.int p0)] 1)) t := by
          intro t kk
          refine pre10 t ?_
          show Steps p.tables e below (s₁.setTop (mkF m 15 #[.val (.int p0)] [(.int (10 : Int32)), (.int p0)])) _
          refine XS.icmpNo X0.here hx rfl (hb hby d1_15) rfl (feq hc15_9).1 ?_
          show Steps p.tables e below (s₁.setTop (mkF m 18 #[.val (.int p0)] [])) _
          refine XS.iloadN X0.here hx rfl (hb hby d1_18) rfl ?_
          show Steps p.tables e below (s₁.setTop (mkF m 19 #[.val (.int p0)] [(.int p0)])) _
          refine XS.bipush X0.here hx rfl (hb hby d1_19) ?_
          exact kk
        by_cases hc21_13 : p0 = (13 : Int32)
        · have hF15 : (F1 p0) = (1 : Int32) := ((if_neg hc3_1).trans ((if_neg hc9_5).trans ((if_neg hc15_9).trans (if_pos hc21_13))))
          have pre16 : ∀ t, Steps p.tables e below (s₁.setTop (mkF m 29 #[.val (.int p0)] [(.int (1 : Int32))])) t → Steps p.tables e below (s₁.setTop (entryFrame m #[(.int p0)] 1)) t := by
            intro t kk
            refine pre14 t ?_
            show Steps p.tables e below (s₁.setTop (mkF m 21 #[.val (.int p0)] [(.int (13 : Int32)), (.int p0)])) _
            refine XS.icmpNo X0.here hx rfl (hb hby d1_21) rfl (teq hc21_13).2 ?_
            show Steps p.tables e below (s₁.setTop (mkF m 24 #[.val (.int p0)] [])) _
            refine XS.iconst X0.here hx rfl (hb hby d1_24) ?_
            show Steps p.tables e below (s₁.setTop (mkF m 25 #[.val (.int p0)] [(.int (1 : Int32))])) _
            refine XS.goto X0.here hx rfl (pc0 := 25) (pc' := 29) rfl (hb hby d1_25) (by decide) (by decide) ?_
            exact kk
          obtain ⟨fs, hr, hrun, hended, hW, hsame⟩ := X0.leave (v := some (.int (1 : Int32))) (fun h => by rw [Bd.returns] at h; cases h)
          refine ⟨_, _, pre16 _ ?_, hrun, hended, _, _, rfl, ?_, ⟨_, rfl⟩, hW, hsame.mono (by decide) (by decide)⟩
          · show Steps p.tables e below (s₁.setTop (mkF m 29 #[.val (.int p0)] [(.int (1 : Int32))])) _
            exact retN X0 hx (t := .boolean) Bd.returns (by simp) (hb hby d1_29) hr
          · show Q1 Z p0 h0 n0 _ s₁.heap _
            rw [e0]
            exact ⟨congrArg (fun z => some (Value.int z)) hF15.symm, N0, rfl⟩
        · have hF17 : (F1 p0) = (0 : Int32) := ((if_neg hc3_1).trans ((if_neg hc9_5).trans ((if_neg hc15_9).trans (if_neg hc21_13))))
          have pre18 : ∀ t, Steps p.tables e below (s₁.setTop (mkF m 29 #[.val (.int p0)] [(.int (0 : Int32))])) t → Steps p.tables e below (s₁.setTop (entryFrame m #[(.int p0)] 1)) t := by
            intro t kk
            refine pre14 t ?_
            show Steps p.tables e below (s₁.setTop (mkF m 21 #[.val (.int p0)] [(.int (13 : Int32)), (.int p0)])) _
            refine XS.icmpYes X0.here hx rfl (pc0 := 21) (pc' := 28) rfl (hb hby d1_21) rfl (feq hc21_13).2 (by decide) (by decide) ?_
            show Steps p.tables e below (s₁.setTop (mkF m 28 #[.val (.int p0)] [])) _
            refine XS.iconst X0.here hx rfl (hb hby d1_28) ?_
            exact kk
          obtain ⟨fs, hr, hrun, hended, hW, hsame⟩ := X0.leave (v := some (.int (0 : Int32))) (fun h => by rw [Bd.returns] at h; cases h)
          refine ⟨_, _, pre18 _ ?_, hrun, hended, _, _, rfl, ?_, ⟨_, rfl⟩, hW, hsame.mono (by decide) (by decide)⟩
          · show Steps p.tables e below (s₁.setTop (mkF m 29 #[.val (.int p0)] [(.int (0 : Int32))])) _
            exact retN X0 hx (t := .boolean) Bd.returns (by simp) (hb hby d1_29) hr
          · show Q1 Z p0 h0 n0 _ s₁.heap _
            rw [e0]
            exact ⟨congrArg (fun z => some (Value.int z)) hF17.symm, N0, rfl⟩
def own_G (p0 : Int8) : Bool := decide (F1 (p0.toInt32) = (if ((p0.toInt32) &&& (255 : Int32)) < (64 : Int32) then (if ((((4294977024 : Int64).toUInt64 >>> (((p0.toInt32) &&& (255 : Int32)) &&& 0x3f).toInt64.toUInt64).toInt64) &&& (1 : Int64)) = (0 : Int64) then (0 : Int32) else (1 : Int32)) else (0 : Int32)))
theorem own_all : ∀ n : Fin 256, own_G (Int8.ofBitVec (BitVec.ofFin n)) = true := by decide +kernel
theorem own_law (p0 : Int32) : F1 ((p0.toInt8.toInt32)) = (if ((p0.toInt8.toInt32) &&& (255 : Int32)) < (64 : Int32) then (if ((((4294977024 : Int64).toUInt64 >>> (((p0.toInt8.toInt32) &&& (255 : Int32)) &&& 0x3f).toInt64.toUInt64).toInt64) &&& (1 : Int64)) = (0 : Int64) then (0 : Int32) else (1 : Int32)) else (0 : Int32)) :=
  of_decide_eq_true (own_all p0.toInt8.toBitVec.toFin)
theorem pd__28B_29Z : parseMethodDescriptor "(B)Z" = some ⟨[.byte], some .boolean⟩ := by decide +kernel
theorem pn_com_example_lean_index_leanindex_internal_json_JsonTextIsWhiteSpacePinLaw : plainName "com/example/lean_index/leanindex/internal/json/JsonTextIsWhiteSpacePinLaw" = true := by first | (simp [plainName, overriddenIn]; done) | decide +kernel
theorem ef_0_I (m : MethodId) (x0 : Int32) : entryFrame m #[(.int x0)] maxLocals = mkF m 0 #[.val (.int x0), .unset, .unset, .unset] [] := by first | (simp [entryFrame, mkF, argsToLocals, Value.category, maxLocals]; done) | rfl
def Q0 (Z : State) (p0 : Int32) (h0 : Heap) (n0 : Nat) (v : Option Value) (h : Heap) (L : List Loc) : Prop := v = some (.int 1) ∧ Fr n0 L
set_option maxRecDepth 65536 in
set_option maxHeartbeats 40000000 in
theorem rm0 (l : Launch) (Z : State) (a0 : Array Value) (hw : ∀ d ∈ tables_1, d.before a0 Z = true) (ws : List Jvm.Cond) (p0 : Int32) (h0 : Heap) (n0 : Nat) (Z0 : n0 ≤ h0.size) :
    MetFree l x (head1 (Jvm.Cond.code x code maxLocals ret :: ws) room_1) (fun a U => a = #[(.int p0)] ∧ Z.Warmed39 U.vm ∧ U.heap = h0) (fun _ _ _ _ _ => True) (fun _ U o U' => ∃ v L, o = .returned v ∧ Q0 Z p0 h0 n0 v U'.heap L ∧ FrameEnd U o U' L room_1.cells room_1.slots) := by
  refine MetFree.of_bodySF (plainFor_of_name pn_com_example_lean_index_leanindex_internal_json_JsonTextIsWhiteSpacePinLaw) hisR ?_
  intro p e s m args below meth c s₁ Bd hml0 hP hK
  obtain ⟨rfl, hZ, hh⟩ := hP
  have hx := Bd.exec
  have hby := Bd.bytes
  have hml : c.maxLocals = 4 := hml0
  have hown : s.vm.findClass "com/example/lean_index/leanindex/internal/json/JsonTextIsWhiteSpacePinLaw" = some m.cls := findClass_of_methodNamed Bd.named
  have hnm := (name_of_methodNamed Bd.named Bd.method).1
  have X0 : Stand p l e room_1 s m #[(.int p0)] below meth c s₁ [] 0 0 := Stand.of_body Bd
  have e0 : s₁.heap = h0 := by rw [← hh, Bd.state]; rfl
  have N0 := Fr.nil n0
  have KP0 : Keep h0 h0 [] := Keep.refl h0 _
  have pre0 : ∀ t, Steps p.tables e below (s₁.setTop (mkF m 0 #[.val (.int p0), .unset, .unset, .unset] [])) t → Steps p.tables e below (s₁.setTop (entryFrame m #[(.int p0)] maxLocals)) t := fun t k => castTop (ef_0_I m p0) k
  have pre20 : ∀ t, Steps p.tables e below (s₁.setTop (mkF m 12 #[.val (.int p0), .val (.int (p0.toInt8.toInt32)), .val (.int ((p0.toInt8.toInt32) &&& (255 : Int32))), .unset] [(.int (64 : Int32)), (.int ((p0.toInt8.toInt32) &&& (255 : Int32)))])) t → Steps p.tables e below (s₁.setTop (entryFrame m #[(.int p0)] maxLocals)) t := by
    intro t kk
    refine pre0 t ?_
    show Steps p.tables e below (s₁.setTop (mkF m 0 #[.val (.int p0), .unset, .unset, .unset] [])) _
    refine XS.iloadN X0.here hx rfl (hb hby at_0) rfl ?_
    show Steps p.tables e below (s₁.setTop (mkF m 1 #[.val (.int p0), .unset, .unset, .unset] [(.int p0)])) _
    refine XS.i2b X0.here hx rfl (hb hby at_1) rfl ?_
    show Steps p.tables e below (s₁.setTop (mkF m 2 #[.val (.int p0), .unset, .unset, .unset] [(.int (p0.toInt8.toInt32))])) _
    refine XS.istoreN X0.here hx rfl (hb hby at_2) rfl (l' := #[.val (.int p0), .val (.int (p0.toInt8.toInt32)), .unset, .unset]) rfl ?_
    show Steps p.tables e below (s₁.setTop (mkF m 3 #[.val (.int p0), .val (.int (p0.toInt8.toInt32)), .unset, .unset] [])) _
    refine XS.iloadN X0.here hx rfl (hb hby at_3) rfl ?_
    show Steps p.tables e below (s₁.setTop (mkF m 4 #[.val (.int p0), .val (.int (p0.toInt8.toInt32)), .unset, .unset] [(.int (p0.toInt8.toInt32))])) _
    refine XS.sipush X0.here hx rfl (hb hby at_4) ?_
    show Steps p.tables e below (s₁.setTop (mkF m 7 #[.val (.int p0), .val (.int (p0.toInt8.toInt32)), .unset, .unset] [(.int (255 : Int32)), (.int (p0.toInt8.toInt32))])) _
    refine XS.iand X0.here hx rfl (hb hby at_7) rfl ?_
    show Steps p.tables e below (s₁.setTop (mkF m 8 #[.val (.int p0), .val (.int (p0.toInt8.toInt32)), .unset, .unset] [(.int ((p0.toInt8.toInt32) &&& (255 : Int32)))])) _
    refine XS.istoreN X0.here hx rfl (hb hby at_8) rfl (l' := #[.val (.int p0), .val (.int (p0.toInt8.toInt32)), .val (.int ((p0.toInt8.toInt32) &&& (255 : Int32))), .unset]) rfl ?_
    show Steps p.tables e below (s₁.setTop (mkF m 9 #[.val (.int p0), .val (.int (p0.toInt8.toInt32)), .val (.int ((p0.toInt8.toInt32) &&& (255 : Int32))), .unset] [])) _
    refine XS.iloadN X0.here hx rfl (hb hby at_9) rfl ?_
    show Steps p.tables e below (s₁.setTop (mkF m 10 #[.val (.int p0), .val (.int (p0.toInt8.toInt32)), .val (.int ((p0.toInt8.toInt32) &&& (255 : Int32))), .unset] [(.int ((p0.toInt8.toInt32) &&& (255 : Int32)))])) _
    refine XS.bipush X0.here hx rfl (hb hby at_10) ?_
    exact kk
  obtain ⟨iv22, hj_iv22⟩ : ∃ z : Int32, z = (if ((p0.toInt8.toInt32) &&& (255 : Int32)) < (64 : Int32) then (if ((((4294977024 : Int64).toUInt64 >>> (((p0.toInt8.toInt32) &&& (255 : Int32)) &&& 0x3f).toInt64.toUInt64).toInt64) &&& (1 : Int64)) = (0 : Int64) then (0 : Int32) else (1 : Int32)) else (0 : Int32)) := ⟨_, rfl⟩
  have pre23 : ∀ t, Steps p.tables e below (s₁.setTop (mkF m 32 #[.val (.int p0), .val (.int (p0.toInt8.toInt32)), .val (.int ((p0.toInt8.toInt32) &&& (255 : Int32))), .unset] [(.int iv22)])) t → Steps p.tables e below (s₁.setTop (entryFrame m #[(.int p0)] maxLocals)) t := by
    intro t kk
    by_cases hc12_19 : ((p0.toInt8.toInt32) &&& (255 : Int32)) < (64 : Int32)
    · by_cases hc24_21 : ((((4294977024 : Int64).toUInt64 >>> (((p0.toInt8.toInt32) &&& (255 : Int32)) &&& 0x3f).toInt64.toUInt64).toInt64) &&& (1 : Int64)) = (0 : Int64)
      · rw [show iv22 = (0 : Int32) by rw [hj_iv22]; simp only [if_pos hc12_19, if_pos hc24_21]] at kk
        refine pre20 t ?_
        show Steps p.tables e below (s₁.setTop (mkF m 12 #[.val (.int p0), .val (.int (p0.toInt8.toInt32)), .val (.int ((p0.toInt8.toInt32) &&& (255 : Int32))), .unset] [(.int (64 : Int32)), (.int ((p0.toInt8.toInt32) &&& (255 : Int32)))])) _
        refine XS.icmpNo X0.here hx rfl (hb hby at_12) rfl (tlt hc12_19).2.1 ?_
        show Steps p.tables e below (s₁.setTop (mkF m 15 #[.val (.int p0), .val (.int (p0.toInt8.toInt32)), .val (.int ((p0.toInt8.toInt32) &&& (255 : Int32))), .unset] [])) _
        refine X0.ldc2Long hx hown (mvT hZ (hw _ (List.mem_of_getElem? (i := 0) rfl))) (g := (mkF m 15 #[.val (.int p0), .val (.int (p0.toInt8.toInt32)), .val (.int ((p0.toInt8.toInt32) &&& (255 : Int32))), .unset] [])) rfl (hb hby at_15) _ ?_
        show Steps p.tables e below (s₁.setTop (mkF m 18 #[.val (.int p0), .val (.int (p0.toInt8.toInt32)), .val (.int ((p0.toInt8.toInt32) &&& (255 : Int32))), .unset] [(.long (4294977024 : Int64))])) _
        refine XS.iloadN X0.here hx rfl (hb hby at_18) rfl ?_
        show Steps p.tables e below (s₁.setTop (mkF m 19 #[.val (.int p0), .val (.int (p0.toInt8.toInt32)), .val (.int ((p0.toInt8.toInt32) &&& (255 : Int32))), .unset] [(.int ((p0.toInt8.toInt32) &&& (255 : Int32))), (.long (4294977024 : Int64))])) _
        refine XS.lushr X0.here hx rfl (hb hby at_19) rfl ?_
        show Steps p.tables e below (s₁.setTop (mkF m 20 #[.val (.int p0), .val (.int (p0.toInt8.toInt32)), .val (.int ((p0.toInt8.toInt32) &&& (255 : Int32))), .unset] [(.long (((4294977024 : Int64).toUInt64 >>> (((p0.toInt8.toInt32) &&& (255 : Int32)) &&& 0x3f).toInt64.toUInt64).toInt64))])) _
        refine XS.lconst X0.here hx rfl (hb hby at_20) ?_
        show Steps p.tables e below (s₁.setTop (mkF m 21 #[.val (.int p0), .val (.int (p0.toInt8.toInt32)), .val (.int ((p0.toInt8.toInt32) &&& (255 : Int32))), .unset] [(.long (1 : Int64)), (.long (((4294977024 : Int64).toUInt64 >>> (((p0.toInt8.toInt32) &&& (255 : Int32)) &&& 0x3f).toInt64.toUInt64).toInt64))])) _
        refine XS.land X0.here hx rfl (hb hby at_21) rfl ?_
        show Steps p.tables e below (s₁.setTop (mkF m 22 #[.val (.int p0), .val (.int (p0.toInt8.toInt32)), .val (.int ((p0.toInt8.toInt32) &&& (255 : Int32))), .unset] [(.long ((((4294977024 : Int64).toUInt64 >>> (((p0.toInt8.toInt32) &&& (255 : Int32)) &&& 0x3f).toInt64.toUInt64).toInt64) &&& (1 : Int64)))])) _
        refine XS.lconst X0.here hx rfl (hb hby at_22) ?_
        show Steps p.tables e below (s₁.setTop (mkF m 23 #[.val (.int p0), .val (.int (p0.toInt8.toInt32)), .val (.int ((p0.toInt8.toInt32) &&& (255 : Int32))), .unset] [(.long (0 : Int64)), (.long ((((4294977024 : Int64).toUInt64 >>> (((p0.toInt8.toInt32) &&& (255 : Int32)) &&& 0x3f).toInt64.toUInt64).toInt64) &&& (1 : Int64)))])) _
        refine XS.lcmp X0.here hx rfl (hb hby at_23) rfl ?_
        show Steps p.tables e below (s₁.setTop (mkF m 24 #[.val (.int p0), .val (.int (p0.toInt8.toInt32)), .val (.int ((p0.toInt8.toInt32) &&& (255 : Int32))), .unset] [(.int (lcmpW ((((4294977024 : Int64).toUInt64 >>> (((p0.toInt8.toInt32) &&& (255 : Int32)) &&& 0x3f).toInt64.toUInt64).toInt64) &&& (1 : Int64)) (0 : Int64)))])) _
        refine XS.ifYes X0.here hx rfl (pc0 := 24) (pc' := 31) rfl (hb hby at_24) rfl ((if0 _ _).trans (teq ((lw_eq ((((4294977024 : Int64).toUInt64 >>> (((p0.toInt8.toInt32) &&& (255 : Int32)) &&& 0x3f).toInt64.toUInt64).toInt64) &&& (1 : Int64)) (0 : Int64)).mpr hc24_21)).1) (by decide) (by decide) ?_
        show Steps p.tables e below (s₁.setTop (mkF m 31 #[.val (.int p0), .val (.int (p0.toInt8.toInt32)), .val (.int ((p0.toInt8.toInt32) &&& (255 : Int32))), .unset] [])) _
        refine XS.iconst X0.here hx rfl (hb hby at_31) ?_
        exact kk
      · rw [show iv22 = (1 : Int32) by rw [hj_iv22]; simp only [if_pos hc12_19, if_neg hc24_21]] at kk
        refine pre20 t ?_
        show Steps p.tables e below (s₁.setTop (mkF m 12 #[.val (.int p0), .val (.int (p0.toInt8.toInt32)), .val (.int ((p0.toInt8.toInt32) &&& (255 : Int32))), .unset] [(.int (64 : Int32)), (.int ((p0.toInt8.toInt32) &&& (255 : Int32)))])) _
        refine XS.icmpNo X0.here hx rfl (hb hby at_12) rfl (tlt hc12_19).2.1 ?_
        show Steps p.tables e below (s₁.setTop (mkF m 15 #[.val (.int p0), .val (.int (p0.toInt8.toInt32)), .val (.int ((p0.toInt8.toInt32) &&& (255 : Int32))), .unset] [])) _
        refine X0.ldc2Long hx hown (mvT hZ (hw _ (List.mem_of_getElem? (i := 0) rfl))) (g := (mkF m 15 #[.val (.int p0), .val (.int (p0.toInt8.toInt32)), .val (.int ((p0.toInt8.toInt32) &&& (255 : Int32))), .unset] [])) rfl (hb hby at_15) _ ?_
        show Steps p.tables e below (s₁.setTop (mkF m 18 #[.val (.int p0), .val (.int (p0.toInt8.toInt32)), .val (.int ((p0.toInt8.toInt32) &&& (255 : Int32))), .unset] [(.long (4294977024 : Int64))])) _
        refine XS.iloadN X0.here hx rfl (hb hby at_18) rfl ?_
        show Steps p.tables e below (s₁.setTop (mkF m 19 #[.val (.int p0), .val (.int (p0.toInt8.toInt32)), .val (.int ((p0.toInt8.toInt32) &&& (255 : Int32))), .unset] [(.int ((p0.toInt8.toInt32) &&& (255 : Int32))), (.long (4294977024 : Int64))])) _
        refine XS.lushr X0.here hx rfl (hb hby at_19) rfl ?_
        show Steps p.tables e below (s₁.setTop (mkF m 20 #[.val (.int p0), .val (.int (p0.toInt8.toInt32)), .val (.int ((p0.toInt8.toInt32) &&& (255 : Int32))), .unset] [(.long (((4294977024 : Int64).toUInt64 >>> (((p0.toInt8.toInt32) &&& (255 : Int32)) &&& 0x3f).toInt64.toUInt64).toInt64))])) _
        refine XS.lconst X0.here hx rfl (hb hby at_20) ?_
        show Steps p.tables e below (s₁.setTop (mkF m 21 #[.val (.int p0), .val (.int (p0.toInt8.toInt32)), .val (.int ((p0.toInt8.toInt32) &&& (255 : Int32))), .unset] [(.long (1 : Int64)), (.long (((4294977024 : Int64).toUInt64 >>> (((p0.toInt8.toInt32) &&& (255 : Int32)) &&& 0x3f).toInt64.toUInt64).toInt64))])) _
        refine XS.land X0.here hx rfl (hb hby at_21) rfl ?_
        show Steps p.tables e below (s₁.setTop (mkF m 22 #[.val (.int p0), .val (.int (p0.toInt8.toInt32)), .val (.int ((p0.toInt8.toInt32) &&& (255 : Int32))), .unset] [(.long ((((4294977024 : Int64).toUInt64 >>> (((p0.toInt8.toInt32) &&& (255 : Int32)) &&& 0x3f).toInt64.toUInt64).toInt64) &&& (1 : Int64)))])) _
        refine XS.lconst X0.here hx rfl (hb hby at_22) ?_
        show Steps p.tables e below (s₁.setTop (mkF m 23 #[.val (.int p0), .val (.int (p0.toInt8.toInt32)), .val (.int ((p0.toInt8.toInt32) &&& (255 : Int32))), .unset] [(.long (0 : Int64)), (.long ((((4294977024 : Int64).toUInt64 >>> (((p0.toInt8.toInt32) &&& (255 : Int32)) &&& 0x3f).toInt64.toUInt64).toInt64) &&& (1 : Int64)))])) _
        refine XS.lcmp X0.here hx rfl (hb hby at_23) rfl ?_
        show Steps p.tables e below (s₁.setTop (mkF m 24 #[.val (.int p0), .val (.int (p0.toInt8.toInt32)), .val (.int ((p0.toInt8.toInt32) &&& (255 : Int32))), .unset] [(.int (lcmpW ((((4294977024 : Int64).toUInt64 >>> (((p0.toInt8.toInt32) &&& (255 : Int32)) &&& 0x3f).toInt64.toUInt64).toInt64) &&& (1 : Int64)) (0 : Int64)))])) _
        refine XS.ifNo X0.here hx rfl (hb hby at_24) rfl ((if0 _ _).trans (feq (fun q => hc24_21 ((lw_eq ((((4294977024 : Int64).toUInt64 >>> (((p0.toInt8.toInt32) &&& (255 : Int32)) &&& 0x3f).toInt64.toUInt64).toInt64) &&& (1 : Int64)) (0 : Int64)).mp q))).1) ?_
        show Steps p.tables e below (s₁.setTop (mkF m 27 #[.val (.int p0), .val (.int (p0.toInt8.toInt32)), .val (.int ((p0.toInt8.toInt32) &&& (255 : Int32))), .unset] [])) _
        refine XS.iconst X0.here hx rfl (hb hby at_27) ?_
        show Steps p.tables e below (s₁.setTop (mkF m 28 #[.val (.int p0), .val (.int (p0.toInt8.toInt32)), .val (.int ((p0.toInt8.toInt32) &&& (255 : Int32))), .unset] [(.int (1 : Int32))])) _
        refine XS.goto X0.here hx rfl (pc0 := 28) (pc' := 32) rfl (hb hby at_28) (by decide) (by decide) ?_
        exact kk
    · rw [show iv22 = (0 : Int32) by rw [hj_iv22]; simp only [if_neg hc12_19]] at kk
      refine pre20 t ?_
      show Steps p.tables e below (s₁.setTop (mkF m 12 #[.val (.int p0), .val (.int (p0.toInt8.toInt32)), .val (.int ((p0.toInt8.toInt32) &&& (255 : Int32))), .unset] [(.int (64 : Int32)), (.int ((p0.toInt8.toInt32) &&& (255 : Int32)))])) _
      refine XS.icmpYes X0.here hx rfl (pc0 := 12) (pc' := 31) rfl (hb hby at_12) rfl (flt hc12_19).2.1 (by decide) (by decide) ?_
      show Steps p.tables e below (s₁.setTop (mkF m 31 #[.val (.int p0), .val (.int (p0.toInt8.toInt32)), .val (.int ((p0.toInt8.toInt32) &&& (255 : Int32))), .unset] [])) _
      refine XS.iconst X0.here hx rfl (hb hby at_31) ?_
      exact kk
  obtain ⟨_, _, ⟨T24, L24, k24, n24⟩, -, X24, ⟨Lc24, hQ24, l24, y24, z24⟩, st24⟩ := Jvm.LawKit.callS X0 hx (y := (⟨"com/example/lean_index/leanindex/internal/json/JsonText", "isWhiteSpace", "(B)Z"⟩ : MethodName)) hown (mvT hZ (hw _ (List.mem_of_getElem? (i := 1) rfl))) (mvT hZ (hw _ (List.mem_of_getElem? (i := 2) rfl))) (mvT hZ (hw _ (List.mem_of_getElem? (i := 3) rfl))) (mvT hZ (hw _ (List.mem_of_getElem? (i := 4) rfl))) (by decide) (backOf (W := 0) (rm1 l Z a0 hw [] (p0.toInt8.toInt32)  h0 n0 Z0 ) hZ (hw _ (List.mem_of_getElem? (i := 4) rfl)) (hw _ (List.mem_of_getElem? (i := 3) rfl)) (by decide) (by decide)) (g := (mkF m 34 #[.val (.int p0), .val (.int (p0.toInt8.toInt32)), .val (.int ((p0.toInt8.toInt32) &&& (255 : Int32))), .val (.int iv22)] [(.int (p0.toInt8.toInt32))])) rfl (by rw [hml]; rfl) (argsL := [(.int (p0.toInt8.toInt32))]) (rest := []) (lenOf pd__28B_29Z rfl) rfl (by show 2 * 0 + _ ≤ _; exact Nat.le_of_eq rfl) (hb hby at_34) (fun _ _ => ⟨rfl, e0, (by decide : 0 + 0 ≤ _), (by decide : 0 + 0 ≤ _)⟩)
  dsimp only [Pt.U, Pt.locs, Pt.cells, Pt.slots] at X24 l24 y24 z24 st24 hQ24
  subst l24 y24 z24
  obtain ⟨rfl, N24q, e24⟩ := hQ24
  have N24 := Fr.app N0 N24q
  have pre25 : ∀ t, Steps p.tables e below (T24.setTop (mkF m 46 #[.val (.int p0), .val (.int (p0.toInt8.toInt32)), .val (.int ((p0.toInt8.toInt32) &&& (255 : Int32))), .val (.int iv22)] [(.int (1 : Int32))])) t → Steps p.tables e below (s₁.setTop (entryFrame m #[(.int p0)] maxLocals)) t := by
    intro t kk
    refine pre23 t ?_
    show Steps p.tables e below (s₁.setTop (mkF m 32 #[.val (.int p0), .val (.int (p0.toInt8.toInt32)), .val (.int ((p0.toInt8.toInt32) &&& (255 : Int32))), .unset] [(.int iv22)])) _
    refine XS.istoreN X0.here hx rfl (hb hby at_32) rfl (l' := #[.val (.int p0), .val (.int (p0.toInt8.toInt32)), .val (.int ((p0.toInt8.toInt32) &&& (255 : Int32))), .val (.int iv22)]) rfl ?_
    show Steps p.tables e below (s₁.setTop (mkF m 33 #[.val (.int p0), .val (.int (p0.toInt8.toInt32)), .val (.int ((p0.toInt8.toInt32) &&& (255 : Int32))), .val (.int iv22)] [])) _
    refine XS.iloadN X0.here hx rfl (hb hby at_33) rfl ?_
    show Steps p.tables e below (s₁.setTop (mkF m 34 #[.val (.int p0), .val (.int (p0.toInt8.toInt32)), .val (.int ((p0.toInt8.toInt32) &&& (255 : Int32))), .val (.int iv22)] [(.int (p0.toInt8.toInt32))])) _
    refine st24 _ ?_
    show Steps p.tables e below (T24.setTop (mkF m 37 #[.val (.int p0), .val (.int (p0.toInt8.toInt32)), .val (.int ((p0.toInt8.toInt32) &&& (255 : Int32))), .val (.int iv22)] [(.int (F1 (p0.toInt8.toInt32)))])) _
    refine XS.iloadN X24.here hx rfl (hb hby at_37) rfl ?_
    show Steps p.tables e below (T24.setTop (mkF m 38 #[.val (.int p0), .val (.int (p0.toInt8.toInt32)), .val (.int ((p0.toInt8.toInt32) &&& (255 : Int32))), .val (.int iv22)] [(.int iv22), (.int (F1 (p0.toInt8.toInt32)))])) _
    refine XS.icmpNo X24.here hx rfl (hb hby at_38) rfl (teq ((own_law p0).trans hj_iv22.symm)).2 ?_
    show Steps p.tables e below (T24.setTop (mkF m 41 #[.val (.int p0), .val (.int (p0.toInt8.toInt32)), .val (.int ((p0.toInt8.toInt32) &&& (255 : Int32))), .val (.int iv22)] [])) _
    refine XS.iconst X24.here hx rfl (hb hby at_41) ?_
    show Steps p.tables e below (T24.setTop (mkF m 42 #[.val (.int p0), .val (.int (p0.toInt8.toInt32)), .val (.int ((p0.toInt8.toInt32) &&& (255 : Int32))), .val (.int iv22)] [(.int (1 : Int32))])) _
    refine XS.goto X24.here hx rfl (pc0 := 42) (pc' := 46) rfl (hb hby at_42) (by decide) (by decide) ?_
    exact kk
  obtain ⟨fs, hr, hrun, hended, hW, hsame⟩ := X24.leave (v := some (.int (1 : Int32))) (fun h => by rw [Bd.returns] at h; cases h)
  refine ⟨_, _, pre25 _ ?_, hrun, hended, _, _, rfl, ?_, ⟨_, rfl⟩, hW, hsame.mono (by decide) (by decide)⟩
  · show Steps p.tables e below (T24.setTop (mkF m 46 #[.val (.int p0), .val (.int (p0.toInt8.toInt32)), .val (.int ((p0.toInt8.toInt32) &&& (255 : Int32))), .val (.int iv22)] [(.int (1 : Int32))])) _
    exact retN X24 hx (t := .boolean) Bd.returns (by simp) (hb hby at_46) hr
  · show Q0 Z p0 h0 n0 _ T24.heap _
    rw [e24]
    exact ⟨rfl, N24⟩
set_option maxRecDepth 65536 in
set_option maxHeartbeats 40000000 in
theorem comes_1 {Post : Tables → Env → Array Value → State → Outcome → State → Prop} (hpost : ∀ tb e args s v u, (limb_1_1.after args s (.returned v) u = true ∧ limb_1_2.after args s (.returned v) u = true ∧ True) → FrameEnd s (.returned v) u (Jvm.fieldLocs frame_1_writes args s ++ Jvm.arrayLocs frame_1_arrays args s ++ Jvm.staticLocs frame_1_statics s) 0 0 → Post tb e args s (.returned v) u) :
    ArmFor flags0 classFile x code maxLocals ret World_1 tables_1 room_1 Calls_1 rest_1 Pre_1 Post := by
  intro l hfl _ _ p e ha hc hk s m args below hf hA hF happ hP
  obtain ⟨hcalls, hrest, hpre⟩ := hP
  obtain ⟨-, -, -, hnamed, -, -, -, hat⟩ := (Spec.applies_iff hf).mp happ
  obtain ⟨hg, hn⟩ := and_e (Cond.before_iff.mp (show (Jvm.Cond.and given_1 narrow_1).before args s = true from hpre))
  obtain ⟨hcount, hg0⟩ := and_e hg
  have ga0 := hg0
  obtain ⟨w0, rfl⟩ : ∃ w0 : Value, args = #[w0] := by
    have hs : args.size = 1 := by simpa [Cond.value, given_1] using hcount
    obtain ⟨L⟩ := args
    match L, hs with
    | [w0], _ => exact ⟨w0, rfl⟩
  have hw := fun d (hd : d ∈ tables_1) => atoms_spec (ws := Jvm.Cond.code x code maxLocals ret :: tables_1) hat d (List.mem_cons_of_mem _ hd)
  have hfit : Fit s := fun {y c} hc i hi => by
    obtain ⟨ha, rfl⟩ := Array.getElem?_eq_some_iff.mp hc
    have q := List.all_eq_true.mp ((Array.all_eq_true_iff_forall_mem.mp hF) _ (Array.getElem_mem ha)) i (List.mem_range.mpr hi)
    simpa [Array.getElem?_eq_getElem hi] using q
  obtain ⟨i0, ei0⟩ := is_v ga0
  obtain rfl : w0 = (.int i0) := Option.some.inj ei0
  obtain ⟨n, o, h1, h2, h3, _, L, rfl, ⟨rfl, N⟩, hq⟩ := rm0 l s _ hw tables_1 i0  s.heap s.heap.size (Nat.le_refl _)  p e ha hc hk s m _ below hf ((Spec.applies_iff_loose hf).mp happ).1 ⟨rfl, State.Warmed39.refl s, rfl⟩ trivial
  refine ⟨n, _, h1, h2, h3, hpost _ _ _ _ _ _ ⟨Cond.after_iff.mpr rfl, Cond.after_iff.mpr (eq_i res_at (Term.int_eval (1)) rfl), trivial⟩ ⟨hq.1, hq.2.1, (hq.2.2.sift fun y hy => Or.inr (N y hy)).mono (by decide) (by decide)⟩⟩
theorem main_1_1 : Claimed_1_1 := comes_1 fun _ _ _ _ _ _ h hF => ⟨h.1, hF⟩
theorem main_1_2 : Claimed_1_2 := comes_1 fun _ _ _ _ _ _ h hF => ⟨h.2.1, hF⟩
end Jvm.Pilot.@@N@@
namespace Jvm.Pilot.@@N@@
open Jvm Jvm.ClassFile Sem Op Lib Jvm.Free Jvm.Stand Jvm.Pilot.@@N@@.Jvm.D
/-! MADE BY PROGRAM (witnessworld.py) out of the Statement's table words and the real class files: 7 classes; the members and pool entries that the words name. The judged class is class 1, her method 1. -/
namespace start1
open Jvm.ClassFile
def u (s : String) : CpInfo := .utf8 (stringToUtf16 s)
/-- a pool by its gaps: so many unusable entries, then the entry; so many at the end -/
def gap : Nat → List CpInfo → List CpInfo
  | 0, r => r
  | n + 1, r => .unusable :: gap n r
def poolList (es : List (Nat × CpInfo)) (last : Nat) : List CpInfo := es.foldr (fun e r => gap e.1 (e.2 :: r)) (gap last [])
def pool (es : List (Nat × CpInfo)) (last : Nat) : Array CpInfo := ⟨poolList es last⟩
def fileOf (pool : Array CpInfo) (this : Nat) (attrs : Array Attribute := #[]) (ms : Array MethodInfo := #[]) (fl : Nat := 33) (sup : Nat := 0) (ifs : Array Nat := #[]) (fds : Array FieldInfo := #[]) : ClassFile where
  minorVersion := 0
  majorVersion := 65
  constantPool := pool
  accessFlags := fl
  thisClass := this
  superClass := sup
  interfaces := ifs
  fields := fds
  methods := ms
  attributes := attrs
def plain (name : String) (sup : Option ClassId) : Class where
  name := name
  kind := .ordinary
  loader := none
  accessFlags := 33
  super := sup
  interfaces := #[]
  cf := none
  fields := #[]
  methods := #[]
  instanceTypes := #[]
  staticTypes := #[]
  resolved := #[]
  callSites := []
  init := .initialized
  statics := none
  mirror := none

def pool0 : Array CpInfo := pool [(5, u "<init>"), (0, u "()V"), (1, .class_ 10), (1, u "java/lang/Object")] 113

def k0m0 : Method := { name := "<init>", desc := "()V", sig := { parameters := [], returnType := none }, accessFlags := 1, code := none }
/-- java/lang/Object -/
def k0 : Class := { plain "java/lang/Object" none with
  accessFlags := 33
  interfaces := #[]
  cf := some (fileOf pool0 8 #[] #[{ accessFlags := 1, nameIndex := 5, descriptorIndex := 6, attributes := #[] }] 33 0 #[] #[])
  fields := #[]
  methods := #[k0m0]
  instanceTypes := #[]
  staticTypes := #[]
  resolved := Array.replicate 124 none
  statics := none }

def pool1 : Array CpInfo := pool [(2, .class_ 4), (1, u "java/lang/Object"), (0, u "<init>"), (0, u "()V"), (0, .class_ 8), (0, u "com/example/lean_index/leanindex/internal/json/JsonTextIsWhiteSpacePinLaw"), (0, .long 4294977024), (1, .methodref 12 13), (0, .class_ 14), (0, .nameAndType 15 16), (0, u "com/example/lean_index/leanindex/internal/json/JsonText"), (0, u "isWhiteSpace"), (0, u "(B)Z"), (0, u "WHITE_MASK"), (0, u "J"), (3, u "law"), (0, u "(I)Z")] 3

def k1m0 : Method := { name := "<init>", desc := "()V", sig := { parameters := [], returnType := none }, accessFlags := 1, code := none }
def k1c1 : Code := { maxStack := 4, maxLocals := 4, code := code, exceptionTable := #[], attributes := #[] }
def k1m1 : Method := { name := "law", desc := "(I)Z", sig := { parameters := [.int], returnType := some .boolean }, accessFlags := 9, code := some k1c1 }
/-- com/example/lean_index/leanindex/internal/json/JsonTextIsWhiteSpacePinLaw -/
def k1 : Class := { plain "com/example/lean_index/leanindex/internal/json/JsonTextIsWhiteSpacePinLaw" (some 0) with
  accessFlags := 49
  interfaces := #[]
  cf := some (fileOf pool1 7 #[] #[{ accessFlags := 1, nameIndex := 5, descriptorIndex := 6, attributes := #[] }, { accessFlags := 9, nameIndex := 22, descriptorIndex := 23, attributes := #[] }] 49 2 #[] #[{ accessFlags := 26, nameIndex := 17, descriptorIndex := 18, attributes := #[] }])
  fields := #[{ name := "WHITE_MASK", type := .long, accessFlags := 26, slot := 0, constantValue := 0 }]
  methods := #[k1m0, k1m1]
  instanceTypes := #[]
  staticTypes := #[.long]
  resolved := Array.replicate 27 none
  statics := none }

def pool2 : Array CpInfo := pool [(2, .class_ 4), (1, u "java/lang/Object"), (3, .class_ 10), (1, u "com/example/lean_index/leanindex/internal/json/JsonText"), (0, u "text"), (0, u "[B"), (2, u "textLength"), (0, u "I"), (2, u "pathLiteral"), (0, u "Z"), (41, u "at"), (57, .class_ 121), (0, u "com/example/lean_index/leanindex/internal/json/JsonText$Open"), (109, u "IN_SCALAR"), (0, u "[Z"), (7, u "WORDS"), (0, u "Ljava/lang/invoke/VarHandle;"), (152, u "isWhiteSpace"), (0, u "(B)Z"), (22, u "END"), (2, u "MEMBER_SLOTS"), (1, u "ONES"), (0, u "J"), (0, u "HIGH_BITS")] 39

def k2c0 : Code := { maxStack := 2, maxLocals := 1, code := prog_32_method_33_code, exceptionTable := #[], attributes := #[] }
def k2m0 : Method := { name := "isWhiteSpace", desc := "(B)Z", sig := { parameters := [.byte], returnType := some .boolean }, accessFlags := 9, code := some k2c0 }
/-- com/example/lean_index/leanindex/internal/json/JsonText -/
def k2 : Class := { plain "com/example/lean_index/leanindex/internal/json/JsonText" (some 0) with
  accessFlags := 49
  interfaces := #[]
  cf := some (fileOf pool2 8 #[.nestMembers #[120]] #[{ accessFlags := 9, nameIndex := 394, descriptorIndex := 395, attributes := #[] }] 49 2 #[] #[{ accessFlags := 26, nameIndex := 418, descriptorIndex := 16, attributes := #[] }, { accessFlags := 26, nameIndex := 421, descriptorIndex := 16, attributes := #[] }, { accessFlags := 26, nameIndex := 231, descriptorIndex := 232, attributes := #[] }, { accessFlags := 26, nameIndex := 240, descriptorIndex := 241, attributes := #[] }, { accessFlags := 26, nameIndex := 423, descriptorIndex := 424, attributes := #[] }, { accessFlags := 26, nameIndex := 425, descriptorIndex := 424, attributes := #[] }, { accessFlags := 18, nameIndex := 11, descriptorIndex := 12, attributes := #[] }, { accessFlags := 18, nameIndex := 15, descriptorIndex := 16, attributes := #[] }, { accessFlags := 18, nameIndex := 19, descriptorIndex := 20, attributes := #[] }, { accessFlags := 2, nameIndex := 62, descriptorIndex := 16, attributes := #[] }])
  fields := #[{ name := "END", type := .int, accessFlags := 26, slot := 0, constantValue := 0 }, { name := "MEMBER_SLOTS", type := .int, accessFlags := 26, slot := 1, constantValue := 0 }, { name := "IN_SCALAR", type := (.array .boolean), accessFlags := 26, slot := 2, constantValue := 0 }, { name := "WORDS", type := (.object "java/lang/invoke/VarHandle"), accessFlags := 26, slot := 3, constantValue := 0 }, { name := "ONES", type := .long, accessFlags := 26, slot := 4, constantValue := 0 }, { name := "HIGH_BITS", type := .long, accessFlags := 26, slot := 5, constantValue := 0 }, { name := "text", type := (.array .byte), accessFlags := 18, slot := 0, constantValue := 0 }, { name := "textLength", type := .int, accessFlags := 18, slot := 1, constantValue := 0 }, { name := "pathLiteral", type := .boolean, accessFlags := 18, slot := 2, constantValue := 0 }, { name := "at", type := .int, accessFlags := 2, slot := 3, constantValue := 0 }]
  methods := #[k2m0]
  instanceTypes := #[(.array .byte), .int, .boolean, .int]
  staticTypes := #[.int, .int, (.array .boolean), (.object "java/lang/invoke/VarHandle"), .long, .long]
  resolved := Array.replicate 465 none
  statics := none }

def pool3 : Array CpInfo := pool [(1, u "java/lang/Cloneable"), (0, .class_ 1), (0, u "java/lang/Object"), (0, .class_ 3)] 3

/-- java/lang/Cloneable -/
def k3 : Class := { plain "java/lang/Cloneable" (some 0) with
  accessFlags := 1537
  interfaces := #[]
  cf := some (fileOf pool3 2 #[] #[] 1537 4 #[] #[])
  fields := #[]
  methods := #[]
  instanceTypes := #[]
  staticTypes := #[]
  resolved := Array.replicate 8 none
  statics := none }

def pool4 : Array CpInfo := pool [(1, u "java/io/Serializable"), (0, .class_ 1), (0, u "java/lang/Object"), (0, .class_ 3)] 3

/-- java/io/Serializable -/
def k4 : Class := { plain "java/io/Serializable" (some 0) with
  accessFlags := 1537
  interfaces := #[]
  cf := some (fileOf pool4 2 #[] #[] 1537 4 #[] #[])
  fields := #[]
  methods := #[]
  instanceTypes := #[]
  staticTypes := #[]
  resolved := Array.replicate 8 none
  statics := none }

/-- the primitive byte -/
def k5 : Class := { plain "byte" none with kind := .primitive 'B', accessFlags := 0x411 }
/-- [B -/
def k6 : Class := { plain "[B" (some 0) with kind := .array 5 .byte, interfaces := #[3, 4], accessFlags := 1041 }

def heap : Heap := #[]
def classes : Array Class := #[k0, k1, k2, k3, k4, k5, k6]
def interned : List (Array UInt16 × Addr) := []
def slotsUsed : Nat := 0
def theMethod : MethodId := ⟨1, 1⟩
def args0 : Array Value := #[.int 32]
def aboutOver (below : List Frame) : State where
  vm := { classes := classes, interned := interned.toArray }
  heap := heap
  slotsUsed := slotsUsed
  threads := #[{ frames := .invoking theMethod args0 :: below }]
def below0 : List Frame := [.native { method := ⟨0, 0⟩, args := #[] }]
def about1 : State := aboutOver below0
def p0 : Program := .bare "" "" ""
def e0 : Env := launch0.env 0 0 0
theorem w_frames : about1.frames = Frame.invoking theMethod args0 :: below0 := rfl
set_option maxRecDepth 65536 in
theorem w_args : argsFit about1.vm theMethod args0 = true := by decide +kernel
set_option maxRecDepth 65536 in
theorem w_heap : heapFits about1 = true := by decide +kernel
set_option maxRecDepth 65536 in
theorem w_runnable : about1.curStatus? = some .runnable := by decide +kernel
set_option maxRecDepth 65536 in
theorem w_alone : about1.alone = true := by decide +kernel
set_option maxRecDepth 65536 in
theorem w_named : about1.methodNamed? x = some theMethod := by decide +kernel
set_option maxRecDepth 65536 in
theorem w_hears : about1.hears theMethod below0 = true := by decide +kernel
set_option maxRecDepth 65536 in
theorem w_ripe : about1.ripe theMethod args0 below0 = true := by decide +kernel
theorem w_running : about1.status = .running := rfl
set_option maxRecDepth 65536 in
theorem w_room : about1.hasRoom e0.platform room_1 = true :=
  launch0.hasRoom_least _ room_1 (by decide +kernel) (by decide +kernel) (by decide +kernel) (by decide +kernel) (by decide +kernel) (by decide +kernel)
theorem allAtoms_all (ts : List Jvm.Cond) (a : Array Jvm.Value) (st : Jvm.State) : (allAtoms ts).before a st = ts.all (fun c => c.before a st) := by
  induction ts with
  | nil => rfl
  | cons c t ih =>
    show (Jvm.Cond.and c (allAtoms t)).before a st = _
    rw [Jvm.Cond.before_and, ih, List.all_cons]
def words1 : List Jvm.Cond := Jvm.Cond.code x code maxLocals ret :: tables_1
/-- a 'code' word, met by the world's own term for the bytes: nothing is compared byte by byte -/
theorem code_word {y : MethodName} {bytes : ByteArray} {mx : Nat} {rt : Option FieldType} {a : Array Value} {s : State} {m : MethodId} {meth : Method} {c : Code} (h1 : s.methodNamed? y = some m) (h2 : s.vm.method? m = some meth) (h3 : meth.code = some c) (h4 : c.code = bytes)
    (h5 : (c.maxLocals == mx && c.exceptionTable.isEmpty && decide (c.maxStack ≤ mostOperands) && decide (meth.sig.returnType = rt) && !meth.locks && decide (parseMethodDescriptor y.desc = some meth.sig)) = true) : (Jvm.Cond.code y bytes mx rt).before a s = true := by
  simp only [Bool.and_eq_true, beq_iff_eq, Bool.not_eq_true', decide_eq_true_eq] at h5
  obtain ⟨⟨⟨⟨⟨g1, g2⟩, g3⟩, g4⟩, g5⟩, g6⟩ := h5
  simp [Cond.before, Cond.holds, Cond.value, h1, h2, h3, h4, g1, g2, g3, g4, g5, g6]
def isCode : Jvm.Cond → Bool
  | .code _ _ _ _ => true
  | _ => false
theorem all_split {L : List Jvm.Cond} {P : Jvm.Cond → Bool} (h1 : L.all (fun c => isCode c || P c) = true) (h2 : ∀ c ∈ L.filter isCode, P c = true) : L.all P = true := by
  refine List.all_eq_true.mpr fun c hc => ?_
  have h := List.all_eq_true.mp h1 c hc
  rcases Bool.eq_false_or_eq_true (isCode c) with hi | hi
  · exact h2 c (List.mem_filter.mpr ⟨hc, hi⟩)
  · simpa [hi] using h
set_option maxRecDepth 65536 in
theorem w_c0 : (Jvm.Cond.code x code maxLocals ret).before args0 about1 = true := code_word (m := ⟨1, 1⟩) (meth := k1m1) (c := k1c1) (by decide +kernel) rfl rfl rfl (by decide +kernel)
set_option maxRecDepth 65536 in
theorem w_c1 : (Jvm.Cond.code ({ cls := "com/example/lean_index/leanindex/internal/json/JsonText", name := "isWhiteSpace", desc := "(B)Z" } : Jvm.MethodName) prog_32_method_33_code (1 : Nat) (Option.some Jvm.ClassFile.FieldType.boolean)).before args0 about1 = true := code_word (m := ⟨2, 0⟩) (meth := k2m0) (c := k2c0) (by decide +kernel) rfl rfl rfl (by decide +kernel)
def codes1 : List Jvm.Cond := [Jvm.Cond.code x code maxLocals ret, Jvm.Cond.code ({ cls := "com/example/lean_index/leanindex/internal/json/JsonText", name := "isWhiteSpace", desc := "(B)Z" } : Jvm.MethodName) prog_32_method_33_code (1 : Nat) (Option.some Jvm.ClassFile.FieldType.boolean)]
set_option maxRecDepth 65536 in
theorem codes_eq : words1.filter isCode = codes1 := rfl
theorem w_codes : ∀ c ∈ words1.filter isCode, c.before args0 about1 = true := by
  rw [codes_eq]
  intro c hc
  simp only [codes1, List.mem_cons, List.not_mem_nil, or_false] at hc
  rcases hc with rfl | rfl
  · exact w_c0
  · exact w_c1
set_option maxRecDepth 65536 in
theorem w_t1 : words1.all (fun c => isCode c || c.before args0 about1) = true := by decide +kernel
theorem w_tables : (allAtoms (Jvm.Cond.code x code maxLocals ret :: tables_1)).before args0 about1 = true := by
  rw [allAtoms_all]
  show words1.all (fun c => c.before args0 about1) = true
  refine all_split ?_ w_codes
  rw [w_t1]
set_option maxRecDepth 65536 in
theorem w_case : (Jvm.Cond.and given_1 narrow_1).before args0 about1 = true := by decide +kernel
theorem w_applies : (headSpec (Jvm.Cond.code x code maxLocals ret :: tables_1) room_1).applies x e0.platform about1 = true :=
  (Spec.applies_iff w_frames).mpr ⟨w_running, w_runnable, w_alone, w_named, w_hears, w_ripe, w_room, w_tables⟩
theorem atStart : AtStart classFile x code maxLocals ret World_1 tables_1 room_1 Calls_1 rest_1 Pre_1 launch0 p0 e0 about1 theMethod args0 below0 :=
  ⟨lists_1, trivial, launch0.admits_env _ _ _, launch0.least_env, fairChoices_fair.cas, fairChoices_fair.clock, w_frames, w_args, w_heap, w_applies, trivial, trivial, w_case⟩
end start1
theorem witness_1 : WitnessClaimed_1 := ⟨start1.p0, start1.e0, start1.about1, start1.theMethod, start1.args0, start1.below0, start1.atStart⟩
end Jvm.Pilot.@@N@@
