import JvmDerived
import JvmDerived.Pilot.@@N@@Statement
import JvmDerived.Pilot.@@N@@Code
set_option linter.unusedVariables false
set_option linter.unusedSimpArgs false
namespace Jvm.Pilot.@@N@@
open Jvm Jvm.ClassFile Sem Op Lib Jvm.Free Jvm.Stand Jvm.LawKit Jvm.RoadKit Bundle Jvm.Pilot.@@N@@.Jvm.D

def F1 (p0 : Int32) : Int32 := (if p0 = (400 : Int32) then (13 : Int32) else (if p0 = (401 : Int32) then (16 : Int32) else (if p0 = (403 : Int32) then (7 : Int32) else (if p0 = (404 : Int32) then (12 : Int32) else (if p0 = (429 : Int32) then (14 : Int32) else (if p0 = (502 : Int32) then (14 : Int32) else (if p0 = (503 : Int32) then (14 : Int32) else (if p0 = (504 : Int32) then (14 : Int32) else (2 : Int32)))))))))
theorem d1_0 : decode prog_111_method_11_code 0 = .ok (.iload_n 0, 1) := by decide +kernel
theorem d1_1 : decode prog_111_method_11_code 1 = .ok (.lookupswitch 100 #[(400, 75), (401, 80), (403, 85), (404, 90), (429, 95), (502, 95), (503, 95), (504, 95)], 75) := by decide +kernel
theorem d1_76 : decode prog_111_method_11_code 76 = .ok (.bipush 13, 2) := by decide +kernel
theorem d1_78 : decode prog_111_method_11_code 78 = .ok (.goto 24, 3) := by decide +kernel
theorem d1_81 : decode prog_111_method_11_code 81 = .ok (.bipush 16, 2) := by decide +kernel
theorem d1_83 : decode prog_111_method_11_code 83 = .ok (.goto 19, 3) := by decide +kernel
theorem d1_86 : decode prog_111_method_11_code 86 = .ok (.bipush 7, 2) := by decide +kernel
theorem d1_88 : decode prog_111_method_11_code 88 = .ok (.goto 14, 3) := by decide +kernel
theorem d1_91 : decode prog_111_method_11_code 91 = .ok (.bipush 12, 2) := by decide +kernel
theorem d1_93 : decode prog_111_method_11_code 93 = .ok (.goto 9, 3) := by decide +kernel
theorem d1_96 : decode prog_111_method_11_code 96 = .ok (.bipush 14, 2) := by decide +kernel
theorem d1_98 : decode prog_111_method_11_code 98 = .ok (.goto 4, 3) := by decide +kernel
theorem d1_101 : decode prog_111_method_11_code 101 = .ok (.iconst 2, 1) := by decide +kernel
theorem d1_102 : decode prog_111_method_11_code 102 = .ok (.ireturn, 1) := by decide +kernel
theorem pn_farspeak_triple_CallStatus : plainName "farspeak/triple/CallStatus" = true := by first | (simp [plainName, overriddenIn]; done) | decide +kernel
theorem ef_1_I (m : MethodId) (x0 : Int32) : entryFrame m #[(.int x0)] 1 = mkF m 0 #[.val (.int x0)] [] := by first | (simp [entryFrame, mkF, argsToLocals, Value.category]; done) | rfl
def Q1 (Z : State) (p0 : Int32) (h0 : Heap) (n0 : Nat) (v : Option Value) (h : Heap) (L : List Loc) : Prop := v = some (.int (F1 p0)) ∧ Fr n0 L ∧ h = h0
set_option maxRecDepth 65536 in
set_option maxHeartbeats 40000000 in
theorem rm1 (l : Launch) (Z : State) (a0 : Array Value) (hw : ∀ d ∈ tables_1, d.before a0 Z = true) (ws : List Jvm.Cond) (p0 : Int32) (h0 : Heap) (n0 : Nat) (Z0 : n0 ≤ h0.size) :
    MetFree l (⟨"farspeak/triple/CallStatus", "grpcStatusOfHttpStatus", "(I)I"⟩ : MethodName) (head1 (Jvm.Cond.code (⟨"farspeak/triple/CallStatus", "grpcStatusOfHttpStatus", "(I)I"⟩ : MethodName) prog_111_method_11_code 1 (some .int) :: ws) ({ frames := 0, cells := 0, slots := 0, locals := 0 } : Room)) (fun a U => a = #[(.int p0)] ∧ Z.Warmed39 U.vm ∧ U.heap = h0) (fun _ _ _ _ _ => True) (fun _ U o U' => ∃ v L, o = .returned v ∧ Q1 Z p0 h0 n0 v U'.heap L ∧ FrameEnd U o U' L ({ frames := 0, cells := 0, slots := 0, locals := 0 } : Room).cells ({ frames := 0, cells := 0, slots := 0, locals := 0 } : Room).slots) := by
  refine MetFree.of_bodySF (plainFor_of_name pn_farspeak_triple_CallStatus) hisR ?_
  intro p e s m args below meth c s₁ Bd hml0 hP hK
  obtain ⟨rfl, hZ, hh⟩ := hP
  have hx := Bd.exec
  have hby := Bd.bytes
  have hml : c.maxLocals = 1 := hml0
  have hown : s.vm.findClass "farspeak/triple/CallStatus" = some m.cls := findClass_of_methodNamed Bd.named
  have hnm := (name_of_methodNamed Bd.named Bd.method).1
  have X0 : Stand p l e ({ frames := 0, cells := 0, slots := 0, locals := 0 } : Room) s m #[(.int p0)] below meth c s₁ [] 0 0 := Stand.of_body Bd
  have e0 : s₁.heap = h0 := by rw [← hh, Bd.state]; rfl
  have N0 := Fr.nil n0
  have KP0 : Keep h0 h0 [] := Keep.refl h0 _
  have pre0 : ∀ t, Steps p.tables e below (s₁.setTop (mkF m 0 #[.val (.int p0)] [])) t → Steps p.tables e below (s₁.setTop (entryFrame m #[(.int p0)] 1)) t := fun t k => castTop (ef_1_I m p0) k
  have pre1 : ∀ t, Steps p.tables e below (s₁.setTop (mkF m 1 #[.val (.int p0)] [(.int p0)])) t → Steps p.tables e below (s₁.setTop (entryFrame m #[(.int p0)] 1)) t := by
    intro t kk
    refine pre0 t ?_
    show Steps p.tables e below (s₁.setTop (mkF m 0 #[.val (.int p0)] [])) _
    refine XS.iloadN X0.here hx rfl (hb hby d1_0) rfl ?_
    exact kk
  by_cases hs1_2 : p0 = (400 : Int32)
  · have hF3 : (F1 p0) = (13 : Int32) := (if_pos hs1_2)
    have pre4 : ∀ t, Steps p.tables e below (s₁.setTop (mkF m 102 #[.val (.int p0)] [(.int (13 : Int32))])) t → Steps p.tables e below (s₁.setTop (entryFrame m #[(.int p0)] 1)) t := by
      intro t kk
      refine pre1 t ?_
      show Steps p.tables e below (s₁.setTop (mkF m 1 #[.val (.int p0)] [(.int p0)])) _
      refine X0.lookupswitchHit hx (g := (mkF m 1 #[.val (.int p0)] [(.int p0)])) rfl rfl (hb hby d1_1) (by decide) (a := 400) (off := 75) (by rw [hs1_2]; decide) (show (0 : Int) ≤ ((1 : Nat) : Int) + 75 by decide) _ ?_
      show Steps p.tables e below (s₁.setTop (mkF m 76 #[.val (.int p0)] [])) _
      refine XS.bipush X0.here hx rfl (hb hby d1_76) ?_
      show Steps p.tables e below (s₁.setTop (mkF m 78 #[.val (.int p0)] [(.int (13 : Int32))])) _
      refine XS.goto X0.here hx rfl (pc0 := 78) (pc' := 102) rfl (hb hby d1_78) (by decide) (by decide) ?_
      exact kk
    obtain ⟨fs, hr, hrun, hended, hW, hsame⟩ := X0.leave (v := some (.int (13 : Int32))) (fun h => by rw [Bd.returns] at h; cases h)
    refine ⟨_, _, pre4 _ ?_, hrun, hended, _, _, rfl, ?_, ⟨_, rfl⟩, hW, hsame.mono (by decide) (by decide)⟩
    · show Steps p.tables e below (s₁.setTop (mkF m 102 #[.val (.int p0)] [(.int (13 : Int32))])) _
      exact retOut X0 hx Bd.returns rfl (Or.inl ⟨rfl, Or.inl rfl, _, rfl⟩) (hb hby d1_102) hr
    · show Q1 Z p0 h0 n0 _ s₁.heap _
      rw [e0]
      exact ⟨congrArg (fun z => some (Value.int z)) hF3.symm, N0, rfl⟩
  · by_cases hs1_5 : p0 = (401 : Int32)
    · have hF6 : (F1 p0) = (16 : Int32) := ((if_neg hs1_2).trans (if_pos hs1_5))
      have pre7 : ∀ t, Steps p.tables e below (s₁.setTop (mkF m 102 #[.val (.int p0)] [(.int (16 : Int32))])) t → Steps p.tables e below (s₁.setTop (entryFrame m #[(.int p0)] 1)) t := by
        intro t kk
        refine pre1 t ?_
        show Steps p.tables e below (s₁.setTop (mkF m 1 #[.val (.int p0)] [(.int p0)])) _
        refine X0.lookupswitchHit hx (g := (mkF m 1 #[.val (.int p0)] [(.int p0)])) rfl rfl (hb hby d1_1) (by decide) (a := 401) (off := 80) (by rw [hs1_5]; decide) (show (0 : Int) ≤ ((1 : Nat) : Int) + 80 by decide) _ ?_
        show Steps p.tables e below (s₁.setTop (mkF m 81 #[.val (.int p0)] [])) _
        refine XS.bipush X0.here hx rfl (hb hby d1_81) ?_
        show Steps p.tables e below (s₁.setTop (mkF m 83 #[.val (.int p0)] [(.int (16 : Int32))])) _
        refine XS.goto X0.here hx rfl (pc0 := 83) (pc' := 102) rfl (hb hby d1_83) (by decide) (by decide) ?_
        exact kk
      obtain ⟨fs, hr, hrun, hended, hW, hsame⟩ := X0.leave (v := some (.int (16 : Int32))) (fun h => by rw [Bd.returns] at h; cases h)
      refine ⟨_, _, pre7 _ ?_, hrun, hended, _, _, rfl, ?_, ⟨_, rfl⟩, hW, hsame.mono (by decide) (by decide)⟩
      · show Steps p.tables e below (s₁.setTop (mkF m 102 #[.val (.int p0)] [(.int (16 : Int32))])) _
        exact retOut X0 hx Bd.returns rfl (Or.inl ⟨rfl, Or.inl rfl, _, rfl⟩) (hb hby d1_102) hr
      · show Q1 Z p0 h0 n0 _ s₁.heap _
        rw [e0]
        exact ⟨congrArg (fun z => some (Value.int z)) hF6.symm, N0, rfl⟩
    · by_cases hs1_8 : p0 = (403 : Int32)
      · have hF9 : (F1 p0) = (7 : Int32) := ((if_neg hs1_2).trans ((if_neg hs1_5).trans (if_pos hs1_8)))
        have pre10 : ∀ t, Steps p.tables e below (s₁.setTop (mkF m 102 #[.val (.int p0)] [(.int (7 : Int32))])) t → Steps p.tables e below (s₁.setTop (entryFrame m #[(.int p0)] 1)) t := by
          intro t kk
          refine pre1 t ?_
          show Steps p.tables e below (s₁.setTop (mkF m 1 #[.val (.int p0)] [(.int p0)])) _
          refine X0.lookupswitchHit hx (g := (mkF m 1 #[.val (.int p0)] [(.int p0)])) rfl rfl (hb hby d1_1) (by decide) (a := 403) (off := 85) (by rw [hs1_8]; decide) (show (0 : Int) ≤ ((1 : Nat) : Int) + 85 by decide) _ ?_
          show Steps p.tables e below (s₁.setTop (mkF m 86 #[.val (.int p0)] [])) _
          refine XS.bipush X0.here hx rfl (hb hby d1_86) ?_
          show Steps p.tables e below (s₁.setTop (mkF m 88 #[.val (.int p0)] [(.int (7 : Int32))])) _
          refine XS.goto X0.here hx rfl (pc0 := 88) (pc' := 102) rfl (hb hby d1_88) (by decide) (by decide) ?_
          exact kk
        obtain ⟨fs, hr, hrun, hended, hW, hsame⟩ := X0.leave (v := some (.int (7 : Int32))) (fun h => by rw [Bd.returns] at h; cases h)
        refine ⟨_, _, pre10 _ ?_, hrun, hended, _, _, rfl, ?_, ⟨_, rfl⟩, hW, hsame.mono (by decide) (by decide)⟩
        · show Steps p.tables e below (s₁.setTop (mkF m 102 #[.val (.int p0)] [(.int (7 : Int32))])) _
          exact retOut X0 hx Bd.returns rfl (Or.inl ⟨rfl, Or.inl rfl, _, rfl⟩) (hb hby d1_102) hr
        · show Q1 Z p0 h0 n0 _ s₁.heap _
          rw [e0]
          exact ⟨congrArg (fun z => some (Value.int z)) hF9.symm, N0, rfl⟩
      · by_cases hs1_11 : p0 = (404 : Int32)
        · have hF12 : (F1 p0) = (12 : Int32) := ((if_neg hs1_2).trans ((if_neg hs1_5).trans ((if_neg hs1_8).trans (if_pos hs1_11))))
          have pre13 : ∀ t, Steps p.tables e below (s₁.setTop (mkF m 102 #[.val (.int p0)] [(.int (12 : Int32))])) t → Steps p.tables e below (s₁.setTop (entryFrame m #[(.int p0)] 1)) t := by
            intro t kk
            refine pre1 t ?_
            show Steps p.tables e below (s₁.setTop (mkF m 1 #[.val (.int p0)] [(.int p0)])) _
            refine X0.lookupswitchHit hx (g := (mkF m 1 #[.val (.int p0)] [(.int p0)])) rfl rfl (hb hby d1_1) (by decide) (a := 404) (off := 90) (by rw [hs1_11]; decide) (show (0 : Int) ≤ ((1 : Nat) : Int) + 90 by decide) _ ?_
            show Steps p.tables e below (s₁.setTop (mkF m 91 #[.val (.int p0)] [])) _
            refine XS.bipush X0.here hx rfl (hb hby d1_91) ?_
            show Steps p.tables e below (s₁.setTop (mkF m 93 #[.val (.int p0)] [(.int (12 : Int32))])) _
            refine XS.goto X0.here hx rfl (pc0 := 93) (pc' := 102) rfl (hb hby d1_93) (by decide) (by decide) ?_
            exact kk
          obtain ⟨fs, hr, hrun, hended, hW, hsame⟩ := X0.leave (v := some (.int (12 : Int32))) (fun h => by rw [Bd.returns] at h; cases h)
          refine ⟨_, _, pre13 _ ?_, hrun, hended, _, _, rfl, ?_, ⟨_, rfl⟩, hW, hsame.mono (by decide) (by decide)⟩
          · show Steps p.tables e below (s₁.setTop (mkF m 102 #[.val (.int p0)] [(.int (12 : Int32))])) _
            exact retOut X0 hx Bd.returns rfl (Or.inl ⟨rfl, Or.inl rfl, _, rfl⟩) (hb hby d1_102) hr
          · show Q1 Z p0 h0 n0 _ s₁.heap _
            rw [e0]
            exact ⟨congrArg (fun z => some (Value.int z)) hF12.symm, N0, rfl⟩
        · by_cases hs1_14 : p0 = (429 : Int32)
          · have hF15 : (F1 p0) = (14 : Int32) := ((if_neg hs1_2).trans ((if_neg hs1_5).trans ((if_neg hs1_8).trans ((if_neg hs1_11).trans (if_pos hs1_14)))))
            have pre16 : ∀ t, Steps p.tables e below (s₁.setTop (mkF m 102 #[.val (.int p0)] [(.int (14 : Int32))])) t → Steps p.tables e below (s₁.setTop (entryFrame m #[(.int p0)] 1)) t := by
              intro t kk
              refine pre1 t ?_
              show Steps p.tables e below (s₁.setTop (mkF m 1 #[.val (.int p0)] [(.int p0)])) _
              refine X0.lookupswitchHit hx (g := (mkF m 1 #[.val (.int p0)] [(.int p0)])) rfl rfl (hb hby d1_1) (by decide) (a := 429) (off := 95) (by rw [hs1_14]; decide) (show (0 : Int) ≤ ((1 : Nat) : Int) + 95 by decide) _ ?_
              show Steps p.tables e below (s₁.setTop (mkF m 96 #[.val (.int p0)] [])) _
              refine XS.bipush X0.here hx rfl (hb hby d1_96) ?_
              show Steps p.tables e below (s₁.setTop (mkF m 98 #[.val (.int p0)] [(.int (14 : Int32))])) _
              refine XS.goto X0.here hx rfl (pc0 := 98) (pc' := 102) rfl (hb hby d1_98) (by decide) (by decide) ?_
              exact kk
            obtain ⟨fs, hr, hrun, hended, hW, hsame⟩ := X0.leave (v := some (.int (14 : Int32))) (fun h => by rw [Bd.returns] at h; cases h)
            refine ⟨_, _, pre16 _ ?_, hrun, hended, _, _, rfl, ?_, ⟨_, rfl⟩, hW, hsame.mono (by decide) (by decide)⟩
            · show Steps p.tables e below (s₁.setTop (mkF m 102 #[.val (.int p0)] [(.int (14 : Int32))])) _
              exact retOut X0 hx Bd.returns rfl (Or.inl ⟨rfl, Or.inl rfl, _, rfl⟩) (hb hby d1_102) hr
            · show Q1 Z p0 h0 n0 _ s₁.heap _
              rw [e0]
              exact ⟨congrArg (fun z => some (Value.int z)) hF15.symm, N0, rfl⟩
          · by_cases hs1_17 : p0 = (502 : Int32)
            · have hF18 : (F1 p0) = (14 : Int32) := ((if_neg hs1_2).trans ((if_neg hs1_5).trans ((if_neg hs1_8).trans ((if_neg hs1_11).trans ((if_neg hs1_14).trans (if_pos hs1_17))))))
              have pre19 : ∀ t, Steps p.tables e below (s₁.setTop (mkF m 102 #[.val (.int p0)] [(.int (14 : Int32))])) t → Steps p.tables e below (s₁.setTop (entryFrame m #[(.int p0)] 1)) t := by
                intro t kk
                refine pre1 t ?_
                show Steps p.tables e below (s₁.setTop (mkF m 1 #[.val (.int p0)] [(.int p0)])) _
                refine X0.lookupswitchHit hx (g := (mkF m 1 #[.val (.int p0)] [(.int p0)])) rfl rfl (hb hby d1_1) (by decide) (a := 502) (off := 95) (by rw [hs1_17]; decide) (show (0 : Int) ≤ ((1 : Nat) : Int) + 95 by decide) _ ?_
                show Steps p.tables e below (s₁.setTop (mkF m 96 #[.val (.int p0)] [])) _
                refine XS.bipush X0.here hx rfl (hb hby d1_96) ?_
                show Steps p.tables e below (s₁.setTop (mkF m 98 #[.val (.int p0)] [(.int (14 : Int32))])) _
                refine XS.goto X0.here hx rfl (pc0 := 98) (pc' := 102) rfl (hb hby d1_98) (by decide) (by decide) ?_
                exact kk
              obtain ⟨fs, hr, hrun, hended, hW, hsame⟩ := X0.leave (v := some (.int (14 : Int32))) (fun h => by rw [Bd.returns] at h; cases h)
              refine ⟨_, _, pre19 _ ?_, hrun, hended, _, _, rfl, ?_, ⟨_, rfl⟩, hW, hsame.mono (by decide) (by decide)⟩
              · show Steps p.tables e below (s₁.setTop (mkF m 102 #[.val (.int p0)] [(.int (14 : Int32))])) _
                exact retOut X0 hx Bd.returns rfl (Or.inl ⟨rfl, Or.inl rfl, _, rfl⟩) (hb hby d1_102) hr
              · show Q1 Z p0 h0 n0 _ s₁.heap _
                rw [e0]
                exact ⟨congrArg (fun z => some (Value.int z)) hF18.symm, N0, rfl⟩
            · by_cases hs1_20 : p0 = (503 : Int32)
              · have hF21 : (F1 p0) = (14 : Int32) := ((if_neg hs1_2).trans ((if_neg hs1_5).trans ((if_neg hs1_8).trans ((if_neg hs1_11).trans ((if_neg hs1_14).trans ((if_neg hs1_17).trans (if_pos hs1_20)))))))
                have pre22 : ∀ t, Steps p.tables e below (s₁.setTop (mkF m 102 #[.val (.int p0)] [(.int (14 : Int32))])) t → Steps p.tables e below (s₁.setTop (entryFrame m #[(.int p0)] 1)) t := by
                  intro t kk
                  refine pre1 t ?_
                  show Steps p.tables e below (s₁.setTop (mkF m 1 #[.val (.int p0)] [(.int p0)])) _
                  refine X0.lookupswitchHit hx (g := (mkF m 1 #[.val (.int p0)] [(.int p0)])) rfl rfl (hb hby d1_1) (by decide) (a := 503) (off := 95) (by rw [hs1_20]; decide) (show (0 : Int) ≤ ((1 : Nat) : Int) + 95 by decide) _ ?_
                  show Steps p.tables e below (s₁.setTop (mkF m 96 #[.val (.int p0)] [])) _
                  refine XS.bipush X0.here hx rfl (hb hby d1_96) ?_
                  show Steps p.tables e below (s₁.setTop (mkF m 98 #[.val (.int p0)] [(.int (14 : Int32))])) _
                  refine XS.goto X0.here hx rfl (pc0 := 98) (pc' := 102) rfl (hb hby d1_98) (by decide) (by decide) ?_
                  exact kk
                obtain ⟨fs, hr, hrun, hended, hW, hsame⟩ := X0.leave (v := some (.int (14 : Int32))) (fun h => by rw [Bd.returns] at h; cases h)
                refine ⟨_, _, pre22 _ ?_, hrun, hended, _, _, rfl, ?_, ⟨_, rfl⟩, hW, hsame.mono (by decide) (by decide)⟩
                · show Steps p.tables e below (s₁.setTop (mkF m 102 #[.val (.int p0)] [(.int (14 : Int32))])) _
                  exact retOut X0 hx Bd.returns rfl (Or.inl ⟨rfl, Or.inl rfl, _, rfl⟩) (hb hby d1_102) hr
                · show Q1 Z p0 h0 n0 _ s₁.heap _
                  rw [e0]
                  exact ⟨congrArg (fun z => some (Value.int z)) hF21.symm, N0, rfl⟩
              · by_cases hs1_23 : p0 = (504 : Int32)
                · have hF24 : (F1 p0) = (14 : Int32) := ((if_neg hs1_2).trans ((if_neg hs1_5).trans ((if_neg hs1_8).trans ((if_neg hs1_11).trans ((if_neg hs1_14).trans ((if_neg hs1_17).trans ((if_neg hs1_20).trans (if_pos hs1_23))))))))
                  have pre25 : ∀ t, Steps p.tables e below (s₁.setTop (mkF m 102 #[.val (.int p0)] [(.int (14 : Int32))])) t → Steps p.tables e below (s₁.setTop (entryFrame m #[(.int p0)] 1)) t := by
                    intro t kk
                    refine pre1 t ?_
                    show Steps p.tables e below (s₁.setTop (mkF m 1 #[.val (.int p0)] [(.int p0)])) _
                    refine X0.lookupswitchHit hx (g := (mkF m 1 #[.val (.int p0)] [(.int p0)])) rfl rfl (hb hby d1_1) (by decide) (a := 504) (off := 95) (by rw [hs1_23]; decide) (show (0 : Int) ≤ ((1 : Nat) : Int) + 95 by decide) _ ?_
                    show Steps p.tables e below (s₁.setTop (mkF m 96 #[.val (.int p0)] [])) _
                    refine XS.bipush X0.here hx rfl (hb hby d1_96) ?_
                    show Steps p.tables e below (s₁.setTop (mkF m 98 #[.val (.int p0)] [(.int (14 : Int32))])) _
                    refine XS.goto X0.here hx rfl (pc0 := 98) (pc' := 102) rfl (hb hby d1_98) (by decide) (by decide) ?_
                    exact kk
                  obtain ⟨fs, hr, hrun, hended, hW, hsame⟩ := X0.leave (v := some (.int (14 : Int32))) (fun h => by rw [Bd.returns] at h; cases h)
                  refine ⟨_, _, pre25 _ ?_, hrun, hended, _, _, rfl, ?_, ⟨_, rfl⟩, hW, hsame.mono (by decide) (by decide)⟩
                  · show Steps p.tables e below (s₁.setTop (mkF m 102 #[.val (.int p0)] [(.int (14 : Int32))])) _
                    exact retOut X0 hx Bd.returns rfl (Or.inl ⟨rfl, Or.inl rfl, _, rfl⟩) (hb hby d1_102) hr
                  · show Q1 Z p0 h0 n0 _ s₁.heap _
                    rw [e0]
                    exact ⟨congrArg (fun z => some (Value.int z)) hF24.symm, N0, rfl⟩
                · have hmiss : ∀ q ∈ (#[((400 : Int), (75 : Int)), ((401 : Int), (80 : Int)), ((403 : Int), (85 : Int)), ((404 : Int), (90 : Int)), ((429 : Int), (95 : Int)), ((502 : Int), (95 : Int)), ((503 : Int), (95 : Int)), ((504 : Int), (95 : Int))] : Array (Int × Int)).toList, q.1 ≠ (p0).toInt := by
                    intro q hq
                    simp only [List.mem_cons, List.not_mem_nil, or_false] at hq
                    rcases hq with rfl | rfl | rfl | rfl | rfl | rfl | rfl | rfl
                    · exact fun q => hs1_2 (Int32.toInt_inj.mp (q.symm.trans rfl))
                    · exact fun q => hs1_5 (Int32.toInt_inj.mp (q.symm.trans rfl))
                    · exact fun q => hs1_8 (Int32.toInt_inj.mp (q.symm.trans rfl))
                    · exact fun q => hs1_11 (Int32.toInt_inj.mp (q.symm.trans rfl))
                    · exact fun q => hs1_14 (Int32.toInt_inj.mp (q.symm.trans rfl))
                    · exact fun q => hs1_17 (Int32.toInt_inj.mp (q.symm.trans rfl))
                    · exact fun q => hs1_20 (Int32.toInt_inj.mp (q.symm.trans rfl))
                    · exact fun q => hs1_23 (Int32.toInt_inj.mp (q.symm.trans rfl))
                  have hF26 : (F1 p0) = (2 : Int32) := ((if_neg hs1_2).trans ((if_neg hs1_5).trans ((if_neg hs1_8).trans ((if_neg hs1_11).trans ((if_neg hs1_14).trans ((if_neg hs1_17).trans ((if_neg hs1_20).trans (if_neg hs1_23))))))))
                  have pre27 : ∀ t, Steps p.tables e below (s₁.setTop (mkF m 102 #[.val (.int p0)] [(.int (2 : Int32))])) t → Steps p.tables e below (s₁.setTop (entryFrame m #[(.int p0)] 1)) t := by
                    intro t kk
                    refine pre1 t ?_
                    show Steps p.tables e below (s₁.setTop (mkF m 1 #[.val (.int p0)] [(.int p0)])) _
                    refine X0.lookupswitchMiss hx (g := (mkF m 1 #[.val (.int p0)] [(.int p0)])) rfl rfl (hb hby d1_1) (by decide) (find_miss hmiss) (show (0 : Int) ≤ ((1 : Nat) : Int) + 100 by decide) _ ?_
                    show Steps p.tables e below (s₁.setTop (mkF m 101 #[.val (.int p0)] [])) _
                    refine XS.iconst X0.here hx rfl (hb hby d1_101) ?_
                    exact kk
                  obtain ⟨fs, hr, hrun, hended, hW, hsame⟩ := X0.leave (v := some (.int (2 : Int32))) (fun h => by rw [Bd.returns] at h; cases h)
                  refine ⟨_, _, pre27 _ ?_, hrun, hended, _, _, rfl, ?_, ⟨_, rfl⟩, hW, hsame.mono (by decide) (by decide)⟩
                  · show Steps p.tables e below (s₁.setTop (mkF m 102 #[.val (.int p0)] [(.int (2 : Int32))])) _
                    exact retOut X0 hx Bd.returns rfl (Or.inl ⟨rfl, Or.inl rfl, _, rfl⟩) (hb hby d1_102) hr
                  · show Q1 Z p0 h0 n0 _ s₁.heap _
                    rw [e0]
                    exact ⟨congrArg (fun z => some (Value.int z)) hF26.symm, N0, rfl⟩
def F2 (p0 : Int32) : Int32 := (if p0 = (400 : Int32) then (13 : Int32) else (if p0 = (401 : Int32) then (16 : Int32) else (if p0 = (403 : Int32) then (7 : Int32) else (if p0 = (404 : Int32) then (12 : Int32) else (if p0 = (429 : Int32) then (14 : Int32) else (if p0 < (502 : Int32) then (2 : Int32) else (if (504 : Int32) < p0 then (2 : Int32) else (14 : Int32))))))))
theorem d2_0 : decode method_3_code 0 = .ok (.iload_n 0, 1) := by decide +kernel
theorem d2_1 : decode method_3_code 1 = .ok (.sipush 400, 3) := by decide +kernel
theorem d2_4 : decode method_3_code 4 = .ok (.if_icmp .ne 6, 3) := by decide +kernel
theorem d2_7 : decode method_3_code 7 = .ok (.bipush 13, 2) := by decide +kernel
theorem d2_9 : decode method_3_code 9 = .ok (.ireturn, 1) := by decide +kernel
theorem d2_10 : decode method_3_code 10 = .ok (.iload_n 0, 1) := by decide +kernel
theorem d2_11 : decode method_3_code 11 = .ok (.sipush 401, 3) := by decide +kernel
theorem d2_14 : decode method_3_code 14 = .ok (.if_icmp .ne 6, 3) := by decide +kernel
theorem d2_17 : decode method_3_code 17 = .ok (.bipush 16, 2) := by decide +kernel
theorem d2_19 : decode method_3_code 19 = .ok (.ireturn, 1) := by decide +kernel
theorem d2_20 : decode method_3_code 20 = .ok (.iload_n 0, 1) := by decide +kernel
theorem d2_21 : decode method_3_code 21 = .ok (.sipush 403, 3) := by decide +kernel
theorem d2_24 : decode method_3_code 24 = .ok (.if_icmp .ne 6, 3) := by decide +kernel
theorem d2_27 : decode method_3_code 27 = .ok (.bipush 7, 2) := by decide +kernel
theorem d2_29 : decode method_3_code 29 = .ok (.ireturn, 1) := by decide +kernel
theorem d2_30 : decode method_3_code 30 = .ok (.iload_n 0, 1) := by decide +kernel
theorem d2_31 : decode method_3_code 31 = .ok (.sipush 404, 3) := by decide +kernel
theorem d2_34 : decode method_3_code 34 = .ok (.if_icmp .ne 6, 3) := by decide +kernel
theorem d2_37 : decode method_3_code 37 = .ok (.bipush 12, 2) := by decide +kernel
theorem d2_39 : decode method_3_code 39 = .ok (.ireturn, 1) := by decide +kernel
theorem d2_40 : decode method_3_code 40 = .ok (.iload_n 0, 1) := by decide +kernel
theorem d2_41 : decode method_3_code 41 = .ok (.sipush 429, 3) := by decide +kernel
theorem d2_44 : decode method_3_code 44 = .ok (.if_icmp .ne 6, 3) := by decide +kernel
theorem d2_47 : decode method_3_code 47 = .ok (.bipush 14, 2) := by decide +kernel
theorem d2_49 : decode method_3_code 49 = .ok (.ireturn, 1) := by decide +kernel
theorem d2_50 : decode method_3_code 50 = .ok (.iload_n 0, 1) := by decide +kernel
theorem d2_51 : decode method_3_code 51 = .ok (.sipush 502, 3) := by decide +kernel
theorem d2_54 : decode method_3_code 54 = .ok (.if_icmp .lt 13, 3) := by decide +kernel
theorem d2_57 : decode method_3_code 57 = .ok (.iload_n 0, 1) := by decide +kernel
theorem d2_58 : decode method_3_code 58 = .ok (.sipush 504, 3) := by decide +kernel
theorem d2_61 : decode method_3_code 61 = .ok (.if_icmp .gt 6, 3) := by decide +kernel
theorem d2_64 : decode method_3_code 64 = .ok (.bipush 14, 2) := by decide +kernel
theorem d2_66 : decode method_3_code 66 = .ok (.ireturn, 1) := by decide +kernel
theorem d2_67 : decode method_3_code 67 = .ok (.iconst 2, 1) := by decide +kernel
theorem d2_68 : decode method_3_code 68 = .ok (.ireturn, 1) := by decide +kernel
theorem pn_farspeak_triple_CallStatusGrpcStatusOfHttpStatusPinLaw : plainName "farspeak/triple/CallStatusGrpcStatusOfHttpStatusPinLaw" = true := by first | (simp [plainName, overriddenIn]; done) | decide +kernel
theorem ef_2_I (m : MethodId) (x0 : Int32) : entryFrame m #[(.int x0)] 1 = mkF m 0 #[.val (.int x0)] [] := by first | (simp [entryFrame, mkF, argsToLocals, Value.category]; done) | rfl
def Q2 (Z : State) (p0 : Int32) (h0 : Heap) (n0 : Nat) (v : Option Value) (h : Heap) (L : List Loc) : Prop := v = some (.int (F2 p0)) ∧ Fr n0 L ∧ h = h0
set_option maxRecDepth 65536 in
set_option maxHeartbeats 40000000 in
theorem rm2 (l : Launch) (Z : State) (a0 : Array Value) (hw : ∀ d ∈ tables_1, d.before a0 Z = true) (ws : List Jvm.Cond) (p0 : Int32) (h0 : Heap) (n0 : Nat) (Z0 : n0 ≤ h0.size) :
    MetFree l (⟨"farspeak/triple/CallStatusGrpcStatusOfHttpStatusPinLaw", "expected", "(I)I"⟩ : MethodName) (head1 (Jvm.Cond.code (⟨"farspeak/triple/CallStatusGrpcStatusOfHttpStatusPinLaw", "expected", "(I)I"⟩ : MethodName) method_3_code 1 (some .int) :: ws) ({ frames := 0, cells := 0, slots := 0, locals := 0 } : Room)) (fun a U => a = #[(.int p0)] ∧ Z.Warmed39 U.vm ∧ U.heap = h0) (fun _ _ _ _ _ => True) (fun _ U o U' => ∃ v L, o = .returned v ∧ Q2 Z p0 h0 n0 v U'.heap L ∧ FrameEnd U o U' L ({ frames := 0, cells := 0, slots := 0, locals := 0 } : Room).cells ({ frames := 0, cells := 0, slots := 0, locals := 0 } : Room).slots) := by
  refine MetFree.of_bodySF (plainFor_of_name pn_farspeak_triple_CallStatusGrpcStatusOfHttpStatusPinLaw) hisR ?_
  intro p e s m args below meth c s₁ Bd hml0 hP hK
  obtain ⟨rfl, hZ, hh⟩ := hP
  have hx := Bd.exec
  have hby := Bd.bytes
  have hml : c.maxLocals = 1 := hml0
  have hown : s.vm.findClass "farspeak/triple/CallStatusGrpcStatusOfHttpStatusPinLaw" = some m.cls := findClass_of_methodNamed Bd.named
  have hnm := (name_of_methodNamed Bd.named Bd.method).1
  have X0 : Stand p l e ({ frames := 0, cells := 0, slots := 0, locals := 0 } : Room) s m #[(.int p0)] below meth c s₁ [] 0 0 := Stand.of_body Bd
  have e0 : s₁.heap = h0 := by rw [← hh, Bd.state]; rfl
  have N0 := Fr.nil n0
  have KP0 : Keep h0 h0 [] := Keep.refl h0 _
  have pre0 : ∀ t, Steps p.tables e below (s₁.setTop (mkF m 0 #[.val (.int p0)] [])) t → Steps p.tables e below (s₁.setTop (entryFrame m #[(.int p0)] 1)) t := fun t k => castTop (ef_2_I m p0) k
  have pre29 : ∀ t, Steps p.tables e below (s₁.setTop (mkF m 4 #[.val (.int p0)] [(.int (400 : Int32)), (.int p0)])) t → Steps p.tables e below (s₁.setTop (entryFrame m #[(.int p0)] 1)) t := by
    intro t kk
    refine pre0 t ?_
    show Steps p.tables e below (s₁.setTop (mkF m 0 #[.val (.int p0)] [])) _
    refine XS.iloadN X0.here hx rfl (hb hby d2_0) rfl ?_
    show Steps p.tables e below (s₁.setTop (mkF m 1 #[.val (.int p0)] [(.int p0)])) _
    refine XS.sipush X0.here hx rfl (hb hby d2_1) ?_
    exact kk
  by_cases hc4_28 : p0 = (400 : Int32)
  · have hF30 : (F2 p0) = (13 : Int32) := (if_pos hc4_28)
    have pre31 : ∀ t, Steps p.tables e below (s₁.setTop (mkF m 9 #[.val (.int p0)] [(.int (13 : Int32))])) t → Steps p.tables e below (s₁.setTop (entryFrame m #[(.int p0)] 1)) t := by
      intro t kk
      refine pre29 t ?_
      show Steps p.tables e below (s₁.setTop (mkF m 4 #[.val (.int p0)] [(.int (400 : Int32)), (.int p0)])) _
      refine XS.icmpNo X0.here hx rfl (hb hby d2_4) rfl (teq hc4_28).2 ?_
      show Steps p.tables e below (s₁.setTop (mkF m 7 #[.val (.int p0)] [])) _
      refine XS.bipush X0.here hx rfl (hb hby d2_7) ?_
      exact kk
    obtain ⟨fs, hr, hrun, hended, hW, hsame⟩ := X0.leave (v := some (.int (13 : Int32))) (fun h => by rw [Bd.returns] at h; cases h)
    refine ⟨_, _, pre31 _ ?_, hrun, hended, _, _, rfl, ?_, ⟨_, rfl⟩, hW, hsame.mono (by decide) (by decide)⟩
    · show Steps p.tables e below (s₁.setTop (mkF m 9 #[.val (.int p0)] [(.int (13 : Int32))])) _
      exact retOut X0 hx Bd.returns rfl (Or.inl ⟨rfl, Or.inl rfl, _, rfl⟩) (hb hby d2_9) hr
    · show Q2 Z p0 h0 n0 _ s₁.heap _
      rw [e0]
      exact ⟨congrArg (fun z => some (Value.int z)) hF30.symm, N0, rfl⟩
  · have pre33 : ∀ t, Steps p.tables e below (s₁.setTop (mkF m 14 #[.val (.int p0)] [(.int (401 : Int32)), (.int p0)])) t → Steps p.tables e below (s₁.setTop (entryFrame m #[(.int p0)] 1)) t := by
      intro t kk
      refine pre29 t ?_
      show Steps p.tables e below (s₁.setTop (mkF m 4 #[.val (.int p0)] [(.int (400 : Int32)), (.int p0)])) _
      refine XS.icmpYes X0.here hx rfl (pc0 := 4) (pc' := 10) rfl (hb hby d2_4) rfl (feq hc4_28).2 (by decide) (by decide) ?_
      show Steps p.tables e below (s₁.setTop (mkF m 10 #[.val (.int p0)] [])) _
      refine XS.iloadN X0.here hx rfl (hb hby d2_10) rfl ?_
      show Steps p.tables e below (s₁.setTop (mkF m 11 #[.val (.int p0)] [(.int p0)])) _
      refine XS.sipush X0.here hx rfl (hb hby d2_11) ?_
      exact kk
    by_cases hc14_32 : p0 = (401 : Int32)
    · have hF34 : (F2 p0) = (16 : Int32) := ((if_neg hc4_28).trans (if_pos hc14_32))
      have pre35 : ∀ t, Steps p.tables e below (s₁.setTop (mkF m 19 #[.val (.int p0)] [(.int (16 : Int32))])) t → Steps p.tables e below (s₁.setTop (entryFrame m #[(.int p0)] 1)) t := by
        intro t kk
        refine pre33 t ?_
        show Steps p.tables e below (s₁.setTop (mkF m 14 #[.val (.int p0)] [(.int (401 : Int32)), (.int p0)])) _
        refine XS.icmpNo X0.here hx rfl (hb hby d2_14) rfl (teq hc14_32).2 ?_
        show Steps p.tables e below (s₁.setTop (mkF m 17 #[.val (.int p0)] [])) _
        refine XS.bipush X0.here hx rfl (hb hby d2_17) ?_
        exact kk
      obtain ⟨fs, hr, hrun, hended, hW, hsame⟩ := X0.leave (v := some (.int (16 : Int32))) (fun h => by rw [Bd.returns] at h; cases h)
      refine ⟨_, _, pre35 _ ?_, hrun, hended, _, _, rfl, ?_, ⟨_, rfl⟩, hW, hsame.mono (by decide) (by decide)⟩
      · show Steps p.tables e below (s₁.setTop (mkF m 19 #[.val (.int p0)] [(.int (16 : Int32))])) _
        exact retOut X0 hx Bd.returns rfl (Or.inl ⟨rfl, Or.inl rfl, _, rfl⟩) (hb hby d2_19) hr
      · show Q2 Z p0 h0 n0 _ s₁.heap _
        rw [e0]
        exact ⟨congrArg (fun z => some (Value.int z)) hF34.symm, N0, rfl⟩
    · have pre37 : ∀ t, Steps p.tables e below (s₁.setTop (mkF m 24 #[.val (.int p0)] [(.int (403 : Int32)), (.int p0)])) t → Steps p.tables e below (s₁.setTop (entryFrame m #[(.int p0)] 1)) t := by
        intro t kk
        refine pre33 t ?_
        show Steps p.tables e below (s₁.setTop (mkF m 14 #[.val (.int p0)] [(.int (401 : Int32)), (.int p0)])) _
        refine XS.icmpYes X0.here hx rfl (pc0 := 14) (pc' := 20) rfl (hb hby d2_14) rfl (feq hc14_32).2 (by decide) (by decide) ?_
        show Steps p.tables e below (s₁.setTop (mkF m 20 #[.val (.int p0)] [])) _
        refine XS.iloadN X0.here hx rfl (hb hby d2_20) rfl ?_
        show Steps p.tables e below (s₁.setTop (mkF m 21 #[.val (.int p0)] [(.int p0)])) _
        refine XS.sipush X0.here hx rfl (hb hby d2_21) ?_
        exact kk
      by_cases hc24_36 : p0 = (403 : Int32)
      · have hF38 : (F2 p0) = (7 : Int32) := ((if_neg hc4_28).trans ((if_neg hc14_32).trans (if_pos hc24_36)))
        have pre39 : ∀ t, Steps p.tables e below (s₁.setTop (mkF m 29 #[.val (.int p0)] [(.int (7 : Int32))])) t → Steps p.tables e below (s₁.setTop (entryFrame m #[(.int p0)] 1)) t := by
          intro t kk
          refine pre37 t ?_
          show Steps p.tables e below (s₁.setTop (mkF m 24 #[.val (.int p0)] [(.int (403 : Int32)), (.int p0)])) _
          refine XS.icmpNo X0.here hx rfl (hb hby d2_24) rfl (teq hc24_36).2 ?_
          show Steps p.tables e below (s₁.setTop (mkF m 27 #[.val (.int p0)] [])) _
          refine XS.bipush X0.here hx rfl (hb hby d2_27) ?_
          exact kk
        obtain ⟨fs, hr, hrun, hended, hW, hsame⟩ := X0.leave (v := some (.int (7 : Int32))) (fun h => by rw [Bd.returns] at h; cases h)
        refine ⟨_, _, pre39 _ ?_, hrun, hended, _, _, rfl, ?_, ⟨_, rfl⟩, hW, hsame.mono (by decide) (by decide)⟩
        · show Steps p.tables e below (s₁.setTop (mkF m 29 #[.val (.int p0)] [(.int (7 : Int32))])) _
          exact retOut X0 hx Bd.returns rfl (Or.inl ⟨rfl, Or.inl rfl, _, rfl⟩) (hb hby d2_29) hr
        · show Q2 Z p0 h0 n0 _ s₁.heap _
          rw [e0]
          exact ⟨congrArg (fun z => some (Value.int z)) hF38.symm, N0, rfl⟩
      · have pre41 : ∀ t, Steps p.tables e below (s₁.setTop (mkF m 34 #[.val (.int p0)] [(.int (404 : Int32)), (.int p0)])) t → Steps p.tables e below (s₁.setTop (entryFrame m #[(.int p0)] 1)) t := by
          intro t kk
          refine pre37 t ?_
          show Steps p.tables e below (s₁.setTop (mkF m 24 #[.val (.int p0)] [(.int (403 : Int32)), (.int p0)])) _
          refine XS.icmpYes X0.here hx rfl (pc0 := 24) (pc' := 30) rfl (hb hby d2_24) rfl (feq hc24_36).2 (by decide) (by decide) ?_
          show Steps p.tables e below (s₁.setTop (mkF m 30 #[.val (.int p0)] [])) _
          refine XS.iloadN X0.here hx rfl (hb hby d2_30) rfl ?_
          show Steps p.tables e below (s₁.setTop (mkF m 31 #[.val (.int p0)] [(.int p0)])) _
          refine XS.sipush X0.here hx rfl (hb hby d2_31) ?_
          exact kk
        by_cases hc34_40 : p0 = (404 : Int32)
        · have hF42 : (F2 p0) = (12 : Int32) := ((if_neg hc4_28).trans ((if_neg hc14_32).trans ((if_neg hc24_36).trans (if_pos hc34_40))))
          have pre43 : ∀ t, Steps p.tables e below (s₁.setTop (mkF m 39 #[.val (.int p0)] [(.int (12 : Int32))])) t → Steps p.tables e below (s₁.setTop (entryFrame m #[(.int p0)] 1)) t := by
            intro t kk
            refine pre41 t ?_
            show Steps p.tables e below (s₁.setTop (mkF m 34 #[.val (.int p0)] [(.int (404 : Int32)), (.int p0)])) _
            refine XS.icmpNo X0.here hx rfl (hb hby d2_34) rfl (teq hc34_40).2 ?_
            show Steps p.tables e below (s₁.setTop (mkF m 37 #[.val (.int p0)] [])) _
            refine XS.bipush X0.here hx rfl (hb hby d2_37) ?_
            exact kk
          obtain ⟨fs, hr, hrun, hended, hW, hsame⟩ := X0.leave (v := some (.int (12 : Int32))) (fun h => by rw [Bd.returns] at h; cases h)
          refine ⟨_, _, pre43 _ ?_, hrun, hended, _, _, rfl, ?_, ⟨_, rfl⟩, hW, hsame.mono (by decide) (by decide)⟩
          · show Steps p.tables e below (s₁.setTop (mkF m 39 #[.val (.int p0)] [(.int (12 : Int32))])) _
            exact retOut X0 hx Bd.returns rfl (Or.inl ⟨rfl, Or.inl rfl, _, rfl⟩) (hb hby d2_39) hr
          · show Q2 Z p0 h0 n0 _ s₁.heap _
            rw [e0]
            exact ⟨congrArg (fun z => some (Value.int z)) hF42.symm, N0, rfl⟩
        · have pre45 : ∀ t, Steps p.tables e below (s₁.setTop (mkF m 44 #[.val (.int p0)] [(.int (429 : Int32)), (.int p0)])) t → Steps p.tables e below (s₁.setTop (entryFrame m #[(.int p0)] 1)) t := by
            intro t kk
            refine pre41 t ?_
            show Steps p.tables e below (s₁.setTop (mkF m 34 #[.val (.int p0)] [(.int (404 : Int32)), (.int p0)])) _
            refine XS.icmpYes X0.here hx rfl (pc0 := 34) (pc' := 40) rfl (hb hby d2_34) rfl (feq hc34_40).2 (by decide) (by decide) ?_
            show Steps p.tables e below (s₁.setTop (mkF m 40 #[.val (.int p0)] [])) _
            refine XS.iloadN X0.here hx rfl (hb hby d2_40) rfl ?_
            show Steps p.tables e below (s₁.setTop (mkF m 41 #[.val (.int p0)] [(.int p0)])) _
            refine XS.sipush X0.here hx rfl (hb hby d2_41) ?_
            exact kk
          by_cases hc44_44 : p0 = (429 : Int32)
          · have hF46 : (F2 p0) = (14 : Int32) := ((if_neg hc4_28).trans ((if_neg hc14_32).trans ((if_neg hc24_36).trans ((if_neg hc34_40).trans (if_pos hc44_44)))))
            have pre47 : ∀ t, Steps p.tables e below (s₁.setTop (mkF m 49 #[.val (.int p0)] [(.int (14 : Int32))])) t → Steps p.tables e below (s₁.setTop (entryFrame m #[(.int p0)] 1)) t := by
              intro t kk
              refine pre45 t ?_
              show Steps p.tables e below (s₁.setTop (mkF m 44 #[.val (.int p0)] [(.int (429 : Int32)), (.int p0)])) _
              refine XS.icmpNo X0.here hx rfl (hb hby d2_44) rfl (teq hc44_44).2 ?_
              show Steps p.tables e below (s₁.setTop (mkF m 47 #[.val (.int p0)] [])) _
              refine XS.bipush X0.here hx rfl (hb hby d2_47) ?_
              exact kk
            obtain ⟨fs, hr, hrun, hended, hW, hsame⟩ := X0.leave (v := some (.int (14 : Int32))) (fun h => by rw [Bd.returns] at h; cases h)
            refine ⟨_, _, pre47 _ ?_, hrun, hended, _, _, rfl, ?_, ⟨_, rfl⟩, hW, hsame.mono (by decide) (by decide)⟩
            · show Steps p.tables e below (s₁.setTop (mkF m 49 #[.val (.int p0)] [(.int (14 : Int32))])) _
              exact retOut X0 hx Bd.returns rfl (Or.inl ⟨rfl, Or.inl rfl, _, rfl⟩) (hb hby d2_49) hr
            · show Q2 Z p0 h0 n0 _ s₁.heap _
              rw [e0]
              exact ⟨congrArg (fun z => some (Value.int z)) hF46.symm, N0, rfl⟩
          · have pre49 : ∀ t, Steps p.tables e below (s₁.setTop (mkF m 54 #[.val (.int p0)] [(.int (502 : Int32)), (.int p0)])) t → Steps p.tables e below (s₁.setTop (entryFrame m #[(.int p0)] 1)) t := by
              intro t kk
              refine pre45 t ?_
              show Steps p.tables e below (s₁.setTop (mkF m 44 #[.val (.int p0)] [(.int (429 : Int32)), (.int p0)])) _
              refine XS.icmpYes X0.here hx rfl (pc0 := 44) (pc' := 50) rfl (hb hby d2_44) rfl (feq hc44_44).2 (by decide) (by decide) ?_
              show Steps p.tables e below (s₁.setTop (mkF m 50 #[.val (.int p0)] [])) _
              refine XS.iloadN X0.here hx rfl (hb hby d2_50) rfl ?_
              show Steps p.tables e below (s₁.setTop (mkF m 51 #[.val (.int p0)] [(.int p0)])) _
              refine XS.sipush X0.here hx rfl (hb hby d2_51) ?_
              exact kk
            by_cases hc54_48 : p0 < (502 : Int32)
            · have hF50 : (F2 p0) = (2 : Int32) := ((if_neg hc4_28).trans ((if_neg hc14_32).trans ((if_neg hc24_36).trans ((if_neg hc34_40).trans ((if_neg hc44_44).trans (if_pos hc54_48))))))
              have pre51 : ∀ t, Steps p.tables e below (s₁.setTop (mkF m 68 #[.val (.int p0)] [(.int (2 : Int32))])) t → Steps p.tables e below (s₁.setTop (entryFrame m #[(.int p0)] 1)) t := by
                intro t kk
                refine pre49 t ?_
                show Steps p.tables e below (s₁.setTop (mkF m 54 #[.val (.int p0)] [(.int (502 : Int32)), (.int p0)])) _
                refine XS.icmpYes X0.here hx rfl (pc0 := 54) (pc' := 67) rfl (hb hby d2_54) rfl (tlt hc54_48).1 (by decide) (by decide) ?_
                show Steps p.tables e below (s₁.setTop (mkF m 67 #[.val (.int p0)] [])) _
                refine XS.iconst X0.here hx rfl (hb hby d2_67) ?_
                exact kk
              obtain ⟨fs, hr, hrun, hended, hW, hsame⟩ := X0.leave (v := some (.int (2 : Int32))) (fun h => by rw [Bd.returns] at h; cases h)
              refine ⟨_, _, pre51 _ ?_, hrun, hended, _, _, rfl, ?_, ⟨_, rfl⟩, hW, hsame.mono (by decide) (by decide)⟩
              · show Steps p.tables e below (s₁.setTop (mkF m 68 #[.val (.int p0)] [(.int (2 : Int32))])) _
                exact retOut X0 hx Bd.returns rfl (Or.inl ⟨rfl, Or.inl rfl, _, rfl⟩) (hb hby d2_68) hr
              · show Q2 Z p0 h0 n0 _ s₁.heap _
                rw [e0]
                exact ⟨congrArg (fun z => some (Value.int z)) hF50.symm, N0, rfl⟩
            · have pre53 : ∀ t, Steps p.tables e below (s₁.setTop (mkF m 61 #[.val (.int p0)] [(.int (504 : Int32)), (.int p0)])) t → Steps p.tables e below (s₁.setTop (entryFrame m #[(.int p0)] 1)) t := by
                intro t kk
                refine pre49 t ?_
                show Steps p.tables e below (s₁.setTop (mkF m 54 #[.val (.int p0)] [(.int (502 : Int32)), (.int p0)])) _
                refine XS.icmpNo X0.here hx rfl (hb hby d2_54) rfl (flt hc54_48).1 ?_
                show Steps p.tables e below (s₁.setTop (mkF m 57 #[.val (.int p0)] [])) _
                refine XS.iloadN X0.here hx rfl (hb hby d2_57) rfl ?_
                show Steps p.tables e below (s₁.setTop (mkF m 58 #[.val (.int p0)] [(.int p0)])) _
                refine XS.sipush X0.here hx rfl (hb hby d2_58) ?_
                exact kk
              by_cases hc61_52 : (504 : Int32) < p0
              · have hF54 : (F2 p0) = (2 : Int32) := ((if_neg hc4_28).trans ((if_neg hc14_32).trans ((if_neg hc24_36).trans ((if_neg hc34_40).trans ((if_neg hc44_44).trans ((if_neg hc54_48).trans (if_pos hc61_52)))))))
                have pre55 : ∀ t, Steps p.tables e below (s₁.setTop (mkF m 68 #[.val (.int p0)] [(.int (2 : Int32))])) t → Steps p.tables e below (s₁.setTop (entryFrame m #[(.int p0)] 1)) t := by
                  intro t kk
                  refine pre53 t ?_
                  show Steps p.tables e below (s₁.setTop (mkF m 61 #[.val (.int p0)] [(.int (504 : Int32)), (.int p0)])) _
                  refine XS.icmpYes X0.here hx rfl (pc0 := 61) (pc' := 67) rfl (hb hby d2_61) rfl (tlt hc61_52).2.2.1 (by decide) (by decide) ?_
                  show Steps p.tables e below (s₁.setTop (mkF m 67 #[.val (.int p0)] [])) _
                  refine XS.iconst X0.here hx rfl (hb hby d2_67) ?_
                  exact kk
                obtain ⟨fs, hr, hrun, hended, hW, hsame⟩ := X0.leave (v := some (.int (2 : Int32))) (fun h => by rw [Bd.returns] at h; cases h)
                refine ⟨_, _, pre55 _ ?_, hrun, hended, _, _, rfl, ?_, ⟨_, rfl⟩, hW, hsame.mono (by decide) (by decide)⟩
                · show Steps p.tables e below (s₁.setTop (mkF m 68 #[.val (.int p0)] [(.int (2 : Int32))])) _
                  exact retOut X0 hx Bd.returns rfl (Or.inl ⟨rfl, Or.inl rfl, _, rfl⟩) (hb hby d2_68) hr
                · show Q2 Z p0 h0 n0 _ s₁.heap _
                  rw [e0]
                  exact ⟨congrArg (fun z => some (Value.int z)) hF54.symm, N0, rfl⟩
              · have hF56 : (F2 p0) = (14 : Int32) := ((if_neg hc4_28).trans ((if_neg hc14_32).trans ((if_neg hc24_36).trans ((if_neg hc34_40).trans ((if_neg hc44_44).trans ((if_neg hc54_48).trans (if_neg hc61_52)))))))
                have pre57 : ∀ t, Steps p.tables e below (s₁.setTop (mkF m 66 #[.val (.int p0)] [(.int (14 : Int32))])) t → Steps p.tables e below (s₁.setTop (entryFrame m #[(.int p0)] 1)) t := by
                  intro t kk
                  refine pre53 t ?_
                  show Steps p.tables e below (s₁.setTop (mkF m 61 #[.val (.int p0)] [(.int (504 : Int32)), (.int p0)])) _
                  refine XS.icmpNo X0.here hx rfl (hb hby d2_61) rfl (flt hc61_52).2.2.1 ?_
                  show Steps p.tables e below (s₁.setTop (mkF m 64 #[.val (.int p0)] [])) _
                  refine XS.bipush X0.here hx rfl (hb hby d2_64) ?_
                  exact kk
                obtain ⟨fs, hr, hrun, hended, hW, hsame⟩ := X0.leave (v := some (.int (14 : Int32))) (fun h => by rw [Bd.returns] at h; cases h)
                refine ⟨_, _, pre57 _ ?_, hrun, hended, _, _, rfl, ?_, ⟨_, rfl⟩, hW, hsame.mono (by decide) (by decide)⟩
                · show Steps p.tables e below (s₁.setTop (mkF m 66 #[.val (.int p0)] [(.int (14 : Int32))])) _
                  exact retOut X0 hx Bd.returns rfl (Or.inl ⟨rfl, Or.inl rfl, _, rfl⟩) (hb hby d2_66) hr
                · show Q2 Z p0 h0 n0 _ s₁.heap _
                  rw [e0]
                  exact ⟨congrArg (fun z => some (Value.int z)) hF56.symm, N0, rfl⟩
-- F1, F2: see the two bodies
theorem own_law (h : Int32) : F1 h = F2 h := by
  unfold F1 F2
  simp only [← Int32.toInt_inj, Int32.lt_iff_toInt_lt, show (400 : Int32).toInt = 400 by decide, show (401 : Int32).toInt = 401 by decide, show (403 : Int32).toInt = 403 by decide, show (404 : Int32).toInt = 404 by decide, show (429 : Int32).toInt = 429 by decide, show (502 : Int32).toInt = 502 by decide, show (503 : Int32).toInt = 503 by decide, show (504 : Int32).toInt = 504 by decide]
  generalize h.toInt = n
  repeat' split
  all_goals first | rfl | (exfalso; omega)
theorem own_idx (x : Int32) : ¬ (((x.toUInt32 >>> ((1 : Int32) &&& 31).toUInt32).toInt32) &&& (15 : Int32)) < 0 ∧ (((x.toUInt32 >>> ((1 : Int32) &&& 31).toUInt32).toInt32) &&& (15 : Int32)) < (16 : Int32) := by
  have q := c_and ((x.toUInt32 >>> ((1 : Int32) &&& 31).toUInt32).toInt32) (15 : Int32) (by decide)
  have q15 : (15 : Int32).toInt = 15 := by decide
  have q16 : (16 : Int32).toInt = 16 := by decide
  have q0 : (0 : Int32).toInt = 0 := by decide
  rw [Int32.lt_iff_toInt_lt, Int32.lt_iff_toInt_lt, q16, q0]
  rw [q15] at q
  omega
theorem own_get : ∀ n : Nat, ∃ w : Int32, ([(.int (399 : Int32)), (.int (400 : Int32)), (.int (401 : Int32)), (.int (402 : Int32)), (.int (403 : Int32)), (.int (404 : Int32)), (.int (405 : Int32)), (.int (428 : Int32)), (.int (429 : Int32)), (.int (430 : Int32)), (.int (501 : Int32)), (.int (502 : Int32)), (.int (503 : Int32)), (.int (504 : Int32)), (.int (505 : Int32)), (.int (200 : Int32))] : List Value).getD n (.int (0 : Int32)) = .int w
  | 0 => ⟨_, rfl⟩
  | 1 => ⟨_, rfl⟩
  | 2 => ⟨_, rfl⟩
  | 3 => ⟨_, rfl⟩
  | 4 => ⟨_, rfl⟩
  | 5 => ⟨_, rfl⟩
  | 6 => ⟨_, rfl⟩
  | 7 => ⟨_, rfl⟩
  | 8 => ⟨_, rfl⟩
  | 9 => ⟨_, rfl⟩
  | 10 => ⟨_, rfl⟩
  | 11 => ⟨_, rfl⟩
  | 12 => ⟨_, rfl⟩
  | 13 => ⟨_, rfl⟩
  | 14 => ⟨_, rfl⟩
  | 15 => ⟨_, rfl⟩
  | _ + 16 => ⟨_, rfl⟩
theorem pd__28I_29I : parseMethodDescriptor "(I)I" = some ⟨[.int], some .int⟩ := by decide +kernel
theorem ef_0_II (m : MethodId) (x0 : Int32) (x1 : Int32) : entryFrame m #[(.int x0), (.int x1)] maxLocals = mkF m 0 #[.val (.int x0), .val (.int x1), .unset, .unset] [] := by first | (simp [entryFrame, mkF, argsToLocals, Value.category, maxLocals]; done) | rfl
def Q0 (Z : State) (p0 : Int32) (p1 : Int32) (h0 : Heap) (n0 : Nat) (v : Option Value) (h : Heap) (L : List Loc) : Prop := v = some (.int 1) ∧ Fr n0 L
set_option maxRecDepth 65536 in
set_option maxHeartbeats 40000000 in
theorem rm0 (l : Launch) (Z : State) (a0 : Array Value) (hw : ∀ d ∈ tables_1, d.before a0 Z = true) (ws : List Jvm.Cond) (p0 : Int32) (p1 : Int32) (h0 : Heap) (n0 : Nat) (Z0 : n0 ≤ h0.size) :
    MetFree l x (head1 (Jvm.Cond.code x code maxLocals ret :: ws) room_1) (fun a U => a = #[(.int p0), (.int p1)] ∧ Z.Warmed39 U.vm ∧ U.heap = h0) (fun _ _ _ _ _ => True) (fun _ U o U' => ∃ v L, o = .returned v ∧ Q0 Z p0 p1 h0 n0 v U'.heap L ∧ FrameEnd U o U' L room_1.cells room_1.slots) := by
  refine MetFree.of_bodySF (plainFor_of_name pn_farspeak_triple_CallStatusGrpcStatusOfHttpStatusPinLaw) hisR ?_
  intro p e s m args below meth c s₁ Bd hml0 hP hK
  obtain ⟨rfl, hZ, hh⟩ := hP
  have hx := Bd.exec
  have hby := Bd.bytes
  have hml : c.maxLocals = 4 := hml0
  have hown : s.vm.findClass "farspeak/triple/CallStatusGrpcStatusOfHttpStatusPinLaw" = some m.cls := findClass_of_methodNamed Bd.named
  have hnm := (name_of_methodNamed Bd.named Bd.method).1
  have X0 : Stand p l e room_1 s m #[(.int p0), (.int p1)] below meth c s₁ [] 0 0 := Stand.of_body Bd
  have e0 : s₁.heap = h0 := by rw [← hh, Bd.state]; rfl
  have N0 := Fr.nil n0
  have KP0 : Keep h0 h0 [] := Keep.refl h0 _
  have pre0 : ∀ t, Steps p.tables e below (s₁.setTop (mkF m 0 #[.val (.int p0), .val (.int p1), .unset, .unset] [])) t → Steps p.tables e below (s₁.setTop (entryFrame m #[(.int p0), (.int p1)] maxLocals)) t := fun t k => castTop (ef_0_II m p0 p1) k
  obtain ⟨T58, h58, k58, X58, e58, E58, A58, st58⟩ := newP X0 hx hZ (hw _ (List.mem_of_getElem? (i := 0) rfl)) e0 (g := (mkF m 2 #[.val (.int p0), .val (.int p1), .unset, .unset] [(.int (16 : Int32))])) rfl (hb hby at_2) rfl (by decide) (cap := 16) (by decide) (by decide) (by decide) (by decide)
  obtain ⟨b58, g58⟩ : ∃ z, z = h0.size := ⟨_, rfl⟩
  rw [← g58] at A58 st58
  have sz_b58 : h0.size ≤ b58 := Nat.le_trans KP0.1 (Nat.le_of_eq g58.symm)
  have g_b58 : n0 ≤ b58 := Nat.le_trans Z0 (Nat.le_of_eq g58.symm)
  have KP58 : Keep h0 h58 [] := KP0.ext E58
  have Z58 : n0 ≤ h58.size := Nat.le_trans Z0 E58.1
  have V_b58 : Arv Z h58 b58 k58 .int (16 : Int32) [(.int (0 : Int32)), (.int (0 : Int32)), (.int (0 : Int32)), (.int (0 : Int32)), (.int (0 : Int32)), (.int (0 : Int32)), (.int (0 : Int32)), (.int (0 : Int32)), (.int (0 : Int32)), (.int (0 : Int32)), (.int (0 : Int32)), (.int (0 : Int32)), (.int (0 : Int32)), (.int (0 : Int32)), (.int (0 : Int32)), (.int (0 : Int32))] (.int (0 : Int32)) := (Arv.new A58 (by decide)).pad (pad_rep [] (.int (0 : Int32)) 16)
  obtain ⟨cl59, Ar59, q59, S59, N59v, H59, G59⟩ := V_b58
  have hin59 : ¬ ((0 : Int32) < 0 ∨ cl59.slots.size ≤ ((0 : Int32)).toNatClampNeg) := inb_of S59 ⟨by decide, by decide⟩
  obtain ⟨T60, h60, X60, e60, W60, st60⟩ := stI X58 hx hZ e58 Ar59 (j := (0 : Int32)) hin59 (g := (mkF m 9 #[.val (.int p0), .val (.int p1), .unset, .unset] [(.int (399 : Int32)), (.int (0 : Int32)), (.ref b58), (.ref b58)])) rfl rfl (hb hby at_9)
  have Vw60 : Arv Z h60 b58 k58 .int (16 : Int32) [(.int (399 : Int32)), (.int (0 : Int32)), (.int (0 : Int32)), (.int (0 : Int32)), (.int (0 : Int32)), (.int (0 : Int32)), (.int (0 : Int32)), (.int (0 : Int32)), (.int (0 : Int32)), (.int (0 : Int32)), (.int (0 : Int32)), (.int (0 : Int32)), (.int (0 : Int32)), (.int (0 : Int32)), (.int (0 : Int32)), (.int (0 : Int32))] (.int (0 : Int32)) := Arv.set Ar59 q59 S59 N59v H59 G59 rfl W60 0 rfl (Nat.le_of_ble_eq_true rfl)
  have KP60 : Keep h0 h60 [] := KP58.wr W60 (Or.inr sz_b58)
  have Z60 : n0 ≤ h60.size := Nat.le_trans Z58 (Nat.le_of_eq W60.size.symm)
  have N60 := Fr.snoc X60 N0 g_b58
  obtain ⟨cl61, Ar61, q61, S61, N61v, H61, G61⟩ := Vw60
  have hin61 : ¬ ((1 : Int32) < 0 ∨ cl61.slots.size ≤ ((1 : Int32)).toNatClampNeg) := inb_of S61 ⟨by decide, by decide⟩
  obtain ⟨T62, h62, X62, e62, W62, st62⟩ := stI X60 hx hZ e60 Ar61 (j := (1 : Int32)) hin61 (g := (mkF m 15 #[.val (.int p0), .val (.int p1), .unset, .unset] [(.int (400 : Int32)), (.int (1 : Int32)), (.ref b58), (.ref b58)])) rfl rfl (hb hby at_15)
  have Vw62 : Arv Z h62 b58 k58 .int (16 : Int32) [(.int (399 : Int32)), (.int (400 : Int32)), (.int (0 : Int32)), (.int (0 : Int32)), (.int (0 : Int32)), (.int (0 : Int32)), (.int (0 : Int32)), (.int (0 : Int32)), (.int (0 : Int32)), (.int (0 : Int32)), (.int (0 : Int32)), (.int (0 : Int32)), (.int (0 : Int32)), (.int (0 : Int32)), (.int (0 : Int32)), (.int (0 : Int32))] (.int (0 : Int32)) := Arv.set Ar61 q61 S61 N61v H61 G61 rfl W62 1 rfl (Nat.le_of_ble_eq_true rfl)
  have KP62 : Keep h0 h62 [] := KP60.wr W62 (Or.inr sz_b58)
  have Z62 : n0 ≤ h62.size := Nat.le_trans Z60 (Nat.le_of_eq W62.size.symm)
  have N62 := Fr.snoc X62 N60 g_b58
  obtain ⟨cl63, Ar63, q63, S63, N63v, H63, G63⟩ := Vw62
  have hin63 : ¬ ((2 : Int32) < 0 ∨ cl63.slots.size ≤ ((2 : Int32)).toNatClampNeg) := inb_of S63 ⟨by decide, by decide⟩
  obtain ⟨T64, h64, X64, e64, W64, st64⟩ := stI X62 hx hZ e62 Ar63 (j := (2 : Int32)) hin63 (g := (mkF m 21 #[.val (.int p0), .val (.int p1), .unset, .unset] [(.int (401 : Int32)), (.int (2 : Int32)), (.ref b58), (.ref b58)])) rfl rfl (hb hby at_21)
  have Vw64 : Arv Z h64 b58 k58 .int (16 : Int32) [(.int (399 : Int32)), (.int (400 : Int32)), (.int (401 : Int32)), (.int (0 : Int32)), (.int (0 : Int32)), (.int (0 : Int32)), (.int (0 : Int32)), (.int (0 : Int32)), (.int (0 : Int32)), (.int (0 : Int32)), (.int (0 : Int32)), (.int (0 : Int32)), (.int (0 : Int32)), (.int (0 : Int32)), (.int (0 : Int32)), (.int (0 : Int32))] (.int (0 : Int32)) := Arv.set Ar63 q63 S63 N63v H63 G63 rfl W64 2 rfl (Nat.le_of_ble_eq_true rfl)
  have KP64 : Keep h0 h64 [] := KP62.wr W64 (Or.inr sz_b58)
  have Z64 : n0 ≤ h64.size := Nat.le_trans Z62 (Nat.le_of_eq W64.size.symm)
  have N64 := Fr.snoc X64 N62 g_b58
  obtain ⟨cl65, Ar65, q65, S65, N65v, H65, G65⟩ := Vw64
  have hin65 : ¬ ((3 : Int32) < 0 ∨ cl65.slots.size ≤ ((3 : Int32)).toNatClampNeg) := inb_of S65 ⟨by decide, by decide⟩
  obtain ⟨T66, h66, X66, e66, W66, st66⟩ := stI X64 hx hZ e64 Ar65 (j := (3 : Int32)) hin65 (g := (mkF m 27 #[.val (.int p0), .val (.int p1), .unset, .unset] [(.int (402 : Int32)), (.int (3 : Int32)), (.ref b58), (.ref b58)])) rfl rfl (hb hby at_27)
  have Vw66 : Arv Z h66 b58 k58 .int (16 : Int32) [(.int (399 : Int32)), (.int (400 : Int32)), (.int (401 : Int32)), (.int (402 : Int32)), (.int (0 : Int32)), (.int (0 : Int32)), (.int (0 : Int32)), (.int (0 : Int32)), (.int (0 : Int32)), (.int (0 : Int32)), (.int (0 : Int32)), (.int (0 : Int32)), (.int (0 : Int32)), (.int (0 : Int32)), (.int (0 : Int32)), (.int (0 : Int32))] (.int (0 : Int32)) := Arv.set Ar65 q65 S65 N65v H65 G65 rfl W66 3 rfl (Nat.le_of_ble_eq_true rfl)
  have KP66 : Keep h0 h66 [] := KP64.wr W66 (Or.inr sz_b58)
  have Z66 : n0 ≤ h66.size := Nat.le_trans Z64 (Nat.le_of_eq W66.size.symm)
  have N66 := Fr.snoc X66 N64 g_b58
  obtain ⟨cl67, Ar67, q67, S67, N67v, H67, G67⟩ := Vw66
  have hin67 : ¬ ((4 : Int32) < 0 ∨ cl67.slots.size ≤ ((4 : Int32)).toNatClampNeg) := inb_of S67 ⟨by decide, by decide⟩
  obtain ⟨T68, h68, X68, e68, W68, st68⟩ := stI X66 hx hZ e66 Ar67 (j := (4 : Int32)) hin67 (g := (mkF m 33 #[.val (.int p0), .val (.int p1), .unset, .unset] [(.int (403 : Int32)), (.int (4 : Int32)), (.ref b58), (.ref b58)])) rfl rfl (hb hby at_33)
  have Vw68 : Arv Z h68 b58 k58 .int (16 : Int32) [(.int (399 : Int32)), (.int (400 : Int32)), (.int (401 : Int32)), (.int (402 : Int32)), (.int (403 : Int32)), (.int (0 : Int32)), (.int (0 : Int32)), (.int (0 : Int32)), (.int (0 : Int32)), (.int (0 : Int32)), (.int (0 : Int32)), (.int (0 : Int32)), (.int (0 : Int32)), (.int (0 : Int32)), (.int (0 : Int32)), (.int (0 : Int32))] (.int (0 : Int32)) := Arv.set Ar67 q67 S67 N67v H67 G67 rfl W68 4 rfl (Nat.le_of_ble_eq_true rfl)
  have KP68 : Keep h0 h68 [] := KP66.wr W68 (Or.inr sz_b58)
  have Z68 : n0 ≤ h68.size := Nat.le_trans Z66 (Nat.le_of_eq W68.size.symm)
  have N68 := Fr.snoc X68 N66 g_b58
  obtain ⟨cl69, Ar69, q69, S69, N69v, H69, G69⟩ := Vw68
  have hin69 : ¬ ((5 : Int32) < 0 ∨ cl69.slots.size ≤ ((5 : Int32)).toNatClampNeg) := inb_of S69 ⟨by decide, by decide⟩
  obtain ⟨T70, h70, X70, e70, W70, st70⟩ := stI X68 hx hZ e68 Ar69 (j := (5 : Int32)) hin69 (g := (mkF m 39 #[.val (.int p0), .val (.int p1), .unset, .unset] [(.int (404 : Int32)), (.int (5 : Int32)), (.ref b58), (.ref b58)])) rfl rfl (hb hby at_39)
  have Vw70 : Arv Z h70 b58 k58 .int (16 : Int32) [(.int (399 : Int32)), (.int (400 : Int32)), (.int (401 : Int32)), (.int (402 : Int32)), (.int (403 : Int32)), (.int (404 : Int32)), (.int (0 : Int32)), (.int (0 : Int32)), (.int (0 : Int32)), (.int (0 : Int32)), (.int (0 : Int32)), (.int (0 : Int32)), (.int (0 : Int32)), (.int (0 : Int32)), (.int (0 : Int32)), (.int (0 : Int32))] (.int (0 : Int32)) := Arv.set Ar69 q69 S69 N69v H69 G69 rfl W70 5 rfl (Nat.le_of_ble_eq_true rfl)
  have KP70 : Keep h0 h70 [] := KP68.wr W70 (Or.inr sz_b58)
  have Z70 : n0 ≤ h70.size := Nat.le_trans Z68 (Nat.le_of_eq W70.size.symm)
  have N70 := Fr.snoc X70 N68 g_b58
  obtain ⟨cl71, Ar71, q71, S71, N71v, H71, G71⟩ := Vw70
  have hin71 : ¬ ((6 : Int32) < 0 ∨ cl71.slots.size ≤ ((6 : Int32)).toNatClampNeg) := inb_of S71 ⟨by decide, by decide⟩
  obtain ⟨T72, h72, X72, e72, W72, st72⟩ := stI X70 hx hZ e70 Ar71 (j := (6 : Int32)) hin71 (g := (mkF m 46 #[.val (.int p0), .val (.int p1), .unset, .unset] [(.int (405 : Int32)), (.int (6 : Int32)), (.ref b58), (.ref b58)])) rfl rfl (hb hby at_46)
  have Vw72 : Arv Z h72 b58 k58 .int (16 : Int32) [(.int (399 : Int32)), (.int (400 : Int32)), (.int (401 : Int32)), (.int (402 : Int32)), (.int (403 : Int32)), (.int (404 : Int32)), (.int (405 : Int32)), (.int (0 : Int32)), (.int (0 : Int32)), (.int (0 : Int32)), (.int (0 : Int32)), (.int (0 : Int32)), (.int (0 : Int32)), (.int (0 : Int32)), (.int (0 : Int32)), (.int (0 : Int32))] (.int (0 : Int32)) := Arv.set Ar71 q71 S71 N71v H71 G71 rfl W72 6 rfl (Nat.le_of_ble_eq_true rfl)
  have KP72 : Keep h0 h72 [] := KP70.wr W72 (Or.inr sz_b58)
  have Z72 : n0 ≤ h72.size := Nat.le_trans Z70 (Nat.le_of_eq W72.size.symm)
  have N72 := Fr.snoc X72 N70 g_b58
  obtain ⟨cl73, Ar73, q73, S73, N73v, H73, G73⟩ := Vw72
  have hin73 : ¬ ((7 : Int32) < 0 ∨ cl73.slots.size ≤ ((7 : Int32)).toNatClampNeg) := inb_of S73 ⟨by decide, by decide⟩
  obtain ⟨T74, h74, X74, e74, W74, st74⟩ := stI X72 hx hZ e72 Ar73 (j := (7 : Int32)) hin73 (g := (mkF m 53 #[.val (.int p0), .val (.int p1), .unset, .unset] [(.int (428 : Int32)), (.int (7 : Int32)), (.ref b58), (.ref b58)])) rfl rfl (hb hby at_53)
  have Vw74 : Arv Z h74 b58 k58 .int (16 : Int32) [(.int (399 : Int32)), (.int (400 : Int32)), (.int (401 : Int32)), (.int (402 : Int32)), (.int (403 : Int32)), (.int (404 : Int32)), (.int (405 : Int32)), (.int (428 : Int32)), (.int (0 : Int32)), (.int (0 : Int32)), (.int (0 : Int32)), (.int (0 : Int32)), (.int (0 : Int32)), (.int (0 : Int32)), (.int (0 : Int32)), (.int (0 : Int32))] (.int (0 : Int32)) := Arv.set Ar73 q73 S73 N73v H73 G73 rfl W74 7 rfl (Nat.le_of_ble_eq_true rfl)
  have KP74 : Keep h0 h74 [] := KP72.wr W74 (Or.inr sz_b58)
  have Z74 : n0 ≤ h74.size := Nat.le_trans Z72 (Nat.le_of_eq W74.size.symm)
  have N74 := Fr.snoc X74 N72 g_b58
  obtain ⟨cl75, Ar75, q75, S75, N75v, H75, G75⟩ := Vw74
  have hin75 : ¬ ((8 : Int32) < 0 ∨ cl75.slots.size ≤ ((8 : Int32)).toNatClampNeg) := inb_of S75 ⟨by decide, by decide⟩
  obtain ⟨T76, h76, X76, e76, W76, st76⟩ := stI X74 hx hZ e74 Ar75 (j := (8 : Int32)) hin75 (g := (mkF m 60 #[.val (.int p0), .val (.int p1), .unset, .unset] [(.int (429 : Int32)), (.int (8 : Int32)), (.ref b58), (.ref b58)])) rfl rfl (hb hby at_60)
  have Vw76 : Arv Z h76 b58 k58 .int (16 : Int32) [(.int (399 : Int32)), (.int (400 : Int32)), (.int (401 : Int32)), (.int (402 : Int32)), (.int (403 : Int32)), (.int (404 : Int32)), (.int (405 : Int32)), (.int (428 : Int32)), (.int (429 : Int32)), (.int (0 : Int32)), (.int (0 : Int32)), (.int (0 : Int32)), (.int (0 : Int32)), (.int (0 : Int32)), (.int (0 : Int32)), (.int (0 : Int32))] (.int (0 : Int32)) := Arv.set Ar75 q75 S75 N75v H75 G75 rfl W76 8 rfl (Nat.le_of_ble_eq_true rfl)
  have KP76 : Keep h0 h76 [] := KP74.wr W76 (Or.inr sz_b58)
  have Z76 : n0 ≤ h76.size := Nat.le_trans Z74 (Nat.le_of_eq W76.size.symm)
  have N76 := Fr.snoc X76 N74 g_b58
  obtain ⟨cl77, Ar77, q77, S77, N77v, H77, G77⟩ := Vw76
  have hin77 : ¬ ((9 : Int32) < 0 ∨ cl77.slots.size ≤ ((9 : Int32)).toNatClampNeg) := inb_of S77 ⟨by decide, by decide⟩
  obtain ⟨T78, h78, X78, e78, W78, st78⟩ := stI X76 hx hZ e76 Ar77 (j := (9 : Int32)) hin77 (g := (mkF m 67 #[.val (.int p0), .val (.int p1), .unset, .unset] [(.int (430 : Int32)), (.int (9 : Int32)), (.ref b58), (.ref b58)])) rfl rfl (hb hby at_67)
  have Vw78 : Arv Z h78 b58 k58 .int (16 : Int32) [(.int (399 : Int32)), (.int (400 : Int32)), (.int (401 : Int32)), (.int (402 : Int32)), (.int (403 : Int32)), (.int (404 : Int32)), (.int (405 : Int32)), (.int (428 : Int32)), (.int (429 : Int32)), (.int (430 : Int32)), (.int (0 : Int32)), (.int (0 : Int32)), (.int (0 : Int32)), (.int (0 : Int32)), (.int (0 : Int32)), (.int (0 : Int32))] (.int (0 : Int32)) := Arv.set Ar77 q77 S77 N77v H77 G77 rfl W78 9 rfl (Nat.le_of_ble_eq_true rfl)
  have KP78 : Keep h0 h78 [] := KP76.wr W78 (Or.inr sz_b58)
  have Z78 : n0 ≤ h78.size := Nat.le_trans Z76 (Nat.le_of_eq W78.size.symm)
  have N78 := Fr.snoc X78 N76 g_b58
  obtain ⟨cl79, Ar79, q79, S79, N79v, H79, G79⟩ := Vw78
  have hin79 : ¬ ((10 : Int32) < 0 ∨ cl79.slots.size ≤ ((10 : Int32)).toNatClampNeg) := inb_of S79 ⟨by decide, by decide⟩
  obtain ⟨T80, h80, X80, e80, W80, st80⟩ := stI X78 hx hZ e78 Ar79 (j := (10 : Int32)) hin79 (g := (mkF m 74 #[.val (.int p0), .val (.int p1), .unset, .unset] [(.int (501 : Int32)), (.int (10 : Int32)), (.ref b58), (.ref b58)])) rfl rfl (hb hby at_74)
  have Vw80 : Arv Z h80 b58 k58 .int (16 : Int32) [(.int (399 : Int32)), (.int (400 : Int32)), (.int (401 : Int32)), (.int (402 : Int32)), (.int (403 : Int32)), (.int (404 : Int32)), (.int (405 : Int32)), (.int (428 : Int32)), (.int (429 : Int32)), (.int (430 : Int32)), (.int (501 : Int32)), (.int (0 : Int32)), (.int (0 : Int32)), (.int (0 : Int32)), (.int (0 : Int32)), (.int (0 : Int32))] (.int (0 : Int32)) := Arv.set Ar79 q79 S79 N79v H79 G79 rfl W80 10 rfl (Nat.le_of_ble_eq_true rfl)
  have KP80 : Keep h0 h80 [] := KP78.wr W80 (Or.inr sz_b58)
  have Z80 : n0 ≤ h80.size := Nat.le_trans Z78 (Nat.le_of_eq W80.size.symm)
  have N80 := Fr.snoc X80 N78 g_b58
  obtain ⟨cl81, Ar81, q81, S81, N81v, H81, G81⟩ := Vw80
  have hin81 : ¬ ((11 : Int32) < 0 ∨ cl81.slots.size ≤ ((11 : Int32)).toNatClampNeg) := inb_of S81 ⟨by decide, by decide⟩
  obtain ⟨T82, h82, X82, e82, W82, st82⟩ := stI X80 hx hZ e80 Ar81 (j := (11 : Int32)) hin81 (g := (mkF m 81 #[.val (.int p0), .val (.int p1), .unset, .unset] [(.int (502 : Int32)), (.int (11 : Int32)), (.ref b58), (.ref b58)])) rfl rfl (hb hby at_81)
  have Vw82 : Arv Z h82 b58 k58 .int (16 : Int32) [(.int (399 : Int32)), (.int (400 : Int32)), (.int (401 : Int32)), (.int (402 : Int32)), (.int (403 : Int32)), (.int (404 : Int32)), (.int (405 : Int32)), (.int (428 : Int32)), (.int (429 : Int32)), (.int (430 : Int32)), (.int (501 : Int32)), (.int (502 : Int32)), (.int (0 : Int32)), (.int (0 : Int32)), (.int (0 : Int32)), (.int (0 : Int32))] (.int (0 : Int32)) := Arv.set Ar81 q81 S81 N81v H81 G81 rfl W82 11 rfl (Nat.le_of_ble_eq_true rfl)
  have KP82 : Keep h0 h82 [] := KP80.wr W82 (Or.inr sz_b58)
  have Z82 : n0 ≤ h82.size := Nat.le_trans Z80 (Nat.le_of_eq W82.size.symm)
  have N82 := Fr.snoc X82 N80 g_b58
  obtain ⟨cl83, Ar83, q83, S83, N83v, H83, G83⟩ := Vw82
  have hin83 : ¬ ((12 : Int32) < 0 ∨ cl83.slots.size ≤ ((12 : Int32)).toNatClampNeg) := inb_of S83 ⟨by decide, by decide⟩
  obtain ⟨T84, h84, X84, e84, W84, st84⟩ := stI X82 hx hZ e82 Ar83 (j := (12 : Int32)) hin83 (g := (mkF m 88 #[.val (.int p0), .val (.int p1), .unset, .unset] [(.int (503 : Int32)), (.int (12 : Int32)), (.ref b58), (.ref b58)])) rfl rfl (hb hby at_88)
  have Vw84 : Arv Z h84 b58 k58 .int (16 : Int32) [(.int (399 : Int32)), (.int (400 : Int32)), (.int (401 : Int32)), (.int (402 : Int32)), (.int (403 : Int32)), (.int (404 : Int32)), (.int (405 : Int32)), (.int (428 : Int32)), (.int (429 : Int32)), (.int (430 : Int32)), (.int (501 : Int32)), (.int (502 : Int32)), (.int (503 : Int32)), (.int (0 : Int32)), (.int (0 : Int32)), (.int (0 : Int32))] (.int (0 : Int32)) := Arv.set Ar83 q83 S83 N83v H83 G83 rfl W84 12 rfl (Nat.le_of_ble_eq_true rfl)
  have KP84 : Keep h0 h84 [] := KP82.wr W84 (Or.inr sz_b58)
  have Z84 : n0 ≤ h84.size := Nat.le_trans Z82 (Nat.le_of_eq W84.size.symm)
  have N84 := Fr.snoc X84 N82 g_b58
  obtain ⟨cl85, Ar85, q85, S85, N85v, H85, G85⟩ := Vw84
  have hin85 : ¬ ((13 : Int32) < 0 ∨ cl85.slots.size ≤ ((13 : Int32)).toNatClampNeg) := inb_of S85 ⟨by decide, by decide⟩
  obtain ⟨T86, h86, X86, e86, W86, st86⟩ := stI X84 hx hZ e84 Ar85 (j := (13 : Int32)) hin85 (g := (mkF m 95 #[.val (.int p0), .val (.int p1), .unset, .unset] [(.int (504 : Int32)), (.int (13 : Int32)), (.ref b58), (.ref b58)])) rfl rfl (hb hby at_95)
  have Vw86 : Arv Z h86 b58 k58 .int (16 : Int32) [(.int (399 : Int32)), (.int (400 : Int32)), (.int (401 : Int32)), (.int (402 : Int32)), (.int (403 : Int32)), (.int (404 : Int32)), (.int (405 : Int32)), (.int (428 : Int32)), (.int (429 : Int32)), (.int (430 : Int32)), (.int (501 : Int32)), (.int (502 : Int32)), (.int (503 : Int32)), (.int (504 : Int32)), (.int (0 : Int32)), (.int (0 : Int32))] (.int (0 : Int32)) := Arv.set Ar85 q85 S85 N85v H85 G85 rfl W86 13 rfl (Nat.le_of_ble_eq_true rfl)
  have KP86 : Keep h0 h86 [] := KP84.wr W86 (Or.inr sz_b58)
  have Z86 : n0 ≤ h86.size := Nat.le_trans Z84 (Nat.le_of_eq W86.size.symm)
  have N86 := Fr.snoc X86 N84 g_b58
  obtain ⟨cl87, Ar87, q87, S87, N87v, H87, G87⟩ := Vw86
  have hin87 : ¬ ((14 : Int32) < 0 ∨ cl87.slots.size ≤ ((14 : Int32)).toNatClampNeg) := inb_of S87 ⟨by decide, by decide⟩
  obtain ⟨T88, h88, X88, e88, W88, st88⟩ := stI X86 hx hZ e86 Ar87 (j := (14 : Int32)) hin87 (g := (mkF m 102 #[.val (.int p0), .val (.int p1), .unset, .unset] [(.int (505 : Int32)), (.int (14 : Int32)), (.ref b58), (.ref b58)])) rfl rfl (hb hby at_102)
  have Vw88 : Arv Z h88 b58 k58 .int (16 : Int32) [(.int (399 : Int32)), (.int (400 : Int32)), (.int (401 : Int32)), (.int (402 : Int32)), (.int (403 : Int32)), (.int (404 : Int32)), (.int (405 : Int32)), (.int (428 : Int32)), (.int (429 : Int32)), (.int (430 : Int32)), (.int (501 : Int32)), (.int (502 : Int32)), (.int (503 : Int32)), (.int (504 : Int32)), (.int (505 : Int32)), (.int (0 : Int32))] (.int (0 : Int32)) := Arv.set Ar87 q87 S87 N87v H87 G87 rfl W88 14 rfl (Nat.le_of_ble_eq_true rfl)
  have KP88 : Keep h0 h88 [] := KP86.wr W88 (Or.inr sz_b58)
  have Z88 : n0 ≤ h88.size := Nat.le_trans Z86 (Nat.le_of_eq W88.size.symm)
  have N88 := Fr.snoc X88 N86 g_b58
  obtain ⟨cl89, Ar89, q89, S89, N89v, H89, G89⟩ := Vw88
  have hin89 : ¬ ((15 : Int32) < 0 ∨ cl89.slots.size ≤ ((15 : Int32)).toNatClampNeg) := inb_of S89 ⟨by decide, by decide⟩
  obtain ⟨T90, h90, X90, e90, W90, st90⟩ := stI X88 hx hZ e88 Ar89 (j := (15 : Int32)) hin89 (g := (mkF m 109 #[.val (.int p0), .val (.int p1), .unset, .unset] [(.int (200 : Int32)), (.int (15 : Int32)), (.ref b58), (.ref b58)])) rfl rfl (hb hby at_109)
  have Vw90 : Arv Z h90 b58 k58 .int (16 : Int32) [(.int (399 : Int32)), (.int (400 : Int32)), (.int (401 : Int32)), (.int (402 : Int32)), (.int (403 : Int32)), (.int (404 : Int32)), (.int (405 : Int32)), (.int (428 : Int32)), (.int (429 : Int32)), (.int (430 : Int32)), (.int (501 : Int32)), (.int (502 : Int32)), (.int (503 : Int32)), (.int (504 : Int32)), (.int (505 : Int32)), (.int (200 : Int32))] (.int (0 : Int32)) := Arv.set Ar89 q89 S89 N89v H89 G89 rfl W90 15 rfl (Nat.le_of_ble_eq_true rfl)
  have KP90 : Keep h0 h90 [] := KP88.wr W90 (Or.inr sz_b58)
  have Z90 : n0 ≤ h90.size := Nat.le_trans Z88 (Nat.le_of_eq W90.size.symm)
  have N90 := Fr.snoc X90 N88 g_b58
  have pre92 : ∀ t, Steps p.tables e below (T90.setTop (mkF m 114 #[.val (.int p0), .val (.int p1), .val (.ref b58), .unset] [(.int (p0 &&& (1 : Int32)))])) t → Steps p.tables e below (s₁.setTop (entryFrame m #[(.int p0), (.int p1)] maxLocals)) t := by
    intro t kk
    refine pre0 t ?_
    show Steps p.tables e below (s₁.setTop (mkF m 0 #[.val (.int p0), .val (.int p1), .unset, .unset] [])) _
    refine XS.bipush X0.here hx rfl (hb hby at_0) ?_
    show Steps p.tables e below (s₁.setTop (mkF m 2 #[.val (.int p0), .val (.int p1), .unset, .unset] [(.int (16 : Int32))])) _
    refine st58 _ ?_
    show Steps p.tables e below (T58.setTop (mkF m 4 #[.val (.int p0), .val (.int p1), .unset, .unset] [(.ref b58)])) _
    refine XS.dup X58.here hx rfl (hb hby at_4) rfl rfl ?_
    show Steps p.tables e below (T58.setTop (mkF m 5 #[.val (.int p0), .val (.int p1), .unset, .unset] [(.ref b58), (.ref b58)])) _
    refine XS.iconst X58.here hx rfl (hb hby at_5) ?_
    show Steps p.tables e below (T58.setTop (mkF m 6 #[.val (.int p0), .val (.int p1), .unset, .unset] [(.int (0 : Int32)), (.ref b58), (.ref b58)])) _
    refine XS.sipush X58.here hx rfl (hb hby at_6) ?_
    show Steps p.tables e below (T58.setTop (mkF m 9 #[.val (.int p0), .val (.int p1), .unset, .unset] [(.int (399 : Int32)), (.int (0 : Int32)), (.ref b58), (.ref b58)])) _
    refine st60 _ ?_
    show Steps p.tables e below (T60.setTop (mkF m 10 #[.val (.int p0), .val (.int p1), .unset, .unset] [(.ref b58)])) _
    refine XS.dup X60.here hx rfl (hb hby at_10) rfl rfl ?_
    show Steps p.tables e below (T60.setTop (mkF m 11 #[.val (.int p0), .val (.int p1), .unset, .unset] [(.ref b58), (.ref b58)])) _
    refine XS.iconst X60.here hx rfl (hb hby at_11) ?_
    show Steps p.tables e below (T60.setTop (mkF m 12 #[.val (.int p0), .val (.int p1), .unset, .unset] [(.int (1 : Int32)), (.ref b58), (.ref b58)])) _
    refine XS.sipush X60.here hx rfl (hb hby at_12) ?_
    show Steps p.tables e below (T60.setTop (mkF m 15 #[.val (.int p0), .val (.int p1), .unset, .unset] [(.int (400 : Int32)), (.int (1 : Int32)), (.ref b58), (.ref b58)])) _
    refine st62 _ ?_
    show Steps p.tables e below (T62.setTop (mkF m 16 #[.val (.int p0), .val (.int p1), .unset, .unset] [(.ref b58)])) _
    refine XS.dup X62.here hx rfl (hb hby at_16) rfl rfl ?_
    show Steps p.tables e below (T62.setTop (mkF m 17 #[.val (.int p0), .val (.int p1), .unset, .unset] [(.ref b58), (.ref b58)])) _
    refine XS.iconst X62.here hx rfl (hb hby at_17) ?_
    show Steps p.tables e below (T62.setTop (mkF m 18 #[.val (.int p0), .val (.int p1), .unset, .unset] [(.int (2 : Int32)), (.ref b58), (.ref b58)])) _
    refine XS.sipush X62.here hx rfl (hb hby at_18) ?_
    show Steps p.tables e below (T62.setTop (mkF m 21 #[.val (.int p0), .val (.int p1), .unset, .unset] [(.int (401 : Int32)), (.int (2 : Int32)), (.ref b58), (.ref b58)])) _
    refine st64 _ ?_
    show Steps p.tables e below (T64.setTop (mkF m 22 #[.val (.int p0), .val (.int p1), .unset, .unset] [(.ref b58)])) _
    refine XS.dup X64.here hx rfl (hb hby at_22) rfl rfl ?_
    show Steps p.tables e below (T64.setTop (mkF m 23 #[.val (.int p0), .val (.int p1), .unset, .unset] [(.ref b58), (.ref b58)])) _
    refine XS.iconst X64.here hx rfl (hb hby at_23) ?_
    show Steps p.tables e below (T64.setTop (mkF m 24 #[.val (.int p0), .val (.int p1), .unset, .unset] [(.int (3 : Int32)), (.ref b58), (.ref b58)])) _
    refine XS.sipush X64.here hx rfl (hb hby at_24) ?_
    show Steps p.tables e below (T64.setTop (mkF m 27 #[.val (.int p0), .val (.int p1), .unset, .unset] [(.int (402 : Int32)), (.int (3 : Int32)), (.ref b58), (.ref b58)])) _
    refine st66 _ ?_
    show Steps p.tables e below (T66.setTop (mkF m 28 #[.val (.int p0), .val (.int p1), .unset, .unset] [(.ref b58)])) _
    refine XS.dup X66.here hx rfl (hb hby at_28) rfl rfl ?_
    show Steps p.tables e below (T66.setTop (mkF m 29 #[.val (.int p0), .val (.int p1), .unset, .unset] [(.ref b58), (.ref b58)])) _
    refine XS.iconst X66.here hx rfl (hb hby at_29) ?_
    show Steps p.tables e below (T66.setTop (mkF m 30 #[.val (.int p0), .val (.int p1), .unset, .unset] [(.int (4 : Int32)), (.ref b58), (.ref b58)])) _
    refine XS.sipush X66.here hx rfl (hb hby at_30) ?_
    show Steps p.tables e below (T66.setTop (mkF m 33 #[.val (.int p0), .val (.int p1), .unset, .unset] [(.int (403 : Int32)), (.int (4 : Int32)), (.ref b58), (.ref b58)])) _
    refine st68 _ ?_
    show Steps p.tables e below (T68.setTop (mkF m 34 #[.val (.int p0), .val (.int p1), .unset, .unset] [(.ref b58)])) _
    refine XS.dup X68.here hx rfl (hb hby at_34) rfl rfl ?_
    show Steps p.tables e below (T68.setTop (mkF m 35 #[.val (.int p0), .val (.int p1), .unset, .unset] [(.ref b58), (.ref b58)])) _
    refine XS.iconst X68.here hx rfl (hb hby at_35) ?_
    show Steps p.tables e below (T68.setTop (mkF m 36 #[.val (.int p0), .val (.int p1), .unset, .unset] [(.int (5 : Int32)), (.ref b58), (.ref b58)])) _
    refine XS.sipush X68.here hx rfl (hb hby at_36) ?_
    show Steps p.tables e below (T68.setTop (mkF m 39 #[.val (.int p0), .val (.int p1), .unset, .unset] [(.int (404 : Int32)), (.int (5 : Int32)), (.ref b58), (.ref b58)])) _
    refine st70 _ ?_
    show Steps p.tables e below (T70.setTop (mkF m 40 #[.val (.int p0), .val (.int p1), .unset, .unset] [(.ref b58)])) _
    refine XS.dup X70.here hx rfl (hb hby at_40) rfl rfl ?_
    show Steps p.tables e below (T70.setTop (mkF m 41 #[.val (.int p0), .val (.int p1), .unset, .unset] [(.ref b58), (.ref b58)])) _
    refine XS.bipush X70.here hx rfl (hb hby at_41) ?_
    show Steps p.tables e below (T70.setTop (mkF m 43 #[.val (.int p0), .val (.int p1), .unset, .unset] [(.int (6 : Int32)), (.ref b58), (.ref b58)])) _
    refine XS.sipush X70.here hx rfl (hb hby at_43) ?_
    show Steps p.tables e below (T70.setTop (mkF m 46 #[.val (.int p0), .val (.int p1), .unset, .unset] [(.int (405 : Int32)), (.int (6 : Int32)), (.ref b58), (.ref b58)])) _
    refine st72 _ ?_
    show Steps p.tables e below (T72.setTop (mkF m 47 #[.val (.int p0), .val (.int p1), .unset, .unset] [(.ref b58)])) _
    refine XS.dup X72.here hx rfl (hb hby at_47) rfl rfl ?_
    show Steps p.tables e below (T72.setTop (mkF m 48 #[.val (.int p0), .val (.int p1), .unset, .unset] [(.ref b58), (.ref b58)])) _
    refine XS.bipush X72.here hx rfl (hb hby at_48) ?_
    show Steps p.tables e below (T72.setTop (mkF m 50 #[.val (.int p0), .val (.int p1), .unset, .unset] [(.int (7 : Int32)), (.ref b58), (.ref b58)])) _
    refine XS.sipush X72.here hx rfl (hb hby at_50) ?_
    show Steps p.tables e below (T72.setTop (mkF m 53 #[.val (.int p0), .val (.int p1), .unset, .unset] [(.int (428 : Int32)), (.int (7 : Int32)), (.ref b58), (.ref b58)])) _
    refine st74 _ ?_
    show Steps p.tables e below (T74.setTop (mkF m 54 #[.val (.int p0), .val (.int p1), .unset, .unset] [(.ref b58)])) _
    refine XS.dup X74.here hx rfl (hb hby at_54) rfl rfl ?_
    show Steps p.tables e below (T74.setTop (mkF m 55 #[.val (.int p0), .val (.int p1), .unset, .unset] [(.ref b58), (.ref b58)])) _
    refine XS.bipush X74.here hx rfl (hb hby at_55) ?_
    show Steps p.tables e below (T74.setTop (mkF m 57 #[.val (.int p0), .val (.int p1), .unset, .unset] [(.int (8 : Int32)), (.ref b58), (.ref b58)])) _
    refine XS.sipush X74.here hx rfl (hb hby at_57) ?_
    show Steps p.tables e below (T74.setTop (mkF m 60 #[.val (.int p0), .val (.int p1), .unset, .unset] [(.int (429 : Int32)), (.int (8 : Int32)), (.ref b58), (.ref b58)])) _
    refine st76 _ ?_
    show Steps p.tables e below (T76.setTop (mkF m 61 #[.val (.int p0), .val (.int p1), .unset, .unset] [(.ref b58)])) _
    refine XS.dup X76.here hx rfl (hb hby at_61) rfl rfl ?_
    show Steps p.tables e below (T76.setTop (mkF m 62 #[.val (.int p0), .val (.int p1), .unset, .unset] [(.ref b58), (.ref b58)])) _
    refine XS.bipush X76.here hx rfl (hb hby at_62) ?_
    show Steps p.tables e below (T76.setTop (mkF m 64 #[.val (.int p0), .val (.int p1), .unset, .unset] [(.int (9 : Int32)), (.ref b58), (.ref b58)])) _
    refine XS.sipush X76.here hx rfl (hb hby at_64) ?_
    show Steps p.tables e below (T76.setTop (mkF m 67 #[.val (.int p0), .val (.int p1), .unset, .unset] [(.int (430 : Int32)), (.int (9 : Int32)), (.ref b58), (.ref b58)])) _
    refine st78 _ ?_
    show Steps p.tables e below (T78.setTop (mkF m 68 #[.val (.int p0), .val (.int p1), .unset, .unset] [(.ref b58)])) _
    refine XS.dup X78.here hx rfl (hb hby at_68) rfl rfl ?_
    show Steps p.tables e below (T78.setTop (mkF m 69 #[.val (.int p0), .val (.int p1), .unset, .unset] [(.ref b58), (.ref b58)])) _
    refine XS.bipush X78.here hx rfl (hb hby at_69) ?_
    show Steps p.tables e below (T78.setTop (mkF m 71 #[.val (.int p0), .val (.int p1), .unset, .unset] [(.int (10 : Int32)), (.ref b58), (.ref b58)])) _
    refine XS.sipush X78.here hx rfl (hb hby at_71) ?_
    show Steps p.tables e below (T78.setTop (mkF m 74 #[.val (.int p0), .val (.int p1), .unset, .unset] [(.int (501 : Int32)), (.int (10 : Int32)), (.ref b58), (.ref b58)])) _
    refine st80 _ ?_
    show Steps p.tables e below (T80.setTop (mkF m 75 #[.val (.int p0), .val (.int p1), .unset, .unset] [(.ref b58)])) _
    refine XS.dup X80.here hx rfl (hb hby at_75) rfl rfl ?_
    show Steps p.tables e below (T80.setTop (mkF m 76 #[.val (.int p0), .val (.int p1), .unset, .unset] [(.ref b58), (.ref b58)])) _
    refine XS.bipush X80.here hx rfl (hb hby at_76) ?_
    show Steps p.tables e below (T80.setTop (mkF m 78 #[.val (.int p0), .val (.int p1), .unset, .unset] [(.int (11 : Int32)), (.ref b58), (.ref b58)])) _
    refine XS.sipush X80.here hx rfl (hb hby at_78) ?_
    show Steps p.tables e below (T80.setTop (mkF m 81 #[.val (.int p0), .val (.int p1), .unset, .unset] [(.int (502 : Int32)), (.int (11 : Int32)), (.ref b58), (.ref b58)])) _
    refine st82 _ ?_
    show Steps p.tables e below (T82.setTop (mkF m 82 #[.val (.int p0), .val (.int p1), .unset, .unset] [(.ref b58)])) _
    refine XS.dup X82.here hx rfl (hb hby at_82) rfl rfl ?_
    show Steps p.tables e below (T82.setTop (mkF m 83 #[.val (.int p0), .val (.int p1), .unset, .unset] [(.ref b58), (.ref b58)])) _
    refine XS.bipush X82.here hx rfl (hb hby at_83) ?_
    show Steps p.tables e below (T82.setTop (mkF m 85 #[.val (.int p0), .val (.int p1), .unset, .unset] [(.int (12 : Int32)), (.ref b58), (.ref b58)])) _
    refine XS.sipush X82.here hx rfl (hb hby at_85) ?_
    show Steps p.tables e below (T82.setTop (mkF m 88 #[.val (.int p0), .val (.int p1), .unset, .unset] [(.int (503 : Int32)), (.int (12 : Int32)), (.ref b58), (.ref b58)])) _
    refine st84 _ ?_
    show Steps p.tables e below (T84.setTop (mkF m 89 #[.val (.int p0), .val (.int p1), .unset, .unset] [(.ref b58)])) _
    refine XS.dup X84.here hx rfl (hb hby at_89) rfl rfl ?_
    show Steps p.tables e below (T84.setTop (mkF m 90 #[.val (.int p0), .val (.int p1), .unset, .unset] [(.ref b58), (.ref b58)])) _
    refine XS.bipush X84.here hx rfl (hb hby at_90) ?_
    show Steps p.tables e below (T84.setTop (mkF m 92 #[.val (.int p0), .val (.int p1), .unset, .unset] [(.int (13 : Int32)), (.ref b58), (.ref b58)])) _
    refine XS.sipush X84.here hx rfl (hb hby at_92) ?_
    show Steps p.tables e below (T84.setTop (mkF m 95 #[.val (.int p0), .val (.int p1), .unset, .unset] [(.int (504 : Int32)), (.int (13 : Int32)), (.ref b58), (.ref b58)])) _
    refine st86 _ ?_
    show Steps p.tables e below (T86.setTop (mkF m 96 #[.val (.int p0), .val (.int p1), .unset, .unset] [(.ref b58)])) _
    refine XS.dup X86.here hx rfl (hb hby at_96) rfl rfl ?_
    show Steps p.tables e below (T86.setTop (mkF m 97 #[.val (.int p0), .val (.int p1), .unset, .unset] [(.ref b58), (.ref b58)])) _
    refine XS.bipush X86.here hx rfl (hb hby at_97) ?_
    show Steps p.tables e below (T86.setTop (mkF m 99 #[.val (.int p0), .val (.int p1), .unset, .unset] [(.int (14 : Int32)), (.ref b58), (.ref b58)])) _
    refine XS.sipush X86.here hx rfl (hb hby at_99) ?_
    show Steps p.tables e below (T86.setTop (mkF m 102 #[.val (.int p0), .val (.int p1), .unset, .unset] [(.int (505 : Int32)), (.int (14 : Int32)), (.ref b58), (.ref b58)])) _
    refine st88 _ ?_
    show Steps p.tables e below (T88.setTop (mkF m 103 #[.val (.int p0), .val (.int p1), .unset, .unset] [(.ref b58)])) _
    refine XS.dup X88.here hx rfl (hb hby at_103) rfl rfl ?_
    show Steps p.tables e below (T88.setTop (mkF m 104 #[.val (.int p0), .val (.int p1), .unset, .unset] [(.ref b58), (.ref b58)])) _
    refine XS.bipush X88.here hx rfl (hb hby at_104) ?_
    show Steps p.tables e below (T88.setTop (mkF m 106 #[.val (.int p0), .val (.int p1), .unset, .unset] [(.int (15 : Int32)), (.ref b58), (.ref b58)])) _
    refine XS.sipush X88.here hx rfl (hb hby at_106) ?_
    show Steps p.tables e below (T88.setTop (mkF m 109 #[.val (.int p0), .val (.int p1), .unset, .unset] [(.int (200 : Int32)), (.int (15 : Int32)), (.ref b58), (.ref b58)])) _
    refine st90 _ ?_
    show Steps p.tables e below (T90.setTop (mkF m 110 #[.val (.int p0), .val (.int p1), .unset, .unset] [(.ref b58)])) _
    refine XS.astoreN X90.here hx rfl (hb hby at_110) rfl rfl (l' := #[.val (.int p0), .val (.int p1), .val (.ref b58), .unset]) rfl ?_
    show Steps p.tables e below (T90.setTop (mkF m 111 #[.val (.int p0), .val (.int p1), .val (.ref b58), .unset] [])) _
    refine XS.iloadN X90.here hx rfl (hb hby at_111) rfl ?_
    show Steps p.tables e below (T90.setTop (mkF m 112 #[.val (.int p0), .val (.int p1), .val (.ref b58), .unset] [(.int p0)])) _
    refine XS.iconst X90.here hx rfl (hb hby at_112) ?_
    show Steps p.tables e below (T90.setTop (mkF m 113 #[.val (.int p0), .val (.int p1), .val (.ref b58), .unset] [(.int (1 : Int32)), (.int p0)])) _
    refine XS.iand X90.here hx rfl (hb hby at_113) rfl ?_
    exact kk
  by_cases hc114_91 : (p0 &&& (1 : Int32)) = (0 : Int32)
  · obtain ⟨w94, hw94⟩ : ∃ w : Int32, ([(.int (399 : Int32)), (.int (400 : Int32)), (.int (401 : Int32)), (.int (402 : Int32)), (.int (403 : Int32)), (.int (404 : Int32)), (.int (405 : Int32)), (.int (428 : Int32)), (.int (429 : Int32)), (.int (430 : Int32)), (.int (501 : Int32)), (.int (502 : Int32)), (.int (503 : Int32)), (.int (504 : Int32)), (.int (505 : Int32)), (.int (200 : Int32))] : List Value).getD ((((p0.toUInt32 >>> ((1 : Int32) &&& 31).toUInt32).toInt32) &&& (15 : Int32))).toNatClampNeg (.int (0 : Int32)) = .int w := own_get _
    obtain ⟨cl93, Ar93, q93, S93, N93v, H93, G93⟩ := Vw90
    have hin93 : ¬ ((((p0.toUInt32 >>> ((1 : Int32) &&& 31).toUInt32).toInt32) &&& (15 : Int32)) < 0 ∨ cl93.slots.size ≤ ((((p0.toUInt32 >>> ((1 : Int32) &&& 31).toUInt32).toInt32) &&& (15 : Int32))).toNatClampNeg) := inb_of S93 (own_idx p0)
    have hat93 : cl93.slots[((((p0.toUInt32 >>> ((1 : Int32) &&& 31).toUInt32).toInt32) &&& (15 : Int32))).toNatClampNeg]? = some (.int w94) := Has.at H93 hin93 hw94
    obtain ⟨_, _, ⟨T95, L95, k95, n95⟩, -, X95, ⟨Lc95, hQ95, l95, y95, z95⟩, st95⟩ := Jvm.LawKit.callS X90 hx (y := (⟨"farspeak/triple/CallStatus", "grpcStatusOfHttpStatus", "(I)I"⟩ : MethodName)) hown (mvT hZ (hw _ (List.mem_of_getElem? (i := 1) rfl))) (mvT hZ (hw _ (List.mem_of_getElem? (i := 2) rfl))) (mvT hZ (hw _ (List.mem_of_getElem? (i := 3) rfl))) (mvT hZ (hw _ (List.mem_of_getElem? (i := 4) rfl))) (by decide) (backOf (W := 0) (rm1 l Z a0 hw [] w94  h90 n0 Z90 ) hZ (hw _ (List.mem_of_getElem? (i := 4) rfl)) (hw _ (List.mem_of_getElem? (i := 3) rfl)) (by decide) (by decide)) (g := (mkF m 131 #[.val (.int p0), .val (.int p1), .val (.ref b58), .val (.int w94)] [(.int w94)])) rfl (by rw [hml]; rfl) (argsL := [(.int w94)]) (rest := []) (lenOf pd__28I_29I rfl) rfl (by show 2 * 0 + _ ≤ _; exact Nat.le_of_eq rfl) (hb hby at_131) (fun _ _ => ⟨rfl, e90, (by decide : 1 + 0 ≤ _), (by decide : 16 + 0 ≤ _)⟩)
    dsimp only [Pt.U, Pt.locs, Pt.cells, Pt.slots] at X95 l95 y95 z95 st95 hQ95
    subst l95 y95 z95
    obtain ⟨rfl, N95q, e95⟩ := hQ95
    have N95 := Fr.app N90 N95q
    obtain ⟨_, _, ⟨T96, L96, k96, n96⟩, -, X96, ⟨Lc96, hQ96, l96, y96, z96⟩, st96⟩ := Jvm.LawKit.callS X95 hx (y := (⟨"farspeak/triple/CallStatusGrpcStatusOfHttpStatusPinLaw", "expected", "(I)I"⟩ : MethodName)) hown (mvT hZ (hw _ (List.mem_of_getElem? (i := 5) rfl))) (mvT hZ (hw _ (List.mem_of_getElem? (i := 6) rfl))) (mvT hZ (hw _ (List.mem_of_getElem? (i := 7) rfl))) (mvT hZ (hw _ (List.mem_of_getElem? (i := 8) rfl))) (by decide) (backOf (W := 1) (rm2 l Z a0 hw [] w94  h90 n0 Z90 ) hZ (hw _ (List.mem_of_getElem? (i := 8) rfl)) (hw _ (List.mem_of_getElem? (i := 7) rfl)) (by decide) (by decide)) (g := (mkF m 135 #[.val (.int p0), .val (.int p1), .val (.ref b58), .val (.int w94)] [(.int w94), (.int (F1 w94))])) rfl (by rw [hml]; rfl) (argsL := [(.int w94)]) (rest := [(.int (F1 w94))]) (lenOf pd__28I_29I rfl) rfl (by show 2 * 0 + _ ≤ _; exact Nat.le_of_eq rfl) (hb hby at_135) (fun _ _ => ⟨rfl, e95, (by decide : 1 + 0 ≤ _), (by decide : 16 + 0 ≤ _)⟩)
    dsimp only [Pt.U, Pt.locs, Pt.cells, Pt.slots] at X96 l96 y96 z96 st96 hQ96
    subst l96 y96 z96
    obtain ⟨rfl, N96q, e96⟩ := hQ96
    have N96 := Fr.app N95 N96q
    have pre97 : ∀ t, Steps p.tables e below (T96.setTop (mkF m 146 #[.val (.int p0), .val (.int p1), .val (.ref b58), .val (.int w94)] [(.int (1 : Int32))])) t → Steps p.tables e below (s₁.setTop (entryFrame m #[(.int p0), (.int p1)] maxLocals)) t := by
      intro t kk
      refine pre92 t ?_
      show Steps p.tables e below (T90.setTop (mkF m 114 #[.val (.int p0), .val (.int p1), .val (.ref b58), .unset] [(.int (p0 &&& (1 : Int32)))])) _
      refine XS.ifYes X90.here hx rfl (pc0 := 114) (pc' := 121) rfl (hb hby at_114) rfl ((if0 _ _).trans (teq hc114_91).1) (by decide) (by decide) ?_
      show Steps p.tables e below (T90.setTop (mkF m 121 #[.val (.int p0), .val (.int p1), .val (.ref b58), .unset] [])) _
      refine XS.aloadN X90.here hx rfl (hb hby at_121) rfl rfl ?_
      show Steps p.tables e below (T90.setTop (mkF m 122 #[.val (.int p0), .val (.int p1), .val (.ref b58), .unset] [(.ref b58)])) _
      refine XS.iloadN X90.here hx rfl (hb hby at_122) rfl ?_
      show Steps p.tables e below (T90.setTop (mkF m 123 #[.val (.int p0), .val (.int p1), .val (.ref b58), .unset] [(.int p0), (.ref b58)])) _
      refine XS.iconst X90.here hx rfl (hb hby at_123) ?_
      show Steps p.tables e below (T90.setTop (mkF m 124 #[.val (.int p0), .val (.int p1), .val (.ref b58), .unset] [(.int (1 : Int32)), (.int p0), (.ref b58)])) _
      refine XS.iushr X90.here hx rfl (hb hby at_124) rfl ?_
      show Steps p.tables e below (T90.setTop (mkF m 125 #[.val (.int p0), .val (.int p1), .val (.ref b58), .unset] [(.int ((p0.toUInt32 >>> ((1 : Int32) &&& 31).toUInt32).toInt32)), (.ref b58)])) _
      refine XS.bipush X90.here hx rfl (hb hby at_125) ?_
      show Steps p.tables e below (T90.setTop (mkF m 127 #[.val (.int p0), .val (.int p1), .val (.ref b58), .unset] [(.int (15 : Int32)), (.int ((p0.toUInt32 >>> ((1 : Int32) &&& 31).toUInt32).toInt32)), (.ref b58)])) _
      refine XS.iand X90.here hx rfl (hb hby at_127) rfl ?_
      show Steps p.tables e below (T90.setTop (mkF m 128 #[.val (.int p0), .val (.int p1), .val (.ref b58), .unset] [(.int (((p0.toUInt32 >>> ((1 : Int32) &&& 31).toUInt32).toInt32) &&& (15 : Int32))), (.ref b58)])) _
      refine X90.iaload hx (j := (((p0.toUInt32 >>> ((1 : Int32) &&& 31).toUInt32).toInt32) &&& (15 : Int32))) (v := (.int w94)) (by rw [e90]; exact Ar93.1) (State.isArrayOf_alike hZ.alike Ar93.2.1) Ar93.2.2 hin93 hat93 (g := (mkF m 128 #[.val (.int p0), .val (.int p1), .val (.ref b58), .unset] [(.int (((p0.toUInt32 >>> ((1 : Int32) &&& 31).toUInt32).toInt32) &&& (15 : Int32))), (.ref b58)])) rfl rfl (hb hby at_128) _ ?_
      show Steps p.tables e below (T90.setTop (mkF m 129 #[.val (.int p0), .val (.int p1), .val (.ref b58), .unset] [(.int w94)])) _
      refine XS.istoreN X90.here hx rfl (hb hby at_129) rfl (l' := #[.val (.int p0), .val (.int p1), .val (.ref b58), .val (.int w94)]) rfl ?_
      show Steps p.tables e below (T90.setTop (mkF m 130 #[.val (.int p0), .val (.int p1), .val (.ref b58), .val (.int w94)] [])) _
      refine XS.iloadN X90.here hx rfl (hb hby at_130) rfl ?_
      show Steps p.tables e below (T90.setTop (mkF m 131 #[.val (.int p0), .val (.int p1), .val (.ref b58), .val (.int w94)] [(.int w94)])) _
      refine st95 _ ?_
      show Steps p.tables e below (T95.setTop (mkF m 134 #[.val (.int p0), .val (.int p1), .val (.ref b58), .val (.int w94)] [(.int (F1 w94))])) _
      refine XS.iloadN X95.here hx rfl (hb hby at_134) rfl ?_
      show Steps p.tables e below (T95.setTop (mkF m 135 #[.val (.int p0), .val (.int p1), .val (.ref b58), .val (.int w94)] [(.int w94), (.int (F1 w94))])) _
      refine st96 _ ?_
      show Steps p.tables e below (T96.setTop (mkF m 138 #[.val (.int p0), .val (.int p1), .val (.ref b58), .val (.int w94)] [(.int (F2 w94)), (.int (F1 w94))])) _
      refine XS.icmpNo X96.here hx rfl (hb hby at_138) rfl (teq (own_law w94)).2 ?_
      show Steps p.tables e below (T96.setTop (mkF m 141 #[.val (.int p0), .val (.int p1), .val (.ref b58), .val (.int w94)] [])) _
      refine XS.iconst X96.here hx rfl (hb hby at_141) ?_
      show Steps p.tables e below (T96.setTop (mkF m 142 #[.val (.int p0), .val (.int p1), .val (.ref b58), .val (.int w94)] [(.int (1 : Int32))])) _
      refine XS.goto X96.here hx rfl (pc0 := 142) (pc' := 146) rfl (hb hby at_142) (by decide) (by decide) ?_
      exact kk
    obtain ⟨fs, hr, hrun, hended, hW, hsame⟩ := X96.leave (v := some (.int (1 : Int32))) (fun h => by rw [Bd.returns] at h; cases h)
    refine ⟨_, _, pre97 _ ?_, hrun, hended, _, _, rfl, ?_, ⟨_, rfl⟩, hW, hsame.mono (by decide) (by decide)⟩
    · show Steps p.tables e below (T96.setTop (mkF m 146 #[.val (.int p0), .val (.int p1), .val (.ref b58), .val (.int w94)] [(.int (1 : Int32))])) _
      exact retN X96 hx (t := .boolean) Bd.returns (by simp) (hb hby at_146) hr
    · show Q0 Z p0 p1 h0 n0 _ T96.heap _
      rw [e96]
      exact ⟨rfl, N96⟩
  · obtain ⟨_, _, ⟨T98, L98, k98, n98⟩, -, X98, ⟨Lc98, hQ98, l98, y98, z98⟩, st98⟩ := Jvm.LawKit.callS X90 hx (y := (⟨"farspeak/triple/CallStatus", "grpcStatusOfHttpStatus", "(I)I"⟩ : MethodName)) hown (mvT hZ (hw _ (List.mem_of_getElem? (i := 1) rfl))) (mvT hZ (hw _ (List.mem_of_getElem? (i := 2) rfl))) (mvT hZ (hw _ (List.mem_of_getElem? (i := 3) rfl))) (mvT hZ (hw _ (List.mem_of_getElem? (i := 4) rfl))) (by decide) (backOf (W := 0) (rm1 l Z a0 hw [] p1  h90 n0 Z90 ) hZ (hw _ (List.mem_of_getElem? (i := 4) rfl)) (hw _ (List.mem_of_getElem? (i := 3) rfl)) (by decide) (by decide)) (g := (mkF m 131 #[.val (.int p0), .val (.int p1), .val (.ref b58), .val (.int p1)] [(.int p1)])) rfl (by rw [hml]; rfl) (argsL := [(.int p1)]) (rest := []) (lenOf pd__28I_29I rfl) rfl (by show 2 * 0 + _ ≤ _; exact Nat.le_of_eq rfl) (hb hby at_131) (fun _ _ => ⟨rfl, e90, (by decide : 1 + 0 ≤ _), (by decide : 16 + 0 ≤ _)⟩)
    dsimp only [Pt.U, Pt.locs, Pt.cells, Pt.slots] at X98 l98 y98 z98 st98 hQ98
    subst l98 y98 z98
    obtain ⟨rfl, N98q, e98⟩ := hQ98
    have N98 := Fr.app N90 N98q
    obtain ⟨_, _, ⟨T99, L99, k99, n99⟩, -, X99, ⟨Lc99, hQ99, l99, y99, z99⟩, st99⟩ := Jvm.LawKit.callS X98 hx (y := (⟨"farspeak/triple/CallStatusGrpcStatusOfHttpStatusPinLaw", "expected", "(I)I"⟩ : MethodName)) hown (mvT hZ (hw _ (List.mem_of_getElem? (i := 5) rfl))) (mvT hZ (hw _ (List.mem_of_getElem? (i := 6) rfl))) (mvT hZ (hw _ (List.mem_of_getElem? (i := 7) rfl))) (mvT hZ (hw _ (List.mem_of_getElem? (i := 8) rfl))) (by decide) (backOf (W := 1) (rm2 l Z a0 hw [] p1  h90 n0 Z90 ) hZ (hw _ (List.mem_of_getElem? (i := 8) rfl)) (hw _ (List.mem_of_getElem? (i := 7) rfl)) (by decide) (by decide)) (g := (mkF m 135 #[.val (.int p0), .val (.int p1), .val (.ref b58), .val (.int p1)] [(.int p1), (.int (F1 p1))])) rfl (by rw [hml]; rfl) (argsL := [(.int p1)]) (rest := [(.int (F1 p1))]) (lenOf pd__28I_29I rfl) rfl (by show 2 * 0 + _ ≤ _; exact Nat.le_of_eq rfl) (hb hby at_135) (fun _ _ => ⟨rfl, e98, (by decide : 1 + 0 ≤ _), (by decide : 16 + 0 ≤ _)⟩)
    dsimp only [Pt.U, Pt.locs, Pt.cells, Pt.slots] at X99 l99 y99 z99 st99 hQ99
    subst l99 y99 z99
    obtain ⟨rfl, N99q, e99⟩ := hQ99
    have N99 := Fr.app N98 N99q
    have pre100 : ∀ t, Steps p.tables e below (T99.setTop (mkF m 146 #[.val (.int p0), .val (.int p1), .val (.ref b58), .val (.int p1)] [(.int (1 : Int32))])) t → Steps p.tables e below (s₁.setTop (entryFrame m #[(.int p0), (.int p1)] maxLocals)) t := by
      intro t kk
      refine pre92 t ?_
      show Steps p.tables e below (T90.setTop (mkF m 114 #[.val (.int p0), .val (.int p1), .val (.ref b58), .unset] [(.int (p0 &&& (1 : Int32)))])) _
      refine XS.ifNo X90.here hx rfl (hb hby at_114) rfl ((if0 _ _).trans (feq hc114_91).1) ?_
      show Steps p.tables e below (T90.setTop (mkF m 117 #[.val (.int p0), .val (.int p1), .val (.ref b58), .unset] [])) _
      refine XS.iloadN X90.here hx rfl (hb hby at_117) rfl ?_
      show Steps p.tables e below (T90.setTop (mkF m 118 #[.val (.int p0), .val (.int p1), .val (.ref b58), .unset] [(.int p1)])) _
      refine XS.goto X90.here hx rfl (pc0 := 118) (pc' := 129) rfl (hb hby at_118) (by decide) (by decide) ?_
      show Steps p.tables e below (T90.setTop (mkF m 129 #[.val (.int p0), .val (.int p1), .val (.ref b58), .unset] [(.int p1)])) _
      refine XS.istoreN X90.here hx rfl (hb hby at_129) rfl (l' := #[.val (.int p0), .val (.int p1), .val (.ref b58), .val (.int p1)]) rfl ?_
      show Steps p.tables e below (T90.setTop (mkF m 130 #[.val (.int p0), .val (.int p1), .val (.ref b58), .val (.int p1)] [])) _
      refine XS.iloadN X90.here hx rfl (hb hby at_130) rfl ?_
      show Steps p.tables e below (T90.setTop (mkF m 131 #[.val (.int p0), .val (.int p1), .val (.ref b58), .val (.int p1)] [(.int p1)])) _
      refine st98 _ ?_
      show Steps p.tables e below (T98.setTop (mkF m 134 #[.val (.int p0), .val (.int p1), .val (.ref b58), .val (.int p1)] [(.int (F1 p1))])) _
      refine XS.iloadN X98.here hx rfl (hb hby at_134) rfl ?_
      show Steps p.tables e below (T98.setTop (mkF m 135 #[.val (.int p0), .val (.int p1), .val (.ref b58), .val (.int p1)] [(.int p1), (.int (F1 p1))])) _
      refine st99 _ ?_
      show Steps p.tables e below (T99.setTop (mkF m 138 #[.val (.int p0), .val (.int p1), .val (.ref b58), .val (.int p1)] [(.int (F2 p1)), (.int (F1 p1))])) _
      refine XS.icmpNo X99.here hx rfl (hb hby at_138) rfl (teq (own_law p1)).2 ?_
      show Steps p.tables e below (T99.setTop (mkF m 141 #[.val (.int p0), .val (.int p1), .val (.ref b58), .val (.int p1)] [])) _
      refine XS.iconst X99.here hx rfl (hb hby at_141) ?_
      show Steps p.tables e below (T99.setTop (mkF m 142 #[.val (.int p0), .val (.int p1), .val (.ref b58), .val (.int p1)] [(.int (1 : Int32))])) _
      refine XS.goto X99.here hx rfl (pc0 := 142) (pc' := 146) rfl (hb hby at_142) (by decide) (by decide) ?_
      exact kk
    obtain ⟨fs, hr, hrun, hended, hW, hsame⟩ := X99.leave (v := some (.int (1 : Int32))) (fun h => by rw [Bd.returns] at h; cases h)
    refine ⟨_, _, pre100 _ ?_, hrun, hended, _, _, rfl, ?_, ⟨_, rfl⟩, hW, hsame.mono (by decide) (by decide)⟩
    · show Steps p.tables e below (T99.setTop (mkF m 146 #[.val (.int p0), .val (.int p1), .val (.ref b58), .val (.int p1)] [(.int (1 : Int32))])) _
      exact retN X99 hx (t := .boolean) Bd.returns (by simp) (hb hby at_146) hr
    · show Q0 Z p0 p1 h0 n0 _ T99.heap _
      rw [e99]
      exact ⟨rfl, N99⟩
set_option maxRecDepth 65536 in
set_option maxHeartbeats 40000000 in
theorem comes_1 {Post : Tables → Env → Array Value → State → Outcome → State → Prop} (hpost : ∀ tb e args s v u, (limb_1_1.after args s (.returned v) u = true ∧ limb_1_2.after args s (.returned v) u = true ∧ True) → FrameEnd s (.returned v) u (Jvm.fieldLocs frame_1_writes args s ++ Jvm.arrayLocs frame_1_arrays args s ++ Jvm.staticLocs frame_1_statics s) 16 128 → Post tb e args s (.returned v) u) :
    ArmFor flags0 classFile x code maxLocals ret World_1 tables_1 room_1 Calls_1 rest_1 Pre_1 Post := by
  intro l hfl _ _ p e ha hc hk s m args below hf hA hF happ hP
  obtain ⟨hcalls, hrest, hpre⟩ := hP
  obtain ⟨-, -, -, hnamed, -, -, -, hat⟩ := (Spec.applies_iff hf).mp happ
  obtain ⟨hg, hn⟩ := and_e (Cond.before_iff.mp (show (Jvm.Cond.and given_1 narrow_1).before args s = true from hpre))
  obtain ⟨hcount, hg0⟩ := and_e hg
  obtain ⟨ga0, hg1⟩ := and_e hg0
  have ga1 := hg1
  obtain ⟨w0, w1, rfl⟩ : ∃ w0 w1 : Value, args = #[w0, w1] := by
    have hs : args.size = 2 := by simpa [Cond.value, given_1] using hcount
    obtain ⟨L⟩ := args
    match L, hs with
    | [w0, w1], _ => exact ⟨w0, w1, rfl⟩
  have hw := fun d (hd : d ∈ tables_1) => atoms_spec (ws := Jvm.Cond.code x code maxLocals ret :: tables_1) hat d (List.mem_cons_of_mem _ hd)
  have hfit : Fit s := fun {y c} hc i hi => by
    obtain ⟨ha, rfl⟩ := Array.getElem?_eq_some_iff.mp hc
    have q := List.all_eq_true.mp ((Array.all_eq_true_iff_forall_mem.mp hF) _ (Array.getElem_mem ha)) i (List.mem_range.mpr hi)
    simpa [Array.getElem?_eq_getElem hi] using q
  obtain ⟨i0, ei0⟩ := is_v ga0
  obtain rfl : w0 = (.int i0) := Option.some.inj ei0
  obtain ⟨i1, ei1⟩ := is_v ga1
  obtain rfl : w1 = (.int i1) := Option.some.inj ei1
  obtain ⟨n, o, h1, h2, h3, _, L, rfl, ⟨rfl, N⟩, hq⟩ := rm0 l s _ hw tables_1 i0 i1  s.heap s.heap.size (Nat.le_refl _)  p e ha hc hk s m _ below hf ((Spec.applies_iff_loose hf).mp happ).1 ⟨rfl, State.Warmed39.refl s, rfl⟩ trivial
  refine ⟨n, _, h1, h2, h3, hpost _ _ _ _ _ _ ⟨Cond.after_iff.mpr rfl, Cond.after_iff.mpr (eq_i res_at (Term.int_eval (1)) rfl), trivial⟩ ⟨hq.1, hq.2.1, (hq.2.2.sift fun y hy => Or.inr (N y hy)).mono (by decide) (by decide)⟩⟩
theorem main_1_1 : Claimed_1_1 := comes_1 fun _ _ _ _ _ _ h hF => ⟨h.1, hF⟩
theorem main_1_2 : Claimed_1_2 := comes_1 fun _ _ _ _ _ _ h hF => ⟨h.2.1, hF⟩
end Jvm.Pilot.@@N@@
namespace Jvm.Pilot.@@N@@
open Jvm Jvm.ClassFile Sem Op Lib Jvm.Free Jvm.Stand Jvm.Pilot.@@N@@.Jvm.D
/-! MADE BY PROGRAM (witnessworld.py) out of the Statement's table words and the real class files: 10 classes; the members and pool entries that the words name. The judged class is class 1, her method 1. -/
namespace start1
open Jvm.ClassFile
def u (s : String) : CpInfo := .utf8 (stringToUtf16 s)
/-- a pool by its gaps: so many unusable entries, then the entry; so many at the end -/
def gap : Nat → List CpInfo → List CpInfo
  | 0, r => r
  | n + 1, r => .unusable :: gap n r
def poolList (es : List (Nat × CpInfo)) (last : Nat) : List CpInfo := es.foldr (fun e r => gap e.1 (e.2 :: r)) (gap last [])
def pool (es : List (Nat × CpInfo)) (last : Nat) : Array CpInfo := ⟨poolList es last⟩
def fileOf (pool : Array CpInfo) (this : Nat) (attrs : Array Attribute := #[]) (ms : Array MethodInfo := #[]) (fl : Nat := 33) (sup : Nat := 0) (ifs : Array Nat := #[]) (fds : Array FieldInfo := #[]) : ClassFile where
  minorVersion := 0
  majorVersion := 65
  constantPool := pool
  accessFlags := fl
  thisClass := this
  superClass := sup
  interfaces := ifs
  fields := fds
  methods := ms
  attributes := attrs
def plain (name : String) (sup : Option ClassId) : Class where
  name := name
  kind := .ordinary
  loader := none
  accessFlags := 33
  super := sup
  interfaces := #[]
  cf := none
  fields := #[]
  methods := #[]
  instanceTypes := #[]
  staticTypes := #[]
  resolved := #[]
  callSites := []
  init := .initialized
  statics := none
  mirror := none

def pool0 : Array CpInfo := pool [(5, u "<init>"), (0, u "()V"), (1, .class_ 10), (1, u "java/lang/Object")] 113

def k0m0 : Method := { name := "<init>", desc := "()V", sig := { parameters := [], returnType := none }, accessFlags := 1, code := none }
/-- java/lang/Object -/
def k0 : Class := { plain "java/lang/Object" none with
  accessFlags := 33
  interfaces := #[]
  cf := some (fileOf pool0 8 #[] #[{ accessFlags := 1, nameIndex := 5, descriptorIndex := 6, attributes := #[] }] 33 0 #[] #[])
  fields := #[]
  methods := #[k0m0]
  instanceTypes := #[]
  staticTypes := #[]
  resolved := Array.replicate 124 none
  statics := none }

def pool1 : Array CpInfo := pool [(2, .class_ 4), (1, u "java/lang/Object"), (0, u "<init>"), (0, u "()V"), (0, .methodref 8 9), (0, .class_ 10), (0, .nameAndType 11 12), (0, u "farspeak/triple/CallStatus"), (0, u "grpcStatusOfHttpStatus"), (0, u "(I)I"), (0, .methodref 14 15), (0, .class_ 16), (0, .nameAndType 17 12), (0, u "farspeak/triple/CallStatusGrpcStatusOfHttpStatusPinLaw"), (0, u "expected"), (2, u "law"), (0, u "(II)Z")] 5

def k1m0 : Method := { name := "<init>", desc := "()V", sig := { parameters := [], returnType := none }, accessFlags := 1, code := none }
def k1c1 : Code := { maxStack := 4, maxLocals := 4, code := code, exceptionTable := #[], attributes := #[] }
def k1m1 : Method := { name := "law", desc := "(II)Z", sig := { parameters := [.int, .int], returnType := some .boolean }, accessFlags := 9, code := some k1c1 }
def k1c2 : Code := { maxStack := 2, maxLocals := 1, code := method_3_code, exceptionTable := #[], attributes := #[] }
def k1m2 : Method := { name := "expected", desc := "(I)I", sig := { parameters := [.int], returnType := some .int }, accessFlags := 10, code := some k1c2 }
/-- farspeak/triple/CallStatusGrpcStatusOfHttpStatusPinLaw -/
def k1 : Class := { plain "farspeak/triple/CallStatusGrpcStatusOfHttpStatusPinLaw" (some 0) with
  accessFlags := 49
  interfaces := #[]
  cf := some (fileOf pool1 14 #[] #[{ accessFlags := 1, nameIndex := 5, descriptorIndex := 6, attributes := #[] }, { accessFlags := 9, nameIndex := 20, descriptorIndex := 21, attributes := #[] }, { accessFlags := 10, nameIndex := 17, descriptorIndex := 12, attributes := #[] }] 49 2 #[] #[])
  fields := #[]
  methods := #[k1m0, k1m1, k1m2]
  instanceTypes := #[]
  staticTypes := #[]
  resolved := Array.replicate 27 none
  statics := none }

def pool2 : Array CpInfo := pool [(2, .class_ 4), (1, u "java/lang/Object"), (0, u "<init>"), (0, u "()V"), (0, .class_ 8), (0, u "java/lang/Record")] 13

def k2m0 : Method := { name := "<init>", desc := "()V", sig := { parameters := [], returnType := none }, accessFlags := 4, code := none }
/-- java/lang/Record -/
def k2 : Class := { plain "java/lang/Record" (some 0) with
  accessFlags := 1057
  interfaces := #[]
  cf := some (fileOf pool2 7 #[] #[{ accessFlags := 4, nameIndex := 5, descriptorIndex := 6, attributes := #[] }] 1057 2 #[] #[])
  fields := #[]
  methods := #[k2m0]
  instanceTypes := #[]
  staticTypes := #[]
  resolved := Array.replicate 22 none
  statics := none }

def pool3 : Array CpInfo := pool [(2, .class_ 4), (1, u "java/lang/Record"), (3, .class_ 10), (1, u "farspeak/triple/CallStatus"), (0, u "grpcStatus"), (0, u "I"), (2, u "code"), (0, u "Lfarspeak/rpc/ErrorCode;"), (2, u "message"), (0, u "Ljava/lang/String;"), (4, u "UNKNOWN"), (18, .class_ 46), (1, u "farspeak/triple/CallStatus$1"), (54, u "OK"), (3, u "DEADLINE_EXCEEDED"), (1, u "PERMISSION_DENIED"), (1, u "RESOURCE_EXHAUSTED"), (1, u "UNIMPLEMENTED"), (1, u "INTERNAL"), (1, u "UNAVAILABLE"), (1, u "UNAUTHENTICATED"), (17, u "grpcStatusOfHttpStatus"), (0, u "(I)I")] 26

def k3c0 : Code := { maxStack := 1, maxLocals := 1, code := prog_111_method_11_code, exceptionTable := #[], attributes := #[] }
def k3m0 : Method := { name := "grpcStatusOfHttpStatus", desc := "(I)I", sig := { parameters := [.int], returnType := some .int }, accessFlags := 8, code := some k3c0 }
/-- farspeak/triple/CallStatus -/
def k3 : Class := { plain "farspeak/triple/CallStatus" (some 2) with
  accessFlags := 48
  interfaces := #[]
  cf := some (fileOf pool3 8 #[.nestMembers #[44]] #[{ accessFlags := 8, nameIndex := 135, descriptorIndex := 136, attributes := #[] }] 48 2 #[] #[{ accessFlags := 18, nameIndex := 11, descriptorIndex := 12, attributes := #[] }, { accessFlags := 18, nameIndex := 15, descriptorIndex := 16, attributes := #[] }, { accessFlags := 18, nameIndex := 19, descriptorIndex := 20, attributes := #[] }, { accessFlags := 24, nameIndex := 101, descriptorIndex := 12, attributes := #[] }, { accessFlags := 24, nameIndex := 25, descriptorIndex := 12, attributes := #[] }, { accessFlags := 24, nameIndex := 105, descriptorIndex := 12, attributes := #[] }, { accessFlags := 24, nameIndex := 107, descriptorIndex := 12, attributes := #[] }, { accessFlags := 24, nameIndex := 109, descriptorIndex := 12, attributes := #[] }, { accessFlags := 24, nameIndex := 111, descriptorIndex := 12, attributes := #[] }, { accessFlags := 24, nameIndex := 113, descriptorIndex := 12, attributes := #[] }, { accessFlags := 24, nameIndex := 115, descriptorIndex := 12, attributes := #[] }, { accessFlags := 24, nameIndex := 117, descriptorIndex := 12, attributes := #[] }])
  fields := #[{ name := "grpcStatus", type := .int, accessFlags := 18, slot := 0, constantValue := 0 }, { name := "code", type := (.object "farspeak/rpc/ErrorCode"), accessFlags := 18, slot := 1, constantValue := 0 }, { name := "message", type := (.object "java/lang/String"), accessFlags := 18, slot := 2, constantValue := 0 }, { name := "OK", type := .int, accessFlags := 24, slot := 0, constantValue := 0 }, { name := "UNKNOWN", type := .int, accessFlags := 24, slot := 1, constantValue := 0 }, { name := "DEADLINE_EXCEEDED", type := .int, accessFlags := 24, slot := 2, constantValue := 0 }, { name := "PERMISSION_DENIED", type := .int, accessFlags := 24, slot := 3, constantValue := 0 }, { name := "RESOURCE_EXHAUSTED", type := .int, accessFlags := 24, slot := 4, constantValue := 0 }, { name := "UNIMPLEMENTED", type := .int, accessFlags := 24, slot := 5, constantValue := 0 }, { name := "INTERNAL", type := .int, accessFlags := 24, slot := 6, constantValue := 0 }, { name := "UNAVAILABLE", type := .int, accessFlags := 24, slot := 7, constantValue := 0 }, { name := "UNAUTHENTICATED", type := .int, accessFlags := 24, slot := 8, constantValue := 0 }]
  methods := #[k3m0]
  instanceTypes := #[.int, (.object "farspeak/rpc/ErrorCode"), (.object "java/lang/String")]
  staticTypes := #[.int, .int, .int, .int, .int, .int, .int, .int, .int]
  resolved := Array.replicate 163 none
  statics := none }

def pool4 : Array CpInfo := pool [(1, u "java/lang/Cloneable"), (0, .class_ 1), (0, u "java/lang/Object"), (0, .class_ 3)] 3

/-- java/lang/Cloneable -/
def k4 : Class := { plain "java/lang/Cloneable" (some 0) with
  accessFlags := 1537
  interfaces := #[]
  cf := some (fileOf pool4 2 #[] #[] 1537 4 #[] #[])
  fields := #[]
  methods := #[]
  instanceTypes := #[]
  staticTypes := #[]
  resolved := Array.replicate 8 none
  statics := none }

def pool5 : Array CpInfo := pool [(1, u "java/io/Serializable"), (0, .class_ 1), (0, u "java/lang/Object"), (0, .class_ 3)] 3

/-- java/io/Serializable -/
def k5 : Class := { plain "java/io/Serializable" (some 0) with
  accessFlags := 1537
  interfaces := #[]
  cf := some (fileOf pool5 2 #[] #[] 1537 4 #[] #[])
  fields := #[]
  methods := #[]
  instanceTypes := #[]
  staticTypes := #[]
  resolved := Array.replicate 8 none
  statics := none }

/-- the primitive byte -/
def k6 : Class := { plain "byte" none with kind := .primitive 'B', accessFlags := 0x411 }
/-- [B -/
def k7 : Class := { plain "[B" (some 0) with kind := .array 6 .byte, interfaces := #[4, 5], accessFlags := 1041 }

/-- the primitive int -/
def k8 : Class := { plain "int" none with kind := .primitive 'I', accessFlags := 0x411 }
/-- [I -/
def k9 : Class := { plain "[I" (some 0) with kind := .array 8 .int, interfaces := #[4, 5], accessFlags := 1041 }

def heap : Heap := #[]
def classes : Array Class := #[k0, k1, k2, k3, k4, k5, k6, k7, k8, k9]
def interned : List (Array UInt16 × Addr) := []
def slotsUsed : Nat := 0
def theMethod : MethodId := ⟨1, 1⟩
def args0 : Array Value := #[.int 1, .int 400]
def aboutOver (below : List Frame) : State where
  vm := { classes := classes, interned := interned.toArray }
  heap := heap
  slotsUsed := slotsUsed
  threads := #[{ frames := .invoking theMethod args0 :: below }]
def below0 : List Frame := [.native { method := ⟨0, 0⟩, args := #[] }]
def about1 : State := aboutOver below0
def p0 : Program := .bare "" "" ""
def e0 : Env := launch0.env 0 0 0
theorem w_frames : about1.frames = Frame.invoking theMethod args0 :: below0 := rfl
set_option maxRecDepth 65536 in
theorem w_args : argsFit about1.vm theMethod args0 = true := by decide +kernel
set_option maxRecDepth 65536 in
theorem w_heap : heapFits about1 = true := by decide +kernel
set_option maxRecDepth 65536 in
theorem w_runnable : about1.curStatus? = some .runnable := by decide +kernel
set_option maxRecDepth 65536 in
theorem w_alone : about1.alone = true := by decide +kernel
set_option maxRecDepth 65536 in
theorem w_named : about1.methodNamed? x = some theMethod := by decide +kernel
set_option maxRecDepth 65536 in
theorem w_hears : about1.hears theMethod below0 = true := by decide +kernel
set_option maxRecDepth 65536 in
theorem w_ripe : about1.ripe theMethod args0 below0 = true := by decide +kernel
theorem w_running : about1.status = .running := rfl
set_option maxRecDepth 65536 in
theorem w_room : about1.hasRoom e0.platform room_1 = true :=
  launch0.hasRoom_least _ room_1 (by decide +kernel) (by decide +kernel) (by decide +kernel) (by decide +kernel) (by decide +kernel) (by decide +kernel)
theorem allAtoms_all (ts : List Jvm.Cond) (a : Array Jvm.Value) (st : Jvm.State) : (allAtoms ts).before a st = ts.all (fun c => c.before a st) := by
  induction ts with
  | nil => rfl
  | cons c t ih =>
    show (Jvm.Cond.and c (allAtoms t)).before a st = _
    rw [Jvm.Cond.before_and, ih, List.all_cons]
def words1 : List Jvm.Cond := Jvm.Cond.code x code maxLocals ret :: tables_1
/-- a 'code' word, met by the world's own term for the bytes: nothing is compared byte by byte -/
theorem code_word {y : MethodName} {bytes : ByteArray} {mx : Nat} {rt : Option FieldType} {a : Array Value} {s : State} {m : MethodId} {meth : Method} {c : Code} (h1 : s.methodNamed? y = some m) (h2 : s.vm.method? m = some meth) (h3 : meth.code = some c) (h4 : c.code = bytes)
    (h5 : (c.maxLocals == mx && c.exceptionTable.isEmpty && decide (c.maxStack ≤ mostOperands) && decide (meth.sig.returnType = rt) && !meth.locks && decide (parseMethodDescriptor y.desc = some meth.sig)) = true) : (Jvm.Cond.code y bytes mx rt).before a s = true := by
  simp only [Bool.and_eq_true, beq_iff_eq, Bool.not_eq_true', decide_eq_true_eq] at h5
  obtain ⟨⟨⟨⟨⟨g1, g2⟩, g3⟩, g4⟩, g5⟩, g6⟩ := h5
  simp [Cond.before, Cond.holds, Cond.value, h1, h2, h3, h4, g1, g2, g3, g4, g5, g6]
def isCode : Jvm.Cond → Bool
  | .code _ _ _ _ => true
  | _ => false
theorem all_split {L : List Jvm.Cond} {P : Jvm.Cond → Bool} (h1 : L.all (fun c => isCode c || P c) = true) (h2 : ∀ c ∈ L.filter isCode, P c = true) : L.all P = true := by
  refine List.all_eq_true.mpr fun c hc => ?_
  have h := List.all_eq_true.mp h1 c hc
  rcases Bool.eq_false_or_eq_true (isCode c) with hi | hi
  · exact h2 c (List.mem_filter.mpr ⟨hc, hi⟩)
  · simpa [hi] using h
set_option maxRecDepth 65536 in
theorem w_c0 : (Jvm.Cond.code x code maxLocals ret).before args0 about1 = true := code_word (m := ⟨1, 1⟩) (meth := k1m1) (c := k1c1) (by decide +kernel) rfl rfl rfl (by decide +kernel)
set_option maxRecDepth 65536 in
theorem w_c1 : (Jvm.Cond.code ({ cls := "farspeak/triple/CallStatus", name := "grpcStatusOfHttpStatus", desc := "(I)I" } : Jvm.MethodName) prog_111_method_11_code (1 : Nat) (Option.some Jvm.ClassFile.FieldType.int)).before args0 about1 = true := code_word (m := ⟨3, 0⟩) (meth := k3m0) (c := k3c0) (by decide +kernel) rfl rfl rfl (by decide +kernel)
set_option maxRecDepth 65536 in
theorem w_c2 : (Jvm.Cond.code ({ cls := "farspeak/triple/CallStatusGrpcStatusOfHttpStatusPinLaw", name := "expected", desc := "(I)I" } : Jvm.MethodName) method_3_code (1 : Nat) (Option.some Jvm.ClassFile.FieldType.int)).before args0 about1 = true := code_word (m := ⟨1, 2⟩) (meth := k1m2) (c := k1c2) (by decide +kernel) rfl rfl rfl (by decide +kernel)
def codes1 : List Jvm.Cond := [Jvm.Cond.code x code maxLocals ret, Jvm.Cond.code ({ cls := "farspeak/triple/CallStatus", name := "grpcStatusOfHttpStatus", desc := "(I)I" } : Jvm.MethodName) prog_111_method_11_code (1 : Nat) (Option.some Jvm.ClassFile.FieldType.int), Jvm.Cond.code ({ cls := "farspeak/triple/CallStatusGrpcStatusOfHttpStatusPinLaw", name := "expected", desc := "(I)I" } : Jvm.MethodName) method_3_code (1 : Nat) (Option.some Jvm.ClassFile.FieldType.int)]
set_option maxRecDepth 65536 in
theorem codes_eq : words1.filter isCode = codes1 := rfl
theorem w_codes : ∀ c ∈ words1.filter isCode, c.before args0 about1 = true := by
  rw [codes_eq]
  intro c hc
  simp only [codes1, List.mem_cons, List.not_mem_nil, or_false] at hc
  rcases hc with rfl | rfl | rfl
  · exact w_c0
  · exact w_c1
  · exact w_c2
set_option maxRecDepth 65536 in
theorem w_t1 : words1.all (fun c => isCode c || c.before args0 about1) = true := by decide +kernel
theorem w_tables : (allAtoms (Jvm.Cond.code x code maxLocals ret :: tables_1)).before args0 about1 = true := by
  rw [allAtoms_all]
  show words1.all (fun c => c.before args0 about1) = true
  refine all_split ?_ w_codes
  rw [w_t1]
set_option maxRecDepth 65536 in
theorem w_case : (Jvm.Cond.and given_1 narrow_1).before args0 about1 = true := by decide +kernel
theorem w_applies : (headSpec (Jvm.Cond.code x code maxLocals ret :: tables_1) room_1).applies x e0.platform about1 = true :=
  (Spec.applies_iff w_frames).mpr ⟨w_running, w_runnable, w_alone, w_named, w_hears, w_ripe, w_room, w_tables⟩
theorem atStart : AtStart classFile x code maxLocals ret World_1 tables_1 room_1 Calls_1 rest_1 Pre_1 launch0 p0 e0 about1 theMethod args0 below0 :=
  ⟨lists_1, trivial, launch0.admits_env _ _ _, launch0.least_env, fairChoices_fair.cas, fairChoices_fair.clock, w_frames, w_args, w_heap, w_applies, trivial, trivial, w_case⟩
end start1
theorem witness_1 : WitnessClaimed_1 := ⟨start1.p0, start1.e0, start1.about1, start1.theMethod, start1.args0, start1.below0, start1.atStart⟩
end Jvm.Pilot.@@N@@
