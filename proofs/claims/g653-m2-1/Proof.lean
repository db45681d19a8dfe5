import JvmDerived
import JvmDerived.Pilot.@@N@@Statement
import JvmDerived.Pilot.@@N@@Code
set_option linter.unusedVariables false
set_option linter.unusedSimpArgs false
namespace Jvm.Pilot.@@N@@
open Jvm Jvm.ClassFile Sem Op Lib Jvm.Free Jvm.Stand Jvm.LawKit Jvm.RoadKit Bundle Jvm.Pilot.@@N@@.Jvm.D
theorem own_fld {s : State} {args : Array Value} {t : Term} {a : Addr} {C f d : String} {z : Int32} (ev : t.eval args s none [] s = some (.ref a)) (h : (Jvm.Cond.eq (Term.field t C f d) (Term.int z)).value args s none s [] = some true) : Fld s s.heap a C f d (.int z) := by
  obtain ⟨v, h1, h2⟩ := Cond.eq_worth h
  rw [fld_at ev] at h1
  have h3 : some (Value.int z) = some v := h2
  cases h3
  exact Fld.start h1
def own_sel (v : Int32) (wUNKNOWN wNETWORK wTIMEOUT wBIZ wFORBIDDEN wSERIALIZATION wNO_PROVIDER wLIMIT : Addr) : Addr := [wUNKNOWN, wNETWORK, wTIMEOUT, wBIZ, wFORBIDDEN, wSERIALIZATION, wNO_PROVIDER, wLIMIT].getD v.toNatClampNeg wUNKNOWN
theorem own_get (wUNKNOWN wNETWORK wTIMEOUT wBIZ wFORBIDDEN wSERIALIZATION wNO_PROVIDER wLIMIT : Addr) : ∀ n : Nat, n < 8 → ([(.ref wUNKNOWN), (.ref wNETWORK), (.ref wTIMEOUT), (.ref wBIZ), (.ref wFORBIDDEN), (.ref wSERIALIZATION), (.ref wNO_PROVIDER), (.ref wLIMIT)] : List Value).getD n .null = .ref ([wUNKNOWN, wNETWORK, wTIMEOUT, wBIZ, wFORBIDDEN, wSERIALIZATION, wNO_PROVIDER, wLIMIT].getD n wUNKNOWN)
  | 0, _ => rfl
  | 1, _ => rfl
  | 2, _ => rfl
  | 3, _ => rfl
  | 4, _ => rfl
  | 5, _ => rfl
  | 6, _ => rfl
  | 7, _ => rfl
  | n + 8, h => absurd h (by omega)
theorem own_nat (v : Int32) (h1 : ¬ v < (0 : Int32)) (h2 : v < (8 : Int32)) : v.toNatClampNeg < 8 := by
  rw [Int32.lt_iff_toInt_lt, show (0 : Int32).toInt = 0 by decide] at h1
  rw [Int32.lt_iff_toInt_lt, show (8 : Int32).toInt = 8 by decide] at h2
  show v.toInt.toNat < 8
  omega
theorem own_cases (v : Int32) (h1 : ¬ v < (0 : Int32)) (h2 : ¬ (7 : Int32) < v) : v = 0 ∨ v = 1 ∨ v = 2 ∨ v = 3 ∨ v = 4 ∨ v = 5 ∨ v = 6 ∨ v = 7 := by
  rw [Int32.lt_iff_toInt_lt, show (0 : Int32).toInt = 0 by decide] at h1
  rw [Int32.lt_iff_toInt_lt, show (7 : Int32).toInt = 7 by decide] at h2
  simp only [← Int32.toInt_inj, show (0 : Int32).toInt = 0 by decide, show (1 : Int32).toInt = 1 by decide, show (2 : Int32).toInt = 2 by decide, show (3 : Int32).toInt = 3 by decide, show (4 : Int32).toInt = 4 by decide, show (5 : Int32).toInt = 5 by decide, show (6 : Int32).toInt = 6 by decide, show (7 : Int32).toInt = 7 by decide]
  omega
def F1 (p0 : Int32) (wBY_VALUE : Addr) (wUNKNOWN : Addr) (wNETWORK : Addr) (wTIMEOUT : Addr) (wBIZ : Addr) (wFORBIDDEN : Addr) (wSERIALIZATION : Addr) (wNO_PROVIDER : Addr) (wLIMIT : Addr) (kBY : ClassId) : Addr := (if p0 < (0 : Int32) then wUNKNOWN else (if p0 < (8 : Int32) then (own_sel p0 wUNKNOWN wNETWORK wTIMEOUT wBIZ wFORBIDDEN wSERIALIZATION wNO_PROVIDER wLIMIT) else wUNKNOWN))
theorem d1_0 : decode prog_76_method_5_code 0 = .ok (.iload_n 0, 1) := by decide +kernel
theorem d1_1 : decode prog_76_method_5_code 1 = .ok (.ifCond .lt 19, 3) := by decide +kernel
theorem d1_4 : decode prog_76_method_5_code 4 = .ok (.iload_n 0, 1) := by decide +kernel
theorem d1_5 : decode prog_76_method_5_code 5 = .ok (.getstatic 51, 3) := by decide +kernel
theorem d1_8 : decode prog_76_method_5_code 8 = .ok (.arraylength, 1) := by decide +kernel
theorem d1_9 : decode prog_76_method_5_code 9 = .ok (.if_icmp .ge 11, 3) := by decide +kernel
theorem d1_12 : decode prog_76_method_5_code 12 = .ok (.getstatic 51, 3) := by decide +kernel
theorem d1_15 : decode prog_76_method_5_code 15 = .ok (.iload_n 0, 1) := by decide +kernel
theorem d1_16 : decode prog_76_method_5_code 16 = .ok (.aaload, 1) := by decide +kernel
theorem d1_17 : decode prog_76_method_5_code 17 = .ok (.goto 6, 3) := by decide +kernel
theorem d1_20 : decode prog_76_method_5_code 20 = .ok (.getstatic 3, 3) := by decide +kernel
theorem d1_23 : decode prog_76_method_5_code 23 = .ok (.areturn, 1) := by decide +kernel
theorem pn_farspeak_rpc_ErrorCode : plainName "farspeak/rpc/ErrorCode" = true := by first | (simp [plainName, overriddenIn]; done) | decide +kernel
theorem ef_1_I (m : MethodId) (x0 : Int32) : entryFrame m #[(.int x0)] 1 = mkF m 0 #[.val (.int x0)] [] := by first | (simp [entryFrame, mkF, argsToLocals, Value.category]; done) | rfl
def Q1 (Z : State) (p0 : Int32) (wBY_VALUE : Addr) (wUNKNOWN : Addr) (wNETWORK : Addr) (wTIMEOUT : Addr) (wBIZ : Addr) (wFORBIDDEN : Addr) (wSERIALIZATION : Addr) (wNO_PROVIDER : Addr) (wLIMIT : Addr) (kBY : ClassId) (h0 : Heap) (n0 : Nat) (v : Option Value) (h : Heap) (L : List Loc) : Prop := v = some (.ref (F1 p0 wBY_VALUE wUNKNOWN wNETWORK wTIMEOUT wBIZ wFORBIDDEN wSERIALIZATION wNO_PROVIDER wLIMIT kBY)) ∧ Fr n0 L ∧ h = h0
set_option maxRecDepth 65536 in
set_option maxHeartbeats 40000000 in
theorem rm1 (l : Launch) (Z : State) (a0 : Array Value) (hw : ∀ d ∈ tables_1, d.before a0 Z = true) (ws : List Jvm.Cond) (p0 : Int32) (wBY_VALUE : Addr) (wUNKNOWN : Addr) (wNETWORK : Addr) (wTIMEOUT : Addr) (wBIZ : Addr) (wFORBIDDEN : Addr) (wSERIALIZATION : Addr) (wNO_PROVIDER : Addr) (wLIMIT : Addr) (kBY : ClassId) (h0 : Heap) (n0 : Nat) (Z0 : n0 ≤ h0.size) (O0 : Old Z n0 h0) (S_BY_VALUE : Sta Z Z.heap "farspeak/rpc/ErrorCode" "BY_VALUE" "[Lfarspeak/rpc/ErrorCode;" (.ref wBY_VALUE)) (S_UNKNOWN : Sta Z Z.heap "farspeak/rpc/ErrorCode" "UNKNOWN" "Lfarspeak/rpc/ErrorCode;" (.ref wUNKNOWN)) (V_BY : Arv Z Z.heap wBY_VALUE kBY (.object "farspeak/rpc/ErrorCode") (8 : Int32) [(.ref wUNKNOWN), (.ref wNETWORK), (.ref wTIMEOUT), (.ref wBIZ), (.ref wFORBIDDEN), (.ref wSERIALIZATION), (.ref wNO_PROVIDER), (.ref wLIMIT)] .null) :
    MetFree l (⟨"farspeak/rpc/ErrorCode", "fromValue", "(I)Lfarspeak/rpc/ErrorCode;"⟩ : MethodName) (head1 (Jvm.Cond.code (⟨"farspeak/rpc/ErrorCode", "fromValue", "(I)Lfarspeak/rpc/ErrorCode;"⟩ : MethodName) prog_76_method_5_code 1 (some (.object "farspeak/rpc/ErrorCode")) :: ws) ({ frames := 0, cells := 0, slots := 0, locals := 0 } : Room)) (fun a U => a = #[(.int p0)] ∧ Z.Warmed39 U.vm ∧ U.heap = h0) (fun _ _ _ _ _ => True) (fun _ U o U' => ∃ v L, o = .returned v ∧ Q1 Z p0 wBY_VALUE wUNKNOWN wNETWORK wTIMEOUT wBIZ wFORBIDDEN wSERIALIZATION wNO_PROVIDER wLIMIT kBY h0 n0 v U'.heap L ∧ FrameEnd U o U' L ({ frames := 0, cells := 0, slots := 0, locals := 0 } : Room).cells ({ frames := 0, cells := 0, slots := 0, locals := 0 } : Room).slots) := by
  refine MetFree.of_bodySF (plainFor_of_name pn_farspeak_rpc_ErrorCode) hisR ?_
  intro p e s m args below meth c s₁ Bd hml0 hP hK
  obtain ⟨rfl, hZ, hh⟩ := hP
  have hx := Bd.exec
  have hby := Bd.bytes
  have hml : c.maxLocals = 1 := hml0
  have hown : s.vm.findClass "farspeak/rpc/ErrorCode" = some m.cls := findClass_of_methodNamed Bd.named
  have hnm := (name_of_methodNamed Bd.named Bd.method).1
  have X0 : Stand p l e ({ frames := 0, cells := 0, slots := 0, locals := 0 } : Room) s m #[(.int p0)] below meth c s₁ [] 0 0 := Stand.of_body Bd
  have e0 : s₁.heap = h0 := by rw [← hh, Bd.state]; rfl
  have N0 := Fr.nil n0
  have KP0 : Keep h0 h0 [] := Keep.refl h0 _
  have pre0 : ∀ t, Steps p.tables e below (s₁.setTop (mkF m 0 #[.val (.int p0)] [])) t → Steps p.tables e below (s₁.setTop (entryFrame m #[(.int p0)] 1)) t := fun t k => castTop (ef_1_I m p0) k
  have pre2 : ∀ t, Steps p.tables e below (s₁.setTop (mkF m 1 #[.val (.int p0)] [(.int p0)])) t → Steps p.tables e below (s₁.setTop (entryFrame m #[(.int p0)] 1)) t := by
    intro t kk
    refine pre0 t ?_
    show Steps p.tables e below (s₁.setTop (mkF m 0 #[.val (.int p0)] [])) _
    refine XS.iloadN X0.here hx rfl (hb hby d1_0) rfl ?_
    exact kk
  by_cases hc1_1 : p0 < (0 : Int32)
  · obtain ⟨T3, X3, e3, st3⟩ := getS2 X0 hx hZ hown (host := "") (Or.inl (hw _ (List.mem_of_getElem? (i := 19) rfl))) Via.refl e0 (S_UNKNOWN.ext O0.2) (g := (mkF m 20 #[.val (.int p0)] [])) rfl (hb hby d1_20)
    have hF4 : (F1 p0 wBY_VALUE wUNKNOWN wNETWORK wTIMEOUT wBIZ wFORBIDDEN wSERIALIZATION wNO_PROVIDER wLIMIT kBY) = wUNKNOWN := (if_pos hc1_1)
    have pre5 : ∀ t, Steps p.tables e below (T3.setTop (mkF m 23 #[.val (.int p0)] [(.ref wUNKNOWN)])) t → Steps p.tables e below (s₁.setTop (entryFrame m #[(.int p0)] 1)) t := by
      intro t kk
      refine pre2 t ?_
      show Steps p.tables e below (s₁.setTop (mkF m 1 #[.val (.int p0)] [(.int p0)])) _
      refine XS.ifYes X0.here hx rfl (pc0 := 1) (pc' := 20) rfl (hb hby d1_1) rfl ((if0 _ _).trans (tlt hc1_1).1) (by decide) (by decide) ?_
      show Steps p.tables e below (s₁.setTop (mkF m 20 #[.val (.int p0)] [])) _
      refine st3 _ ?_
      exact kk
    obtain ⟨fs, hr, hrun, hended, hW, hsame⟩ := X3.leave (v := some (.ref wUNKNOWN)) (fun h => by rw [Bd.returns] at h; cases h)
    refine ⟨_, _, pre5 _ ?_, hrun, hended, _, _, rfl, ?_, ⟨_, rfl⟩, hW, hsame.mono (by decide) (by decide)⟩
    · show Steps p.tables e below (T3.setTop (mkF m 23 #[.val (.int p0)] [(.ref wUNKNOWN)])) _
      exact retOut X3 hx Bd.returns rfl (Or.inr (Or.inr (Or.inr (Or.inr ⟨rfl, rfl, rfl⟩)))) (hb hby d1_23) hr
    · show Q1 Z p0 wBY_VALUE wUNKNOWN wNETWORK wTIMEOUT wBIZ wFORBIDDEN wSERIALIZATION wNO_PROVIDER wLIMIT kBY h0 n0 _ T3.heap _
      rw [e3]
      exact ⟨congrArg (fun z => some (Value.ref z)) hF4.symm, N0, rfl⟩
  · obtain ⟨T6, X6, e6, st6⟩ := getS2 X0 hx hZ hown (host := "") (Or.inl (hw _ (List.mem_of_getElem? (i := 4) rfl))) Via.refl e0 (S_BY_VALUE.ext O0.2) (g := (mkF m 5 #[.val (.int p0)] [(.int p0)])) rfl (hb hby d1_5)
    obtain ⟨cl7, Ar7, -, S7, N7v, -, -⟩ := (V_BY.ext O0.2)
    have pre9 : ∀ t, Steps p.tables e below (T6.setTop (mkF m 9 #[.val (.int p0)] [(.int (8 : Int32)), (.int p0)])) t → Steps p.tables e below (s₁.setTop (entryFrame m #[(.int p0)] 1)) t := by
      intro t kk
      refine pre2 t ?_
      show Steps p.tables e below (s₁.setTop (mkF m 1 #[.val (.int p0)] [(.int p0)])) _
      refine XS.ifNo X0.here hx rfl (hb hby d1_1) rfl ((if0 _ _).trans (flt hc1_1).1) ?_
      show Steps p.tables e below (s₁.setTop (mkF m 4 #[.val (.int p0)] [])) _
      refine XS.iloadN X0.here hx rfl (hb hby d1_4) rfl ?_
      show Steps p.tables e below (s₁.setTop (mkF m 5 #[.val (.int p0)] [(.int p0)])) _
      refine st6 _ ?_
      show Steps p.tables e below (T6.setTop (mkF m 8 #[.val (.int p0)] [(.ref wBY_VALUE), (.int p0)])) _
      refine X6.arraylength hx (by rw [e6]; exact Ar7.1) (State.isArrayOf_alike hZ.alike Ar7.2.1) (g := (mkF m 8 #[.val (.int p0)] [(.ref wBY_VALUE), (.int p0)])) rfl rfl (hb hby d1_8) _ ?_
      rw [len_of S7 N7v]
      exact kk
    by_cases hc9_8 : p0 < (8 : Int32)
    · obtain ⟨T10, X10, e10, st10⟩ := getS2 X6 hx hZ hown (host := "") (Or.inl (hw _ (List.mem_of_getElem? (i := 4) rfl))) Via.refl e6 (S_BY_VALUE.ext O0.2) (g := (mkF m 12 #[.val (.int p0)] [])) rfl (hb hby d1_12)
      obtain ⟨cl11, Ar11, q11, S11, N11v, H11, G11⟩ := (V_BY.ext O0.2)
      have hin11 : ¬ (p0 < 0 ∨ cl11.slots.size ≤ (p0).toNatClampNeg) := inb_of S11 ⟨hc1_1, hc9_8⟩
      have hat11 : cl11.slots[(p0).toNatClampNeg]? = some (.ref (own_sel p0 wUNKNOWN wNETWORK wTIMEOUT wBIZ wFORBIDDEN wSERIALIZATION wNO_PROVIDER wLIMIT)) := Has.at H11 hin11 (own_get wUNKNOWN wNETWORK wTIMEOUT wBIZ wFORBIDDEN wSERIALIZATION wNO_PROVIDER wLIMIT _ (own_nat p0 hc1_1 hc9_8))
      have hF12 : (F1 p0 wBY_VALUE wUNKNOWN wNETWORK wTIMEOUT wBIZ wFORBIDDEN wSERIALIZATION wNO_PROVIDER wLIMIT kBY) = (own_sel p0 wUNKNOWN wNETWORK wTIMEOUT wBIZ wFORBIDDEN wSERIALIZATION wNO_PROVIDER wLIMIT) := ((if_neg hc1_1).trans (if_pos hc9_8))
      have pre13 : ∀ t, Steps p.tables e below (T10.setTop (mkF m 23 #[.val (.int p0)] [(.ref (own_sel p0 wUNKNOWN wNETWORK wTIMEOUT wBIZ wFORBIDDEN wSERIALIZATION wNO_PROVIDER wLIMIT))])) t → Steps p.tables e below (s₁.setTop (entryFrame m #[(.int p0)] 1)) t := by
        intro t kk
        refine pre9 t ?_
        show Steps p.tables e below (T6.setTop (mkF m 9 #[.val (.int p0)] [(.int (8 : Int32)), (.int p0)])) _
        refine XS.icmpNo X6.here hx rfl (hb hby d1_9) rfl (tlt hc9_8).2.1 ?_
        show Steps p.tables e below (T6.setTop (mkF m 12 #[.val (.int p0)] [])) _
        refine st10 _ ?_
        show Steps p.tables e below (T10.setTop (mkF m 15 #[.val (.int p0)] [(.ref wBY_VALUE)])) _
        refine XS.iloadN X10.here hx rfl (hb hby d1_15) rfl ?_
        show Steps p.tables e below (T10.setTop (mkF m 16 #[.val (.int p0)] [(.int p0), (.ref wBY_VALUE)])) _
        refine X10.aaload hx (j := p0) (v := (.ref (own_sel p0 wUNKNOWN wNETWORK wTIMEOUT wBIZ wFORBIDDEN wSERIALIZATION wNO_PROVIDER wLIMIT))) (by rw [e10]; exact Ar11.1) (State.isArrayOf_alike hZ.alike Ar11.2.1) rfl Ar11.2.2 hin11 hat11 (g := (mkF m 16 #[.val (.int p0)] [(.int p0), (.ref wBY_VALUE)])) rfl rfl (hb hby d1_16) _ ?_
        show Steps p.tables e below (T10.setTop (mkF m 17 #[.val (.int p0)] [(.ref (own_sel p0 wUNKNOWN wNETWORK wTIMEOUT wBIZ wFORBIDDEN wSERIALIZATION wNO_PROVIDER wLIMIT))])) _
        refine XS.goto X10.here hx rfl (pc0 := 17) (pc' := 23) rfl (hb hby d1_17) (by decide) (by decide) ?_
        exact kk
      obtain ⟨fs, hr, hrun, hended, hW, hsame⟩ := X10.leave (v := some (.ref (own_sel p0 wUNKNOWN wNETWORK wTIMEOUT wBIZ wFORBIDDEN wSERIALIZATION wNO_PROVIDER wLIMIT))) (fun h => by rw [Bd.returns] at h; cases h)
      refine ⟨_, _, pre13 _ ?_, hrun, hended, _, _, rfl, ?_, ⟨_, rfl⟩, hW, hsame.mono (by decide) (by decide)⟩
      · show Steps p.tables e below (T10.setTop (mkF m 23 #[.val (.int p0)] [(.ref (own_sel p0 wUNKNOWN wNETWORK wTIMEOUT wBIZ wFORBIDDEN wSERIALIZATION wNO_PROVIDER wLIMIT))])) _
        exact retOut X10 hx Bd.returns rfl (Or.inr (Or.inr (Or.inr (Or.inr ⟨rfl, rfl, rfl⟩)))) (hb hby d1_23) hr
      · show Q1 Z p0 wBY_VALUE wUNKNOWN wNETWORK wTIMEOUT wBIZ wFORBIDDEN wSERIALIZATION wNO_PROVIDER wLIMIT kBY h0 n0 _ T10.heap _
        rw [e10]
        exact ⟨congrArg (fun z => some (Value.ref z)) hF12.symm, N0, rfl⟩
    · obtain ⟨T14, X14, e14, st14⟩ := getS2 X6 hx hZ hown (host := "") (Or.inl (hw _ (List.mem_of_getElem? (i := 19) rfl))) Via.refl e6 (S_UNKNOWN.ext O0.2) (g := (mkF m 20 #[.val (.int p0)] [])) rfl (hb hby d1_20)
      have hF15 : (F1 p0 wBY_VALUE wUNKNOWN wNETWORK wTIMEOUT wBIZ wFORBIDDEN wSERIALIZATION wNO_PROVIDER wLIMIT kBY) = wUNKNOWN := ((if_neg hc1_1).trans (if_neg hc9_8))
      have pre16 : ∀ t, Steps p.tables e below (T14.setTop (mkF m 23 #[.val (.int p0)] [(.ref wUNKNOWN)])) t → Steps p.tables e below (s₁.setTop (entryFrame m #[(.int p0)] 1)) t := by
        intro t kk
        refine pre9 t ?_
        show Steps p.tables e below (T6.setTop (mkF m 9 #[.val (.int p0)] [(.int (8 : Int32)), (.int p0)])) _
        refine XS.icmpYes X6.here hx rfl (pc0 := 9) (pc' := 20) rfl (hb hby d1_9) rfl (flt hc9_8).2.1 (by decide) (by decide) ?_
        show Steps p.tables e below (T6.setTop (mkF m 20 #[.val (.int p0)] [])) _
        refine st14 _ ?_
        exact kk
      obtain ⟨fs, hr, hrun, hended, hW, hsame⟩ := X14.leave (v := some (.ref wUNKNOWN)) (fun h => by rw [Bd.returns] at h; cases h)
      refine ⟨_, _, pre16 _ ?_, hrun, hended, _, _, rfl, ?_, ⟨_, rfl⟩, hW, hsame.mono (by decide) (by decide)⟩
      · show Steps p.tables e below (T14.setTop (mkF m 23 #[.val (.int p0)] [(.ref wUNKNOWN)])) _
        exact retOut X14 hx Bd.returns rfl (Or.inr (Or.inr (Or.inr (Or.inr ⟨rfl, rfl, rfl⟩)))) (hb hby d1_23) hr
      · show Q1 Z p0 wBY_VALUE wUNKNOWN wNETWORK wTIMEOUT wBIZ wFORBIDDEN wSERIALIZATION wNO_PROVIDER wLIMIT kBY h0 n0 _ T14.heap _
        rw [e14]
        exact ⟨congrArg (fun z => some (Value.ref z)) hF15.symm, N0, rfl⟩
def F2 (p0 : Int32) (wUNKNOWN : Addr) (wNETWORK : Addr) (wTIMEOUT : Addr) (wBIZ : Addr) (wFORBIDDEN : Addr) (wSERIALIZATION : Addr) (wNO_PROVIDER : Addr) (wLIMIT : Addr) : Addr := (if p0 = (1 : Int32) then wNETWORK else (if p0 = (2 : Int32) then wTIMEOUT else (if p0 = (3 : Int32) then wBIZ else (if p0 = (4 : Int32) then wFORBIDDEN else (if p0 = (5 : Int32) then wSERIALIZATION else (if p0 = (6 : Int32) then wNO_PROVIDER else (if p0 = (7 : Int32) then wLIMIT else wUNKNOWN)))))))
theorem d2_0 : decode method_2_code 0 = .ok (.iload_n 0, 1) := by decide +kernel
theorem d2_1 : decode method_2_code 1 = .ok (.iconst 1, 1) := by decide +kernel
theorem d2_2 : decode method_2_code 2 = .ok (.if_icmp .ne 7, 3) := by decide +kernel
theorem d2_5 : decode method_2_code 5 = .ok (.getstatic 7, 3) := by decide +kernel
theorem d2_8 : decode method_2_code 8 = .ok (.areturn, 1) := by decide +kernel
theorem d2_9 : decode method_2_code 9 = .ok (.iload_n 0, 1) := by decide +kernel
theorem d2_10 : decode method_2_code 10 = .ok (.iconst 2, 1) := by decide +kernel
theorem d2_11 : decode method_2_code 11 = .ok (.if_icmp .ne 7, 3) := by decide +kernel
theorem d2_14 : decode method_2_code 14 = .ok (.getstatic 13, 3) := by decide +kernel
theorem d2_17 : decode method_2_code 17 = .ok (.areturn, 1) := by decide +kernel
theorem d2_18 : decode method_2_code 18 = .ok (.iload_n 0, 1) := by decide +kernel
theorem d2_19 : decode method_2_code 19 = .ok (.iconst 3, 1) := by decide +kernel
theorem d2_20 : decode method_2_code 20 = .ok (.if_icmp .ne 7, 3) := by decide +kernel
theorem d2_23 : decode method_2_code 23 = .ok (.getstatic 16, 3) := by decide +kernel
theorem d2_26 : decode method_2_code 26 = .ok (.areturn, 1) := by decide +kernel
theorem d2_27 : decode method_2_code 27 = .ok (.iload_n 0, 1) := by decide +kernel
theorem d2_28 : decode method_2_code 28 = .ok (.iconst 4, 1) := by decide +kernel
theorem d2_29 : decode method_2_code 29 = .ok (.if_icmp .ne 7, 3) := by decide +kernel
theorem d2_32 : decode method_2_code 32 = .ok (.getstatic 19, 3) := by decide +kernel
theorem d2_35 : decode method_2_code 35 = .ok (.areturn, 1) := by decide +kernel
theorem d2_36 : decode method_2_code 36 = .ok (.iload_n 0, 1) := by decide +kernel
theorem d2_37 : decode method_2_code 37 = .ok (.iconst 5, 1) := by decide +kernel
theorem d2_38 : decode method_2_code 38 = .ok (.if_icmp .ne 7, 3) := by decide +kernel
theorem d2_41 : decode method_2_code 41 = .ok (.getstatic 22, 3) := by decide +kernel
theorem d2_44 : decode method_2_code 44 = .ok (.areturn, 1) := by decide +kernel
theorem d2_45 : decode method_2_code 45 = .ok (.iload_n 0, 1) := by decide +kernel
theorem d2_46 : decode method_2_code 46 = .ok (.bipush 6, 2) := by decide +kernel
theorem d2_48 : decode method_2_code 48 = .ok (.if_icmp .ne 7, 3) := by decide +kernel
theorem d2_51 : decode method_2_code 51 = .ok (.getstatic 25, 3) := by decide +kernel
theorem d2_54 : decode method_2_code 54 = .ok (.areturn, 1) := by decide +kernel
theorem d2_55 : decode method_2_code 55 = .ok (.iload_n 0, 1) := by decide +kernel
theorem d2_56 : decode method_2_code 56 = .ok (.bipush 7, 2) := by decide +kernel
theorem d2_58 : decode method_2_code 58 = .ok (.if_icmp .ne 7, 3) := by decide +kernel
theorem d2_61 : decode method_2_code 61 = .ok (.getstatic 28, 3) := by decide +kernel
theorem d2_64 : decode method_2_code 64 = .ok (.areturn, 1) := by decide +kernel
theorem d2_65 : decode method_2_code 65 = .ok (.getstatic 31, 3) := by decide +kernel
theorem d2_68 : decode method_2_code 68 = .ok (.areturn, 1) := by decide +kernel
theorem pn_farspeak_rpc_ErrorCodeFromValuePinLaw : plainName "farspeak/rpc/ErrorCodeFromValuePinLaw" = true := by first | (simp [plainName, overriddenIn]; done) | decide +kernel
theorem ef_2_I (m : MethodId) (x0 : Int32) : entryFrame m #[(.int x0)] 1 = mkF m 0 #[.val (.int x0)] [] := by first | (simp [entryFrame, mkF, argsToLocals, Value.category]; done) | rfl
def Q2 (Z : State) (p0 : Int32) (wUNKNOWN : Addr) (wNETWORK : Addr) (wTIMEOUT : Addr) (wBIZ : Addr) (wFORBIDDEN : Addr) (wSERIALIZATION : Addr) (wNO_PROVIDER : Addr) (wLIMIT : Addr) (h0 : Heap) (n0 : Nat) (v : Option Value) (h : Heap) (L : List Loc) : Prop := v = some (.ref (F2 p0 wUNKNOWN wNETWORK wTIMEOUT wBIZ wFORBIDDEN wSERIALIZATION wNO_PROVIDER wLIMIT)) ∧ Fr n0 L ∧ h = h0
set_option maxRecDepth 65536 in
set_option maxHeartbeats 40000000 in
theorem rm2 (l : Launch) (Z : State) (a0 : Array Value) (hw : ∀ d ∈ tables_1, d.before a0 Z = true) (ws : List Jvm.Cond) (p0 : Int32) (wUNKNOWN : Addr) (wNETWORK : Addr) (wTIMEOUT : Addr) (wBIZ : Addr) (wFORBIDDEN : Addr) (wSERIALIZATION : Addr) (wNO_PROVIDER : Addr) (wLIMIT : Addr) (h0 : Heap) (n0 : Nat) (Z0 : n0 ≤ h0.size) (O0 : Old Z n0 h0) (S_UNKNOWN : Sta Z Z.heap "farspeak/rpc/ErrorCode" "UNKNOWN" "Lfarspeak/rpc/ErrorCode;" (.ref wUNKNOWN)) (S_NETWORK : Sta Z Z.heap "farspeak/rpc/ErrorCode" "NETWORK" "Lfarspeak/rpc/ErrorCode;" (.ref wNETWORK)) (S_TIMEOUT : Sta Z Z.heap "farspeak/rpc/ErrorCode" "TIMEOUT" "Lfarspeak/rpc/ErrorCode;" (.ref wTIMEOUT)) (S_BIZ : Sta Z Z.heap "farspeak/rpc/ErrorCode" "BIZ" "Lfarspeak/rpc/ErrorCode;" (.ref wBIZ)) (S_FORBIDDEN : Sta Z Z.heap "farspeak/rpc/ErrorCode" "FORBIDDEN" "Lfarspeak/rpc/ErrorCode;" (.ref wFORBIDDEN)) (S_SERIALIZATION : Sta Z Z.heap "farspeak/rpc/ErrorCode" "SERIALIZATION" "Lfarspeak/rpc/ErrorCode;" (.ref wSERIALIZATION)) (S_NO_PROVIDER : Sta Z Z.heap "farspeak/rpc/ErrorCode" "NO_PROVIDER" "Lfarspeak/rpc/ErrorCode;" (.ref wNO_PROVIDER)) (S_LIMIT : Sta Z Z.heap "farspeak/rpc/ErrorCode" "LIMIT" "Lfarspeak/rpc/ErrorCode;" (.ref wLIMIT)) :
    MetFree l (⟨"farspeak/rpc/ErrorCodeFromValuePinLaw", "expected", "(I)Lfarspeak/rpc/ErrorCode;"⟩ : MethodName) (head1 (Jvm.Cond.code (⟨"farspeak/rpc/ErrorCodeFromValuePinLaw", "expected", "(I)Lfarspeak/rpc/ErrorCode;"⟩ : MethodName) method_2_code 1 (some (.object "farspeak/rpc/ErrorCode")) :: ws) ({ frames := 0, cells := 0, slots := 0, locals := 0 } : Room)) (fun a U => a = #[(.int p0)] ∧ Z.Warmed39 U.vm ∧ U.heap = h0) (fun _ _ _ _ _ => True) (fun _ U o U' => ∃ v L, o = .returned v ∧ Q2 Z p0 wUNKNOWN wNETWORK wTIMEOUT wBIZ wFORBIDDEN wSERIALIZATION wNO_PROVIDER wLIMIT h0 n0 v U'.heap L ∧ FrameEnd U o U' L ({ frames := 0, cells := 0, slots := 0, locals := 0 } : Room).cells ({ frames := 0, cells := 0, slots := 0, locals := 0 } : Room).slots) := by
  refine MetFree.of_bodySF (plainFor_of_name pn_farspeak_rpc_ErrorCodeFromValuePinLaw) hisR ?_
  intro p e s m args below meth c s₁ Bd hml0 hP hK
  obtain ⟨rfl, hZ, hh⟩ := hP
  have hx := Bd.exec
  have hby := Bd.bytes
  have hml : c.maxLocals = 1 := hml0
  have hown : s.vm.findClass "farspeak/rpc/ErrorCodeFromValuePinLaw" = some m.cls := findClass_of_methodNamed Bd.named
  have hnm := (name_of_methodNamed Bd.named Bd.method).1
  have X0 : Stand p l e ({ frames := 0, cells := 0, slots := 0, locals := 0 } : Room) s m #[(.int p0)] below meth c s₁ [] 0 0 := Stand.of_body Bd
  have e0 : s₁.heap = h0 := by rw [← hh, Bd.state]; rfl
  have N0 := Fr.nil n0
  have KP0 : Keep h0 h0 [] := Keep.refl h0 _
  have pre0 : ∀ t, Steps p.tables e below (s₁.setTop (mkF m 0 #[.val (.int p0)] [])) t → Steps p.tables e below (s₁.setTop (entryFrame m #[(.int p0)] 1)) t := fun t k => castTop (ef_2_I m p0) k
  have pre18 : ∀ t, Steps p.tables e below (s₁.setTop (mkF m 2 #[.val (.int p0)] [(.int (1 : Int32)), (.int p0)])) t → Steps p.tables e below (s₁.setTop (entryFrame m #[(.int p0)] 1)) t := by
    intro t kk
    refine pre0 t ?_
    show Steps p.tables e below (s₁.setTop (mkF m 0 #[.val (.int p0)] [])) _
    refine XS.iloadN X0.here hx rfl (hb hby d2_0) rfl ?_
    show Steps p.tables e below (s₁.setTop (mkF m 1 #[.val (.int p0)] [(.int p0)])) _
    refine XS.iconst X0.here hx rfl (hb hby d2_1) ?_
    exact kk
  by_cases hc2_17 : p0 = (1 : Int32)
  · obtain ⟨T19, X19, e19, st19⟩ := getS2 X0 hx hZ hown (host := "") (Or.inl (hw _ (List.mem_of_getElem? (i := 27) rfl))) Via.refl e0 (S_NETWORK.ext O0.2) (g := (mkF m 5 #[.val (.int p0)] [])) rfl (hb hby d2_5)
    have hF20 : (F2 p0 wUNKNOWN wNETWORK wTIMEOUT wBIZ wFORBIDDEN wSERIALIZATION wNO_PROVIDER wLIMIT) = wNETWORK := (if_pos hc2_17)
    have pre21 : ∀ t, Steps p.tables e below (T19.setTop (mkF m 8 #[.val (.int p0)] [(.ref wNETWORK)])) t → Steps p.tables e below (s₁.setTop (entryFrame m #[(.int p0)] 1)) t := by
      intro t kk
      refine pre18 t ?_
      show Steps p.tables e below (s₁.setTop (mkF m 2 #[.val (.int p0)] [(.int (1 : Int32)), (.int p0)])) _
      refine XS.icmpNo X0.here hx rfl (hb hby d2_2) rfl (teq hc2_17).2 ?_
      show Steps p.tables e below (s₁.setTop (mkF m 5 #[.val (.int p0)] [])) _
      refine st19 _ ?_
      exact kk
    obtain ⟨fs, hr, hrun, hended, hW, hsame⟩ := X19.leave (v := some (.ref wNETWORK)) (fun h => by rw [Bd.returns] at h; cases h)
    refine ⟨_, _, pre21 _ ?_, hrun, hended, _, _, rfl, ?_, ⟨_, rfl⟩, hW, hsame.mono (by decide) (by decide)⟩
    · show Steps p.tables e below (T19.setTop (mkF m 8 #[.val (.int p0)] [(.ref wNETWORK)])) _
      exact retOut X19 hx Bd.returns rfl (Or.inr (Or.inr (Or.inr (Or.inr ⟨rfl, rfl, rfl⟩)))) (hb hby d2_8) hr
    · show Q2 Z p0 wUNKNOWN wNETWORK wTIMEOUT wBIZ wFORBIDDEN wSERIALIZATION wNO_PROVIDER wLIMIT h0 n0 _ T19.heap _
      rw [e19]
      exact ⟨congrArg (fun z => some (Value.ref z)) hF20.symm, N0, rfl⟩
  · have pre23 : ∀ t, Steps p.tables e below (s₁.setTop (mkF m 11 #[.val (.int p0)] [(.int (2 : Int32)), (.int p0)])) t → Steps p.tables e below (s₁.setTop (entryFrame m #[(.int p0)] 1)) t := by
      intro t kk
      refine pre18 t ?_
      show Steps p.tables e below (s₁.setTop (mkF m 2 #[.val (.int p0)] [(.int (1 : Int32)), (.int p0)])) _
      refine XS.icmpYes X0.here hx rfl (pc0 := 2) (pc' := 9) rfl (hb hby d2_2) rfl (feq hc2_17).2 (by decide) (by decide) ?_
      show Steps p.tables e below (s₁.setTop (mkF m 9 #[.val (.int p0)] [])) _
      refine XS.iloadN X0.here hx rfl (hb hby d2_9) rfl ?_
      show Steps p.tables e below (s₁.setTop (mkF m 10 #[.val (.int p0)] [(.int p0)])) _
      refine XS.iconst X0.here hx rfl (hb hby d2_10) ?_
      exact kk
    by_cases hc11_22 : p0 = (2 : Int32)
    · obtain ⟨T24, X24, e24, st24⟩ := getS2 X0 hx hZ hown (host := "") (Or.inl (hw _ (List.mem_of_getElem? (i := 23) rfl))) Via.refl e0 (S_TIMEOUT.ext O0.2) (g := (mkF m 14 #[.val (.int p0)] [])) rfl (hb hby d2_14)
      have hF25 : (F2 p0 wUNKNOWN wNETWORK wTIMEOUT wBIZ wFORBIDDEN wSERIALIZATION wNO_PROVIDER wLIMIT) = wTIMEOUT := ((if_neg hc2_17).trans (if_pos hc11_22))
      have pre26 : ∀ t, Steps p.tables e below (T24.setTop (mkF m 17 #[.val (.int p0)] [(.ref wTIMEOUT)])) t → Steps p.tables e below (s₁.setTop (entryFrame m #[(.int p0)] 1)) t := by
        intro t kk
        refine pre23 t ?_
        show Steps p.tables e below (s₁.setTop (mkF m 11 #[.val (.int p0)] [(.int (2 : Int32)), (.int p0)])) _
        refine XS.icmpNo X0.here hx rfl (hb hby d2_11) rfl (teq hc11_22).2 ?_
        show Steps p.tables e below (s₁.setTop (mkF m 14 #[.val (.int p0)] [])) _
        refine st24 _ ?_
        exact kk
      obtain ⟨fs, hr, hrun, hended, hW, hsame⟩ := X24.leave (v := some (.ref wTIMEOUT)) (fun h => by rw [Bd.returns] at h; cases h)
      refine ⟨_, _, pre26 _ ?_, hrun, hended, _, _, rfl, ?_, ⟨_, rfl⟩, hW, hsame.mono (by decide) (by decide)⟩
      · show Steps p.tables e below (T24.setTop (mkF m 17 #[.val (.int p0)] [(.ref wTIMEOUT)])) _
        exact retOut X24 hx Bd.returns rfl (Or.inr (Or.inr (Or.inr (Or.inr ⟨rfl, rfl, rfl⟩)))) (hb hby d2_17) hr
      · show Q2 Z p0 wUNKNOWN wNETWORK wTIMEOUT wBIZ wFORBIDDEN wSERIALIZATION wNO_PROVIDER wLIMIT h0 n0 _ T24.heap _
        rw [e24]
        exact ⟨congrArg (fun z => some (Value.ref z)) hF25.symm, N0, rfl⟩
    · have pre28 : ∀ t, Steps p.tables e below (s₁.setTop (mkF m 20 #[.val (.int p0)] [(.int (3 : Int32)), (.int p0)])) t → Steps p.tables e below (s₁.setTop (entryFrame m #[(.int p0)] 1)) t := by
        intro t kk
        refine pre23 t ?_
        show Steps p.tables e below (s₁.setTop (mkF m 11 #[.val (.int p0)] [(.int (2 : Int32)), (.int p0)])) _
        refine XS.icmpYes X0.here hx rfl (pc0 := 11) (pc' := 18) rfl (hb hby d2_11) rfl (feq hc11_22).2 (by decide) (by decide) ?_
        show Steps p.tables e below (s₁.setTop (mkF m 18 #[.val (.int p0)] [])) _
        refine XS.iloadN X0.here hx rfl (hb hby d2_18) rfl ?_
        show Steps p.tables e below (s₁.setTop (mkF m 19 #[.val (.int p0)] [(.int p0)])) _
        refine XS.iconst X0.here hx rfl (hb hby d2_19) ?_
        exact kk
      by_cases hc20_27 : p0 = (3 : Int32)
      · obtain ⟨T29, X29, e29, st29⟩ := getS2 X0 hx hZ hown (host := "") (Or.inl (hw _ (List.mem_of_getElem? (i := 25) rfl))) Via.refl e0 (S_BIZ.ext O0.2) (g := (mkF m 23 #[.val (.int p0)] [])) rfl (hb hby d2_23)
        have hF30 : (F2 p0 wUNKNOWN wNETWORK wTIMEOUT wBIZ wFORBIDDEN wSERIALIZATION wNO_PROVIDER wLIMIT) = wBIZ := ((if_neg hc2_17).trans ((if_neg hc11_22).trans (if_pos hc20_27)))
        have pre31 : ∀ t, Steps p.tables e below (T29.setTop (mkF m 26 #[.val (.int p0)] [(.ref wBIZ)])) t → Steps p.tables e below (s₁.setTop (entryFrame m #[(.int p0)] 1)) t := by
          intro t kk
          refine pre28 t ?_
          show Steps p.tables e below (s₁.setTop (mkF m 20 #[.val (.int p0)] [(.int (3 : Int32)), (.int p0)])) _
          refine XS.icmpNo X0.here hx rfl (hb hby d2_20) rfl (teq hc20_27).2 ?_
          show Steps p.tables e below (s₁.setTop (mkF m 23 #[.val (.int p0)] [])) _
          refine st29 _ ?_
          exact kk
        obtain ⟨fs, hr, hrun, hended, hW, hsame⟩ := X29.leave (v := some (.ref wBIZ)) (fun h => by rw [Bd.returns] at h; cases h)
        refine ⟨_, _, pre31 _ ?_, hrun, hended, _, _, rfl, ?_, ⟨_, rfl⟩, hW, hsame.mono (by decide) (by decide)⟩
        · show Steps p.tables e below (T29.setTop (mkF m 26 #[.val (.int p0)] [(.ref wBIZ)])) _
          exact retOut X29 hx Bd.returns rfl (Or.inr (Or.inr (Or.inr (Or.inr ⟨rfl, rfl, rfl⟩)))) (hb hby d2_26) hr
        · show Q2 Z p0 wUNKNOWN wNETWORK wTIMEOUT wBIZ wFORBIDDEN wSERIALIZATION wNO_PROVIDER wLIMIT h0 n0 _ T29.heap _
          rw [e29]
          exact ⟨congrArg (fun z => some (Value.ref z)) hF30.symm, N0, rfl⟩
      · have pre33 : ∀ t, Steps p.tables e below (s₁.setTop (mkF m 29 #[.val (.int p0)] [(.int (4 : Int32)), (.int p0)])) t → Steps p.tables e below (s₁.setTop (entryFrame m #[(.int p0)] 1)) t := by
          intro t kk
          refine pre28 t ?_
          show Steps p.tables e below (s₁.setTop (mkF m 20 #[.val (.int p0)] [(.int (3 : Int32)), (.int p0)])) _
          refine XS.icmpYes X0.here hx rfl (pc0 := 20) (pc' := 27) rfl (hb hby d2_20) rfl (feq hc20_27).2 (by decide) (by decide) ?_
          show Steps p.tables e below (s₁.setTop (mkF m 27 #[.val (.int p0)] [])) _
          refine XS.iloadN X0.here hx rfl (hb hby d2_27) rfl ?_
          show Steps p.tables e below (s₁.setTop (mkF m 28 #[.val (.int p0)] [(.int p0)])) _
          refine XS.iconst X0.here hx rfl (hb hby d2_28) ?_
          exact kk
        by_cases hc29_32 : p0 = (4 : Int32)
        · obtain ⟨T34, X34, e34, st34⟩ := getS2 X0 hx hZ hown (host := "") (Or.inl (hw _ (List.mem_of_getElem? (i := 21) rfl))) Via.refl e0 (S_FORBIDDEN.ext O0.2) (g := (mkF m 32 #[.val (.int p0)] [])) rfl (hb hby d2_32)
          have hF35 : (F2 p0 wUNKNOWN wNETWORK wTIMEOUT wBIZ wFORBIDDEN wSERIALIZATION wNO_PROVIDER wLIMIT) = wFORBIDDEN := ((if_neg hc2_17).trans ((if_neg hc11_22).trans ((if_neg hc20_27).trans (if_pos hc29_32))))
          have pre36 : ∀ t, Steps p.tables e below (T34.setTop (mkF m 35 #[.val (.int p0)] [(.ref wFORBIDDEN)])) t → Steps p.tables e below (s₁.setTop (entryFrame m #[(.int p0)] 1)) t := by
            intro t kk
            refine pre33 t ?_
            show Steps p.tables e below (s₁.setTop (mkF m 29 #[.val (.int p0)] [(.int (4 : Int32)), (.int p0)])) _
            refine XS.icmpNo X0.here hx rfl (hb hby d2_29) rfl (teq hc29_32).2 ?_
            show Steps p.tables e below (s₁.setTop (mkF m 32 #[.val (.int p0)] [])) _
            refine st34 _ ?_
            exact kk
          obtain ⟨fs, hr, hrun, hended, hW, hsame⟩ := X34.leave (v := some (.ref wFORBIDDEN)) (fun h => by rw [Bd.returns] at h; cases h)
          refine ⟨_, _, pre36 _ ?_, hrun, hended, _, _, rfl, ?_, ⟨_, rfl⟩, hW, hsame.mono (by decide) (by decide)⟩
          · show Steps p.tables e below (T34.setTop (mkF m 35 #[.val (.int p0)] [(.ref wFORBIDDEN)])) _
            exact retOut X34 hx Bd.returns rfl (Or.inr (Or.inr (Or.inr (Or.inr ⟨rfl, rfl, rfl⟩)))) (hb hby d2_35) hr
          · show Q2 Z p0 wUNKNOWN wNETWORK wTIMEOUT wBIZ wFORBIDDEN wSERIALIZATION wNO_PROVIDER wLIMIT h0 n0 _ T34.heap _
            rw [e34]
            exact ⟨congrArg (fun z => some (Value.ref z)) hF35.symm, N0, rfl⟩
        · have pre38 : ∀ t, Steps p.tables e below (s₁.setTop (mkF m 38 #[.val (.int p0)] [(.int (5 : Int32)), (.int p0)])) t → Steps p.tables e below (s₁.setTop (entryFrame m #[(.int p0)] 1)) t := by
            intro t kk
            refine pre33 t ?_
            show Steps p.tables e below (s₁.setTop (mkF m 29 #[.val (.int p0)] [(.int (4 : Int32)), (.int p0)])) _
            refine XS.icmpYes X0.here hx rfl (pc0 := 29) (pc' := 36) rfl (hb hby d2_29) rfl (feq hc29_32).2 (by decide) (by decide) ?_
            show Steps p.tables e below (s₁.setTop (mkF m 36 #[.val (.int p0)] [])) _
            refine XS.iloadN X0.here hx rfl (hb hby d2_36) rfl ?_
            show Steps p.tables e below (s₁.setTop (mkF m 37 #[.val (.int p0)] [(.int p0)])) _
            refine XS.iconst X0.here hx rfl (hb hby d2_37) ?_
            exact kk
          by_cases hc38_37 : p0 = (5 : Int32)
          · obtain ⟨T39, X39, e39, st39⟩ := getS2 X0 hx hZ hown (host := "") (Or.inl (hw _ (List.mem_of_getElem? (i := 31) rfl))) Via.refl e0 (S_SERIALIZATION.ext O0.2) (g := (mkF m 41 #[.val (.int p0)] [])) rfl (hb hby d2_41)
            have hF40 : (F2 p0 wUNKNOWN wNETWORK wTIMEOUT wBIZ wFORBIDDEN wSERIALIZATION wNO_PROVIDER wLIMIT) = wSERIALIZATION := ((if_neg hc2_17).trans ((if_neg hc11_22).trans ((if_neg hc20_27).trans ((if_neg hc29_32).trans (if_pos hc38_37)))))
            have pre41 : ∀ t, Steps p.tables e below (T39.setTop (mkF m 44 #[.val (.int p0)] [(.ref wSERIALIZATION)])) t → Steps p.tables e below (s₁.setTop (entryFrame m #[(.int p0)] 1)) t := by
              intro t kk
              refine pre38 t ?_
              show Steps p.tables e below (s₁.setTop (mkF m 38 #[.val (.int p0)] [(.int (5 : Int32)), (.int p0)])) _
              refine XS.icmpNo X0.here hx rfl (hb hby d2_38) rfl (teq hc38_37).2 ?_
              show Steps p.tables e below (s₁.setTop (mkF m 41 #[.val (.int p0)] [])) _
              refine st39 _ ?_
              exact kk
            obtain ⟨fs, hr, hrun, hended, hW, hsame⟩ := X39.leave (v := some (.ref wSERIALIZATION)) (fun h => by rw [Bd.returns] at h; cases h)
            refine ⟨_, _, pre41 _ ?_, hrun, hended, _, _, rfl, ?_, ⟨_, rfl⟩, hW, hsame.mono (by decide) (by decide)⟩
            · show Steps p.tables e below (T39.setTop (mkF m 44 #[.val (.int p0)] [(.ref wSERIALIZATION)])) _
              exact retOut X39 hx Bd.returns rfl (Or.inr (Or.inr (Or.inr (Or.inr ⟨rfl, rfl, rfl⟩)))) (hb hby d2_44) hr
            · show Q2 Z p0 wUNKNOWN wNETWORK wTIMEOUT wBIZ wFORBIDDEN wSERIALIZATION wNO_PROVIDER wLIMIT h0 n0 _ T39.heap _
              rw [e39]
              exact ⟨congrArg (fun z => some (Value.ref z)) hF40.symm, N0, rfl⟩
          · have pre43 : ∀ t, Steps p.tables e below (s₁.setTop (mkF m 48 #[.val (.int p0)] [(.int (6 : Int32)), (.int p0)])) t → Steps p.tables e below (s₁.setTop (entryFrame m #[(.int p0)] 1)) t := by
              intro t kk
              refine pre38 t ?_
              show Steps p.tables e below (s₁.setTop (mkF m 38 #[.val (.int p0)] [(.int (5 : Int32)), (.int p0)])) _
              refine XS.icmpYes X0.here hx rfl (pc0 := 38) (pc' := 45) rfl (hb hby d2_38) rfl (feq hc38_37).2 (by decide) (by decide) ?_
              show Steps p.tables e below (s₁.setTop (mkF m 45 #[.val (.int p0)] [])) _
              refine XS.iloadN X0.here hx rfl (hb hby d2_45) rfl ?_
              show Steps p.tables e below (s₁.setTop (mkF m 46 #[.val (.int p0)] [(.int p0)])) _
              refine XS.bipush X0.here hx rfl (hb hby d2_46) ?_
              exact kk
            by_cases hc48_42 : p0 = (6 : Int32)
            · obtain ⟨T44, X44, e44, st44⟩ := getS2 X0 hx hZ hown (host := "") (Or.inl (hw _ (List.mem_of_getElem? (i := 33) rfl))) Via.refl e0 (S_NO_PROVIDER.ext O0.2) (g := (mkF m 51 #[.val (.int p0)] [])) rfl (hb hby d2_51)
              have hF45 : (F2 p0 wUNKNOWN wNETWORK wTIMEOUT wBIZ wFORBIDDEN wSERIALIZATION wNO_PROVIDER wLIMIT) = wNO_PROVIDER := ((if_neg hc2_17).trans ((if_neg hc11_22).trans ((if_neg hc20_27).trans ((if_neg hc29_32).trans ((if_neg hc38_37).trans (if_pos hc48_42))))))
              have pre46 : ∀ t, Steps p.tables e below (T44.setTop (mkF m 54 #[.val (.int p0)] [(.ref wNO_PROVIDER)])) t → Steps p.tables e below (s₁.setTop (entryFrame m #[(.int p0)] 1)) t := by
                intro t kk
                refine pre43 t ?_
                show Steps p.tables e below (s₁.setTop (mkF m 48 #[.val (.int p0)] [(.int (6 : Int32)), (.int p0)])) _
                refine XS.icmpNo X0.here hx rfl (hb hby d2_48) rfl (teq hc48_42).2 ?_
                show Steps p.tables e below (s₁.setTop (mkF m 51 #[.val (.int p0)] [])) _
                refine st44 _ ?_
                exact kk
              obtain ⟨fs, hr, hrun, hended, hW, hsame⟩ := X44.leave (v := some (.ref wNO_PROVIDER)) (fun h => by rw [Bd.returns] at h; cases h)
              refine ⟨_, _, pre46 _ ?_, hrun, hended, _, _, rfl, ?_, ⟨_, rfl⟩, hW, hsame.mono (by decide) (by decide)⟩
              · show Steps p.tables e below (T44.setTop (mkF m 54 #[.val (.int p0)] [(.ref wNO_PROVIDER)])) _
                exact retOut X44 hx Bd.returns rfl (Or.inr (Or.inr (Or.inr (Or.inr ⟨rfl, rfl, rfl⟩)))) (hb hby d2_54) hr
              · show Q2 Z p0 wUNKNOWN wNETWORK wTIMEOUT wBIZ wFORBIDDEN wSERIALIZATION wNO_PROVIDER wLIMIT h0 n0 _ T44.heap _
                rw [e44]
                exact ⟨congrArg (fun z => some (Value.ref z)) hF45.symm, N0, rfl⟩
            · have pre48 : ∀ t, Steps p.tables e below (s₁.setTop (mkF m 58 #[.val (.int p0)] [(.int (7 : Int32)), (.int p0)])) t → Steps p.tables e below (s₁.setTop (entryFrame m #[(.int p0)] 1)) t := by
                intro t kk
                refine pre43 t ?_
                show Steps p.tables e below (s₁.setTop (mkF m 48 #[.val (.int p0)] [(.int (6 : Int32)), (.int p0)])) _
                refine XS.icmpYes X0.here hx rfl (pc0 := 48) (pc' := 55) rfl (hb hby d2_48) rfl (feq hc48_42).2 (by decide) (by decide) ?_
                show Steps p.tables e below (s₁.setTop (mkF m 55 #[.val (.int p0)] [])) _
                refine XS.iloadN X0.here hx rfl (hb hby d2_55) rfl ?_
                show Steps p.tables e below (s₁.setTop (mkF m 56 #[.val (.int p0)] [(.int p0)])) _
                refine XS.bipush X0.here hx rfl (hb hby d2_56) ?_
                exact kk
              by_cases hc58_47 : p0 = (7 : Int32)
              · obtain ⟨T49, X49, e49, st49⟩ := getS2 X0 hx hZ hown (host := "") (Or.inl (hw _ (List.mem_of_getElem? (i := 29) rfl))) Via.refl e0 (S_LIMIT.ext O0.2) (g := (mkF m 61 #[.val (.int p0)] [])) rfl (hb hby d2_61)
                have hF50 : (F2 p0 wUNKNOWN wNETWORK wTIMEOUT wBIZ wFORBIDDEN wSERIALIZATION wNO_PROVIDER wLIMIT) = wLIMIT := ((if_neg hc2_17).trans ((if_neg hc11_22).trans ((if_neg hc20_27).trans ((if_neg hc29_32).trans ((if_neg hc38_37).trans ((if_neg hc48_42).trans (if_pos hc58_47)))))))
                have pre51 : ∀ t, Steps p.tables e below (T49.setTop (mkF m 64 #[.val (.int p0)] [(.ref wLIMIT)])) t → Steps p.tables e below (s₁.setTop (entryFrame m #[(.int p0)] 1)) t := by
                  intro t kk
                  refine pre48 t ?_
                  show Steps p.tables e below (s₁.setTop (mkF m 58 #[.val (.int p0)] [(.int (7 : Int32)), (.int p0)])) _
                  refine XS.icmpNo X0.here hx rfl (hb hby d2_58) rfl (teq hc58_47).2 ?_
                  show Steps p.tables e below (s₁.setTop (mkF m 61 #[.val (.int p0)] [])) _
                  refine st49 _ ?_
                  exact kk
                obtain ⟨fs, hr, hrun, hended, hW, hsame⟩ := X49.leave (v := some (.ref wLIMIT)) (fun h => by rw [Bd.returns] at h; cases h)
                refine ⟨_, _, pre51 _ ?_, hrun, hended, _, _, rfl, ?_, ⟨_, rfl⟩, hW, hsame.mono (by decide) (by decide)⟩
                · show Steps p.tables e below (T49.setTop (mkF m 64 #[.val (.int p0)] [(.ref wLIMIT)])) _
                  exact retOut X49 hx Bd.returns rfl (Or.inr (Or.inr (Or.inr (Or.inr ⟨rfl, rfl, rfl⟩)))) (hb hby d2_64) hr
                · show Q2 Z p0 wUNKNOWN wNETWORK wTIMEOUT wBIZ wFORBIDDEN wSERIALIZATION wNO_PROVIDER wLIMIT h0 n0 _ T49.heap _
                  rw [e49]
                  exact ⟨congrArg (fun z => some (Value.ref z)) hF50.symm, N0, rfl⟩
              · obtain ⟨T52, X52, e52, st52⟩ := getS2 X0 hx hZ hown (host := "") (Or.inl (hw _ (List.mem_of_getElem? (i := 11) rfl))) Via.refl e0 (S_UNKNOWN.ext O0.2) (g := (mkF m 65 #[.val (.int p0)] [])) rfl (hb hby d2_65)
                have hF53 : (F2 p0 wUNKNOWN wNETWORK wTIMEOUT wBIZ wFORBIDDEN wSERIALIZATION wNO_PROVIDER wLIMIT) = wUNKNOWN := ((if_neg hc2_17).trans ((if_neg hc11_22).trans ((if_neg hc20_27).trans ((if_neg hc29_32).trans ((if_neg hc38_37).trans ((if_neg hc48_42).trans (if_neg hc58_47)))))))
                have pre54 : ∀ t, Steps p.tables e below (T52.setTop (mkF m 68 #[.val (.int p0)] [(.ref wUNKNOWN)])) t → Steps p.tables e below (s₁.setTop (entryFrame m #[(.int p0)] 1)) t := by
                  intro t kk
                  refine pre48 t ?_
                  show Steps p.tables e below (s₁.setTop (mkF m 58 #[.val (.int p0)] [(.int (7 : Int32)), (.int p0)])) _
                  refine XS.icmpYes X0.here hx rfl (pc0 := 58) (pc' := 65) rfl (hb hby d2_58) rfl (feq hc58_47).2 (by decide) (by decide) ?_
                  show Steps p.tables e below (s₁.setTop (mkF m 65 #[.val (.int p0)] [])) _
                  refine st52 _ ?_
                  exact kk
                obtain ⟨fs, hr, hrun, hended, hW, hsame⟩ := X52.leave (v := some (.ref wUNKNOWN)) (fun h => by rw [Bd.returns] at h; cases h)
                refine ⟨_, _, pre54 _ ?_, hrun, hended, _, _, rfl, ?_, ⟨_, rfl⟩, hW, hsame.mono (by decide) (by decide)⟩
                · show Steps p.tables e below (T52.setTop (mkF m 68 #[.val (.int p0)] [(.ref wUNKNOWN)])) _
                  exact retOut X52 hx Bd.returns rfl (Or.inr (Or.inr (Or.inr (Or.inr ⟨rfl, rfl, rfl⟩)))) (hb hby d2_68) hr
                · show Q2 Z p0 wUNKNOWN wNETWORK wTIMEOUT wBIZ wFORBIDDEN wSERIALIZATION wNO_PROVIDER wLIMIT h0 n0 _ T52.heap _
                  rw [e52]
                  exact ⟨congrArg (fun z => some (Value.ref z)) hF53.symm, N0, rfl⟩
theorem d3_0 : decode prog_76_method_4_code 0 = .ok (.aload_n 0, 1) := by decide +kernel
theorem d3_1 : decode prog_76_method_4_code 1 = .ok (.getfield 47, 3) := by decide +kernel
theorem d3_4 : decode prog_76_method_4_code 4 = .ok (.ireturn, 1) := by decide +kernel
theorem ef_3_R (m : MethodId) (x0 : Addr) : entryFrame m #[(.ref x0)] 1 = mkF m 0 #[.val (.ref x0)] [] := by first | (simp [entryFrame, mkF, argsToLocals, Value.category]; done) | rfl
def Q3 (Z : State) (a_ : Addr) (w_ : Int32) (h0 : Heap) (n0 : Nat) (v : Option Value) (h : Heap) (L : List Loc) : Prop := v = some (.int w_) ∧ Fr n0 L ∧ h = h0
set_option maxRecDepth 65536 in
set_option maxHeartbeats 40000000 in
theorem rm3 (l : Launch) (Z : State) (a0 : Array Value) (hw : ∀ d ∈ tables_1, d.before a0 Z = true) (ws : List Jvm.Cond) (a_ : Addr) (w_ : Int32) (h0 : Heap) (n0 : Nat) (Z0 : n0 ≤ h0.size) (F_ : Fld Z h0 a_ "farspeak/rpc/ErrorCode" "value" "I" (.int w_)) :
    MetFree l (⟨"farspeak/rpc/ErrorCode", "value", "()I"⟩ : MethodName) (head1 (Jvm.Cond.code (⟨"farspeak/rpc/ErrorCode", "value", "()I"⟩ : MethodName) prog_76_method_4_code 1 (some .int) :: ws) ({ frames := 0, cells := 0, slots := 0, locals := 0 } : Room)) (fun a U => a = #[(.ref a_)] ∧ Z.Warmed39 U.vm ∧ U.heap = h0) (fun _ _ _ _ _ => True) (fun _ U o U' => ∃ v L, o = .returned v ∧ Q3 Z a_ w_ h0 n0 v U'.heap L ∧ FrameEnd U o U' L ({ frames := 0, cells := 0, slots := 0, locals := 0 } : Room).cells ({ frames := 0, cells := 0, slots := 0, locals := 0 } : Room).slots) := by
  refine MetFree.of_bodySF (plainFor_of_name pn_farspeak_rpc_ErrorCode) hisR ?_
  intro p e s m args below meth c s₁ Bd hml0 hP hK
  obtain ⟨rfl, hZ, hh⟩ := hP
  have hx := Bd.exec
  have hby := Bd.bytes
  have hml : c.maxLocals = 1 := hml0
  have hown : s.vm.findClass "farspeak/rpc/ErrorCode" = some m.cls := findClass_of_methodNamed Bd.named
  have hnm := (name_of_methodNamed Bd.named Bd.method).1
  have X0 : Stand p l e ({ frames := 0, cells := 0, slots := 0, locals := 0 } : Room) s m #[(.ref a_)] below meth c s₁ [] 0 0 := Stand.of_body Bd
  have e0 : s₁.heap = h0 := by rw [← hh, Bd.state]; rfl
  have N0 := Fr.nil n0
  have KP0 : Keep h0 h0 [] := Keep.refl h0 _
  have pre0 : ∀ t, Steps p.tables e below (s₁.setTop (mkF m 0 #[.val (.ref a_)] [])) t → Steps p.tables e below (s₁.setTop (entryFrame m #[(.ref a_)] 1)) t := fun t k => castTop (ef_3_R m a_) k
  obtain ⟨T55, X55, e55, st55⟩ := getF X0 hx hZ hown (host := "") (Or.inl (hw _ (List.mem_of_getElem? (i := 17) rfl))) Via.refl e0 F_ (g := (mkF m 1 #[.val (.ref a_)] [(.ref a_)])) rfl rfl (hb hby d3_1)
  have pre56 : ∀ t, Steps p.tables e below (T55.setTop (mkF m 4 #[.val (.ref a_)] [(.int w_)])) t → Steps p.tables e below (s₁.setTop (entryFrame m #[(.ref a_)] 1)) t := by
    intro t kk
    refine pre0 t ?_
    show Steps p.tables e below (s₁.setTop (mkF m 0 #[.val (.ref a_)] [])) _
    refine XS.aloadN X0.here hx rfl (hb hby d3_0) rfl rfl ?_
    show Steps p.tables e below (s₁.setTop (mkF m 1 #[.val (.ref a_)] [(.ref a_)])) _
    refine st55 _ ?_
    exact kk
  obtain ⟨fs, hr, hrun, hended, hW, hsame⟩ := X55.leave (v := some (.int w_)) (fun h => by rw [Bd.returns] at h; cases h)
  refine ⟨_, _, pre56 _ ?_, hrun, hended, _, _, rfl, ?_, ⟨_, rfl⟩, hW, hsame.mono (by decide) (by decide)⟩
  · show Steps p.tables e below (T55.setTop (mkF m 4 #[.val (.ref a_)] [(.int w_)])) _
    exact retOut X55 hx Bd.returns rfl (Or.inl ⟨rfl, Or.inl rfl, _, rfl⟩) (hb hby d3_4) hr
  · show Q3 Z a_ w_ h0 n0 _ T55.heap _
    rw [e55]
    exact ⟨rfl, N0, rfl⟩
theorem own_ef {Z : State} {h : Heap} (v : Int32) (wBY_VALUE wUNKNOWN wNETWORK wTIMEOUT wBIZ wFORBIDDEN wSERIALIZATION wNO_PROVIDER wLIMIT : Addr) (kBY : ClassId) (h1 : ¬ v < (0 : Int32)) (h2 : ¬ (7 : Int32) < v) (E_UNKNOWN : Exa Z h wUNKNOWN "farspeak/rpc/ErrorCode") (E_NETWORK : Exa Z h wNETWORK "farspeak/rpc/ErrorCode") (E_TIMEOUT : Exa Z h wTIMEOUT "farspeak/rpc/ErrorCode") (E_BIZ : Exa Z h wBIZ "farspeak/rpc/ErrorCode") (E_FORBIDDEN : Exa Z h wFORBIDDEN "farspeak/rpc/ErrorCode") (E_SERIALIZATION : Exa Z h wSERIALIZATION "farspeak/rpc/ErrorCode") (E_NO_PROVIDER : Exa Z h wNO_PROVIDER "farspeak/rpc/ErrorCode") (E_LIMIT : Exa Z h wLIMIT "farspeak/rpc/ErrorCode") (G_UNKNOWN : Fld Z h wUNKNOWN "farspeak/rpc/ErrorCode" "value" "I" (.int (0 : Int32))) (G_NETWORK : Fld Z h wNETWORK "farspeak/rpc/ErrorCode" "value" "I" (.int (1 : Int32))) (G_TIMEOUT : Fld Z h wTIMEOUT "farspeak/rpc/ErrorCode" "value" "I" (.int (2 : Int32))) (G_BIZ : Fld Z h wBIZ "farspeak/rpc/ErrorCode" "value" "I" (.int (3 : Int32))) (G_FORBIDDEN : Fld Z h wFORBIDDEN "farspeak/rpc/ErrorCode" "value" "I" (.int (4 : Int32))) (G_SERIALIZATION : Fld Z h wSERIALIZATION "farspeak/rpc/ErrorCode" "value" "I" (.int (5 : Int32))) (G_NO_PROVIDER : Fld Z h wNO_PROVIDER "farspeak/rpc/ErrorCode" "value" "I" (.int (6 : Int32))) (G_LIMIT : Fld Z h wLIMIT "farspeak/rpc/ErrorCode" "value" "I" (.int (7 : Int32))) : Exa Z h (F1 v wBY_VALUE wUNKNOWN wNETWORK wTIMEOUT wBIZ wFORBIDDEN wSERIALIZATION wNO_PROVIDER wLIMIT kBY) "farspeak/rpc/ErrorCode" ∧ Fld Z h (F1 v wBY_VALUE wUNKNOWN wNETWORK wTIMEOUT wBIZ wFORBIDDEN wSERIALIZATION wNO_PROVIDER wLIMIT kBY) "farspeak/rpc/ErrorCode" "value" "I" (.int v) := by
  rcases own_cases v h1 h2 with rfl | rfl | rfl | rfl | rfl | rfl | rfl | rfl
  · exact ⟨E_UNKNOWN, G_UNKNOWN⟩
  · exact ⟨E_NETWORK, G_NETWORK⟩
  · exact ⟨E_TIMEOUT, G_TIMEOUT⟩
  · exact ⟨E_BIZ, G_BIZ⟩
  · exact ⟨E_FORBIDDEN, G_FORBIDDEN⟩
  · exact ⟨E_SERIALIZATION, G_SERIALIZATION⟩
  · exact ⟨E_NO_PROVIDER, G_NO_PROVIDER⟩
  · exact ⟨E_LIMIT, G_LIMIT⟩
theorem own_eq (v : Int32) (wBY_VALUE wUNKNOWN wNETWORK wTIMEOUT wBIZ wFORBIDDEN wSERIALIZATION wNO_PROVIDER wLIMIT : Addr) (kBY : ClassId) : (F1 v wBY_VALUE wUNKNOWN wNETWORK wTIMEOUT wBIZ wFORBIDDEN wSERIALIZATION wNO_PROVIDER wLIMIT kBY) = (F2 v wUNKNOWN wNETWORK wTIMEOUT wBIZ wFORBIDDEN wSERIALIZATION wNO_PROVIDER wLIMIT) := by
  by_cases h1 : v < (0 : Int32)
  · have n1 : ¬ v = (1 : Int32) := fun q => by subst q; revert h1; decide
    have n2 : ¬ v = (2 : Int32) := fun q => by subst q; revert h1; decide
    have n3 : ¬ v = (3 : Int32) := fun q => by subst q; revert h1; decide
    have n4 : ¬ v = (4 : Int32) := fun q => by subst q; revert h1; decide
    have n5 : ¬ v = (5 : Int32) := fun q => by subst q; revert h1; decide
    have n6 : ¬ v = (6 : Int32) := fun q => by subst q; revert h1; decide
    have n7 : ¬ v = (7 : Int32) := fun q => by subst q; revert h1; decide
    simp only [F1, F2, if_pos h1, if_neg n1, if_neg n2, if_neg n3, if_neg n4, if_neg n5, if_neg n6, if_neg n7]
  · by_cases h2 : v < (8 : Int32)
    · have h3 : ¬ (7 : Int32) < v := by
        rw [Int32.lt_iff_toInt_lt, show (8 : Int32).toInt = 8 by decide] at h2
        rw [Int32.lt_iff_toInt_lt, show (7 : Int32).toInt = 7 by decide]
        omega
      rcases own_cases v h1 h3 with rfl | rfl | rfl | rfl | rfl | rfl | rfl | rfl <;> rfl
    · have n1 : ¬ v = (1 : Int32) := fun q => by subst q; revert h2; decide
      have n2 : ¬ v = (2 : Int32) := fun q => by subst q; revert h2; decide
      have n3 : ¬ v = (3 : Int32) := fun q => by subst q; revert h2; decide
      have n4 : ¬ v = (4 : Int32) := fun q => by subst q; revert h2; decide
      have n5 : ¬ v = (5 : Int32) := fun q => by subst q; revert h2; decide
      have n6 : ¬ v = (6 : Int32) := fun q => by subst q; revert h2; decide
      have n7 : ¬ v = (7 : Int32) := fun q => by subst q; revert h2; decide
      simp only [F1, F2, if_neg h1, if_neg h2, if_neg n1, if_neg n2, if_neg n3, if_neg n4, if_neg n5, if_neg n6, if_neg n7]
theorem pd__28I_29Lfarspeak_2frpc_2fErrorCode_3b : parseMethodDescriptor "(I)Lfarspeak/rpc/ErrorCode;" = some ⟨[.int], some (.object "farspeak/rpc/ErrorCode")⟩ := by decide +kernel
theorem pd__28_29I : parseMethodDescriptor "()I" = some ⟨[], some .int⟩ := by decide +kernel
theorem ef_0_II (m : MethodId) (x0 : Int32) (x1 : Int32) : entryFrame m #[(.int x0), (.int x1)] maxLocals = mkF m 0 #[.val (.int x0), .val (.int x1), .unset, .unset] [] := by first | (simp [entryFrame, mkF, argsToLocals, Value.category, maxLocals]; done) | rfl
def Q0 (Z : State) (p0 : Int32) (p1 : Int32) (wBY_VALUE : Addr) (wUNKNOWN : Addr) (wNETWORK : Addr) (wTIMEOUT : Addr) (wBIZ : Addr) (wFORBIDDEN : Addr) (wSERIALIZATION : Addr) (wNO_PROVIDER : Addr) (wLIMIT : Addr) (kBY : ClassId) (h0 : Heap) (n0 : Nat) (v : Option Value) (h : Heap) (L : List Loc) : Prop := v = some (.int 1) ∧ Fr n0 L
set_option maxRecDepth 65536 in
set_option maxHeartbeats 40000000 in
theorem rm0 (l : Launch) (Z : State) (a0 : Array Value) (hw : ∀ d ∈ tables_1, d.before a0 Z = true) (ws : List Jvm.Cond) (p0 : Int32) (p1 : Int32) (wBY_VALUE : Addr) (wUNKNOWN : Addr) (wNETWORK : Addr) (wTIMEOUT : Addr) (wBIZ : Addr) (wFORBIDDEN : Addr) (wSERIALIZATION : Addr) (wNO_PROVIDER : Addr) (wLIMIT : Addr) (kBY : ClassId) (h0 : Heap) (n0 : Nat) (Z0 : n0 ≤ h0.size) (O0 : Old Z n0 h0) (S_BY_VALUE : Sta Z Z.heap "farspeak/rpc/ErrorCode" "BY_VALUE" "[Lfarspeak/rpc/ErrorCode;" (.ref wBY_VALUE)) (S_UNKNOWN : Sta Z Z.heap "farspeak/rpc/ErrorCode" "UNKNOWN" "Lfarspeak/rpc/ErrorCode;" (.ref wUNKNOWN)) (S_NETWORK : Sta Z Z.heap "farspeak/rpc/ErrorCode" "NETWORK" "Lfarspeak/rpc/ErrorCode;" (.ref wNETWORK)) (S_TIMEOUT : Sta Z Z.heap "farspeak/rpc/ErrorCode" "TIMEOUT" "Lfarspeak/rpc/ErrorCode;" (.ref wTIMEOUT)) (S_BIZ : Sta Z Z.heap "farspeak/rpc/ErrorCode" "BIZ" "Lfarspeak/rpc/ErrorCode;" (.ref wBIZ)) (S_FORBIDDEN : Sta Z Z.heap "farspeak/rpc/ErrorCode" "FORBIDDEN" "Lfarspeak/rpc/ErrorCode;" (.ref wFORBIDDEN)) (S_SERIALIZATION : Sta Z Z.heap "farspeak/rpc/ErrorCode" "SERIALIZATION" "Lfarspeak/rpc/ErrorCode;" (.ref wSERIALIZATION)) (S_NO_PROVIDER : Sta Z Z.heap "farspeak/rpc/ErrorCode" "NO_PROVIDER" "Lfarspeak/rpc/ErrorCode;" (.ref wNO_PROVIDER)) (S_LIMIT : Sta Z Z.heap "farspeak/rpc/ErrorCode" "LIMIT" "Lfarspeak/rpc/ErrorCode;" (.ref wLIMIT)) (V_BY : Arv Z Z.heap wBY_VALUE kBY (.object "farspeak/rpc/ErrorCode") (8 : Int32) [(.ref wUNKNOWN), (.ref wNETWORK), (.ref wTIMEOUT), (.ref wBIZ), (.ref wFORBIDDEN), (.ref wSERIALIZATION), (.ref wNO_PROVIDER), (.ref wLIMIT)] .null) (E_UNKNOWN : Exa Z h0 wUNKNOWN "farspeak/rpc/ErrorCode") (E_NETWORK : Exa Z h0 wNETWORK "farspeak/rpc/ErrorCode") (E_TIMEOUT : Exa Z h0 wTIMEOUT "farspeak/rpc/ErrorCode") (E_BIZ : Exa Z h0 wBIZ "farspeak/rpc/ErrorCode") (E_FORBIDDEN : Exa Z h0 wFORBIDDEN "farspeak/rpc/ErrorCode") (E_SERIALIZATION : Exa Z h0 wSERIALIZATION "farspeak/rpc/ErrorCode") (E_NO_PROVIDER : Exa Z h0 wNO_PROVIDER "farspeak/rpc/ErrorCode") (E_LIMIT : Exa Z h0 wLIMIT "farspeak/rpc/ErrorCode") (G_UNKNOWN : Fld Z h0 wUNKNOWN "farspeak/rpc/ErrorCode" "value" "I" (.int (0 : Int32))) (G_NETWORK : Fld Z h0 wNETWORK "farspeak/rpc/ErrorCode" "value" "I" (.int (1 : Int32))) (G_TIMEOUT : Fld Z h0 wTIMEOUT "farspeak/rpc/ErrorCode" "value" "I" (.int (2 : Int32))) (G_BIZ : Fld Z h0 wBIZ "farspeak/rpc/ErrorCode" "value" "I" (.int (3 : Int32))) (G_FORBIDDEN : Fld Z h0 wFORBIDDEN "farspeak/rpc/ErrorCode" "value" "I" (.int (4 : Int32))) (G_SERIALIZATION : Fld Z h0 wSERIALIZATION "farspeak/rpc/ErrorCode" "value" "I" (.int (5 : Int32))) (G_NO_PROVIDER : Fld Z h0 wNO_PROVIDER "farspeak/rpc/ErrorCode" "value" "I" (.int (6 : Int32))) (G_LIMIT : Fld Z h0 wLIMIT "farspeak/rpc/ErrorCode" "value" "I" (.int (7 : Int32))) :
    MetFree l x (head1 (Jvm.Cond.code x code maxLocals ret :: ws) room_1) (fun a U => a = #[(.int p0), (.int p1)] ∧ Z.Warmed39 U.vm ∧ U.heap = h0) (fun _ _ _ _ _ => True) (fun _ U o U' => ∃ v L, o = .returned v ∧ Q0 Z p0 p1 wBY_VALUE wUNKNOWN wNETWORK wTIMEOUT wBIZ wFORBIDDEN wSERIALIZATION wNO_PROVIDER wLIMIT kBY h0 n0 v U'.heap L ∧ FrameEnd U o U' L room_1.cells room_1.slots) := by
  refine MetFree.of_bodySF (plainFor_of_name pn_farspeak_rpc_ErrorCodeFromValuePinLaw) hisR ?_
  intro p e s m args below meth c s₁ Bd hml0 hP hK
  obtain ⟨rfl, hZ, hh⟩ := hP
  have hx := Bd.exec
  have hby := Bd.bytes
  have hml : c.maxLocals = 4 := hml0
  have hown : s.vm.findClass "farspeak/rpc/ErrorCodeFromValuePinLaw" = some m.cls := findClass_of_methodNamed Bd.named
  have hnm := (name_of_methodNamed Bd.named Bd.method).1
  have X0 : Stand p l e room_1 s m #[(.int p0), (.int p1)] below meth c s₁ [] 0 0 := Stand.of_body Bd
  have e0 : s₁.heap = h0 := by rw [← hh, Bd.state]; rfl
  have N0 := Fr.nil n0
  have KP0 : Keep h0 h0 [] := Keep.refl h0 _
  have pre0 : ∀ t, Steps p.tables e below (s₁.setTop (mkF m 0 #[.val (.int p0), .val (.int p1), .unset, .unset] [])) t → Steps p.tables e below (s₁.setTop (entryFrame m #[(.int p0), (.int p1)] maxLocals)) t := fun t k => castTop (ef_0_II m p0 p1) k
  have pre58 : ∀ t, Steps p.tables e below (s₁.setTop (mkF m 3 #[.val (.int p0), .val (.int p1), .unset, .unset] [(.int (p1 &&& (1 : Int32)))])) t → Steps p.tables e below (s₁.setTop (entryFrame m #[(.int p0), (.int p1)] maxLocals)) t := by
    intro t kk
    refine pre0 t ?_
    show Steps p.tables e below (s₁.setTop (mkF m 0 #[.val (.int p0), .val (.int p1), .unset, .unset] [])) _
    refine XS.iloadN X0.here hx rfl (hb hby at_0) rfl ?_
    show Steps p.tables e below (s₁.setTop (mkF m 1 #[.val (.int p0), .val (.int p1), .unset, .unset] [(.int p1)])) _
    refine XS.iconst X0.here hx rfl (hb hby at_1) ?_
    show Steps p.tables e below (s₁.setTop (mkF m 2 #[.val (.int p0), .val (.int p1), .unset, .unset] [(.int (1 : Int32)), (.int p1)])) _
    refine XS.iand X0.here hx rfl (hb hby at_2) rfl ?_
    exact kk
  obtain ⟨iv59, hj_iv59⟩ : ∃ z : Int32, z = (if (p1 &&& (1 : Int32)) = (0 : Int32) then ((p0 &&& (15 : Int32)) - (4 : Int32)) else p0) := ⟨_, rfl⟩
  have pre60 : ∀ t, Steps p.tables e below (s₁.setTop (mkF m 16 #[.val (.int p0), .val (.int p1), .unset, .unset] [(.int iv59)])) t → Steps p.tables e below (s₁.setTop (entryFrame m #[(.int p0), (.int p1)] maxLocals)) t := by
    intro t kk
    by_cases hc3_57 : (p1 &&& (1 : Int32)) = (0 : Int32)
    · rw [show iv59 = ((p0 &&& (15 : Int32)) - (4 : Int32)) by rw [hj_iv59]; simp only [if_pos hc3_57]] at kk
      refine pre58 t ?_
      show Steps p.tables e below (s₁.setTop (mkF m 3 #[.val (.int p0), .val (.int p1), .unset, .unset] [(.int (p1 &&& (1 : Int32)))])) _
      refine XS.ifYes X0.here hx rfl (pc0 := 3) (pc' := 10) rfl (hb hby at_3) rfl ((if0 _ _).trans (teq hc3_57).1) (by decide) (by decide) ?_
      show Steps p.tables e below (s₁.setTop (mkF m 10 #[.val (.int p0), .val (.int p1), .unset, .unset] [])) _
      refine XS.iloadN X0.here hx rfl (hb hby at_10) rfl ?_
      show Steps p.tables e below (s₁.setTop (mkF m 11 #[.val (.int p0), .val (.int p1), .unset, .unset] [(.int p0)])) _
      refine XS.bipush X0.here hx rfl (hb hby at_11) ?_
      show Steps p.tables e below (s₁.setTop (mkF m 13 #[.val (.int p0), .val (.int p1), .unset, .unset] [(.int (15 : Int32)), (.int p0)])) _
      refine XS.iand X0.here hx rfl (hb hby at_13) rfl ?_
      show Steps p.tables e below (s₁.setTop (mkF m 14 #[.val (.int p0), .val (.int p1), .unset, .unset] [(.int (p0 &&& (15 : Int32)))])) _
      refine XS.iconst X0.here hx rfl (hb hby at_14) ?_
      show Steps p.tables e below (s₁.setTop (mkF m 15 #[.val (.int p0), .val (.int p1), .unset, .unset] [(.int (4 : Int32)), (.int (p0 &&& (15 : Int32)))])) _
      refine XS.isub X0.here hx rfl (hb hby at_15) rfl ?_
      exact kk
    · rw [show iv59 = p0 by rw [hj_iv59]; simp only [if_neg hc3_57]] at kk
      refine pre58 t ?_
      show Steps p.tables e below (s₁.setTop (mkF m 3 #[.val (.int p0), .val (.int p1), .unset, .unset] [(.int (p1 &&& (1 : Int32)))])) _
      refine XS.ifNo X0.here hx rfl (hb hby at_3) rfl ((if0 _ _).trans (feq hc3_57).1) ?_
      show Steps p.tables e below (s₁.setTop (mkF m 6 #[.val (.int p0), .val (.int p1), .unset, .unset] [])) _
      refine XS.iloadN X0.here hx rfl (hb hby at_6) rfl ?_
      show Steps p.tables e below (s₁.setTop (mkF m 7 #[.val (.int p0), .val (.int p1), .unset, .unset] [(.int p0)])) _
      refine XS.goto X0.here hx rfl (pc0 := 7) (pc' := 16) rfl (hb hby at_7) (by decide) (by decide) ?_
      exact kk
  obtain ⟨_, _, ⟨T61, L61, k61, n61⟩, -, X61, ⟨Lc61, hQ61, l61, y61, z61⟩, st61⟩ := Jvm.LawKit.callS X0 hx (y := (⟨"farspeak/rpc/ErrorCode", "fromValue", "(I)Lfarspeak/rpc/ErrorCode;"⟩ : MethodName)) hown (mvT hZ (hw _ (List.mem_of_getElem? (i := 0) rfl))) (mvT hZ (hw _ (List.mem_of_getElem? (i := 1) rfl))) (mvT hZ (hw _ (List.mem_of_getElem? (i := 2) rfl))) (mvT hZ (hw _ (List.mem_of_getElem? (i := 3) rfl))) (by decide) (backOf (W := 0) (rm1 l Z a0 hw [] iv59 wBY_VALUE wUNKNOWN wNETWORK wTIMEOUT wBIZ wFORBIDDEN wSERIALIZATION wNO_PROVIDER wLIMIT kBY h0 n0 Z0 O0 S_BY_VALUE S_UNKNOWN V_BY) hZ (hw _ (List.mem_of_getElem? (i := 3) rfl)) (hw _ (List.mem_of_getElem? (i := 2) rfl)) (by decide) (by decide)) (g := (mkF m 18 #[.val (.int p0), .val (.int p1), .val (.int iv59), .unset] [(.int iv59)])) rfl (by rw [hml]; rfl) (argsL := [(.int iv59)]) (rest := []) (lenOf pd__28I_29Lfarspeak_2frpc_2fErrorCode_3b rfl) rfl (by show 2 * 0 + _ ≤ _; exact Nat.le_of_eq rfl) (hb hby at_18) (fun _ _ => ⟨rfl, e0, (by decide : 0 + 0 ≤ _), (by decide : 0 + 0 ≤ _)⟩)
  dsimp only [Pt.U, Pt.locs, Pt.cells, Pt.slots] at X61 l61 y61 z61 st61 hQ61
  subst l61 y61 z61
  obtain ⟨rfl, N61q, e61⟩ := hQ61
  have N61 := Fr.app N0 N61q
  obtain ⟨_, _, ⟨T62, L62, k62, n62⟩, -, X62, ⟨Lc62, hQ62, l62, y62, z62⟩, st62⟩ := Jvm.LawKit.callS X61 hx (y := (⟨"farspeak/rpc/ErrorCodeFromValuePinLaw", "expected", "(I)Lfarspeak/rpc/ErrorCode;"⟩ : MethodName)) hown (mvT hZ (hw _ (List.mem_of_getElem? (i := 7) rfl))) (mvT hZ (hw _ (List.mem_of_getElem? (i := 8) rfl))) (mvT hZ (hw _ (List.mem_of_getElem? (i := 9) rfl))) (mvT hZ (hw _ (List.mem_of_getElem? (i := 10) rfl))) (by decide) (backOf (W := 1) (rm2 l Z a0 hw [] iv59 wUNKNOWN wNETWORK wTIMEOUT wBIZ wFORBIDDEN wSERIALIZATION wNO_PROVIDER wLIMIT h0 n0 Z0 O0 S_UNKNOWN S_NETWORK S_TIMEOUT S_BIZ S_FORBIDDEN S_SERIALIZATION S_NO_PROVIDER S_LIMIT) hZ (hw _ (List.mem_of_getElem? (i := 10) rfl)) (hw _ (List.mem_of_getElem? (i := 9) rfl)) (by decide) (by decide)) (g := (mkF m 24 #[.val (.int p0), .val (.int p1), .val (.int iv59), .val (.ref (F1 iv59 wBY_VALUE wUNKNOWN wNETWORK wTIMEOUT wBIZ wFORBIDDEN wSERIALIZATION wNO_PROVIDER wLIMIT kBY))] [(.int iv59), (.ref (F1 iv59 wBY_VALUE wUNKNOWN wNETWORK wTIMEOUT wBIZ wFORBIDDEN wSERIALIZATION wNO_PROVIDER wLIMIT kBY))])) rfl (by rw [hml]; rfl) (argsL := [(.int iv59)]) (rest := [(.ref (F1 iv59 wBY_VALUE wUNKNOWN wNETWORK wTIMEOUT wBIZ wFORBIDDEN wSERIALIZATION wNO_PROVIDER wLIMIT kBY))]) (lenOf pd__28I_29Lfarspeak_2frpc_2fErrorCode_3b rfl) rfl (by show 2 * 0 + _ ≤ _; exact Nat.le_of_eq rfl) (hb hby at_24) (fun _ _ => ⟨rfl, e61, (by decide : 0 + 0 ≤ _), (by decide : 0 + 0 ≤ _)⟩)
  dsimp only [Pt.U, Pt.locs, Pt.cells, Pt.slots] at X62 l62 y62 z62 st62 hQ62
  subst l62 y62 z62
  obtain ⟨rfl, N62q, e62⟩ := hQ62
  have N62 := Fr.app N61 N62q
  have pre64 : ∀ t, Steps p.tables e below (T62.setTop (mkF m 33 #[.val (.int p0), .val (.int p1), .val (.int iv59), .val (.ref (F1 iv59 wBY_VALUE wUNKNOWN wNETWORK wTIMEOUT wBIZ wFORBIDDEN wSERIALIZATION wNO_PROVIDER wLIMIT kBY))] [(.int iv59)])) t → Steps p.tables e below (s₁.setTop (entryFrame m #[(.int p0), (.int p1)] maxLocals)) t := by
    intro t kk
    refine pre60 t ?_
    show Steps p.tables e below (s₁.setTop (mkF m 16 #[.val (.int p0), .val (.int p1), .unset, .unset] [(.int iv59)])) _
    refine XS.istoreN X0.here hx rfl (hb hby at_16) rfl (l' := #[.val (.int p0), .val (.int p1), .val (.int iv59), .unset]) rfl ?_
    show Steps p.tables e below (s₁.setTop (mkF m 17 #[.val (.int p0), .val (.int p1), .val (.int iv59), .unset] [])) _
    refine XS.iloadN X0.here hx rfl (hb hby at_17) rfl ?_
    show Steps p.tables e below (s₁.setTop (mkF m 18 #[.val (.int p0), .val (.int p1), .val (.int iv59), .unset] [(.int iv59)])) _
    refine st61 _ ?_
    show Steps p.tables e below (T61.setTop (mkF m 21 #[.val (.int p0), .val (.int p1), .val (.int iv59), .unset] [(.ref (F1 iv59 wBY_VALUE wUNKNOWN wNETWORK wTIMEOUT wBIZ wFORBIDDEN wSERIALIZATION wNO_PROVIDER wLIMIT kBY))])) _
    refine XS.astoreN X61.here hx rfl (hb hby at_21) rfl rfl (l' := #[.val (.int p0), .val (.int p1), .val (.int iv59), .val (.ref (F1 iv59 wBY_VALUE wUNKNOWN wNETWORK wTIMEOUT wBIZ wFORBIDDEN wSERIALIZATION wNO_PROVIDER wLIMIT kBY))]) rfl ?_
    show Steps p.tables e below (T61.setTop (mkF m 22 #[.val (.int p0), .val (.int p1), .val (.int iv59), .val (.ref (F1 iv59 wBY_VALUE wUNKNOWN wNETWORK wTIMEOUT wBIZ wFORBIDDEN wSERIALIZATION wNO_PROVIDER wLIMIT kBY))] [])) _
    refine XS.aloadN X61.here hx rfl (hb hby at_22) rfl rfl ?_
    show Steps p.tables e below (T61.setTop (mkF m 23 #[.val (.int p0), .val (.int p1), .val (.int iv59), .val (.ref (F1 iv59 wBY_VALUE wUNKNOWN wNETWORK wTIMEOUT wBIZ wFORBIDDEN wSERIALIZATION wNO_PROVIDER wLIMIT kBY))] [(.ref (F1 iv59 wBY_VALUE wUNKNOWN wNETWORK wTIMEOUT wBIZ wFORBIDDEN wSERIALIZATION wNO_PROVIDER wLIMIT kBY))])) _
    refine XS.iloadN X61.here hx rfl (hb hby at_23) rfl ?_
    show Steps p.tables e below (T61.setTop (mkF m 24 #[.val (.int p0), .val (.int p1), .val (.int iv59), .val (.ref (F1 iv59 wBY_VALUE wUNKNOWN wNETWORK wTIMEOUT wBIZ wFORBIDDEN wSERIALIZATION wNO_PROVIDER wLIMIT kBY))] [(.int iv59), (.ref (F1 iv59 wBY_VALUE wUNKNOWN wNETWORK wTIMEOUT wBIZ wFORBIDDEN wSERIALIZATION wNO_PROVIDER wLIMIT kBY))])) _
    refine st62 _ ?_
    show Steps p.tables e below (T62.setTop (mkF m 27 #[.val (.int p0), .val (.int p1), .val (.int iv59), .val (.ref (F1 iv59 wBY_VALUE wUNKNOWN wNETWORK wTIMEOUT wBIZ wFORBIDDEN wSERIALIZATION wNO_PROVIDER wLIMIT kBY))] [(.ref (F2 iv59 wUNKNOWN wNETWORK wTIMEOUT wBIZ wFORBIDDEN wSERIALIZATION wNO_PROVIDER wLIMIT)), (.ref (F1 iv59 wBY_VALUE wUNKNOWN wNETWORK wTIMEOUT wBIZ wFORBIDDEN wSERIALIZATION wNO_PROVIDER wLIMIT kBY))])) _
    refine Jvm.RoadKit.acmp (g := (mkF m 27 #[.val (.int p0), .val (.int p1), .val (.int iv59), .val (.ref (F1 iv59 wBY_VALUE wUNKNOWN wNETWORK wTIMEOUT wBIZ wFORBIDDEN wSERIALIZATION wNO_PROVIDER wLIMIT kBY))] [(.ref (F2 iv59 wUNKNOWN wNETWORK wTIMEOUT wBIZ wFORBIDDEN wSERIALIZATION wNO_PROVIDER wLIMIT)), (.ref (F1 iv59 wBY_VALUE wUNKNOWN wNETWORK wTIMEOUT wBIZ wFORBIDDEN wSERIALIZATION wNO_PROVIDER wLIMIT kBY))])) X62 hx rfl rfl rfl (pc0 := 27) (pc' := 32) (same := true) rfl (hb hby at_27) rfl (decide_eq_true (congrArg Value.ref (own_eq iv59 wBY_VALUE wUNKNOWN wNETWORK wTIMEOUT wBIZ wFORBIDDEN wSERIALIZATION wNO_PROVIDER wLIMIT kBY))) (by decide) (by decide) ?_
    show Steps p.tables e below (T62.setTop (mkF m 32 #[.val (.int p0), .val (.int p1), .val (.int iv59), .val (.ref (F1 iv59 wBY_VALUE wUNKNOWN wNETWORK wTIMEOUT wBIZ wFORBIDDEN wSERIALIZATION wNO_PROVIDER wLIMIT kBY))] [])) _
    refine XS.iloadN X62.here hx rfl (hb hby at_32) rfl ?_
    exact kk
  by_cases hc33_63 : iv59 < (0 : Int32)
  · have pre65 : ∀ t, Steps p.tables e below (T62.setTop (mkF m 57 #[.val (.int p0), .val (.int p1), .val (.int iv59), .val (.ref (F1 iv59 wBY_VALUE wUNKNOWN wNETWORK wTIMEOUT wBIZ wFORBIDDEN wSERIALIZATION wNO_PROVIDER wLIMIT kBY))] [(.int (1 : Int32))])) t → Steps p.tables e below (s₁.setTop (entryFrame m #[(.int p0), (.int p1)] maxLocals)) t := by
      intro t kk
      refine pre64 t ?_
      show Steps p.tables e below (T62.setTop (mkF m 33 #[.val (.int p0), .val (.int p1), .val (.int iv59), .val (.ref (F1 iv59 wBY_VALUE wUNKNOWN wNETWORK wTIMEOUT wBIZ wFORBIDDEN wSERIALIZATION wNO_PROVIDER wLIMIT kBY))] [(.int iv59)])) _
      refine XS.ifYes X62.here hx rfl (pc0 := 33) (pc' := 56) rfl (hb hby at_33) rfl ((if0 _ _).trans (tlt hc33_63).1) (by decide) (by decide) ?_
      show Steps p.tables e below (T62.setTop (mkF m 56 #[.val (.int p0), .val (.int p1), .val (.int iv59), .val (.ref (F1 iv59 wBY_VALUE wUNKNOWN wNETWORK wTIMEOUT wBIZ wFORBIDDEN wSERIALIZATION wNO_PROVIDER wLIMIT kBY))] [])) _
      refine XS.iconst X62.here hx rfl (hb hby at_56) ?_
      exact kk
    obtain ⟨fs, hr, hrun, hended, hW, hsame⟩ := X62.leave (v := some (.int (1 : Int32))) (fun h => by rw [Bd.returns] at h; cases h)
    refine ⟨_, _, pre65 _ ?_, hrun, hended, _, _, rfl, ?_, ⟨_, rfl⟩, hW, hsame.mono (by decide) (by decide)⟩
    · show Steps p.tables e below (T62.setTop (mkF m 57 #[.val (.int p0), .val (.int p1), .val (.int iv59), .val (.ref (F1 iv59 wBY_VALUE wUNKNOWN wNETWORK wTIMEOUT wBIZ wFORBIDDEN wSERIALIZATION wNO_PROVIDER wLIMIT kBY))] [(.int (1 : Int32))])) _
      exact retN X62 hx (t := .boolean) Bd.returns (by simp) (hb hby at_57) hr
    · show Q0 Z p0 p1 wBY_VALUE wUNKNOWN wNETWORK wTIMEOUT wBIZ wFORBIDDEN wSERIALIZATION wNO_PROVIDER wLIMIT kBY h0 n0 _ T62.heap _
      rw [e62]
      exact ⟨rfl, N62⟩
  · have pre67 : ∀ t, Steps p.tables e below (T62.setTop (mkF m 39 #[.val (.int p0), .val (.int p1), .val (.int iv59), .val (.ref (F1 iv59 wBY_VALUE wUNKNOWN wNETWORK wTIMEOUT wBIZ wFORBIDDEN wSERIALIZATION wNO_PROVIDER wLIMIT kBY))] [(.int (7 : Int32)), (.int iv59)])) t → Steps p.tables e below (s₁.setTop (entryFrame m #[(.int p0), (.int p1)] maxLocals)) t := by
      intro t kk
      refine pre64 t ?_
      show Steps p.tables e below (T62.setTop (mkF m 33 #[.val (.int p0), .val (.int p1), .val (.int iv59), .val (.ref (F1 iv59 wBY_VALUE wUNKNOWN wNETWORK wTIMEOUT wBIZ wFORBIDDEN wSERIALIZATION wNO_PROVIDER wLIMIT kBY))] [(.int iv59)])) _
      refine XS.ifNo X62.here hx rfl (hb hby at_33) rfl ((if0 _ _).trans (flt hc33_63).1) ?_
      show Steps p.tables e below (T62.setTop (mkF m 36 #[.val (.int p0), .val (.int p1), .val (.int iv59), .val (.ref (F1 iv59 wBY_VALUE wUNKNOWN wNETWORK wTIMEOUT wBIZ wFORBIDDEN wSERIALIZATION wNO_PROVIDER wLIMIT kBY))] [])) _
      refine XS.iloadN X62.here hx rfl (hb hby at_36) rfl ?_
      show Steps p.tables e below (T62.setTop (mkF m 37 #[.val (.int p0), .val (.int p1), .val (.int iv59), .val (.ref (F1 iv59 wBY_VALUE wUNKNOWN wNETWORK wTIMEOUT wBIZ wFORBIDDEN wSERIALIZATION wNO_PROVIDER wLIMIT kBY))] [(.int iv59)])) _
      refine XS.bipush X62.here hx rfl (hb hby at_37) ?_
      exact kk
    by_cases hc39_66 : (7 : Int32) < iv59
    · have pre68 : ∀ t, Steps p.tables e below (T62.setTop (mkF m 57 #[.val (.int p0), .val (.int p1), .val (.int iv59), .val (.ref (F1 iv59 wBY_VALUE wUNKNOWN wNETWORK wTIMEOUT wBIZ wFORBIDDEN wSERIALIZATION wNO_PROVIDER wLIMIT kBY))] [(.int (1 : Int32))])) t → Steps p.tables e below (s₁.setTop (entryFrame m #[(.int p0), (.int p1)] maxLocals)) t := by
        intro t kk
        refine pre67 t ?_
        show Steps p.tables e below (T62.setTop (mkF m 39 #[.val (.int p0), .val (.int p1), .val (.int iv59), .val (.ref (F1 iv59 wBY_VALUE wUNKNOWN wNETWORK wTIMEOUT wBIZ wFORBIDDEN wSERIALIZATION wNO_PROVIDER wLIMIT kBY))] [(.int (7 : Int32)), (.int iv59)])) _
        refine XS.icmpYes X62.here hx rfl (pc0 := 39) (pc' := 56) rfl (hb hby at_39) rfl (tlt hc39_66).2.2.1 (by decide) (by decide) ?_
        show Steps p.tables e below (T62.setTop (mkF m 56 #[.val (.int p0), .val (.int p1), .val (.int iv59), .val (.ref (F1 iv59 wBY_VALUE wUNKNOWN wNETWORK wTIMEOUT wBIZ wFORBIDDEN wSERIALIZATION wNO_PROVIDER wLIMIT kBY))] [])) _
        refine XS.iconst X62.here hx rfl (hb hby at_56) ?_
        exact kk
      obtain ⟨fs, hr, hrun, hended, hW, hsame⟩ := X62.leave (v := some (.int (1 : Int32))) (fun h => by rw [Bd.returns] at h; cases h)
      refine ⟨_, _, pre68 _ ?_, hrun, hended, _, _, rfl, ?_, ⟨_, rfl⟩, hW, hsame.mono (by decide) (by decide)⟩
      · show Steps p.tables e below (T62.setTop (mkF m 57 #[.val (.int p0), .val (.int p1), .val (.int iv59), .val (.ref (F1 iv59 wBY_VALUE wUNKNOWN wNETWORK wTIMEOUT wBIZ wFORBIDDEN wSERIALIZATION wNO_PROVIDER wLIMIT kBY))] [(.int (1 : Int32))])) _
        exact retN X62 hx (t := .boolean) Bd.returns (by simp) (hb hby at_57) hr
      · show Q0 Z p0 p1 wBY_VALUE wUNKNOWN wNETWORK wTIMEOUT wBIZ wFORBIDDEN wSERIALIZATION wNO_PROVIDER wLIMIT kBY h0 n0 _ T62.heap _
        rw [e62]
        exact ⟨rfl, N62⟩
    · obtain ⟨Er69, Fr69⟩ := own_ef (h := h0) iv59 wBY_VALUE wUNKNOWN wNETWORK wTIMEOUT wBIZ wFORBIDDEN wSERIALIZATION wNO_PROVIDER wLIMIT kBY hc33_63 hc39_66 E_UNKNOWN E_NETWORK E_TIMEOUT E_BIZ E_FORBIDDEN E_SERIALIZATION E_NO_PROVIDER E_LIMIT G_UNKNOWN G_NETWORK G_TIMEOUT G_BIZ G_FORBIDDEN G_SERIALIZATION G_NO_PROVIDER G_LIMIT
      obtain ⟨cq70, kq70, q70a, q70b, q70c⟩ := isOf hZ e62 Er69
      obtain ⟨_, _, ⟨T70, L70, k70, n70⟩, -, X70, ⟨Lc70, hQ70, l70, y70, z70⟩, st70⟩ := X62.virtualBack hx (y := (⟨"farspeak/rpc/ErrorCode", "value", "()I"⟩ : MethodName)) (z := (⟨"farspeak/rpc/ErrorCode", "value", "()I"⟩ : MethodName)) hown (mvT hZ (hw _ (List.mem_of_getElem? (i := 12) rfl))) (mvT hZ (hw _ (List.mem_of_getElem? (i := 13) rfl))) (notFace_of_selects (args := #[]) (mvT hZ (hw _ (List.mem_of_getElem? (i := 15) rfl)))) (mvT hZ (hw _ (List.mem_of_getElem? (i := 15) rfl))) (mvT hZ (hw _ (List.mem_of_getElem? (i := 14) rfl))) (by decide) (backOf (W := 0) (rm3 l Z a0 hw [] (F1 iv59 wBY_VALUE wUNKNOWN wNETWORK wTIMEOUT wBIZ wFORBIDDEN wSERIALIZATION wNO_PROVIDER wLIMIT kBY) iv59 h0 n0 Z0 Fr69) hZ (hw _ (List.mem_of_getElem? (i := 16) rfl)) (hw _ (List.mem_of_getElem? (i := 2) rfl)) (by decide) (by decide)) q70a q70c (g := (mkF m 43 #[.val (.int p0), .val (.int p1), .val (.int iv59), .val (.ref (F1 iv59 wBY_VALUE wUNKNOWN wNETWORK wTIMEOUT wBIZ wFORBIDDEN wSERIALIZATION wNO_PROVIDER wLIMIT kBY))] [(.ref (F1 iv59 wBY_VALUE wUNKNOWN wNETWORK wTIMEOUT wBIZ wFORBIDDEN wSERIALIZATION wNO_PROVIDER wLIMIT kBY))])) rfl (by rw [hml]; rfl) (Steps.refl _) (argsL := []) (rest := []) (lenOf pd__28_29I rfl) rfl (by show 2 * 0 + _ ≤ _; exact Nat.le_of_eq rfl) (hb hby at_43) (fun _ _ => ⟨rfl, e62, (by decide : 0 + 0 ≤ _), (by decide : 0 + 0 ≤ _)⟩)
      dsimp only [Pt.U, Pt.locs, Pt.cells, Pt.slots] at X70 l70 y70 z70 st70 hQ70
      subst l70 y70 z70
      obtain ⟨rfl, N70q, e70⟩ := hQ70
      have N70 := Fr.app N62 N70q
      have pre71 : ∀ t, Steps p.tables e below (T70.setTop (mkF m 55 #[.val (.int p0), .val (.int p1), .val (.int iv59), .val (.ref (F1 iv59 wBY_VALUE wUNKNOWN wNETWORK wTIMEOUT wBIZ wFORBIDDEN wSERIALIZATION wNO_PROVIDER wLIMIT kBY))] [(.int (1 : Int32))])) t → Steps p.tables e below (s₁.setTop (entryFrame m #[(.int p0), (.int p1)] maxLocals)) t := by
        intro t kk
        refine pre67 t ?_
        show Steps p.tables e below (T62.setTop (mkF m 39 #[.val (.int p0), .val (.int p1), .val (.int iv59), .val (.ref (F1 iv59 wBY_VALUE wUNKNOWN wNETWORK wTIMEOUT wBIZ wFORBIDDEN wSERIALIZATION wNO_PROVIDER wLIMIT kBY))] [(.int (7 : Int32)), (.int iv59)])) _
        refine XS.icmpNo X62.here hx rfl (hb hby at_39) rfl (flt hc39_66).2.2.1 ?_
        show Steps p.tables e below (T62.setTop (mkF m 42 #[.val (.int p0), .val (.int p1), .val (.int iv59), .val (.ref (F1 iv59 wBY_VALUE wUNKNOWN wNETWORK wTIMEOUT wBIZ wFORBIDDEN wSERIALIZATION wNO_PROVIDER wLIMIT kBY))] [])) _
        refine XS.aloadN X62.here hx rfl (hb hby at_42) rfl rfl ?_
        show Steps p.tables e below (T62.setTop (mkF m 43 #[.val (.int p0), .val (.int p1), .val (.int iv59), .val (.ref (F1 iv59 wBY_VALUE wUNKNOWN wNETWORK wTIMEOUT wBIZ wFORBIDDEN wSERIALIZATION wNO_PROVIDER wLIMIT kBY))] [(.ref (F1 iv59 wBY_VALUE wUNKNOWN wNETWORK wTIMEOUT wBIZ wFORBIDDEN wSERIALIZATION wNO_PROVIDER wLIMIT kBY))])) _
        refine st70.trans ?_
        show Steps p.tables e below (T70.setTop (mkF m 46 #[.val (.int p0), .val (.int p1), .val (.int iv59), .val (.ref (F1 iv59 wBY_VALUE wUNKNOWN wNETWORK wTIMEOUT wBIZ wFORBIDDEN wSERIALIZATION wNO_PROVIDER wLIMIT kBY))] [(.int iv59)])) _
        refine XS.iloadN X70.here hx rfl (hb hby at_46) rfl ?_
        show Steps p.tables e below (T70.setTop (mkF m 47 #[.val (.int p0), .val (.int p1), .val (.int iv59), .val (.ref (F1 iv59 wBY_VALUE wUNKNOWN wNETWORK wTIMEOUT wBIZ wFORBIDDEN wSERIALIZATION wNO_PROVIDER wLIMIT kBY))] [(.int iv59), (.int iv59)])) _
        refine XS.icmpNo X70.here hx rfl (hb hby at_47) rfl (teq (rfl : iv59 = iv59)).2 ?_
        show Steps p.tables e below (T70.setTop (mkF m 50 #[.val (.int p0), .val (.int p1), .val (.int iv59), .val (.ref (F1 iv59 wBY_VALUE wUNKNOWN wNETWORK wTIMEOUT wBIZ wFORBIDDEN wSERIALIZATION wNO_PROVIDER wLIMIT kBY))] [])) _
        refine XS.iconst X70.here hx rfl (hb hby at_50) ?_
        show Steps p.tables e below (T70.setTop (mkF m 51 #[.val (.int p0), .val (.int p1), .val (.int iv59), .val (.ref (F1 iv59 wBY_VALUE wUNKNOWN wNETWORK wTIMEOUT wBIZ wFORBIDDEN wSERIALIZATION wNO_PROVIDER wLIMIT kBY))] [(.int (1 : Int32))])) _
        refine XS.goto X70.here hx rfl (pc0 := 51) (pc' := 55) rfl (hb hby at_51) (by decide) (by decide) ?_
        exact kk
      obtain ⟨fs, hr, hrun, hended, hW, hsame⟩ := X70.leave (v := some (.int (1 : Int32))) (fun h => by rw [Bd.returns] at h; cases h)
      refine ⟨_, _, pre71 _ ?_, hrun, hended, _, _, rfl, ?_, ⟨_, rfl⟩, hW, hsame.mono (by decide) (by decide)⟩
      · show Steps p.tables e below (T70.setTop (mkF m 55 #[.val (.int p0), .val (.int p1), .val (.int iv59), .val (.ref (F1 iv59 wBY_VALUE wUNKNOWN wNETWORK wTIMEOUT wBIZ wFORBIDDEN wSERIALIZATION wNO_PROVIDER wLIMIT kBY))] [(.int (1 : Int32))])) _
        exact retN X70 hx (t := .boolean) Bd.returns (by simp) (hb hby at_55) hr
      · show Q0 Z p0 p1 wBY_VALUE wUNKNOWN wNETWORK wTIMEOUT wBIZ wFORBIDDEN wSERIALIZATION wNO_PROVIDER wLIMIT kBY h0 n0 _ T70.heap _
        rw [e70]
        exact ⟨rfl, N70⟩
theorem own_len {s : State} {args : Array Value} {t : Term} {n : Int32} {a : Addr} {cl : Cell} (h : (Term.length t).eval args s none [] s = some (.int n)) (ht : t.eval args s none [] s = some (.ref a)) (hA : s.arrayAt? a = some cl) : cl.slots.size < 2 ^ 31 ∧ cl.slots.size.toInt32 = n := by
  simp only [Term.eval, ht, hA, Option.bind_eq_bind, Option.bind_some] at h
  split at h
  · rename_i q
    refine ⟨q, ?_⟩
    have h2 : some (Value.int cl.slots.size.toInt32) = some (Value.int n) := h
    cases h2
    rfl
  · cases h
set_option maxRecDepth 65536 in
set_option maxHeartbeats 40000000 in
theorem comes_1 {Post : Tables → Env → Array Value → State → Outcome → State → Prop} (hpost : ∀ tb e args s v u, (limb_1_1.after args s (.returned v) u = true ∧ limb_1_2.after args s (.returned v) u = true ∧ True) → FrameEnd s (.returned v) u (Jvm.fieldLocs frame_1_writes args s ++ Jvm.arrayLocs frame_1_arrays args s ++ Jvm.staticLocs frame_1_statics s) 0 0 → Post tb e args s (.returned v) u) :
    ArmFor flags0 classFile x code maxLocals ret World_1 tables_1 room_1 Calls_1 rest_1 Pre_1 Post := by
  intro l hfl _ _ p e ha hc hk s m args below hf hA hF happ hP
  obtain ⟨hcalls, hrest, hpre⟩ := hP
  obtain ⟨-, -, -, hnamed, -, -, -, hat⟩ := (Spec.applies_iff hf).mp happ
  obtain ⟨hg, hn⟩ := and_e (Cond.before_iff.mp (show (Jvm.Cond.and given_1 narrow_1).before args s = true from hpre))
  obtain ⟨hcount, hg0⟩ := and_e hg
  obtain ⟨ga0, hg1⟩ := and_e hg0
  have ga1 := hg1
  obtain ⟨w0, w1, rfl⟩ : ∃ w0 w1 : Value, args = #[w0, w1] := by
    have hs : args.size = 2 := by simpa [Cond.value, given_1] using hcount
    obtain ⟨L⟩ := args
    match L, hs with
    | [w0, w1], _ => exact ⟨w0, w1, rfl⟩
  have hw := fun d (hd : d ∈ tables_1) => atoms_spec (ws := Jvm.Cond.code x code maxLocals ret :: tables_1) hat d (List.mem_cons_of_mem _ hd)
  have hfit : Fit s := fun {y c} hc i hi => by
    obtain ⟨ha, rfl⟩ := Array.getElem?_eq_some_iff.mp hc
    have q := List.all_eq_true.mp ((Array.all_eq_true_iff_forall_mem.mp hF) _ (Array.getElem_mem ha)) i (List.mem_range.mpr hi)
    simpa [Array.getElem?_eq_getElem hi] using q
  obtain ⟨i0, ei0⟩ := is_v ga0
  obtain rfl : w0 = (.int i0) := Option.some.inj ei0
  obtain ⟨i1, ei1⟩ := is_v ga1
  obtain rfl : w1 = (.int i1) := Option.some.inj ei1
  obtain ⟨hn_0, hn_r0⟩ := and_e hn
  obtain ⟨hn_1, hn_r1⟩ := and_e hn_r0
  obtain ⟨hn_2, hn_r2⟩ := and_e hn_r1
  obtain ⟨hn_3, hn_r3⟩ := and_e hn_r2
  obtain ⟨hn_4, hn_r4⟩ := and_e hn_r3
  obtain ⟨hn_5, hn_r5⟩ := and_e hn_r4
  obtain ⟨hn_6, hn_r6⟩ := and_e hn_r5
  obtain ⟨hn_7, hn_r7⟩ := and_e hn_r6
  obtain ⟨hn_8, hn_r8⟩ := and_e hn_r7
  obtain ⟨hn_9, hn_r9⟩ := and_e hn_r8
  obtain ⟨hn_10, hn_r10⟩ := and_e hn_r9
  obtain ⟨hn_11, hn_r11⟩ := and_e hn_r10
  obtain ⟨hn_12, hn_r12⟩ := and_e hn_r11
  obtain ⟨hn_13, hn_r13⟩ := and_e hn_r12
  obtain ⟨hn_14, hn_r14⟩ := and_e hn_r13
  obtain ⟨hn_15, hn_r15⟩ := and_e hn_r14
  obtain ⟨hn_16, hn_r16⟩ := and_e hn_r15
  obtain ⟨hn_17, hn_r17⟩ := and_e hn_r16
  obtain ⟨hn_18, hn_r18⟩ := and_e hn_r17
  obtain ⟨hn_19, hn_r19⟩ := and_e hn_r18
  obtain ⟨hn_20, hn_r20⟩ := and_e hn_r19
  obtain ⟨hn_21, hn_r21⟩ := and_e hn_r20
  obtain ⟨hn_22, hn_r22⟩ := and_e hn_r21
  obtain ⟨hn_23, hn_r23⟩ := and_e hn_r22
  obtain ⟨hn_24, hn_r24⟩ := and_e hn_r23
  have hn_25 := hn_r24
  obtain ⟨wUNKNOWN, vUNKNOWN⟩ := exa_v hn_2
  have S_UNKNOWN : Sta s s.heap "farspeak/rpc/ErrorCode" "UNKNOWN" "Lfarspeak/rpc/ErrorCode;" (.ref wUNKNOWN) := Sta.start vUNKNOWN (Or.inr ⟨(hw _ (List.mem_of_getElem? (i := 2) rfl)), (hw _ (List.mem_of_getElem? (i := 6) rfl))⟩)
  have X_UNKNOWN : Exa s s.heap wUNKNOWN "farspeak/rpc/ErrorCode" := Exa.start vUNKNOWN hn_2
  obtain ⟨wFORBIDDEN, vFORBIDDEN⟩ := exa_v hn_5
  have S_FORBIDDEN : Sta s s.heap "farspeak/rpc/ErrorCode" "FORBIDDEN" "Lfarspeak/rpc/ErrorCode;" (.ref wFORBIDDEN) := Sta.start vFORBIDDEN (Or.inr ⟨(hw _ (List.mem_of_getElem? (i := 2) rfl)), (hw _ (List.mem_of_getElem? (i := 20) rfl))⟩)
  have X_FORBIDDEN : Exa s s.heap wFORBIDDEN "farspeak/rpc/ErrorCode" := Exa.start vFORBIDDEN hn_5
  obtain ⟨wTIMEOUT, vTIMEOUT⟩ := exa_v hn_8
  have S_TIMEOUT : Sta s s.heap "farspeak/rpc/ErrorCode" "TIMEOUT" "Lfarspeak/rpc/ErrorCode;" (.ref wTIMEOUT) := Sta.start vTIMEOUT (Or.inr ⟨(hw _ (List.mem_of_getElem? (i := 2) rfl)), (hw _ (List.mem_of_getElem? (i := 22) rfl))⟩)
  have X_TIMEOUT : Exa s s.heap wTIMEOUT "farspeak/rpc/ErrorCode" := Exa.start vTIMEOUT hn_8
  obtain ⟨wBIZ, vBIZ⟩ := exa_v hn_11
  have S_BIZ : Sta s s.heap "farspeak/rpc/ErrorCode" "BIZ" "Lfarspeak/rpc/ErrorCode;" (.ref wBIZ) := Sta.start vBIZ (Or.inr ⟨(hw _ (List.mem_of_getElem? (i := 2) rfl)), (hw _ (List.mem_of_getElem? (i := 24) rfl))⟩)
  have X_BIZ : Exa s s.heap wBIZ "farspeak/rpc/ErrorCode" := Exa.start vBIZ hn_11
  obtain ⟨wNETWORK, vNETWORK⟩ := exa_v hn_14
  have S_NETWORK : Sta s s.heap "farspeak/rpc/ErrorCode" "NETWORK" "Lfarspeak/rpc/ErrorCode;" (.ref wNETWORK) := Sta.start vNETWORK (Or.inr ⟨(hw _ (List.mem_of_getElem? (i := 2) rfl)), (hw _ (List.mem_of_getElem? (i := 26) rfl))⟩)
  have X_NETWORK : Exa s s.heap wNETWORK "farspeak/rpc/ErrorCode" := Exa.start vNETWORK hn_14
  obtain ⟨wLIMIT, vLIMIT⟩ := exa_v hn_17
  have S_LIMIT : Sta s s.heap "farspeak/rpc/ErrorCode" "LIMIT" "Lfarspeak/rpc/ErrorCode;" (.ref wLIMIT) := Sta.start vLIMIT (Or.inr ⟨(hw _ (List.mem_of_getElem? (i := 2) rfl)), (hw _ (List.mem_of_getElem? (i := 28) rfl))⟩)
  have X_LIMIT : Exa s s.heap wLIMIT "farspeak/rpc/ErrorCode" := Exa.start vLIMIT hn_17
  obtain ⟨wSERIALIZATION, vSERIALIZATION⟩ := exa_v hn_20
  have S_SERIALIZATION : Sta s s.heap "farspeak/rpc/ErrorCode" "SERIALIZATION" "Lfarspeak/rpc/ErrorCode;" (.ref wSERIALIZATION) := Sta.start vSERIALIZATION (Or.inr ⟨(hw _ (List.mem_of_getElem? (i := 2) rfl)), (hw _ (List.mem_of_getElem? (i := 30) rfl))⟩)
  have X_SERIALIZATION : Exa s s.heap wSERIALIZATION "farspeak/rpc/ErrorCode" := Exa.start vSERIALIZATION hn_20
  obtain ⟨wNO_PROVIDER, vNO_PROVIDER⟩ := exa_v hn_23
  have S_NO_PROVIDER : Sta s s.heap "farspeak/rpc/ErrorCode" "NO_PROVIDER" "Lfarspeak/rpc/ErrorCode;" (.ref wNO_PROVIDER) := Sta.start vNO_PROVIDER (Or.inr ⟨(hw _ (List.mem_of_getElem? (i := 2) rfl)), (hw _ (List.mem_of_getElem? (i := 32) rfl))⟩)
  have X_NO_PROVIDER : Exa s s.heap wNO_PROVIDER "farspeak/rpc/ErrorCode" := Exa.start vNO_PROVIDER hn_23
  have F_UNKNOWN := own_fld vUNKNOWN hn_4
  have F_FORBIDDEN := own_fld vFORBIDDEN hn_7
  have F_TIMEOUT := own_fld vTIMEOUT hn_10
  have F_BIZ := own_fld vBIZ hn_13
  have F_NETWORK := own_fld vNETWORK hn_16
  have F_LIMIT := own_fld vLIMIT hn_19
  have F_SERIALIZATION := own_fld vSERIALIZATION hn_22
  have F_NO_PROVIDER := own_fld vNO_PROVIDER hn_25
  obtain ⟨wB, vB⟩ := arr_v hn_0
  obtain ⟨cB, AB⟩ := Arr.start vB hn_0
  have S_BY : Sta s s.heap "farspeak/rpc/ErrorCode" "BY_VALUE" "[Lfarspeak/rpc/ErrorCode;" (.ref wB) := Sta.start vB (Or.inr ⟨(hw _ (List.mem_of_getElem? (i := 2) rfl)), (hw _ (List.mem_of_getElem? (i := 5) rfl))⟩)
  have hArr : s.arrayAt? wB = some cB := AB.fin (Vm.Alike.refl _)
  obtain ⟨lv, l1, l2⟩ := Cond.eq_worth hn_1
  have l3 : lv = .int (8 : Int32) := (Option.some.inj l2).symm
  subst l3
  obtain ⟨l4, l5⟩ := own_len l1 vB hArr
  obtain ⟨z0, y0, x0⟩ := Cond.eq_worth hn_3
  obtain rfl : z0 = .ref wUNKNOWN := Option.some.inj (x0.symm.trans vUNKNOWN)
  have el0 : cB.slots[0]? = some (.ref wUNKNOWN) := (elem_in y0 vB rfl AB.1).2
  obtain ⟨z1, y1, x1⟩ := Cond.eq_worth hn_15
  obtain rfl : z1 = .ref wNETWORK := Option.some.inj (x1.symm.trans vNETWORK)
  have el1 : cB.slots[1]? = some (.ref wNETWORK) := (elem_in y1 vB rfl AB.1).2
  obtain ⟨z2, y2, x2⟩ := Cond.eq_worth hn_9
  obtain rfl : z2 = .ref wTIMEOUT := Option.some.inj (x2.symm.trans vTIMEOUT)
  have el2 : cB.slots[2]? = some (.ref wTIMEOUT) := (elem_in y2 vB rfl AB.1).2
  obtain ⟨z3, y3, x3⟩ := Cond.eq_worth hn_12
  obtain rfl : z3 = .ref wBIZ := Option.some.inj (x3.symm.trans vBIZ)
  have el3 : cB.slots[3]? = some (.ref wBIZ) := (elem_in y3 vB rfl AB.1).2
  obtain ⟨z4, y4, x4⟩ := Cond.eq_worth hn_6
  obtain rfl : z4 = .ref wFORBIDDEN := Option.some.inj (x4.symm.trans vFORBIDDEN)
  have el4 : cB.slots[4]? = some (.ref wFORBIDDEN) := (elem_in y4 vB rfl AB.1).2
  obtain ⟨z5, y5, x5⟩ := Cond.eq_worth hn_21
  obtain rfl : z5 = .ref wSERIALIZATION := Option.some.inj (x5.symm.trans vSERIALIZATION)
  have el5 : cB.slots[5]? = some (.ref wSERIALIZATION) := (elem_in y5 vB rfl AB.1).2
  obtain ⟨z6, y6, x6⟩ := Cond.eq_worth hn_24
  obtain rfl : z6 = .ref wNO_PROVIDER := Option.some.inj (x6.symm.trans vNO_PROVIDER)
  have el6 : cB.slots[6]? = some (.ref wNO_PROVIDER) := (elem_in y6 vB rfl AB.1).2
  obtain ⟨z7, y7, x7⟩ := Cond.eq_worth hn_18
  obtain rfl : z7 = .ref wLIMIT := Option.some.inj (x7.symm.trans vLIMIT)
  have el7 : cB.slots[7]? = some (.ref wLIMIT) := (elem_in y7 vB rfl AB.1).2
  have VBY : Arv s s.heap wB cB.cls (.object "farspeak/rpc/ErrorCode") (8 : Int32) [(.ref wUNKNOWN), (.ref wNETWORK), (.ref wTIMEOUT), (.ref wBIZ), (.ref wFORBIDDEN), (.ref wSERIALIZATION), (.ref wNO_PROVIDER), (.ref wLIMIT)] .null := Arv.start hfit AB l4 l5 (by decide) rfl ⟨el0, el1, el2, el3, el4, el5, el6, el7, trivial⟩
  obtain ⟨n, o, h1, h2, h3, _, L, rfl, ⟨rfl, N⟩, hq⟩ := rm0 l s _ hw tables_1 i0 i1 wB wUNKNOWN wNETWORK wTIMEOUT wBIZ wFORBIDDEN wSERIALIZATION wNO_PROVIDER wLIMIT cB.cls s.heap s.heap.size (Nat.le_refl _) (Old.start s) S_BY S_UNKNOWN S_NETWORK S_TIMEOUT S_BIZ S_FORBIDDEN S_SERIALIZATION S_NO_PROVIDER S_LIMIT VBY X_UNKNOWN X_NETWORK X_TIMEOUT X_BIZ X_FORBIDDEN X_SERIALIZATION X_NO_PROVIDER X_LIMIT F_UNKNOWN F_NETWORK F_TIMEOUT F_BIZ F_FORBIDDEN F_SERIALIZATION F_NO_PROVIDER F_LIMIT p e ha hc hk s m _ below hf ((Spec.applies_iff_loose hf).mp happ).1 ⟨rfl, State.Warmed39.refl s, rfl⟩ trivial
  refine ⟨n, _, h1, h2, h3, hpost _ _ _ _ _ _ ⟨Cond.after_iff.mpr rfl, Cond.after_iff.mpr (eq_i res_at (Term.int_eval (1)) rfl), trivial⟩ ⟨hq.1, hq.2.1, (hq.2.2.sift fun y hy => Or.inr (N y hy)).mono (by decide) (by decide)⟩⟩
theorem main_1_1 : Claimed_1_1 := comes_1 fun _ _ _ _ _ _ h hF => ⟨h.1, hF⟩
theorem main_1_2 : Claimed_1_2 := comes_1 fun _ _ _ _ _ _ h hF => ⟨h.2.1, hF⟩
end Jvm.Pilot.@@N@@
namespace Jvm.Pilot.@@N@@
open Jvm Jvm.ClassFile Sem Op Lib Jvm.Free Jvm.Stand Jvm.Pilot.@@N@@.Jvm.D
/-! MADE BY PROGRAM (witnessworld.py) out of the Statement's table words and the real class files: 11 classes; the members and pool entries that the words name. The judged class is class 1, her method 2. -/
namespace start1
open Jvm.ClassFile
def u (s : String) : CpInfo := .utf8 (stringToUtf16 s)
/-- a pool by its gaps: so many unusable entries, then the entry; so many at the end -/
def gap : Nat → List CpInfo → List CpInfo
  | 0, r => r
  | n + 1, r => .unusable :: gap n r
def poolList (es : List (Nat × CpInfo)) (last : Nat) : List CpInfo := es.foldr (fun e r => gap e.1 (e.2 :: r)) (gap last [])
def pool (es : List (Nat × CpInfo)) (last : Nat) : Array CpInfo := ⟨poolList es last⟩
def fileOf (pool : Array CpInfo) (this : Nat) (attrs : Array Attribute := #[]) (ms : Array MethodInfo := #[]) (fl : Nat := 33) (sup : Nat := 0) (ifs : Array Nat := #[]) (fds : Array FieldInfo := #[]) : ClassFile where
  minorVersion := 0
  majorVersion := 65
  constantPool := pool
  accessFlags := fl
  thisClass := this
  superClass := sup
  interfaces := ifs
  fields := fds
  methods := ms
  attributes := attrs
def plain (name : String) (sup : Option ClassId) : Class where
  name := name
  kind := .ordinary
  loader := none
  accessFlags := 33
  super := sup
  interfaces := #[]
  cf := none
  fields := #[]
  methods := #[]
  instanceTypes := #[]
  staticTypes := #[]
  resolved := #[]
  callSites := []
  init := .initialized
  statics := none
  mirror := none

def pool0 : Array CpInfo := pool [(5, u "<init>"), (0, u "()V"), (1, .class_ 10), (1, u "java/lang/Object")] 113

def k0m0 : Method := { name := "<init>", desc := "()V", sig := { parameters := [], returnType := none }, accessFlags := 1, code := none }
/-- java/lang/Object -/
def k0 : Class := { plain "java/lang/Object" none with
  accessFlags := 33
  interfaces := #[]
  cf := some (fileOf pool0 8 #[] #[{ accessFlags := 1, nameIndex := 5, descriptorIndex := 6, attributes := #[] }] 33 0 #[] #[])
  fields := #[]
  methods := #[k0m0]
  instanceTypes := #[]
  staticTypes := #[]
  resolved := Array.replicate 124 none
  statics := none }

def pool1 : Array CpInfo := pool [(2, .class_ 4), (1, u "java/lang/Object"), (0, u "<init>"), (0, u "()V"), (0, .fieldref 8 9), (0, .class_ 10), (0, .nameAndType 11 12), (0, u "farspeak/rpc/ErrorCode"), (0, u "NETWORK"), (0, u "Lfarspeak/rpc/ErrorCode;"), (0, .fieldref 8 14), (0, .nameAndType 15 12), (0, u "TIMEOUT"), (0, .fieldref 8 17), (0, .nameAndType 18 12), (0, u "BIZ"), (0, .fieldref 8 20), (0, .nameAndType 21 12), (0, u "FORBIDDEN"), (0, .fieldref 8 23), (0, .nameAndType 24 12), (0, u "SERIALIZATION"), (0, .fieldref 8 26), (0, .nameAndType 27 12), (0, u "NO_PROVIDER"), (0, .fieldref 8 29), (0, .nameAndType 30 12), (0, u "LIMIT"), (0, .fieldref 8 32), (0, .nameAndType 33 12), (0, u "UNKNOWN"), (0, .methodref 8 35), (0, .nameAndType 36 37), (0, u "fromValue"), (0, u "(I)Lfarspeak/rpc/ErrorCode;"), (0, .methodref 39 40), (0, .class_ 41), (0, .nameAndType 42 37), (0, u "farspeak/rpc/ErrorCodeFromValuePinLaw"), (0, u "expected"), (0, .methodref 8 44), (0, .nameAndType 45 46), (0, u "value"), (0, u "()I"), (3, u "law"), (0, u "(II)Z")] 2

def k1m0 : Method := { name := "<init>", desc := "()V", sig := { parameters := [], returnType := none }, accessFlags := 1, code := none }
def k1c1 : Code := { maxStack := 2, maxLocals := 1, code := method_2_code, exceptionTable := #[], attributes := #[] }
def k1m1 : Method := { name := "expected", desc := "(I)Lfarspeak/rpc/ErrorCode;", sig := { parameters := [.int], returnType := some (.object "farspeak/rpc/ErrorCode") }, accessFlags := 10, code := some k1c1 }
def k1c2 : Code := { maxStack := 2, maxLocals := 4, code := code, exceptionTable := #[], attributes := #[] }
def k1m2 : Method := { name := "law", desc := "(II)Z", sig := { parameters := [.int, .int], returnType := some .boolean }, accessFlags := 9, code := some k1c2 }
/-- farspeak/rpc/ErrorCodeFromValuePinLaw -/
def k1 : Class := { plain "farspeak/rpc/ErrorCodeFromValuePinLaw" (some 0) with
  accessFlags := 49
  interfaces := #[]
  cf := some (fileOf pool1 39 #[] #[{ accessFlags := 1, nameIndex := 5, descriptorIndex := 6, attributes := #[] }, { accessFlags := 10, nameIndex := 42, descriptorIndex := 37, attributes := #[] }, { accessFlags := 9, nameIndex := 50, descriptorIndex := 51, attributes := #[] }] 49 2 #[] #[])
  fields := #[]
  methods := #[k1m0, k1m1, k1m2]
  instanceTypes := #[]
  staticTypes := #[]
  resolved := Array.replicate 54 none
  statics := none }

def pool2 : Array CpInfo := pool [(1, .class_ 2), (0, u "java/lang/constant/Constable"), (0, .class_ 4), (0, u "java/lang/Object")] 6

/-- java/lang/constant/Constable -/
def k2 : Class := { plain "java/lang/constant/Constable" (some 0) with
  accessFlags := 1537
  interfaces := #[]
  cf := some (fileOf pool2 1 #[] #[] 1537 3 #[] #[])
  fields := #[]
  methods := #[]
  instanceTypes := #[]
  staticTypes := #[]
  resolved := Array.replicate 11 none
  statics := none }

def pool3 : Array CpInfo := pool [(1, .class_ 2), (0, u "java/lang/Comparable"), (0, .class_ 4), (0, u "java/lang/Object")] 7

/-- java/lang/Comparable -/
def k3 : Class := { plain "java/lang/Comparable" (some 0) with
  accessFlags := 1537
  interfaces := #[]
  cf := some (fileOf pool3 1 #[] #[] 1537 3 #[] #[])
  fields := #[]
  methods := #[]
  instanceTypes := #[]
  staticTypes := #[]
  resolved := Array.replicate 12 none
  statics := none }

def pool4 : Array CpInfo := pool [(1, .class_ 2), (0, u "java/io/Serializable"), (0, .class_ 4), (0, u "java/lang/Object")] 2

/-- java/io/Serializable -/
def k4 : Class := { plain "java/io/Serializable" (some 0) with
  accessFlags := 1537
  interfaces := #[]
  cf := some (fileOf pool4 1 #[] #[] 1537 3 #[] #[])
  fields := #[]
  methods := #[]
  instanceTypes := #[]
  staticTypes := #[]
  resolved := Array.replicate 7 none
  statics := none }

def pool5 : Array CpInfo := pool [(2, .class_ 4), (1, u "java/lang/Enum"), (0, u "name"), (0, u "Ljava/lang/String;"), (2, u "ordinal"), (0, u "I"), (1, .class_ 14), (1, u "java/lang/Object"), (4, u "hash"), (86, .class_ 108), (1, u "java/lang/Enum$EnumDesc"), (2, .class_ 112), (0, u "java/lang/constant/Constable"), (0, .class_ 114), (0, u "java/lang/Comparable"), (0, .class_ 116), (0, u "java/io/Serializable")] 87

/-- java/lang/Enum -/
def k5 : Class := { plain "java/lang/Enum" (some 0) with
  accessFlags := 1057
  interfaces := #[2, 3, 4]
  cf := some (fileOf pool5 2 #[.nestMembers #[106]] #[] 1057 12 #[111, 113, 115] #[{ accessFlags := 18, nameIndex := 5, descriptorIndex := 6, attributes := #[] }, { accessFlags := 18, nameIndex := 9, descriptorIndex := 10, attributes := #[] }, { accessFlags := 2, nameIndex := 19, descriptorIndex := 10, attributes := #[] }])
  fields := #[{ name := "name", type := (.object "java/lang/String"), accessFlags := 18, slot := 0, constantValue := 0 }, { name := "ordinal", type := .int, accessFlags := 18, slot := 1, constantValue := 0 }, { name := "hash", type := .int, accessFlags := 2, slot := 2, constantValue := 0 }]
  methods := #[]
  instanceTypes := #[(.object "java/lang/String"), .int, .int]
  staticTypes := #[]
  resolved := Array.replicate 204 none
  statics := none }

def pool6 : Array CpInfo := pool [(1, .class_ 2), (0, u "farspeak/rpc/ErrorCode"), (0, .fieldref 1 4), (0, .nameAndType 5 6), (0, u "UNKNOWN"), (0, u "Lfarspeak/rpc/ErrorCode;"), (2, u "NETWORK"), (2, u "TIMEOUT"), (2, u "BIZ"), (2, u "FORBIDDEN"), (2, u "SERIALIZATION"), (2, u "NO_PROVIDER"), (2, u "LIMIT"), (2, u "$VALUES"), (0, u "[Lfarspeak/rpc/ErrorCode;"), (6, .class_ 40), (1, u "java/lang/Enum"), (6, .fieldref 1 48), (0, .nameAndType 49 50), (0, u "value"), (0, u "I"), (0, .fieldref 1 52), (0, .nameAndType 53 31), (0, u "BY_VALUE"), (24, u "()I"), (0, u "fromValue"), (0, u "(I)Lfarspeak/rpc/ErrorCode;")] 6

def k6c0 : Code := { maxStack := 1, maxLocals := 1, code := prog_76_method_4_code, exceptionTable := #[], attributes := #[] }
def k6m0 : Method := { name := "value", desc := "()I", sig := { parameters := [], returnType := some .int }, accessFlags := 1, code := some k6c0 }
def k6c1 : Code := { maxStack := 2, maxLocals := 1, code := prog_76_method_5_code, exceptionTable := #[], attributes := #[] }
def k6m1 : Method := { name := "fromValue", desc := "(I)Lfarspeak/rpc/ErrorCode;", sig := { parameters := [.int], returnType := some (.object "farspeak/rpc/ErrorCode") }, accessFlags := 9, code := some k6c1 }
/-- farspeak/rpc/ErrorCode -/
def k6 : Class := { plain "farspeak/rpc/ErrorCode" (some 5) with
  accessFlags := 16433
  interfaces := #[]
  cf := some (fileOf pool6 1 #[] #[{ accessFlags := 1, nameIndex := 49, descriptorIndex := 78, attributes := #[] }, { accessFlags := 9, nameIndex := 79, descriptorIndex := 80, attributes := #[] }] 16433 38 #[] #[{ accessFlags := 16409, nameIndex := 5, descriptorIndex := 6, attributes := #[] }, { accessFlags := 16409, nameIndex := 9, descriptorIndex := 6, attributes := #[] }, { accessFlags := 16409, nameIndex := 12, descriptorIndex := 6, attributes := #[] }, { accessFlags := 16409, nameIndex := 15, descriptorIndex := 6, attributes := #[] }, { accessFlags := 16409, nameIndex := 18, descriptorIndex := 6, attributes := #[] }, { accessFlags := 16409, nameIndex := 21, descriptorIndex := 6, attributes := #[] }, { accessFlags := 16409, nameIndex := 24, descriptorIndex := 6, attributes := #[] }, { accessFlags := 16409, nameIndex := 27, descriptorIndex := 6, attributes := #[] }, { accessFlags := 26, nameIndex := 53, descriptorIndex := 31, attributes := #[] }, { accessFlags := 18, nameIndex := 49, descriptorIndex := 50, attributes := #[] }, { accessFlags := 4122, nameIndex := 30, descriptorIndex := 31, attributes := #[] }])
  fields := #[{ name := "UNKNOWN", type := (.object "farspeak/rpc/ErrorCode"), accessFlags := 16409, slot := 0, constantValue := 0 }, { name := "NETWORK", type := (.object "farspeak/rpc/ErrorCode"), accessFlags := 16409, slot := 1, constantValue := 0 }, { name := "TIMEOUT", type := (.object "farspeak/rpc/ErrorCode"), accessFlags := 16409, slot := 2, constantValue := 0 }, { name := "BIZ", type := (.object "farspeak/rpc/ErrorCode"), accessFlags := 16409, slot := 3, constantValue := 0 }, { name := "FORBIDDEN", type := (.object "farspeak/rpc/ErrorCode"), accessFlags := 16409, slot := 4, constantValue := 0 }, { name := "SERIALIZATION", type := (.object "farspeak/rpc/ErrorCode"), accessFlags := 16409, slot := 5, constantValue := 0 }, { name := "NO_PROVIDER", type := (.object "farspeak/rpc/ErrorCode"), accessFlags := 16409, slot := 6, constantValue := 0 }, { name := "LIMIT", type := (.object "farspeak/rpc/ErrorCode"), accessFlags := 16409, slot := 7, constantValue := 0 }, { name := "BY_VALUE", type := (.array (.object "farspeak/rpc/ErrorCode")), accessFlags := 26, slot := 8, constantValue := 0 }, { name := "value", type := .int, accessFlags := 18, slot := 3, constantValue := 0 }, { name := "$VALUES", type := (.array (.object "farspeak/rpc/ErrorCode")), accessFlags := 4122, slot := 9, constantValue := 0 }]
  methods := #[k6m0, k6m1]
  instanceTypes := #[(.object "java/lang/String"), .int, .int, .int]
  staticTypes := #[(.object "farspeak/rpc/ErrorCode"), (.object "farspeak/rpc/ErrorCode"), (.object "farspeak/rpc/ErrorCode"), (.object "farspeak/rpc/ErrorCode"), (.object "farspeak/rpc/ErrorCode"), (.object "farspeak/rpc/ErrorCode"), (.object "farspeak/rpc/ErrorCode"), (.object "farspeak/rpc/ErrorCode"), (.array (.object "farspeak/rpc/ErrorCode")), (.array (.object "farspeak/rpc/ErrorCode"))]
  resolved := Array.replicate 87 none
  statics := some 0 }

def pool7 : Array CpInfo := pool [(1, u "java/lang/Cloneable"), (0, .class_ 1), (0, u "java/lang/Object"), (0, .class_ 3)] 3

/-- java/lang/Cloneable -/
def k7 : Class := { plain "java/lang/Cloneable" (some 0) with
  accessFlags := 1537
  interfaces := #[]
  cf := some (fileOf pool7 2 #[] #[] 1537 4 #[] #[])
  fields := #[]
  methods := #[]
  instanceTypes := #[]
  staticTypes := #[]
  resolved := Array.replicate 8 none
  statics := none }

/-- the primitive byte -/
def k8 : Class := { plain "byte" none with kind := .primitive 'B', accessFlags := 0x411 }
/-- [B -/
def k9 : Class := { plain "[B" (some 0) with kind := .array 8 .byte, interfaces := #[7, 4], accessFlags := 1041 }

/-- [Lfarspeak/rpc/ErrorCode; -/
def k10 : Class := { plain "[Lfarspeak/rpc/ErrorCode;" (some 0) with kind := .array 6 (.object "farspeak/rpc/ErrorCode"), interfaces := #[7, 4], accessFlags := 1041 }

def heap : Heap := #[{ cls := 6, slots := #[.ref 2, .ref 3, .ref 4, .ref 5, .ref 6, .ref 7, .ref 8, .ref 9, .ref 1, .null], vm := .statics 6 },
  { cls := 10, slots := #[.ref 2, .ref 3, .ref 4, .ref 5, .ref 6, .ref 7, .ref 8, .ref 9], vm := .none },
  { cls := 6, slots := #[.null, .int 0, .int 0, .int 0], vm := .none },
  { cls := 6, slots := #[.null, .int 1, .int 0, .int 1], vm := .none },
  { cls := 6, slots := #[.null, .int 2, .int 0, .int 2], vm := .none },
  { cls := 6, slots := #[.null, .int 3, .int 0, .int 3], vm := .none },
  { cls := 6, slots := #[.null, .int 4, .int 0, .int 4], vm := .none },
  { cls := 6, slots := #[.null, .int 5, .int 0, .int 5], vm := .none },
  { cls := 6, slots := #[.null, .int 6, .int 0, .int 6], vm := .none },
  { cls := 6, slots := #[.null, .int 7, .int 0, .int 7], vm := .none }]
def classes : Array Class := #[k0, k1, k2, k3, k4, k5, k6, k7, k8, k9, k10]
def interned : List (Array UInt16 × Addr) := []
def slotsUsed : Nat := 50
def theMethod : MethodId := ⟨1, 2⟩
def args0 : Array Value := #[.int 1, .int 1]
def aboutOver (below : List Frame) : State where
  vm := { classes := classes, interned := interned.toArray }
  heap := heap
  slotsUsed := slotsUsed
  threads := #[{ frames := .invoking theMethod args0 :: below }]
def below0 : List Frame := [.native { method := ⟨0, 0⟩, args := #[] }]
def about1 : State := aboutOver below0
def p0 : Program := .bare "" "" ""
def e0 : Env := launch0.env 0 0 0
theorem w_frames : about1.frames = Frame.invoking theMethod args0 :: below0 := rfl
set_option maxRecDepth 65536 in
theorem w_args : argsFit about1.vm theMethod args0 = true := by decide +kernel
set_option maxRecDepth 65536 in
theorem w_heap : heapFits about1 = true := by decide +kernel
set_option maxRecDepth 65536 in
theorem w_runnable : about1.curStatus? = some .runnable := by decide +kernel
set_option maxRecDepth 65536 in
theorem w_alone : about1.alone = true := by decide +kernel
set_option maxRecDepth 65536 in
theorem w_named : about1.methodNamed? x = some theMethod := by decide +kernel
set_option maxRecDepth 65536 in
theorem w_hears : about1.hears theMethod below0 = true := by decide +kernel
set_option maxRecDepth 65536 in
theorem w_ripe : about1.ripe theMethod args0 below0 = true := by decide +kernel
theorem w_running : about1.status = .running := rfl
set_option maxRecDepth 65536 in
theorem w_room : about1.hasRoom e0.platform room_1 = true :=
  launch0.hasRoom_least _ room_1 (by decide +kernel) (by decide +kernel) (by decide +kernel) (by decide +kernel) (by decide +kernel) (by decide +kernel)
theorem allAtoms_all (ts : List Jvm.Cond) (a : Array Jvm.Value) (st : Jvm.State) : (allAtoms ts).before a st = ts.all (fun c => c.before a st) := by
  induction ts with
  | nil => rfl
  | cons c t ih =>
    show (Jvm.Cond.and c (allAtoms t)).before a st = _
    rw [Jvm.Cond.before_and, ih, List.all_cons]
def words1 : List Jvm.Cond := Jvm.Cond.code x code maxLocals ret :: tables_1
/-- a 'code' word, met by the world's own term for the bytes: nothing is compared byte by byte -/
theorem code_word {y : MethodName} {bytes : ByteArray} {mx : Nat} {rt : Option FieldType} {a : Array Value} {s : State} {m : MethodId} {meth : Method} {c : Code} (h1 : s.methodNamed? y = some m) (h2 : s.vm.method? m = some meth) (h3 : meth.code = some c) (h4 : c.code = bytes)
    (h5 : (c.maxLocals == mx && c.exceptionTable.isEmpty && decide (c.maxStack ≤ mostOperands) && decide (meth.sig.returnType = rt) && !meth.locks && decide (parseMethodDescriptor y.desc = some meth.sig)) = true) : (Jvm.Cond.code y bytes mx rt).before a s = true := by
  simp only [Bool.and_eq_true, beq_iff_eq, Bool.not_eq_true', decide_eq_true_eq] at h5
  obtain ⟨⟨⟨⟨⟨g1, g2⟩, g3⟩, g4⟩, g5⟩, g6⟩ := h5
  simp [Cond.before, Cond.holds, Cond.value, h1, h2, h3, h4, g1, g2, g3, g4, g5, g6]
def isCode : Jvm.Cond → Bool
  | .code _ _ _ _ => true
  | _ => false
theorem all_split {L : List Jvm.Cond} {P : Jvm.Cond → Bool} (h1 : L.all (fun c => isCode c || P c) = true) (h2 : ∀ c ∈ L.filter isCode, P c = true) : L.all P = true := by
  refine List.all_eq_true.mpr fun c hc => ?_
  have h := List.all_eq_true.mp h1 c hc
  rcases Bool.eq_false_or_eq_true (isCode c) with hi | hi
  · exact h2 c (List.mem_filter.mpr ⟨hc, hi⟩)
  · simpa [hi] using h
set_option maxRecDepth 65536 in
theorem w_c0 : (Jvm.Cond.code x code maxLocals ret).before args0 about1 = true := code_word (m := ⟨1, 2⟩) (meth := k1m2) (c := k1c2) (by decide +kernel) rfl rfl rfl (by decide +kernel)
set_option maxRecDepth 65536 in
theorem w_c1 : (Jvm.Cond.code ({ cls := "farspeak/rpc/ErrorCode", name := "fromValue", desc := "(I)Lfarspeak/rpc/ErrorCode;" } : Jvm.MethodName) prog_76_method_5_code (1 : Nat) (Option.some (Jvm.ClassFile.FieldType.object "farspeak/rpc/ErrorCode"))).before args0 about1 = true := code_word (m := ⟨6, 1⟩) (meth := k6m1) (c := k6c1) (by decide +kernel) rfl rfl rfl (by decide +kernel)
set_option maxRecDepth 65536 in
theorem w_c2 : (Jvm.Cond.code ({ cls := "farspeak/rpc/ErrorCodeFromValuePinLaw", name := "expected", desc := "(I)Lfarspeak/rpc/ErrorCode;" } : Jvm.MethodName) method_2_code (1 : Nat) (Option.some (Jvm.ClassFile.FieldType.object "farspeak/rpc/ErrorCode"))).before args0 about1 = true := code_word (m := ⟨1, 1⟩) (meth := k1m1) (c := k1c1) (by decide +kernel) rfl rfl rfl (by decide +kernel)
set_option maxRecDepth 65536 in
theorem w_c3 : (Jvm.Cond.code ({ cls := "farspeak/rpc/ErrorCode", name := "value", desc := "()I" } : Jvm.MethodName) prog_76_method_4_code (1 : Nat) (Option.some Jvm.ClassFile.FieldType.int)).before args0 about1 = true := code_word (m := ⟨6, 0⟩) (meth := k6m0) (c := k6c0) (by decide +kernel) rfl rfl rfl (by decide +kernel)
def codes1 : List Jvm.Cond := [Jvm.Cond.code x code maxLocals ret, Jvm.Cond.code ({ cls := "farspeak/rpc/ErrorCode", name := "fromValue", desc := "(I)Lfarspeak/rpc/ErrorCode;" } : Jvm.MethodName) prog_76_method_5_code (1 : Nat) (Option.some (Jvm.ClassFile.FieldType.object "farspeak/rpc/ErrorCode")), Jvm.Cond.code ({ cls := "farspeak/rpc/ErrorCodeFromValuePinLaw", name := "expected", desc := "(I)Lfarspeak/rpc/ErrorCode;" } : Jvm.MethodName) method_2_code (1 : Nat) (Option.some (Jvm.ClassFile.FieldType.object "farspeak/rpc/ErrorCode")), Jvm.Cond.code ({ cls := "farspeak/rpc/ErrorCode", name := "value", desc := "()I" } : Jvm.MethodName) prog_76_method_4_code (1 : Nat) (Option.some Jvm.ClassFile.FieldType.int)]
set_option maxRecDepth 65536 in
theorem codes_eq : words1.filter isCode = codes1 := rfl
theorem w_codes : ∀ c ∈ words1.filter isCode, c.before args0 about1 = true := by
  rw [codes_eq]
  intro c hc
  simp only [codes1, List.mem_cons, List.not_mem_nil, or_false] at hc
  rcases hc with rfl | rfl | rfl | rfl
  · exact w_c0
  · exact w_c1
  · exact w_c2
  · exact w_c3
set_option maxRecDepth 65536 in
theorem w_t1 : (words1.take 24).all (fun c => isCode c || c.before args0 about1) = true := by decide +kernel
set_option maxRecDepth 65536 in
theorem w_t2 : (words1.drop 24).all (fun c => isCode c || c.before args0 about1) = true := by decide +kernel
theorem w_tables : (allAtoms (Jvm.Cond.code x code maxLocals ret :: tables_1)).before args0 about1 = true := by
  rw [allAtoms_all]
  show words1.all (fun c => c.before args0 about1) = true
  refine all_split ?_ w_codes
  rw [← List.take_append_drop 24 words1, List.all_append, w_t1, w_t2]
  rfl
set_option maxRecDepth 65536 in
theorem w_case : (Jvm.Cond.and given_1 narrow_1).before args0 about1 = true := by decide +kernel
theorem w_applies : (headSpec (Jvm.Cond.code x code maxLocals ret :: tables_1) room_1).applies x e0.platform about1 = true :=
  (Spec.applies_iff w_frames).mpr ⟨w_running, w_runnable, w_alone, w_named, w_hears, w_ripe, w_room, w_tables⟩
theorem atStart : AtStart classFile x code maxLocals ret World_1 tables_1 room_1 Calls_1 rest_1 Pre_1 launch0 p0 e0 about1 theMethod args0 below0 :=
  ⟨lists_1, trivial, launch0.admits_env _ _ _, launch0.least_env, fairChoices_fair.cas, fairChoices_fair.clock, w_frames, w_args, w_heap, w_applies, trivial, trivial, w_case⟩
end start1
theorem witness_1 : WitnessClaimed_1 := ⟨start1.p0, start1.e0, start1.about1, start1.theMethod, start1.args0, start1.below0, start1.atStart⟩
end Jvm.Pilot.@@N@@
