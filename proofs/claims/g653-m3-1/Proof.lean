import JvmDerived
import JvmDerived.Pilot.@@N@@Statement
import JvmDerived.Pilot.@@N@@Code
set_option linter.unusedVariables false
set_option linter.unusedSimpArgs false
namespace Jvm.Pilot.@@N@@
open Jvm Jvm.ClassFile Sem Op Lib Jvm.Free Jvm.Stand Jvm.LawKit Jvm.RoadKit Bundle Jvm.Pilot.@@N@@.Jvm.D

theorem own_dload {tb : Tables} [Ours tb] {e : Env} {below : List Frame} {T target : State} {m : MethodId} {c : Code} {g : JFrame} (h : At T m c below) (hx : tb.exec = Jvm.exec) (hg : g.method = m) {k : Nat} {v : UInt64} (hd : decode c.code g.pc = .ok (.dload k, 2)) (hl : g.locals[k]? = some (.val (.double v))) (hr : Steps tb e below (T.setTop { g with pc := g.pc + 2, stack := .double v :: g.stack }) target) : Steps tb e below (T.setTop g) target := by
  subst hg
  jvm_step h [h.top, hx, hd, hl]
  exact hr
theorem own_dstore {tb : Tables} [Ours tb] {e : Env} {below : List Frame} {T target : State} {m : MethodId} {c : Code} {g : JFrame} (h : At T m c below) (hx : tb.exec = Jvm.exec) (hg : g.method = m) {k : Nat} {x : UInt64} {rest : List Value} {l' : Array Slot} (hd : decode c.code g.pc = .ok (.dstore k, 2)) (hs : g.stack = .double x :: rest) (hl : storeLocals g.locals k (.double x) = some l') (hr : Steps tb e below (T.setTop { g with pc := g.pc + 2, stack := rest, locals := l' }) target) : Steps tb e below (T.setTop g) target := by
  subst hg
  jvm_step h [h.top, hx, hd, hs, hl]
  exact hr
theorem own_l2d {tb : Tables} [Ours tb] {e : Env} {below : List Frame} {T target : State} {m : MethodId} {c : Code} {g : JFrame} (h : At T m c below) (hx : tb.exec = Jvm.exec) (hg : g.method = m) {x : Int64} {rest : List Value} (hd : decode c.code g.pc = .ok (.l2d, 1)) (hs : g.stack = .long x :: rest) (hr : Steps tb e below (T.setTop { g with pc := g.pc + 1, stack := .double (FP.l2d x) :: rest }) target) : Steps tb e below (T.setTop g) target := by
  subst hg
  jvm_step h [h.top, hx, hd, hs]
  exact hr
theorem own_ddiv {tb : Tables} [Ours tb] {e : Env} {below : List Frame} {T target : State} {m : MethodId} {c : Code} {g : JFrame} (h : At T m c below) (hx : tb.exec = Jvm.exec) (hg : g.method = m) {x y : UInt64} {rest : List Value} (hd : decode c.code g.pc = .ok (.ddiv, 1)) (hs : g.stack = .double y :: .double x :: rest) (hn : FP.ddiv x y &&& 0x7fffffffffffffff ≤ 0x7ff0000000000000) (hr : Steps tb e below (T.setTop { g with pc := g.pc + 1, stack := .double (FP.ddiv x y) :: rest }) target) : Steps tb e below (T.setTop g) target := by
  subst hg
  jvm_step h [hx, hd, ddiv.wp_number (s := T) (f := g) h.top hs hn]
  exact hr
theorem own_dcmplE {tb : Tables} [Ours tb] {e : Env} {below : List Frame} {T target : State} {m : MethodId} {c : Code} {g : JFrame} (h : At T m c below) (hx : tb.exec = Jvm.exec) (hg : g.method = m) {x y : UInt64} {rest : List Value} (hd : decode c.code g.pc = .ok (.dcmp .l, 1)) (hs : g.stack = .double y :: .double x :: rest) (hq : FP.dcmp x y = some .eq) (hr : Steps tb e below (T.setTop { g with pc := g.pc + 1, stack := .int (0 : Int32) :: rest }) target) : Steps tb e below (T.setTop g) target := by
  subst hg
  jvm_step h [h.top, hx, hd, hs, hq, dcmp.wp_sem, cmpValue]
  exact hr
theorem own_dcmplN {tb : Tables} [Ours tb] {e : Env} {below : List Frame} {T target : State} {m : MethodId} {c : Code} {g : JFrame} (h : At T m c below) (hx : tb.exec = Jvm.exec) (hg : g.method = m) {x y : UInt64} {rest : List Value} (hd : decode c.code g.pc = .ok (.dcmp .l, 1)) (hs : g.stack = .double y :: .double x :: rest) (hq : FP.dcmp x y = none) (hr : Steps tb e below (T.setTop { g with pc := g.pc + 1, stack := .int (-1 : Int32) :: rest }) target) : Steps tb e below (T.setTop g) target := by
  subst hg
  jvm_step h [h.top, hx, hd, hs, hq, dcmp.wp_sem, cmpValue]
  exact hr
theorem own_mag (x : Int64) : (FP.ddiv (FP.l2d x) (4696837146684686336 : UInt64)).toNat % 2 ^ 63 < 1070 * 2 ^ 52 := by
  have a := FP.Core.l2d_mag x
  exact FP.Core.ddiv_mag (a := FP.l2d x) (b := (4696837146684686336 : UInt64)) (K := 1088) (L := 1042) a (by decide) (by decide) (by decide) (by decide)
theorem own_fin (x : Int64) : FP.ddiv (FP.l2d x) (4696837146684686336 : UInt64) &&& 0x7fffffffffffffff ≤ 0x7ff0000000000000 := by
  have a := own_mag x
  rw [UInt64.le_iff_toNat_le, UInt64.toNat_and, show (0x7fffffffffffffff : UInt64).toNat = 2 ^ 63 - 1 by decide, Nat.and_two_pow_sub_one_eq_mod, show (0x7ff0000000000000 : UInt64).toNat = 2047 * 2 ^ 52 by decide]
  omega
theorem own_self (x : Int64) : FP.dcmp (FP.ddiv (FP.l2d x) (4696837146684686336 : UInt64)) (FP.ddiv (FP.l2d x) (4696837146684686336 : UInt64)) = some .eq := by
  have a := own_mag x
  exact FP.Core.dcmp_self ((FP.Core.ne_nan _).mpr (by omega))
theorem own_nan : FP.dcmp (9221120237041090560 : UInt64) (9221120237041090560 : UInt64) = none := by decide +kernel
def F5 (q0 : Int64) (q1 : Int64) : Int64 := (if q1 < q0 then q1 else q0)
theorem d5_0 : decode jdk_29_method_70_code 0 = .ok (.lload_n 0, 1) := by decide +kernel
theorem d5_1 : decode jdk_29_method_70_code 1 = .ok (.lload_n 2, 1) := by decide +kernel
theorem d5_2 : decode jdk_29_method_70_code 2 = .ok (.lcmp, 1) := by decide +kernel
theorem d5_3 : decode jdk_29_method_70_code 3 = .ok (.ifCond .gt 7, 3) := by decide +kernel
theorem d5_6 : decode jdk_29_method_70_code 6 = .ok (.lload_n 0, 1) := by decide +kernel
theorem d5_7 : decode jdk_29_method_70_code 7 = .ok (.goto 4, 3) := by decide +kernel
theorem d5_10 : decode jdk_29_method_70_code 10 = .ok (.lload_n 2, 1) := by decide +kernel
theorem d5_11 : decode jdk_29_method_70_code 11 = .ok (.lreturn, 1) := by decide +kernel
theorem ef_5_JJ (m : MethodId) (x0 : Int64) (x1 : Int64) : entryFrame m #[(.long x0), (.long x1)] 4 = mkF m 0 #[.val (.long x0), .second, .val (.long x1), .second] [] := by first | (simp [entryFrame, mkF, argsToLocals, Value.category]; done) | rfl
def Q5 (Z : State) (q0 : Int64) (q1 : Int64) (h0 : Heap) (n0 : Nat) (v : Option Value) (h : Heap) (L : List Loc) : Prop := v = some (.long (F5 q0 q1)) ∧ Fr n0 L ∧ h = h0
set_option maxRecDepth 65536 in
set_option maxHeartbeats 40000000 in
theorem rm5 (l : Launch) (Z : State) (aA : Array Value) (hw : ∀ d ∈ tables_1, d.before aA Z = true) (ws : List Jvm.Cond) (q0 : Int64) (q1 : Int64) (h0 : Heap) (n0 : Nat) (Z0 : n0 ≤ h0.size) :
    MetFree l (⟨"java/lang/Math", "min", "(JJ)J"⟩ : MethodName) (head1 (Jvm.Cond.code (⟨"java/lang/Math", "min", "(JJ)J"⟩ : MethodName) jdk_29_method_70_code 4 (some .long) :: ws) ({ frames := 0, cells := 0, slots := 0, locals := 0 } : Room)) (fun a U => a = #[(.long q0), (.long q1)] ∧ Z.Warmed39 U.vm ∧ U.heap = h0) (fun _ _ _ _ _ => True) (fun _ U o U' => ∃ v L, o = .returned v ∧ Q5 Z q0 q1 h0 n0 v U'.heap L ∧ FrameEnd U o U' L ({ frames := 0, cells := 0, slots := 0, locals := 0 } : Room).cells ({ frames := 0, cells := 0, slots := 0, locals := 0 } : Room).slots) := by
  refine MetFree.of_bodySF (Jvm.Free.JP.mathPlain rfl (by decide +kernel)) hisR ?_
  intro p e s m args below meth c s₁ Bd hml0 hP hK
  obtain ⟨rfl, hZ, hh⟩ := hP
  have hx := Bd.exec
  have hby := Bd.bytes
  have hml : c.maxLocals = 4 := hml0
  have hown : s.vm.findClass "java/lang/Math" = some m.cls := findClass_of_methodNamed Bd.named
  have hnm := (name_of_methodNamed Bd.named Bd.method).1
  have X0 : Stand p l e ({ frames := 0, cells := 0, slots := 0, locals := 0 } : Room) s m #[(.long q0), (.long q1)] below meth c s₁ [] 0 0 := Stand.of_body Bd
  have e0 : s₁.heap = h0 := by rw [← hh, Bd.state]; rfl
  have N0 := Fr.nil n0
  have KP0 : Keep h0 h0 [] := Keep.refl h0 _
  have pre0 : ∀ t, Steps p.tables e below (s₁.setTop (mkF m 0 #[.val (.long q0), .second, .val (.long q1), .second] [])) t → Steps p.tables e below (s₁.setTop (entryFrame m #[(.long q0), (.long q1)] 4)) t := fun t k => castTop (ef_5_JJ m q0 q1) k
  have pre2 : ∀ t, Steps p.tables e below (s₁.setTop (mkF m 3 #[.val (.long q0), .second, .val (.long q1), .second] [(.int (lcmpW q0 q1))])) t → Steps p.tables e below (s₁.setTop (entryFrame m #[(.long q0), (.long q1)] 4)) t := by
    intro t kk
    refine pre0 t ?_
    show Steps p.tables e below (s₁.setTop (mkF m 0 #[.val (.long q0), .second, .val (.long q1), .second] [])) _
    refine XS.lloadN X0.here hx rfl (hb hby d5_0) rfl ?_
    show Steps p.tables e below (s₁.setTop (mkF m 1 #[.val (.long q0), .second, .val (.long q1), .second] [(.long q0)])) _
    refine XS.lloadN X0.here hx rfl (hb hby d5_1) rfl ?_
    show Steps p.tables e below (s₁.setTop (mkF m 2 #[.val (.long q0), .second, .val (.long q1), .second] [(.long q1), (.long q0)])) _
    refine XS.lcmp X0.here hx rfl (hb hby d5_2) rfl ?_
    exact kk
  by_cases hc3_1 : q1 < q0
  · have hF3 : (F5 q0 q1) = q1 := (if_pos hc3_1)
    have pre4 : ∀ t, Steps p.tables e below (s₁.setTop (mkF m 11 #[.val (.long q0), .second, .val (.long q1), .second] [(.long q1)])) t → Steps p.tables e below (s₁.setTop (entryFrame m #[(.long q0), (.long q1)] 4)) t := by
      intro t kk
      refine pre2 t ?_
      show Steps p.tables e below (s₁.setTop (mkF m 3 #[.val (.long q0), .second, .val (.long q1), .second] [(.int (lcmpW q0 q1))])) _
      refine XS.ifYes X0.here hx rfl (pc0 := 3) (pc' := 10) rfl (hb hby d5_3) rfl ((if0 _ _).trans (tlt ((lw_gt q0 q1).mpr hc3_1)).2.2.1) (by decide) (by decide) ?_
      show Steps p.tables e below (s₁.setTop (mkF m 10 #[.val (.long q0), .second, .val (.long q1), .second] [])) _
      refine XS.lloadN X0.here hx rfl (hb hby d5_10) rfl ?_
      exact kk
    obtain ⟨fs, hr, hrun, hended, hW, hsame⟩ := X0.leave (v := some (.long q1)) (fun h => by rw [Bd.returns] at h; cases h)
    refine ⟨_, _, pre4 _ ?_, hrun, hended, _, _, rfl, ?_, ⟨_, rfl⟩, hW, hsame.mono (by decide) (by decide)⟩
    · show Steps p.tables e below (s₁.setTop (mkF m 11 #[.val (.long q0), .second, .val (.long q1), .second] [(.long q1)])) _
      exact retOut X0 hx Bd.returns rfl (Or.inr (Or.inl ⟨rfl, rfl, _, rfl⟩)) (hb hby d5_11) hr
    · show Q5 Z q0 q1 h0 n0 _ s₁.heap _
      rw [e0]
      exact ⟨congrArg (fun z => some (Value.long z)) hF3.symm, N0, rfl⟩
  · have hF5 : (F5 q0 q1) = q0 := (if_neg hc3_1)
    have pre6 : ∀ t, Steps p.tables e below (s₁.setTop (mkF m 11 #[.val (.long q0), .second, .val (.long q1), .second] [(.long q0)])) t → Steps p.tables e below (s₁.setTop (entryFrame m #[(.long q0), (.long q1)] 4)) t := by
      intro t kk
      refine pre2 t ?_
      show Steps p.tables e below (s₁.setTop (mkF m 3 #[.val (.long q0), .second, .val (.long q1), .second] [(.int (lcmpW q0 q1))])) _
      refine XS.ifNo X0.here hx rfl (hb hby d5_3) rfl ((if0 _ _).trans (flt (fun q => hc3_1 ((lw_gt q0 q1).mp q))).2.2.1) ?_
      show Steps p.tables e below (s₁.setTop (mkF m 6 #[.val (.long q0), .second, .val (.long q1), .second] [])) _
      refine XS.lloadN X0.here hx rfl (hb hby d5_6) rfl ?_
      show Steps p.tables e below (s₁.setTop (mkF m 7 #[.val (.long q0), .second, .val (.long q1), .second] [(.long q0)])) _
      refine XS.goto X0.here hx rfl (pc0 := 7) (pc' := 11) rfl (hb hby d5_7) (by decide) (by decide) ?_
      exact kk
    obtain ⟨fs, hr, hrun, hended, hW, hsame⟩ := X0.leave (v := some (.long q0)) (fun h => by rw [Bd.returns] at h; cases h)
    refine ⟨_, _, pre6 _ ?_, hrun, hended, _, _, rfl, ?_, ⟨_, rfl⟩, hW, hsame.mono (by decide) (by decide)⟩
    · show Steps p.tables e below (s₁.setTop (mkF m 11 #[.val (.long q0), .second, .val (.long q1), .second] [(.long q0)])) _
      exact retOut X0 hx Bd.returns rfl (Or.inr (Or.inl ⟨rfl, rfl, _, rfl⟩)) (hb hby d5_11) hr
    · show Q5 Z q0 q1 h0 n0 _ s₁.heap _
      rw [e0]
      exact ⟨congrArg (fun z => some (Value.long z)) hF5.symm, N0, rfl⟩
def F6 (q0 : Int64) (q1 : Int64) : Int64 := (if q0 < q1 then q1 else q0)
theorem d6_0 : decode jdk_29_method_66_code 0 = .ok (.lload_n 0, 1) := by decide +kernel
theorem d6_1 : decode jdk_29_method_66_code 1 = .ok (.lload_n 2, 1) := by decide +kernel
theorem d6_2 : decode jdk_29_method_66_code 2 = .ok (.lcmp, 1) := by decide +kernel
theorem d6_3 : decode jdk_29_method_66_code 3 = .ok (.ifCond .lt 7, 3) := by decide +kernel
theorem d6_6 : decode jdk_29_method_66_code 6 = .ok (.lload_n 0, 1) := by decide +kernel
theorem d6_7 : decode jdk_29_method_66_code 7 = .ok (.goto 4, 3) := by decide +kernel
theorem d6_10 : decode jdk_29_method_66_code 10 = .ok (.lload_n 2, 1) := by decide +kernel
theorem d6_11 : decode jdk_29_method_66_code 11 = .ok (.lreturn, 1) := by decide +kernel
theorem ef_6_JJ (m : MethodId) (x0 : Int64) (x1 : Int64) : entryFrame m #[(.long x0), (.long x1)] 4 = mkF m 0 #[.val (.long x0), .second, .val (.long x1), .second] [] := by first | (simp [entryFrame, mkF, argsToLocals, Value.category]; done) | rfl
def Q6 (Z : State) (q0 : Int64) (q1 : Int64) (h0 : Heap) (n0 : Nat) (v : Option Value) (h : Heap) (L : List Loc) : Prop := v = some (.long (F6 q0 q1)) ∧ Fr n0 L ∧ h = h0
set_option maxRecDepth 65536 in
set_option maxHeartbeats 40000000 in
theorem rm6 (l : Launch) (Z : State) (aA : Array Value) (hw : ∀ d ∈ tables_1, d.before aA Z = true) (ws : List Jvm.Cond) (q0 : Int64) (q1 : Int64) (h0 : Heap) (n0 : Nat) (Z0 : n0 ≤ h0.size) :
    MetFree l (⟨"java/lang/Math", "max", "(JJ)J"⟩ : MethodName) (head1 (Jvm.Cond.code (⟨"java/lang/Math", "max", "(JJ)J"⟩ : MethodName) jdk_29_method_66_code 4 (some .long) :: ws) ({ frames := 0, cells := 0, slots := 0, locals := 0 } : Room)) (fun a U => a = #[(.long q0), (.long q1)] ∧ Z.Warmed39 U.vm ∧ U.heap = h0) (fun _ _ _ _ _ => True) (fun _ U o U' => ∃ v L, o = .returned v ∧ Q6 Z q0 q1 h0 n0 v U'.heap L ∧ FrameEnd U o U' L ({ frames := 0, cells := 0, slots := 0, locals := 0 } : Room).cells ({ frames := 0, cells := 0, slots := 0, locals := 0 } : Room).slots) := by
  refine MetFree.of_bodySF (Jvm.Free.JP.mathPlain rfl (by decide +kernel)) hisR ?_
  intro p e s m args below meth c s₁ Bd hml0 hP hK
  obtain ⟨rfl, hZ, hh⟩ := hP
  have hx := Bd.exec
  have hby := Bd.bytes
  have hml : c.maxLocals = 4 := hml0
  have hown : s.vm.findClass "java/lang/Math" = some m.cls := findClass_of_methodNamed Bd.named
  have hnm := (name_of_methodNamed Bd.named Bd.method).1
  have X0 : Stand p l e ({ frames := 0, cells := 0, slots := 0, locals := 0 } : Room) s m #[(.long q0), (.long q1)] below meth c s₁ [] 0 0 := Stand.of_body Bd
  have e0 : s₁.heap = h0 := by rw [← hh, Bd.state]; rfl
  have N0 := Fr.nil n0
  have KP0 : Keep h0 h0 [] := Keep.refl h0 _
  have pre0 : ∀ t, Steps p.tables e below (s₁.setTop (mkF m 0 #[.val (.long q0), .second, .val (.long q1), .second] [])) t → Steps p.tables e below (s₁.setTop (entryFrame m #[(.long q0), (.long q1)] 4)) t := fun t k => castTop (ef_6_JJ m q0 q1) k
  have pre8 : ∀ t, Steps p.tables e below (s₁.setTop (mkF m 3 #[.val (.long q0), .second, .val (.long q1), .second] [(.int (lcmpW q0 q1))])) t → Steps p.tables e below (s₁.setTop (entryFrame m #[(.long q0), (.long q1)] 4)) t := by
    intro t kk
    refine pre0 t ?_
    show Steps p.tables e below (s₁.setTop (mkF m 0 #[.val (.long q0), .second, .val (.long q1), .second] [])) _
    refine XS.lloadN X0.here hx rfl (hb hby d6_0) rfl ?_
    show Steps p.tables e below (s₁.setTop (mkF m 1 #[.val (.long q0), .second, .val (.long q1), .second] [(.long q0)])) _
    refine XS.lloadN X0.here hx rfl (hb hby d6_1) rfl ?_
    show Steps p.tables e below (s₁.setTop (mkF m 2 #[.val (.long q0), .second, .val (.long q1), .second] [(.long q1), (.long q0)])) _
    refine XS.lcmp X0.here hx rfl (hb hby d6_2) rfl ?_
    exact kk
  by_cases hc3_7 : q0 < q1
  · have hF9 : (F6 q0 q1) = q1 := (if_pos hc3_7)
    have pre10 : ∀ t, Steps p.tables e below (s₁.setTop (mkF m 11 #[.val (.long q0), .second, .val (.long q1), .second] [(.long q1)])) t → Steps p.tables e below (s₁.setTop (entryFrame m #[(.long q0), (.long q1)] 4)) t := by
      intro t kk
      refine pre8 t ?_
      show Steps p.tables e below (s₁.setTop (mkF m 3 #[.val (.long q0), .second, .val (.long q1), .second] [(.int (lcmpW q0 q1))])) _
      refine XS.ifYes X0.here hx rfl (pc0 := 3) (pc' := 10) rfl (hb hby d6_3) rfl ((if0 _ _).trans (tlt ((lw_lt q0 q1).mpr hc3_7)).1) (by decide) (by decide) ?_
      show Steps p.tables e below (s₁.setTop (mkF m 10 #[.val (.long q0), .second, .val (.long q1), .second] [])) _
      refine XS.lloadN X0.here hx rfl (hb hby d6_10) rfl ?_
      exact kk
    obtain ⟨fs, hr, hrun, hended, hW, hsame⟩ := X0.leave (v := some (.long q1)) (fun h => by rw [Bd.returns] at h; cases h)
    refine ⟨_, _, pre10 _ ?_, hrun, hended, _, _, rfl, ?_, ⟨_, rfl⟩, hW, hsame.mono (by decide) (by decide)⟩
    · show Steps p.tables e below (s₁.setTop (mkF m 11 #[.val (.long q0), .second, .val (.long q1), .second] [(.long q1)])) _
      exact retOut X0 hx Bd.returns rfl (Or.inr (Or.inl ⟨rfl, rfl, _, rfl⟩)) (hb hby d6_11) hr
    · show Q6 Z q0 q1 h0 n0 _ s₁.heap _
      rw [e0]
      exact ⟨congrArg (fun z => some (Value.long z)) hF9.symm, N0, rfl⟩
  · have hF11 : (F6 q0 q1) = q0 := (if_neg hc3_7)
    have pre12 : ∀ t, Steps p.tables e below (s₁.setTop (mkF m 11 #[.val (.long q0), .second, .val (.long q1), .second] [(.long q0)])) t → Steps p.tables e below (s₁.setTop (entryFrame m #[(.long q0), (.long q1)] 4)) t := by
      intro t kk
      refine pre8 t ?_
      show Steps p.tables e below (s₁.setTop (mkF m 3 #[.val (.long q0), .second, .val (.long q1), .second] [(.int (lcmpW q0 q1))])) _
      refine XS.ifNo X0.here hx rfl (hb hby d6_3) rfl ((if0 _ _).trans (flt (fun q => hc3_7 ((lw_lt q0 q1).mp q))).1) ?_
      show Steps p.tables e below (s₁.setTop (mkF m 6 #[.val (.long q0), .second, .val (.long q1), .second] [])) _
      refine XS.lloadN X0.here hx rfl (hb hby d6_6) rfl ?_
      show Steps p.tables e below (s₁.setTop (mkF m 7 #[.val (.long q0), .second, .val (.long q1), .second] [(.long q0)])) _
      refine XS.goto X0.here hx rfl (pc0 := 7) (pc' := 11) rfl (hb hby d6_7) (by decide) (by decide) ?_
      exact kk
    obtain ⟨fs, hr, hrun, hended, hW, hsame⟩ := X0.leave (v := some (.long q0)) (fun h => by rw [Bd.returns] at h; cases h)
    refine ⟨_, _, pre12 _ ?_, hrun, hended, _, _, rfl, ?_, ⟨_, rfl⟩, hW, hsame.mono (by decide) (by decide)⟩
    · show Steps p.tables e below (s₁.setTop (mkF m 11 #[.val (.long q0), .second, .val (.long q1), .second] [(.long q0)])) _
      exact retOut X0 hx Bd.returns rfl (Or.inr (Or.inl ⟨rfl, rfl, _, rfl⟩)) (hb hby d6_11) hr
    · show Q6 Z q0 q1 h0 n0 _ s₁.heap _
      rw [e0]
      exact ⟨congrArg (fun z => some (Value.long z)) hF11.symm, N0, rfl⟩
def F9 (p0 : Int32) (p1 : Int32) : Int32 := (if p1 < p0 then p1 else p0)
theorem d9_0 : decode jdk_29_method_69_code 0 = .ok (.iload_n 0, 1) := by decide +kernel
theorem d9_1 : decode jdk_29_method_69_code 1 = .ok (.iload_n 1, 1) := by decide +kernel
theorem d9_2 : decode jdk_29_method_69_code 2 = .ok (.if_icmp .gt 7, 3) := by decide +kernel
theorem d9_5 : decode jdk_29_method_69_code 5 = .ok (.iload_n 0, 1) := by decide +kernel
theorem d9_6 : decode jdk_29_method_69_code 6 = .ok (.goto 4, 3) := by decide +kernel
theorem d9_9 : decode jdk_29_method_69_code 9 = .ok (.iload_n 1, 1) := by decide +kernel
theorem d9_10 : decode jdk_29_method_69_code 10 = .ok (.ireturn, 1) := by decide +kernel
theorem ef_9_II (m : MethodId) (x0 : Int32) (x1 : Int32) : entryFrame m #[(.int x0), (.int x1)] 2 = mkF m 0 #[.val (.int x0), .val (.int x1)] [] := by first | (simp [entryFrame, mkF, argsToLocals, Value.category]; done) | rfl
def Q9 (Z : State) (p0 : Int32) (p1 : Int32) (h0 : Heap) (n0 : Nat) (v : Option Value) (h : Heap) (L : List Loc) : Prop := v = some (.int (F9 p0 p1)) ∧ Fr n0 L ∧ h = h0
set_option maxRecDepth 65536 in
set_option maxHeartbeats 40000000 in
theorem rm9 (l : Launch) (Z : State) (aA : Array Value) (hw : ∀ d ∈ tables_1, d.before aA Z = true) (ws : List Jvm.Cond) (p0 : Int32) (p1 : Int32) (h0 : Heap) (n0 : Nat) (Z0 : n0 ≤ h0.size) :
    MetFree l (⟨"java/lang/Math", "min", "(II)I"⟩ : MethodName) (head1 (Jvm.Cond.code (⟨"java/lang/Math", "min", "(II)I"⟩ : MethodName) jdk_29_method_69_code 2 (some .int) :: ws) ({ frames := 0, cells := 0, slots := 0, locals := 0 } : Room)) (fun a U => a = #[(.int p0), (.int p1)] ∧ Z.Warmed39 U.vm ∧ U.heap = h0) (fun _ _ _ _ _ => True) (fun _ U o U' => ∃ v L, o = .returned v ∧ Q9 Z p0 p1 h0 n0 v U'.heap L ∧ FrameEnd U o U' L ({ frames := 0, cells := 0, slots := 0, locals := 0 } : Room).cells ({ frames := 0, cells := 0, slots := 0, locals := 0 } : Room).slots) := by
  refine MetFree.of_bodySF (Jvm.Free.JP.mathPlain rfl (by decide +kernel)) hisR ?_
  intro p e s m args below meth c s₁ Bd hml0 hP hK
  obtain ⟨rfl, hZ, hh⟩ := hP
  have hx := Bd.exec
  have hby := Bd.bytes
  have hml : c.maxLocals = 2 := hml0
  have hown : s.vm.findClass "java/lang/Math" = some m.cls := findClass_of_methodNamed Bd.named
  have hnm := (name_of_methodNamed Bd.named Bd.method).1
  have X0 : Stand p l e ({ frames := 0, cells := 0, slots := 0, locals := 0 } : Room) s m #[(.int p0), (.int p1)] below meth c s₁ [] 0 0 := Stand.of_body Bd
  have e0 : s₁.heap = h0 := by rw [← hh, Bd.state]; rfl
  have N0 := Fr.nil n0
  have KP0 : Keep h0 h0 [] := Keep.refl h0 _
  have pre0 : ∀ t, Steps p.tables e below (s₁.setTop (mkF m 0 #[.val (.int p0), .val (.int p1)] [])) t → Steps p.tables e below (s₁.setTop (entryFrame m #[(.int p0), (.int p1)] 2)) t := fun t k => castTop (ef_9_II m p0 p1) k
  have pre14 : ∀ t, Steps p.tables e below (s₁.setTop (mkF m 2 #[.val (.int p0), .val (.int p1)] [(.int p1), (.int p0)])) t → Steps p.tables e below (s₁.setTop (entryFrame m #[(.int p0), (.int p1)] 2)) t := by
    intro t kk
    refine pre0 t ?_
    show Steps p.tables e below (s₁.setTop (mkF m 0 #[.val (.int p0), .val (.int p1)] [])) _
    refine XS.iloadN X0.here hx rfl (hb hby d9_0) rfl ?_
    show Steps p.tables e below (s₁.setTop (mkF m 1 #[.val (.int p0), .val (.int p1)] [(.int p0)])) _
    refine XS.iloadN X0.here hx rfl (hb hby d9_1) rfl ?_
    exact kk
  by_cases hc2_13 : p1 < p0
  · have hF15 : (F9 p0 p1) = p1 := (if_pos hc2_13)
    have pre16 : ∀ t, Steps p.tables e below (s₁.setTop (mkF m 10 #[.val (.int p0), .val (.int p1)] [(.int p1)])) t → Steps p.tables e below (s₁.setTop (entryFrame m #[(.int p0), (.int p1)] 2)) t := by
      intro t kk
      refine pre14 t ?_
      show Steps p.tables e below (s₁.setTop (mkF m 2 #[.val (.int p0), .val (.int p1)] [(.int p1), (.int p0)])) _
      refine XS.icmpYes X0.here hx rfl (pc0 := 2) (pc' := 9) rfl (hb hby d9_2) rfl (tlt hc2_13).2.2.1 (by decide) (by decide) ?_
      show Steps p.tables e below (s₁.setTop (mkF m 9 #[.val (.int p0), .val (.int p1)] [])) _
      refine XS.iloadN X0.here hx rfl (hb hby d9_9) rfl ?_
      exact kk
    obtain ⟨fs, hr, hrun, hended, hW, hsame⟩ := X0.leave (v := some (.int p1)) (fun h => by rw [Bd.returns] at h; cases h)
    refine ⟨_, _, pre16 _ ?_, hrun, hended, _, _, rfl, ?_, ⟨_, rfl⟩, hW, hsame.mono (by decide) (by decide)⟩
    · show Steps p.tables e below (s₁.setTop (mkF m 10 #[.val (.int p0), .val (.int p1)] [(.int p1)])) _
      exact retOut X0 hx Bd.returns rfl (Or.inl ⟨rfl, Or.inl rfl, _, rfl⟩) (hb hby d9_10) hr
    · show Q9 Z p0 p1 h0 n0 _ s₁.heap _
      rw [e0]
      exact ⟨congrArg (fun z => some (Value.int z)) hF15.symm, N0, rfl⟩
  · have hF17 : (F9 p0 p1) = p0 := (if_neg hc2_13)
    have pre18 : ∀ t, Steps p.tables e below (s₁.setTop (mkF m 10 #[.val (.int p0), .val (.int p1)] [(.int p0)])) t → Steps p.tables e below (s₁.setTop (entryFrame m #[(.int p0), (.int p1)] 2)) t := by
      intro t kk
      refine pre14 t ?_
      show Steps p.tables e below (s₁.setTop (mkF m 2 #[.val (.int p0), .val (.int p1)] [(.int p1), (.int p0)])) _
      refine XS.icmpNo X0.here hx rfl (hb hby d9_2) rfl (flt hc2_13).2.2.1 ?_
      show Steps p.tables e below (s₁.setTop (mkF m 5 #[.val (.int p0), .val (.int p1)] [])) _
      refine XS.iloadN X0.here hx rfl (hb hby d9_5) rfl ?_
      show Steps p.tables e below (s₁.setTop (mkF m 6 #[.val (.int p0), .val (.int p1)] [(.int p0)])) _
      refine XS.goto X0.here hx rfl (pc0 := 6) (pc' := 10) rfl (hb hby d9_6) (by decide) (by decide) ?_
      exact kk
    obtain ⟨fs, hr, hrun, hended, hW, hsame⟩ := X0.leave (v := some (.int p0)) (fun h => by rw [Bd.returns] at h; cases h)
    refine ⟨_, _, pre18 _ ?_, hrun, hended, _, _, rfl, ?_, ⟨_, rfl⟩, hW, hsame.mono (by decide) (by decide)⟩
    · show Steps p.tables e below (s₁.setTop (mkF m 10 #[.val (.int p0), .val (.int p1)] [(.int p0)])) _
      exact retOut X0 hx Bd.returns rfl (Or.inl ⟨rfl, Or.inl rfl, _, rfl⟩) (hb hby d9_10) hr
    · show Q9 Z p0 p1 h0 n0 _ s₁.heap _
      rw [e0]
      exact ⟨congrArg (fun z => some (Value.int z)) hF17.symm, N0, rfl⟩
theorem d14_0 : decode method_2_code 0 = .ok (.lload_n 0, 1) := by decide +kernel
theorem d14_1 : decode method_2_code 1 = .ok (.l2d, 1) := by decide +kernel
theorem d14_2 : decode method_2_code 2 = .ok (.ldc2_w 7, 3) := by decide +kernel
theorem d14_5 : decode method_2_code 5 = .ok (.ddiv, 1) := by decide +kernel
theorem d14_6 : decode method_2_code 6 = .ok (.dreturn, 1) := by decide +kernel
theorem pn_farspeak_greeter_TimesAddPinLaw : plainName "farspeak/greeter/TimesAddPinLaw" = true := by first | (simp [plainName, overriddenIn]; done) | decide +kernel
theorem ef_14_J (m : MethodId) (x0 : Int64) : entryFrame m #[(.long x0)] 2 = mkF m 0 #[.val (.long x0), .second] [] := by first | (simp [entryFrame, mkF, argsToLocals, Value.category]; done) | rfl
def Q14 (Z : State) (q0 : Int64) (h0 : Heap) (n0 : Nat) (v : Option Value) (h : Heap) (L : List Loc) : Prop := v = some (.double (FP.ddiv (FP.l2d q0) (4696837146684686336 : UInt64))) ∧ Fr n0 L ∧ h = h0
set_option maxRecDepth 65536 in
set_option maxHeartbeats 40000000 in
theorem rm14 (l : Launch) (Z : State) (aA : Array Value) (hw : ∀ d ∈ tables_1, d.before aA Z = true) (ws : List Jvm.Cond) (q0 : Int64) (h0 : Heap) (n0 : Nat) (Z0 : n0 ≤ h0.size) :
    MetFree l (⟨"farspeak/greeter/TimesAddPinLaw", "ms", "(J)D"⟩ : MethodName) (head1 (Jvm.Cond.code (⟨"farspeak/greeter/TimesAddPinLaw", "ms", "(J)D"⟩ : MethodName) method_2_code 2 (some .double) :: ws) ({ frames := 0, cells := 0, slots := 0, locals := 0 } : Room)) (fun a U => a = #[(.long q0)] ∧ Z.Warmed39 U.vm ∧ U.heap = h0) (fun _ _ _ _ _ => True) (fun _ U o U' => ∃ v L, o = .returned v ∧ Q14 Z q0 h0 n0 v U'.heap L ∧ FrameEnd U o U' L ({ frames := 0, cells := 0, slots := 0, locals := 0 } : Room).cells ({ frames := 0, cells := 0, slots := 0, locals := 0 } : Room).slots) := by
  refine MetFree.of_bodySF (plainFor_of_name pn_farspeak_greeter_TimesAddPinLaw) hisR ?_
  intro p e s m args below meth c s₁ Bd hml0 hP hK
  obtain ⟨rfl, hZ, hh⟩ := hP
  have hx := Bd.exec
  have hby := Bd.bytes
  have hml : c.maxLocals = 2 := hml0
  have hown : s.vm.findClass "farspeak/greeter/TimesAddPinLaw" = some m.cls := findClass_of_methodNamed Bd.named
  have hnm := (name_of_methodNamed Bd.named Bd.method).1
  have X0 : Stand p l e ({ frames := 0, cells := 0, slots := 0, locals := 0 } : Room) s m #[(.long q0)] below meth c s₁ [] 0 0 := Stand.of_body Bd
  have e0 : s₁.heap = h0 := by rw [← hh, Bd.state]; rfl
  have N0 := Fr.nil n0
  have KP0 : Keep h0 h0 [] := Keep.refl h0 _
  have pre0 : ∀ t, Steps p.tables e below (s₁.setTop (mkF m 0 #[.val (.long q0), .second] [])) t → Steps p.tables e below (s₁.setTop (entryFrame m #[(.long q0)] 2)) t := fun t k => castTop (ef_14_J m q0) k
  have pre19 : ∀ t, Steps p.tables e below (s₁.setTop (mkF m 6 #[.val (.long q0), .second] [(.double (FP.ddiv (FP.l2d q0) (4696837146684686336 : UInt64)))])) t → Steps p.tables e below (s₁.setTop (entryFrame m #[(.long q0)] 2)) t := by
    intro t kk
    refine pre0 t ?_
    show Steps p.tables e below (s₁.setTop (mkF m 0 #[.val (.long q0), .second] [])) _
    refine XS.lloadN X0.here hx rfl (hb hby d14_0) rfl ?_
    show Steps p.tables e below (s₁.setTop (mkF m 1 #[.val (.long q0), .second] [(.long q0)])) _
    refine own_l2d X0.here hx rfl (hb hby d14_1) rfl ?_
    show Steps p.tables e below (s₁.setTop (mkF m 2 #[.val (.long q0), .second] [(.double (FP.l2d q0))])) _
    refine X0.ldc2DoubleC hx hown (mvT hZ (hw _ (List.mem_of_getElem? (i := 67) rfl))) (g := (mkF m 2 #[.val (.long q0), .second] [(.double (FP.l2d q0))])) rfl (hb hby d14_2) _ ?_
    show Steps p.tables e below (s₁.setTop (mkF m 5 #[.val (.long q0), .second] [(.double (4696837146684686336 : UInt64)), (.double (FP.l2d q0))])) _
    refine own_ddiv X0.here hx rfl (hb hby d14_5) rfl (own_fin _) ?_
    exact kk
  obtain ⟨fs, hr, hrun, hended, hW, hsame⟩ := X0.leave (v := some (.double (FP.ddiv (FP.l2d q0) (4696837146684686336 : UInt64)))) (fun h => by rw [Bd.returns] at h; cases h)
  refine ⟨_, _, pre19 _ ?_, hrun, hended, _, _, rfl, ?_, ⟨_, rfl⟩, hW, hsame.mono (by decide) (by decide)⟩
  · show Steps p.tables e below (s₁.setTop (mkF m 6 #[.val (.long q0), .second] [(.double (FP.ddiv (FP.l2d q0) (4696837146684686336 : UInt64)))])) _
    exact retOut X0 hx Bd.returns rfl (Or.inr (Or.inr (Or.inl ⟨rfl, rfl, _, rfl⟩))) (hb hby d14_6) hr
  · show Q14 Z q0 h0 n0 _ s₁.heap _
    rw [e0]
    exact ⟨rfl, N0, rfl⟩
theorem d1_0 : decode prog_53_method_1_code 0 = .ok (.aload_n 0, 1) := by decide +kernel
theorem d1_1 : decode prog_53_method_1_code 1 = .ok (.invokespecial 1, 3) := by decide +kernel
theorem d1_4 : decode prog_53_method_1_code 4 = .ok (.aload_n 0, 1) := by decide +kernel
theorem d1_5 : decode prog_53_method_1_code 5 = .ok (.sipush 1024, 3) := by decide +kernel
theorem d1_8 : decode prog_53_method_1_code 8 = .ok (.newarray .long, 2) := by decide +kernel
theorem d1_10 : decode prog_53_method_1_code 10 = .ok (.putfield 7, 3) := by decide +kernel
theorem d1_13 : decode prog_53_method_1_code 13 = .ok (.return_, 1) := by decide +kernel
theorem pn_farspeak_greeter_Times : plainName "farspeak/greeter/Times" = true := by first | (simp [plainName, overriddenIn]; done) | decide +kernel
theorem ef_1_R (m : MethodId) (x0 : Addr) : entryFrame m #[(.ref x0)] 1 = mkF m 0 #[.val (.ref x0)] [] := by first | (simp [entryFrame, mkF, argsToLocals, Value.category]; done) | rfl
def Q1 (Z : State) (a_ : Addr) (h0 : Heap) (n0 : Nat) (v : Option Value) (h : Heap) (L : List Loc) : Prop := v = none ∧ Fr n0 L ∧ Keep h0 h [a_] ∧ ∃ (b : Addr) (k : ClassId), h0.size ≤ b ∧ Exa Z h a_ "farspeak/greeter/Times" ∧ Fld Z h a_ "farspeak/greeter/Times" "nanos" "[J" (.ref b) ∧ Fld Z h a_ "farspeak/greeter/Times" "size" "I" (.int (0 : Int32)) ∧ Arv Z h b k .long (1024 : Int32) [] (.long (0 : Int64))
set_option maxRecDepth 65536 in
set_option maxHeartbeats 40000000 in
theorem rm1 (l : Launch) (Z : State) (aA : Array Value) (hw : ∀ d ∈ tables_1, d.before aA Z = true) (ws : List Jvm.Cond) (a_ : Addr) (h0 : Heap) (n0 : Nat) (Z0 : n0 ≤ h0.size) (E_a : Exa Z h0 a_ "farspeak/greeter/Times") (g_a_ : n0 ≤ a_) (F_nanos : Fld Z h0 a_ "farspeak/greeter/Times" "nanos" "[J" .null) (F_size : Fld Z h0 a_ "farspeak/greeter/Times" "size" "I" (.int (0 : Int32))) :
    MetFree l (⟨"farspeak/greeter/Times", "<init>", "()V"⟩ : MethodName) (head1 (Jvm.Cond.code (⟨"farspeak/greeter/Times", "<init>", "()V"⟩ : MethodName) prog_53_method_1_code 1 none :: ws) ({ frames := 1, cells := 1, slots := 1024, locals := 12 } : Room)) (fun a U => a = #[(.ref a_)] ∧ Z.Warmed39 U.vm ∧ U.heap = h0) (fun _ _ _ _ _ => True) (fun _ U o U' => ∃ v L, o = .returned v ∧ Q1 Z a_ h0 n0 v U'.heap L ∧ FrameEnd U o U' L ({ frames := 1, cells := 1, slots := 1024, locals := 12 } : Room).cells ({ frames := 1, cells := 1, slots := 1024, locals := 12 } : Room).slots) := by
  refine MetFree.of_bodySF (plainFor_of_name pn_farspeak_greeter_Times) hisR ?_
  intro p e s m args below meth c s₁ Bd hml0 hP hK
  obtain ⟨rfl, hZ, hh⟩ := hP
  have hx := Bd.exec
  have hby := Bd.bytes
  have hml : c.maxLocals = 1 := hml0
  have hown : s.vm.findClass "farspeak/greeter/Times" = some m.cls := findClass_of_methodNamed Bd.named
  have hnm := (name_of_methodNamed Bd.named Bd.method).1
  have X0 : Stand p l e ({ frames := 1, cells := 1, slots := 1024, locals := 12 } : Room) s m #[(.ref a_)] below meth c s₁ [] 0 0 := Stand.of_body Bd
  have e0 : s₁.heap = h0 := by rw [← hh, Bd.state]; rfl
  have N0 := Fr.nil n0
  have KP0 : Keep h0 h0 [a_] := Keep.refl h0 _
  have pre0 : ∀ t, Steps p.tables e below (s₁.setTop (mkF m 0 #[.val (.ref a_)] [])) t → Steps p.tables e below (s₁.setTop (entryFrame m #[(.ref a_)] 1)) t := fun t k => castTop (ef_1_R m a_) k
  obtain ⟨T20, X20, e20, st20⟩ := initO X0 hx hZ hown (hw _ (List.mem_of_getElem? (i := 6) rfl)) (hw _ (List.mem_of_getElem? (i := 7) rfl)) (hw _ (List.mem_of_getElem? (i := 8) rfl)) e0 (g := (mkF m 1 #[.val (.ref a_)] [(.ref a_)])) rfl (by rw [hml]; rfl) rfl (hb hby d1_1) (by decide) (W := 0) (by show 2 * 0 + _ ≤ _; exact Nat.le_of_eq rfl) (by decide)
  obtain ⟨T21, h21, k21, X21, e21, E21, A21, st21⟩ := newP X20 hx hZ (hw _ (List.mem_of_getElem? (i := 9) rfl)) e20 (g := (mkF m 8 #[.val (.ref a_)] [(.int (1024 : Int32)), (.ref a_)])) rfl (hb hby d1_8) rfl (by decide) (cap := 1024) (by decide) (by decide) (by decide) (by decide)
  obtain ⟨b21, g21⟩ : ∃ z, z = h0.size := ⟨_, rfl⟩
  rw [← g21] at A21 st21
  have ne_a__b21 : a_ ≠ b21 := Nat.ne_of_lt (Nat.lt_of_lt_of_le E_a.lt (Nat.le_of_eq g21.symm))
  have sz_b21 : h0.size ≤ b21 := Nat.le_trans KP0.1 (Nat.le_of_eq g21.symm)
  have g_b21 : n0 ≤ b21 := Nat.le_trans Z0 (Nat.le_of_eq g21.symm)
  have KP21 : Keep h0 h21 [a_] := KP0.ext E21
  have Z21 : n0 ≤ h21.size := Nat.le_trans Z0 E21.1
  have E_a__22 : Exa Z h21 a_ "farspeak/greeter/Times" := E_a.ext E21
  have F_a__nanos_23 : Fld Z h21 a_ "farspeak/greeter/Times" "nanos" "[J" .null := F_nanos.ext E21
  have F_a__size_24 : Fld Z h21 a_ "farspeak/greeter/Times" "size" "I" (.int (0 : Int32)) := F_size.ext E21
  have V_b21 : Arv Z h21 b21 k21 .long (1024 : Int32) [] (.long (0 : Int64)) := (Arv.new A21 (by decide)).pad (pad_rep [] (.long (0 : Int64)) 0)
  obtain ⟨T25, h25, X25, e25, W25, st25⟩ := putF X21 hx hZ hown (host := "") (Or.inl (hw _ (List.mem_of_getElem? (i := 10) rfl))) Via.refl e21 F_a__nanos_23 E_a__22 (Or.inl (hw _ (List.mem_of_getElem? (i := 11) rfl))) (hw _ (List.mem_of_getElem? (i := 1) rfl)) (ty := (.array .long)) (by decide) rfl rfl (g := (mkF m 10 #[.val (.ref a_)] [(.ref b21), (.ref a_)])) rfl rfl (hb hby d1_10)
  have Fw25 := F_a__nanos_23.same W25
  have KP25 : Keep h0 h25 [a_] := KP21.wr W25 (Or.inl (List.mem_of_getElem? (i := 0) rfl))
  have Z25 : n0 ≤ h25.size := Nat.le_trans Z21 (Nat.le_of_eq W25.size.symm)
  have N25 := Fr.snoc X25 N0 g_a_
  have E_a__26 : Exa Z h25 a_ "farspeak/greeter/Times" := E_a__22.wr W25
  have F_a__size_27 : Fld Z h25 a_ "farspeak/greeter/Times" "size" "I" (.int (0 : Int32)) := F_a__size_24.other W25 (Or.inr (slot_ne (Or.inl (hw _ (List.mem_of_getElem? (i := 18) rfl))) (Or.inl (hw _ (List.mem_of_getElem? (i := 11) rfl))) (by decide) (t := .int) (t' := (.array .long)) (by decide) (by decide)))
  have V_b21_28 : Arv Z h25 b21 k21 .long (1024 : Int32) [] (.long (0 : Int64)) := V_b21.other W25 (Ne.symm ne_a__b21)
  have pre29 : ∀ t, Steps p.tables e below (T25.setTop (mkF m 13 #[.val (.ref a_)] [])) t → Steps p.tables e below (s₁.setTop (entryFrame m #[(.ref a_)] 1)) t := by
    intro t kk
    refine pre0 t ?_
    show Steps p.tables e below (s₁.setTop (mkF m 0 #[.val (.ref a_)] [])) _
    refine XS.aloadN X0.here hx rfl (hb hby d1_0) rfl rfl ?_
    show Steps p.tables e below (s₁.setTop (mkF m 1 #[.val (.ref a_)] [(.ref a_)])) _
    refine st20 _ ?_
    show Steps p.tables e below (T20.setTop (mkF m 4 #[.val (.ref a_)] [])) _
    refine XS.aloadN X20.here hx rfl (hb hby d1_4) rfl rfl ?_
    show Steps p.tables e below (T20.setTop (mkF m 5 #[.val (.ref a_)] [(.ref a_)])) _
    refine XS.sipush X20.here hx rfl (hb hby d1_5) ?_
    show Steps p.tables e below (T20.setTop (mkF m 8 #[.val (.ref a_)] [(.int (1024 : Int32)), (.ref a_)])) _
    refine st21 _ ?_
    show Steps p.tables e below (T21.setTop (mkF m 10 #[.val (.ref a_)] [(.ref b21), (.ref a_)])) _
    refine st25 _ ?_
    exact kk
  obtain ⟨fs, hr, hrun, hended, hW, hsame⟩ := X25.leave (v := none) (fun _ => rfl)
  refine ⟨_, _, pre29 _ ?_, hrun, hended, _, _, rfl, ?_, ⟨_, rfl⟩, hW, hsame.mono (by decide) (by decide)⟩
  · show Steps p.tables e below (T25.setTop (mkF m 13 #[.val (.ref a_)] [])) _
    exact X25.returnOut hx Bd.returns (hb hby d1_13) hr
  · show Q1 Z a_ h0 n0 _ T25.heap _
    rw [e25]
    exact ⟨rfl, N25, KP25, _, _, sz_b21, E_a__26, Fw25, F_a__size_27, V_b21_28⟩
theorem d4_0 : decode prog_53_method_4_code 0 = .ok (.aload_n 0, 1) := by decide +kernel
theorem d4_1 : decode prog_53_method_4_code 1 = .ok (.getfield 13, 3) := by decide +kernel
theorem d4_4 : decode prog_53_method_4_code 4 = .ok (.ireturn, 1) := by decide +kernel
theorem ef_4_R (m : MethodId) (x0 : Addr) : entryFrame m #[(.ref x0)] 1 = mkF m 0 #[.val (.ref x0)] [] := by first | (simp [entryFrame, mkF, argsToLocals, Value.category]; done) | rfl
def Q4 (Z : State) (a_ : Addr) (w_ : Int32) (h0 : Heap) (n0 : Nat) (v : Option Value) (h : Heap) (L : List Loc) : Prop := v = some (.int w_) ∧ Fr n0 L ∧ h = h0
set_option maxRecDepth 65536 in
set_option maxHeartbeats 40000000 in
theorem rm4 (l : Launch) (Z : State) (aA : Array Value) (hw : ∀ d ∈ tables_1, d.before aA Z = true) (ws : List Jvm.Cond) (a_ : Addr) (w_ : Int32) (h0 : Heap) (n0 : Nat) (Z0 : n0 ≤ h0.size) (F_ : Fld Z h0 a_ "farspeak/greeter/Times" "size" "I" (.int w_)) :
    MetFree l (⟨"farspeak/greeter/Times", "size", "()I"⟩ : MethodName) (head1 (Jvm.Cond.code (⟨"farspeak/greeter/Times", "size", "()I"⟩ : MethodName) prog_53_method_4_code 1 (some .int) :: ws) ({ frames := 0, cells := 0, slots := 0, locals := 0 } : Room)) (fun a U => a = #[(.ref a_)] ∧ Z.Warmed39 U.vm ∧ U.heap = h0) (fun _ _ _ _ _ => True) (fun _ U o U' => ∃ v L, o = .returned v ∧ Q4 Z a_ w_ h0 n0 v U'.heap L ∧ FrameEnd U o U' L ({ frames := 0, cells := 0, slots := 0, locals := 0 } : Room).cells ({ frames := 0, cells := 0, slots := 0, locals := 0 } : Room).slots) := by
  refine MetFree.of_bodySF (plainFor_of_name pn_farspeak_greeter_Times) hisR ?_
  intro p e s m args below meth c s₁ Bd hml0 hP hK
  obtain ⟨rfl, hZ, hh⟩ := hP
  have hx := Bd.exec
  have hby := Bd.bytes
  have hml : c.maxLocals = 1 := hml0
  have hown : s.vm.findClass "farspeak/greeter/Times" = some m.cls := findClass_of_methodNamed Bd.named
  have hnm := (name_of_methodNamed Bd.named Bd.method).1
  have X0 : Stand p l e ({ frames := 0, cells := 0, slots := 0, locals := 0 } : Room) s m #[(.ref a_)] below meth c s₁ [] 0 0 := Stand.of_body Bd
  have e0 : s₁.heap = h0 := by rw [← hh, Bd.state]; rfl
  have N0 := Fr.nil n0
  have KP0 : Keep h0 h0 [] := Keep.refl h0 _
  have pre0 : ∀ t, Steps p.tables e below (s₁.setTop (mkF m 0 #[.val (.ref a_)] [])) t → Steps p.tables e below (s₁.setTop (entryFrame m #[(.ref a_)] 1)) t := fun t k => castTop (ef_4_R m a_) k
  obtain ⟨T30, X30, e30, st30⟩ := getF X0 hx hZ hown (host := "") (Or.inl (hw _ (List.mem_of_getElem? (i := 17) rfl))) Via.refl e0 F_ (g := (mkF m 1 #[.val (.ref a_)] [(.ref a_)])) rfl rfl (hb hby d4_1)
  have pre31 : ∀ t, Steps p.tables e below (T30.setTop (mkF m 4 #[.val (.ref a_)] [(.int w_)])) t → Steps p.tables e below (s₁.setTop (entryFrame m #[(.ref a_)] 1)) t := by
    intro t kk
    refine pre0 t ?_
    show Steps p.tables e below (s₁.setTop (mkF m 0 #[.val (.ref a_)] [])) _
    refine XS.aloadN X0.here hx rfl (hb hby d4_0) rfl rfl ?_
    show Steps p.tables e below (s₁.setTop (mkF m 1 #[.val (.ref a_)] [(.ref a_)])) _
    refine st30 _ ?_
    exact kk
  obtain ⟨fs, hr, hrun, hended, hW, hsame⟩ := X30.leave (v := some (.int w_)) (fun h => by rw [Bd.returns] at h; cases h)
  refine ⟨_, _, pre31 _ ?_, hrun, hended, _, _, rfl, ?_, ⟨_, rfl⟩, hW, hsame.mono (by decide) (by decide)⟩
  · show Steps p.tables e below (T30.setTop (mkF m 4 #[.val (.ref a_)] [(.int w_)])) _
    exact retOut X30 hx Bd.returns rfl (Or.inl ⟨rfl, Or.inl rfl, _, rfl⟩) (hb hby d4_4) hr
  · show Q4 Z a_ w_ h0 n0 _ T30.heap _
    rw [e30]
    exact ⟨rfl, N0, rfl⟩
theorem d13_0 : decode jdk_2529_method_15_code 0 = .ok (.iload_n 1, 1) := by decide +kernel
theorem d13_1 : decode jdk_2529_method_15_code 1 = .ok (.istore 4, 2) := by decide +kernel
theorem d13_3 : decode jdk_2529_method_15_code 3 = .ok (.iinc 4 1, 3) := by decide +kernel
theorem d13_6 : decode jdk_2529_method_15_code 6 = .ok (.iload 4, 2) := by decide +kernel
theorem d13_8 : decode jdk_2529_method_15_code 8 = .ok (.iload_n 2, 1) := by decide +kernel
theorem d13_9 : decode jdk_2529_method_15_code 9 = .ok (.if_icmp .ge 60, 3) := by decide +kernel
theorem d13_69 : decode jdk_2529_method_15_code 69 = .ok (.return_, 1) := by decide +kernel
theorem pn_java_util_DualPivotQuicksort : plainName "java/util/DualPivotQuicksort" = true := by first | (simp [plainName, overriddenIn]; done) | decide +kernel
theorem ef_13_RII (m : MethodId) (x0 : Addr) (x1 : Int32) (x2 : Int32) : entryFrame m #[(.ref x0), (.int x1), (.int x2)] 7 = mkF m 0 #[.val (.ref x0), .val (.int x1), .val (.int x2), .unset, .unset, .unset, .unset] [] := by first | (simp [entryFrame, mkF, argsToLocals, Value.category]; done) | rfl
def Q13_1 (Z : State) (c_ : Addr) (kc_ : ClassId) (x0 : Int64) (h0 : Heap) (n0 : Nat) (v : Option Value) (h : Heap) (L : List Loc) : Prop := v = none ∧ Fr n0 L ∧ Keep h0 h [c_] ∧ Arv Z h c_ kc_ .long (1 : Int32) [(.long x0)] (.long (0 : Int64))
set_option maxRecDepth 65536 in
set_option maxHeartbeats 40000000 in
theorem rm13_1 (l : Launch) (Z : State) (aA : Array Value) (hw : ∀ d ∈ tables_1, d.before aA Z = true) (ws : List Jvm.Cond) (c_ : Addr) (kc_ : ClassId) (x0 : Int64) (h0 : Heap) (n0 : Nat) (Z0 : n0 ≤ h0.size) (g_c_ : n0 ≤ c_) (V_c : Arv Z h0 c_ kc_ .long (1 : Int32) [(.long x0)] (.long (0 : Int64))) :
    MetFree l (⟨"java/util/DualPivotQuicksort", "insertionSort", "([JII)V"⟩ : MethodName) (head1 (Jvm.Cond.code (⟨"java/util/DualPivotQuicksort", "insertionSort", "([JII)V"⟩ : MethodName) jdk_2529_method_15_code 7 none :: ws) ({ frames := 0, cells := 0, slots := 0, locals := 0 } : Room)) (fun a U => a = #[(.ref c_), (.int (0 : Int32)), (.int (1 : Int32))] ∧ Z.Warmed39 U.vm ∧ U.heap = h0) (fun _ _ _ _ _ => True) (fun _ U o U' => ∃ v L, o = .returned v ∧ Q13_1 Z c_ kc_ x0 h0 n0 v U'.heap L ∧ FrameEnd U o U' L ({ frames := 0, cells := 0, slots := 0, locals := 0 } : Room).cells ({ frames := 0, cells := 0, slots := 0, locals := 0 } : Room).slots) := by
  refine MetFree.of_bodySF (plainFor_of_name pn_java_util_DualPivotQuicksort) hisR ?_
  intro p e s m args below meth c s₁ Bd hml0 hP hK
  obtain ⟨rfl, hZ, hh⟩ := hP
  have hx := Bd.exec
  have hby := Bd.bytes
  have hml : c.maxLocals = 7 := hml0
  have hown : s.vm.findClass "java/util/DualPivotQuicksort" = some m.cls := findClass_of_methodNamed Bd.named
  have hnm := (name_of_methodNamed Bd.named Bd.method).1
  have X0 : Stand p l e ({ frames := 0, cells := 0, slots := 0, locals := 0 } : Room) s m #[(.ref c_), (.int (0 : Int32)), (.int (1 : Int32))] below meth c s₁ [] 0 0 := Stand.of_body Bd
  have e0 : s₁.heap = h0 := by rw [← hh, Bd.state]; rfl
  have N0 := Fr.nil n0
  have KP0 : Keep h0 h0 [c_] := Keep.refl h0 _
  have pre0 : ∀ t, Steps p.tables e below (s₁.setTop (mkF m 0 #[.val (.ref c_), .val (.int (0 : Int32)), .val (.int (1 : Int32)), .unset, .unset, .unset, .unset] [])) t → Steps p.tables e below (s₁.setTop (entryFrame m #[(.ref c_), (.int (0 : Int32)), (.int (1 : Int32))] 7)) t := fun t k => castTop (ef_13_RII m c_ (0 : Int32) (1 : Int32)) k
  have pre32 : ∀ t, Steps p.tables e below (s₁.setTop (mkF m 69 #[.val (.ref c_), .val (.int (0 : Int32)), .val (.int (1 : Int32)), .unset, .val (.int (1 : Int32)), .unset, .unset] [])) t → Steps p.tables e below (s₁.setTop (entryFrame m #[(.ref c_), (.int (0 : Int32)), (.int (1 : Int32))] 7)) t := by
    intro t kk
    refine pre0 t ?_
    show Steps p.tables e below (s₁.setTop (mkF m 0 #[.val (.ref c_), .val (.int (0 : Int32)), .val (.int (1 : Int32)), .unset, .unset, .unset, .unset] [])) _
    refine XS.iloadN X0.here hx rfl (hb hby d13_0) rfl ?_
    show Steps p.tables e below (s₁.setTop (mkF m 1 #[.val (.ref c_), .val (.int (0 : Int32)), .val (.int (1 : Int32)), .unset, .unset, .unset, .unset] [(.int (0 : Int32))])) _
    refine XS.istore X0.here hx rfl (hb hby d13_1) rfl (l' := #[.val (.ref c_), .val (.int (0 : Int32)), .val (.int (1 : Int32)), .unset, .val (.int (0 : Int32)), .unset, .unset]) rfl ?_
    show Steps p.tables e below (s₁.setTop (mkF m 3 #[.val (.ref c_), .val (.int (0 : Int32)), .val (.int (1 : Int32)), .unset, .val (.int (0 : Int32)), .unset, .unset] [])) _
    refine XS.iinc X0.here hx rfl (hb hby d13_3) rfl (l' := #[.val (.ref c_), .val (.int (0 : Int32)), .val (.int (1 : Int32)), .unset, .val (.int (1 : Int32)), .unset, .unset]) rfl ?_
    show Steps p.tables e below (s₁.setTop (mkF m 6 #[.val (.ref c_), .val (.int (0 : Int32)), .val (.int (1 : Int32)), .unset, .val (.int (1 : Int32)), .unset, .unset] [])) _
    refine XS.iload X0.here hx rfl (hb hby d13_6) rfl ?_
    show Steps p.tables e below (s₁.setTop (mkF m 8 #[.val (.ref c_), .val (.int (0 : Int32)), .val (.int (1 : Int32)), .unset, .val (.int (1 : Int32)), .unset, .unset] [(.int (1 : Int32))])) _
    refine XS.iloadN X0.here hx rfl (hb hby d13_8) rfl ?_
    show Steps p.tables e below (s₁.setTop (mkF m 9 #[.val (.ref c_), .val (.int (0 : Int32)), .val (.int (1 : Int32)), .unset, .val (.int (1 : Int32)), .unset, .unset] [(.int (1 : Int32)), (.int (1 : Int32))])) _
    refine XS.icmpYes X0.here hx rfl (pc0 := 9) (pc' := 69) rfl (hb hby d13_9) rfl (flt (by decide : ¬ ((1 : Int32) < (1 : Int32)))).2.1 (by decide) (by decide) ?_
    exact kk
  obtain ⟨fs, hr, hrun, hended, hW, hsame⟩ := X0.leave (v := none) (fun _ => rfl)
  refine ⟨_, _, pre32 _ ?_, hrun, hended, _, _, rfl, ?_, ⟨_, rfl⟩, hW, hsame.mono (by decide) (by decide)⟩
  · show Steps p.tables e below (s₁.setTop (mkF m 69 #[.val (.ref c_), .val (.int (0 : Int32)), .val (.int (1 : Int32)), .unset, .val (.int (1 : Int32)), .unset, .unset] [])) _
    exact X0.returnOut hx Bd.returns (hb hby d13_69) hr
  · show Q13_1 Z c_ kc_ x0 h0 n0 _ s₁.heap _
    rw [e0]
    exact ⟨rfl, N0, KP0, V_c⟩
def own_s2_0 (x0 : Int64) (x1 : Int64) : Int64 := (if x1 < x0 then x1 else x0)
def own_s2_1 (x0 : Int64) (x1 : Int64) : Int64 := (if x1 < x0 then x0 else x1)
theorem d13_12 : decode jdk_2529_method_15_code 12 = .ok (.aload_n 0, 1) := by decide +kernel
theorem d13_13 : decode jdk_2529_method_15_code 13 = .ok (.iload 4, 2) := by decide +kernel
theorem d13_15 : decode jdk_2529_method_15_code 15 = .ok (.dup, 1) := by decide +kernel
theorem d13_16 : decode jdk_2529_method_15_code 16 = .ok (.istore_n 3, 1) := by decide +kernel
theorem d13_17 : decode jdk_2529_method_15_code 17 = .ok (.laload, 1) := by decide +kernel
theorem d13_18 : decode jdk_2529_method_15_code 18 = .ok (.lstore 5, 2) := by decide +kernel
theorem d13_20 : decode jdk_2529_method_15_code 20 = .ok (.lload 5, 2) := by decide +kernel
theorem d13_22 : decode jdk_2529_method_15_code 22 = .ok (.aload_n 0, 1) := by decide +kernel
theorem d13_23 : decode jdk_2529_method_15_code 23 = .ok (.iload_n 3, 1) := by decide +kernel
theorem d13_24 : decode jdk_2529_method_15_code 24 = .ok (.iconst 1, 1) := by decide +kernel
theorem d13_25 : decode jdk_2529_method_15_code 25 = .ok (.isub, 1) := by decide +kernel
theorem d13_26 : decode jdk_2529_method_15_code 26 = .ok (.laload, 1) := by decide +kernel
theorem d13_27 : decode jdk_2529_method_15_code 27 = .ok (.lcmp, 1) := by decide +kernel
theorem d13_28 : decode jdk_2529_method_15_code 28 = .ok (.ifCond .ge 38, 3) := by decide +kernel
theorem d13_31 : decode jdk_2529_method_15_code 31 = .ok (.iinc 3 (-1), 3) := by decide +kernel
theorem d13_34 : decode jdk_2529_method_15_code 34 = .ok (.iload_n 3, 1) := by decide +kernel
theorem d13_35 : decode jdk_2529_method_15_code 35 = .ok (.iload_n 1, 1) := by decide +kernel
theorem d13_36 : decode jdk_2529_method_15_code 36 = .ok (.if_icmp .lt 23, 3) := by decide +kernel
theorem d13_39 : decode jdk_2529_method_15_code 39 = .ok (.lload 5, 2) := by decide +kernel
theorem d13_41 : decode jdk_2529_method_15_code 41 = .ok (.aload_n 0, 1) := by decide +kernel
theorem d13_42 : decode jdk_2529_method_15_code 42 = .ok (.iload_n 3, 1) := by decide +kernel
theorem d13_43 : decode jdk_2529_method_15_code 43 = .ok (.laload, 1) := by decide +kernel
theorem d13_44 : decode jdk_2529_method_15_code 44 = .ok (.lcmp, 1) := by decide +kernel
theorem d13_45 : decode jdk_2529_method_15_code 45 = .ok (.ifCond .ge 14, 3) := by decide +kernel
theorem d13_48 : decode jdk_2529_method_15_code 48 = .ok (.aload_n 0, 1) := by decide +kernel
theorem d13_49 : decode jdk_2529_method_15_code 49 = .ok (.iload_n 3, 1) := by decide +kernel
theorem d13_50 : decode jdk_2529_method_15_code 50 = .ok (.iconst 1, 1) := by decide +kernel
theorem d13_51 : decode jdk_2529_method_15_code 51 = .ok (.iadd, 1) := by decide +kernel
theorem d13_52 : decode jdk_2529_method_15_code 52 = .ok (.aload_n 0, 1) := by decide +kernel
theorem d13_53 : decode jdk_2529_method_15_code 53 = .ok (.iload_n 3, 1) := by decide +kernel
theorem d13_54 : decode jdk_2529_method_15_code 54 = .ok (.laload, 1) := by decide +kernel
theorem d13_55 : decode jdk_2529_method_15_code 55 = .ok (.lastore, 1) := by decide +kernel
theorem d13_56 : decode jdk_2529_method_15_code 56 = .ok (.goto (-25), 3) := by decide +kernel
theorem d13_59 : decode jdk_2529_method_15_code 59 = .ok (.aload_n 0, 1) := by decide +kernel
theorem d13_60 : decode jdk_2529_method_15_code 60 = .ok (.iload_n 3, 1) := by decide +kernel
theorem d13_61 : decode jdk_2529_method_15_code 61 = .ok (.iconst 1, 1) := by decide +kernel
theorem d13_62 : decode jdk_2529_method_15_code 62 = .ok (.iadd, 1) := by decide +kernel
theorem d13_63 : decode jdk_2529_method_15_code 63 = .ok (.lload 5, 2) := by decide +kernel
theorem d13_65 : decode jdk_2529_method_15_code 65 = .ok (.lastore, 1) := by decide +kernel
theorem d13_66 : decode jdk_2529_method_15_code 66 = .ok (.goto (-63), 3) := by decide +kernel
def Q13_2 (Z : State) (c_ : Addr) (kc_ : ClassId) (x0 : Int64) (x1 : Int64) (h0 : Heap) (n0 : Nat) (v : Option Value) (h : Heap) (L : List Loc) : Prop := v = none ∧ Fr n0 L ∧ Keep h0 h [c_] ∧ Arv Z h c_ kc_ .long (2 : Int32) [(.long (own_s2_0 x0 x1)), (.long (own_s2_1 x0 x1))] (.long (0 : Int64))
set_option maxRecDepth 65536 in
set_option maxHeartbeats 40000000 in
theorem rm13_2 (l : Launch) (Z : State) (aA : Array Value) (hw : ∀ d ∈ tables_1, d.before aA Z = true) (ws : List Jvm.Cond) (c_ : Addr) (kc_ : ClassId) (x0 : Int64) (x1 : Int64) (h0 : Heap) (n0 : Nat) (Z0 : n0 ≤ h0.size) (g_c_ : n0 ≤ c_) (V_c : Arv Z h0 c_ kc_ .long (2 : Int32) [(.long x0), (.long x1)] (.long (0 : Int64))) :
    MetFree l (⟨"java/util/DualPivotQuicksort", "insertionSort", "([JII)V"⟩ : MethodName) (head1 (Jvm.Cond.code (⟨"java/util/DualPivotQuicksort", "insertionSort", "([JII)V"⟩ : MethodName) jdk_2529_method_15_code 7 none :: ws) ({ frames := 0, cells := 0, slots := 0, locals := 0 } : Room)) (fun a U => a = #[(.ref c_), (.int (0 : Int32)), (.int (2 : Int32))] ∧ Z.Warmed39 U.vm ∧ U.heap = h0) (fun _ _ _ _ _ => True) (fun _ U o U' => ∃ v L, o = .returned v ∧ Q13_2 Z c_ kc_ x0 x1 h0 n0 v U'.heap L ∧ FrameEnd U o U' L ({ frames := 0, cells := 0, slots := 0, locals := 0 } : Room).cells ({ frames := 0, cells := 0, slots := 0, locals := 0 } : Room).slots) := by
  refine MetFree.of_bodySF (plainFor_of_name pn_java_util_DualPivotQuicksort) hisR ?_
  intro p e s m args below meth c s₁ Bd hml0 hP hK
  obtain ⟨rfl, hZ, hh⟩ := hP
  have hx := Bd.exec
  have hby := Bd.bytes
  have hml : c.maxLocals = 7 := hml0
  have hown : s.vm.findClass "java/util/DualPivotQuicksort" = some m.cls := findClass_of_methodNamed Bd.named
  have hnm := (name_of_methodNamed Bd.named Bd.method).1
  have X0 : Stand p l e ({ frames := 0, cells := 0, slots := 0, locals := 0 } : Room) s m #[(.ref c_), (.int (0 : Int32)), (.int (2 : Int32))] below meth c s₁ [] 0 0 := Stand.of_body Bd
  have e0 : s₁.heap = h0 := by rw [← hh, Bd.state]; rfl
  have N0 := Fr.nil n0
  have KP0 : Keep h0 h0 [c_] := Keep.refl h0 _
  have pre0 : ∀ t, Steps p.tables e below (s₁.setTop (mkF m 0 #[.val (.ref c_), .val (.int (0 : Int32)), .val (.int (2 : Int32)), .unset, .unset, .unset, .unset] [])) t → Steps p.tables e below (s₁.setTop (entryFrame m #[(.ref c_), (.int (0 : Int32)), (.int (2 : Int32))] 7)) t := fun t k => castTop (ef_13_RII m c_ (0 : Int32) (2 : Int32)) k
  obtain ⟨cl33, Ar33, q33, S33, N33v, H33, G33⟩ := id V_c
  have hin33 : ¬ ((1 : Int32) < 0 ∨ cl33.slots.size ≤ ((1 : Int32)).toNatClampNeg) := inb_of S33 ⟨by decide, by decide⟩
  have hat33 : cl33.slots[((1 : Int32)).toNatClampNeg]? = some (.long x1) := Has.at H33 hin33 rfl
  obtain ⟨cl34, Ar34, q34, S34, N34v, H34, G34⟩ := id V_c
  have hin34 : ¬ ((0 : Int32) < 0 ∨ cl34.slots.size ≤ ((0 : Int32)).toNatClampNeg) := inb_of S34 ⟨by decide, by decide⟩
  have hat34 : cl34.slots[((0 : Int32)).toNatClampNeg]? = some (.long x0) := Has.at H34 hin34 rfl
  have pre36 : ∀ t, Steps p.tables e below (s₁.setTop (mkF m 28 #[.val (.ref c_), .val (.int (0 : Int32)), .val (.int (2 : Int32)), .val (.int (1 : Int32)), .val (.int (1 : Int32)), .val (.long x1), .second] [(.int (lcmpW x1 x0))])) t → Steps p.tables e below (s₁.setTop (entryFrame m #[(.ref c_), (.int (0 : Int32)), (.int (2 : Int32))] 7)) t := by
    intro t kk
    refine pre0 t ?_
    show Steps p.tables e below (s₁.setTop (mkF m 0 #[.val (.ref c_), .val (.int (0 : Int32)), .val (.int (2 : Int32)), .unset, .unset, .unset, .unset] [])) _
    refine XS.iloadN X0.here hx rfl (hb hby d13_0) rfl ?_
    show Steps p.tables e below (s₁.setTop (mkF m 1 #[.val (.ref c_), .val (.int (0 : Int32)), .val (.int (2 : Int32)), .unset, .unset, .unset, .unset] [(.int (0 : Int32))])) _
    refine XS.istore X0.here hx rfl (hb hby d13_1) rfl (l' := #[.val (.ref c_), .val (.int (0 : Int32)), .val (.int (2 : Int32)), .unset, .val (.int (0 : Int32)), .unset, .unset]) rfl ?_
    show Steps p.tables e below (s₁.setTop (mkF m 3 #[.val (.ref c_), .val (.int (0 : Int32)), .val (.int (2 : Int32)), .unset, .val (.int (0 : Int32)), .unset, .unset] [])) _
    refine XS.iinc X0.here hx rfl (hb hby d13_3) rfl (l' := #[.val (.ref c_), .val (.int (0 : Int32)), .val (.int (2 : Int32)), .unset, .val (.int (1 : Int32)), .unset, .unset]) rfl ?_
    show Steps p.tables e below (s₁.setTop (mkF m 6 #[.val (.ref c_), .val (.int (0 : Int32)), .val (.int (2 : Int32)), .unset, .val (.int (1 : Int32)), .unset, .unset] [])) _
    refine XS.iload X0.here hx rfl (hb hby d13_6) rfl ?_
    show Steps p.tables e below (s₁.setTop (mkF m 8 #[.val (.ref c_), .val (.int (0 : Int32)), .val (.int (2 : Int32)), .unset, .val (.int (1 : Int32)), .unset, .unset] [(.int (1 : Int32))])) _
    refine XS.iloadN X0.here hx rfl (hb hby d13_8) rfl ?_
    show Steps p.tables e below (s₁.setTop (mkF m 9 #[.val (.ref c_), .val (.int (0 : Int32)), .val (.int (2 : Int32)), .unset, .val (.int (1 : Int32)), .unset, .unset] [(.int (2 : Int32)), (.int (1 : Int32))])) _
    refine XS.icmpNo X0.here hx rfl (hb hby d13_9) rfl (tlt (by decide : (1 : Int32) < (2 : Int32))).2.1 ?_
    show Steps p.tables e below (s₁.setTop (mkF m 12 #[.val (.ref c_), .val (.int (0 : Int32)), .val (.int (2 : Int32)), .unset, .val (.int (1 : Int32)), .unset, .unset] [])) _
    refine XS.aloadN X0.here hx rfl (hb hby d13_12) rfl rfl ?_
    show Steps p.tables e below (s₁.setTop (mkF m 13 #[.val (.ref c_), .val (.int (0 : Int32)), .val (.int (2 : Int32)), .unset, .val (.int (1 : Int32)), .unset, .unset] [(.ref c_)])) _
    refine XS.iload X0.here hx rfl (hb hby d13_13) rfl ?_
    show Steps p.tables e below (s₁.setTop (mkF m 15 #[.val (.ref c_), .val (.int (0 : Int32)), .val (.int (2 : Int32)), .unset, .val (.int (1 : Int32)), .unset, .unset] [(.int (1 : Int32)), (.ref c_)])) _
    refine XS.dup X0.here hx rfl (hb hby d13_15) rfl rfl ?_
    show Steps p.tables e below (s₁.setTop (mkF m 16 #[.val (.ref c_), .val (.int (0 : Int32)), .val (.int (2 : Int32)), .unset, .val (.int (1 : Int32)), .unset, .unset] [(.int (1 : Int32)), (.int (1 : Int32)), (.ref c_)])) _
    refine XS.istoreN X0.here hx rfl (hb hby d13_16) rfl (l' := #[.val (.ref c_), .val (.int (0 : Int32)), .val (.int (2 : Int32)), .val (.int (1 : Int32)), .val (.int (1 : Int32)), .unset, .unset]) rfl ?_
    show Steps p.tables e below (s₁.setTop (mkF m 17 #[.val (.ref c_), .val (.int (0 : Int32)), .val (.int (2 : Int32)), .val (.int (1 : Int32)), .val (.int (1 : Int32)), .unset, .unset] [(.int (1 : Int32)), (.ref c_)])) _
    refine X0.laload hx (j := (1 : Int32)) (v := (.long x1)) (by rw [e0]; exact Ar33.1) (State.isArrayOf_alike hZ.alike Ar33.2.1) Ar33.2.2 hin33 hat33 (g := (mkF m 17 #[.val (.ref c_), .val (.int (0 : Int32)), .val (.int (2 : Int32)), .val (.int (1 : Int32)), .val (.int (1 : Int32)), .unset, .unset] [(.int (1 : Int32)), (.ref c_)])) rfl rfl (hb hby d13_17) _ ?_
    show Steps p.tables e below (s₁.setTop (mkF m 18 #[.val (.ref c_), .val (.int (0 : Int32)), .val (.int (2 : Int32)), .val (.int (1 : Int32)), .val (.int (1 : Int32)), .unset, .unset] [(.long x1)])) _
    refine XS.lstore X0.here hx rfl (hb hby d13_18) rfl (l' := #[.val (.ref c_), .val (.int (0 : Int32)), .val (.int (2 : Int32)), .val (.int (1 : Int32)), .val (.int (1 : Int32)), .val (.long x1), .second]) rfl ?_
    show Steps p.tables e below (s₁.setTop (mkF m 20 #[.val (.ref c_), .val (.int (0 : Int32)), .val (.int (2 : Int32)), .val (.int (1 : Int32)), .val (.int (1 : Int32)), .val (.long x1), .second] [])) _
    refine XS.lload X0.here hx rfl (hb hby d13_20) rfl ?_
    show Steps p.tables e below (s₁.setTop (mkF m 22 #[.val (.ref c_), .val (.int (0 : Int32)), .val (.int (2 : Int32)), .val (.int (1 : Int32)), .val (.int (1 : Int32)), .val (.long x1), .second] [(.long x1)])) _
    refine XS.aloadN X0.here hx rfl (hb hby d13_22) rfl rfl ?_
    show Steps p.tables e below (s₁.setTop (mkF m 23 #[.val (.ref c_), .val (.int (0 : Int32)), .val (.int (2 : Int32)), .val (.int (1 : Int32)), .val (.int (1 : Int32)), .val (.long x1), .second] [(.ref c_), (.long x1)])) _
    refine XS.iloadN X0.here hx rfl (hb hby d13_23) rfl ?_
    show Steps p.tables e below (s₁.setTop (mkF m 24 #[.val (.ref c_), .val (.int (0 : Int32)), .val (.int (2 : Int32)), .val (.int (1 : Int32)), .val (.int (1 : Int32)), .val (.long x1), .second] [(.int (1 : Int32)), (.ref c_), (.long x1)])) _
    refine XS.iconst X0.here hx rfl (hb hby d13_24) ?_
    show Steps p.tables e below (s₁.setTop (mkF m 25 #[.val (.ref c_), .val (.int (0 : Int32)), .val (.int (2 : Int32)), .val (.int (1 : Int32)), .val (.int (1 : Int32)), .val (.long x1), .second] [(.int (1 : Int32)), (.int (1 : Int32)), (.ref c_), (.long x1)])) _
    refine XS.isub X0.here hx rfl (hb hby d13_25) rfl ?_
    show Steps p.tables e below (s₁.setTop (mkF m 26 #[.val (.ref c_), .val (.int (0 : Int32)), .val (.int (2 : Int32)), .val (.int (1 : Int32)), .val (.int (1 : Int32)), .val (.long x1), .second] [(.int (0 : Int32)), (.ref c_), (.long x1)])) _
    refine X0.laload hx (j := (0 : Int32)) (v := (.long x0)) (by rw [e0]; exact Ar34.1) (State.isArrayOf_alike hZ.alike Ar34.2.1) Ar34.2.2 hin34 hat34 (g := (mkF m 26 #[.val (.ref c_), .val (.int (0 : Int32)), .val (.int (2 : Int32)), .val (.int (1 : Int32)), .val (.int (1 : Int32)), .val (.long x1), .second] [(.int (0 : Int32)), (.ref c_), (.long x1)])) rfl rfl (hb hby d13_26) _ ?_
    show Steps p.tables e below (s₁.setTop (mkF m 27 #[.val (.ref c_), .val (.int (0 : Int32)), .val (.int (2 : Int32)), .val (.int (1 : Int32)), .val (.int (1 : Int32)), .val (.long x1), .second] [(.long x0), (.long x1)])) _
    refine XS.lcmp X0.here hx rfl (hb hby d13_27) rfl ?_
    exact kk
  by_cases hc28_35 : x1 < x0
  · obtain ⟨cl37, Ar37, q37, S37, N37v, H37, G37⟩ := id V_c
    have hin37 : ¬ ((0 : Int32) < 0 ∨ cl37.slots.size ≤ ((0 : Int32)).toNatClampNeg) := inb_of S37 ⟨by decide, by decide⟩
    have hat37 : cl37.slots[((0 : Int32)).toNatClampNeg]? = some (.long x0) := Has.at H37 hin37 rfl
    obtain ⟨cl38, Ar38, q38, S38, N38v, H38, G38⟩ := id V_c
    have hin38 : ¬ ((0 : Int32) < 0 ∨ cl38.slots.size ≤ ((0 : Int32)).toNatClampNeg) := inb_of S38 ⟨by decide, by decide⟩
    have hat38 : cl38.slots[((0 : Int32)).toNatClampNeg]? = some (.long x0) := Has.at H38 hin38 rfl
    obtain ⟨cl39, Ar39, q39, S39, N39v, H39, G39⟩ := V_c
    have hin39 : ¬ ((1 : Int32) < 0 ∨ cl39.slots.size ≤ ((1 : Int32)).toNatClampNeg) := inb_of S39 ⟨by decide, by decide⟩
    obtain ⟨T40, h40, X40, e40, W40, st40⟩ := stJ X0 hx hZ e0 Ar39 (j := (1 : Int32)) hin39 (g := (mkF m 55 #[.val (.ref c_), .val (.int (0 : Int32)), .val (.int (2 : Int32)), .val (.int (0 : Int32)), .val (.int (1 : Int32)), .val (.long x1), .second] [(.long x0), (.int (1 : Int32)), (.ref c_)])) rfl rfl (hb hby d13_55)
    have Vw40 : Arv Z h40 c_ kc_ .long (2 : Int32) [(.long x0), (.long x0)] (.long (0 : Int64)) := Arv.set Ar39 q39 S39 N39v H39 G39 rfl W40 1 rfl (Nat.le_of_ble_eq_true rfl)
    have KP40 : Keep h0 h40 [c_] := KP0.wr W40 (Or.inl (List.mem_of_getElem? (i := 0) rfl))
    have Z40 : n0 ≤ h40.size := Nat.le_trans Z0 (Nat.le_of_eq W40.size.symm)
    have N40 := Fr.snoc X40 N0 g_c_
    obtain ⟨cl41, Ar41, q41, S41, N41v, H41, G41⟩ := Vw40
    have hin41 : ¬ ((0 : Int32) < 0 ∨ cl41.slots.size ≤ ((0 : Int32)).toNatClampNeg) := inb_of S41 ⟨by decide, by decide⟩
    obtain ⟨T42, h42, X42, e42, W42, st42⟩ := stJ X40 hx hZ e40 Ar41 (j := (0 : Int32)) hin41 (g := (mkF m 65 #[.val (.ref c_), .val (.int (0 : Int32)), .val (.int (2 : Int32)), .val (.int (-1 : Int32)), .val (.int (1 : Int32)), .val (.long x1), .second] [(.long x1), (.int (0 : Int32)), (.ref c_)])) rfl rfl (hb hby d13_65)
    have Vw42 : Arv Z h42 c_ kc_ .long (2 : Int32) [(.long x1), (.long x0)] (.long (0 : Int64)) := Arv.set Ar41 q41 S41 N41v H41 G41 rfl W42 0 rfl (Nat.le_of_ble_eq_true rfl)
    have KP42 : Keep h0 h42 [c_] := KP40.wr W42 (Or.inl (List.mem_of_getElem? (i := 0) rfl))
    have Z42 : n0 ≤ h42.size := Nat.le_trans Z40 (Nat.le_of_eq W42.size.symm)
    have N42 := Fr.snoc X42 N40 g_c_
    have hl0 : (own_s2_0 x0 x1) = x1 := (if_pos hc28_35)
    have hl1 : (own_s2_1 x0 x1) = x0 := (if_pos hc28_35)
    have pre43 : ∀ t, Steps p.tables e below (T42.setTop (mkF m 69 #[.val (.ref c_), .val (.int (0 : Int32)), .val (.int (2 : Int32)), .val (.int (-1 : Int32)), .val (.int (2 : Int32)), .val (.long x1), .second] [])) t → Steps p.tables e below (s₁.setTop (entryFrame m #[(.ref c_), (.int (0 : Int32)), (.int (2 : Int32))] 7)) t := by
      intro t kk
      refine pre36 t ?_
      show Steps p.tables e below (s₁.setTop (mkF m 28 #[.val (.ref c_), .val (.int (0 : Int32)), .val (.int (2 : Int32)), .val (.int (1 : Int32)), .val (.int (1 : Int32)), .val (.long x1), .second] [(.int (lcmpW x1 x0))])) _
      refine XS.ifNo X0.here hx rfl (hb hby d13_28) rfl ((if0 _ _).trans (tlt ((lw_lt x1 x0).mpr hc28_35)).2.1) ?_
      show Steps p.tables e below (s₁.setTop (mkF m 31 #[.val (.ref c_), .val (.int (0 : Int32)), .val (.int (2 : Int32)), .val (.int (1 : Int32)), .val (.int (1 : Int32)), .val (.long x1), .second] [])) _
      refine XS.iinc X0.here hx rfl (hb hby d13_31) rfl (l' := #[.val (.ref c_), .val (.int (0 : Int32)), .val (.int (2 : Int32)), .val (.int (0 : Int32)), .val (.int (1 : Int32)), .val (.long x1), .second]) rfl ?_
      show Steps p.tables e below (s₁.setTop (mkF m 34 #[.val (.ref c_), .val (.int (0 : Int32)), .val (.int (2 : Int32)), .val (.int (0 : Int32)), .val (.int (1 : Int32)), .val (.long x1), .second] [])) _
      refine XS.iloadN X0.here hx rfl (hb hby d13_34) rfl ?_
      show Steps p.tables e below (s₁.setTop (mkF m 35 #[.val (.ref c_), .val (.int (0 : Int32)), .val (.int (2 : Int32)), .val (.int (0 : Int32)), .val (.int (1 : Int32)), .val (.long x1), .second] [(.int (0 : Int32))])) _
      refine XS.iloadN X0.here hx rfl (hb hby d13_35) rfl ?_
      show Steps p.tables e below (s₁.setTop (mkF m 36 #[.val (.ref c_), .val (.int (0 : Int32)), .val (.int (2 : Int32)), .val (.int (0 : Int32)), .val (.int (1 : Int32)), .val (.long x1), .second] [(.int (0 : Int32)), (.int (0 : Int32))])) _
      refine XS.icmpNo X0.here hx rfl (hb hby d13_36) rfl (flt (by decide : ¬ ((0 : Int32) < (0 : Int32)))).1 ?_
      show Steps p.tables e below (s₁.setTop (mkF m 39 #[.val (.ref c_), .val (.int (0 : Int32)), .val (.int (2 : Int32)), .val (.int (0 : Int32)), .val (.int (1 : Int32)), .val (.long x1), .second] [])) _
      refine XS.lload X0.here hx rfl (hb hby d13_39) rfl ?_
      show Steps p.tables e below (s₁.setTop (mkF m 41 #[.val (.ref c_), .val (.int (0 : Int32)), .val (.int (2 : Int32)), .val (.int (0 : Int32)), .val (.int (1 : Int32)), .val (.long x1), .second] [(.long x1)])) _
      refine XS.aloadN X0.here hx rfl (hb hby d13_41) rfl rfl ?_
      show Steps p.tables e below (s₁.setTop (mkF m 42 #[.val (.ref c_), .val (.int (0 : Int32)), .val (.int (2 : Int32)), .val (.int (0 : Int32)), .val (.int (1 : Int32)), .val (.long x1), .second] [(.ref c_), (.long x1)])) _
      refine XS.iloadN X0.here hx rfl (hb hby d13_42) rfl ?_
      show Steps p.tables e below (s₁.setTop (mkF m 43 #[.val (.ref c_), .val (.int (0 : Int32)), .val (.int (2 : Int32)), .val (.int (0 : Int32)), .val (.int (1 : Int32)), .val (.long x1), .second] [(.int (0 : Int32)), (.ref c_), (.long x1)])) _
      refine X0.laload hx (j := (0 : Int32)) (v := (.long x0)) (by rw [e0]; exact Ar37.1) (State.isArrayOf_alike hZ.alike Ar37.2.1) Ar37.2.2 hin37 hat37 (g := (mkF m 43 #[.val (.ref c_), .val (.int (0 : Int32)), .val (.int (2 : Int32)), .val (.int (0 : Int32)), .val (.int (1 : Int32)), .val (.long x1), .second] [(.int (0 : Int32)), (.ref c_), (.long x1)])) rfl rfl (hb hby d13_43) _ ?_
      show Steps p.tables e below (s₁.setTop (mkF m 44 #[.val (.ref c_), .val (.int (0 : Int32)), .val (.int (2 : Int32)), .val (.int (0 : Int32)), .val (.int (1 : Int32)), .val (.long x1), .second] [(.long x0), (.long x1)])) _
      refine XS.lcmp X0.here hx rfl (hb hby d13_44) rfl ?_
      show Steps p.tables e below (s₁.setTop (mkF m 45 #[.val (.ref c_), .val (.int (0 : Int32)), .val (.int (2 : Int32)), .val (.int (0 : Int32)), .val (.int (1 : Int32)), .val (.long x1), .second] [(.int (lcmpW x1 x0))])) _
      refine XS.ifNo X0.here hx rfl (hb hby d13_45) rfl ((if0 _ _).trans (tlt ((lw_lt x1 x0).mpr hc28_35)).2.1) ?_
      show Steps p.tables e below (s₁.setTop (mkF m 48 #[.val (.ref c_), .val (.int (0 : Int32)), .val (.int (2 : Int32)), .val (.int (0 : Int32)), .val (.int (1 : Int32)), .val (.long x1), .second] [])) _
      refine XS.aloadN X0.here hx rfl (hb hby d13_48) rfl rfl ?_
      show Steps p.tables e below (s₁.setTop (mkF m 49 #[.val (.ref c_), .val (.int (0 : Int32)), .val (.int (2 : Int32)), .val (.int (0 : Int32)), .val (.int (1 : Int32)), .val (.long x1), .second] [(.ref c_)])) _
      refine XS.iloadN X0.here hx rfl (hb hby d13_49) rfl ?_
      show Steps p.tables e below (s₁.setTop (mkF m 50 #[.val (.ref c_), .val (.int (0 : Int32)), .val (.int (2 : Int32)), .val (.int (0 : Int32)), .val (.int (1 : Int32)), .val (.long x1), .second] [(.int (0 : Int32)), (.ref c_)])) _
      refine XS.iconst X0.here hx rfl (hb hby d13_50) ?_
      show Steps p.tables e below (s₁.setTop (mkF m 51 #[.val (.ref c_), .val (.int (0 : Int32)), .val (.int (2 : Int32)), .val (.int (0 : Int32)), .val (.int (1 : Int32)), .val (.long x1), .second] [(.int (1 : Int32)), (.int (0 : Int32)), (.ref c_)])) _
      refine XS.iadd X0.here hx rfl (hb hby d13_51) rfl ?_
      show Steps p.tables e below (s₁.setTop (mkF m 52 #[.val (.ref c_), .val (.int (0 : Int32)), .val (.int (2 : Int32)), .val (.int (0 : Int32)), .val (.int (1 : Int32)), .val (.long x1), .second] [(.int (1 : Int32)), (.ref c_)])) _
      refine XS.aloadN X0.here hx rfl (hb hby d13_52) rfl rfl ?_
      show Steps p.tables e below (s₁.setTop (mkF m 53 #[.val (.ref c_), .val (.int (0 : Int32)), .val (.int (2 : Int32)), .val (.int (0 : Int32)), .val (.int (1 : Int32)), .val (.long x1), .second] [(.ref c_), (.int (1 : Int32)), (.ref c_)])) _
      refine XS.iloadN X0.here hx rfl (hb hby d13_53) rfl ?_
      show Steps p.tables e below (s₁.setTop (mkF m 54 #[.val (.ref c_), .val (.int (0 : Int32)), .val (.int (2 : Int32)), .val (.int (0 : Int32)), .val (.int (1 : Int32)), .val (.long x1), .second] [(.int (0 : Int32)), (.ref c_), (.int (1 : Int32)), (.ref c_)])) _
      refine X0.laload hx (j := (0 : Int32)) (v := (.long x0)) (by rw [e0]; exact Ar38.1) (State.isArrayOf_alike hZ.alike Ar38.2.1) Ar38.2.2 hin38 hat38 (g := (mkF m 54 #[.val (.ref c_), .val (.int (0 : Int32)), .val (.int (2 : Int32)), .val (.int (0 : Int32)), .val (.int (1 : Int32)), .val (.long x1), .second] [(.int (0 : Int32)), (.ref c_), (.int (1 : Int32)), (.ref c_)])) rfl rfl (hb hby d13_54) _ ?_
      show Steps p.tables e below (s₁.setTop (mkF m 55 #[.val (.ref c_), .val (.int (0 : Int32)), .val (.int (2 : Int32)), .val (.int (0 : Int32)), .val (.int (1 : Int32)), .val (.long x1), .second] [(.long x0), (.int (1 : Int32)), (.ref c_)])) _
      refine st40 _ ?_
      show Steps p.tables e below (T40.setTop (mkF m 56 #[.val (.ref c_), .val (.int (0 : Int32)), .val (.int (2 : Int32)), .val (.int (0 : Int32)), .val (.int (1 : Int32)), .val (.long x1), .second] [])) _
      refine XS.goto X40.here hx rfl (pc0 := 56) (pc' := 31) rfl (hb hby d13_56) (by decide) (by decide) ?_
      show Steps p.tables e below (T40.setTop (mkF m 31 #[.val (.ref c_), .val (.int (0 : Int32)), .val (.int (2 : Int32)), .val (.int (0 : Int32)), .val (.int (1 : Int32)), .val (.long x1), .second] [])) _
      refine XS.iinc X40.here hx rfl (hb hby d13_31) rfl (l' := #[.val (.ref c_), .val (.int (0 : Int32)), .val (.int (2 : Int32)), .val (.int (-1 : Int32)), .val (.int (1 : Int32)), .val (.long x1), .second]) rfl ?_
      show Steps p.tables e below (T40.setTop (mkF m 34 #[.val (.ref c_), .val (.int (0 : Int32)), .val (.int (2 : Int32)), .val (.int (-1 : Int32)), .val (.int (1 : Int32)), .val (.long x1), .second] [])) _
      refine XS.iloadN X40.here hx rfl (hb hby d13_34) rfl ?_
      show Steps p.tables e below (T40.setTop (mkF m 35 #[.val (.ref c_), .val (.int (0 : Int32)), .val (.int (2 : Int32)), .val (.int (-1 : Int32)), .val (.int (1 : Int32)), .val (.long x1), .second] [(.int (-1 : Int32))])) _
      refine XS.iloadN X40.here hx rfl (hb hby d13_35) rfl ?_
      show Steps p.tables e below (T40.setTop (mkF m 36 #[.val (.ref c_), .val (.int (0 : Int32)), .val (.int (2 : Int32)), .val (.int (-1 : Int32)), .val (.int (1 : Int32)), .val (.long x1), .second] [(.int (0 : Int32)), (.int (-1 : Int32))])) _
      refine XS.icmpYes X40.here hx rfl (pc0 := 36) (pc' := 59) rfl (hb hby d13_36) rfl (tlt (by decide : (-1 : Int32) < (0 : Int32))).1 (by decide) (by decide) ?_
      show Steps p.tables e below (T40.setTop (mkF m 59 #[.val (.ref c_), .val (.int (0 : Int32)), .val (.int (2 : Int32)), .val (.int (-1 : Int32)), .val (.int (1 : Int32)), .val (.long x1), .second] [])) _
      refine XS.aloadN X40.here hx rfl (hb hby d13_59) rfl rfl ?_
      show Steps p.tables e below (T40.setTop (mkF m 60 #[.val (.ref c_), .val (.int (0 : Int32)), .val (.int (2 : Int32)), .val (.int (-1 : Int32)), .val (.int (1 : Int32)), .val (.long x1), .second] [(.ref c_)])) _
      refine XS.iloadN X40.here hx rfl (hb hby d13_60) rfl ?_
      show Steps p.tables e below (T40.setTop (mkF m 61 #[.val (.ref c_), .val (.int (0 : Int32)), .val (.int (2 : Int32)), .val (.int (-1 : Int32)), .val (.int (1 : Int32)), .val (.long x1), .second] [(.int (-1 : Int32)), (.ref c_)])) _
      refine XS.iconst X40.here hx rfl (hb hby d13_61) ?_
      show Steps p.tables e below (T40.setTop (mkF m 62 #[.val (.ref c_), .val (.int (0 : Int32)), .val (.int (2 : Int32)), .val (.int (-1 : Int32)), .val (.int (1 : Int32)), .val (.long x1), .second] [(.int (1 : Int32)), (.int (-1 : Int32)), (.ref c_)])) _
      refine XS.iadd X40.here hx rfl (hb hby d13_62) rfl ?_
      show Steps p.tables e below (T40.setTop (mkF m 63 #[.val (.ref c_), .val (.int (0 : Int32)), .val (.int (2 : Int32)), .val (.int (-1 : Int32)), .val (.int (1 : Int32)), .val (.long x1), .second] [(.int (0 : Int32)), (.ref c_)])) _
      refine XS.lload X40.here hx rfl (hb hby d13_63) rfl ?_
      show Steps p.tables e below (T40.setTop (mkF m 65 #[.val (.ref c_), .val (.int (0 : Int32)), .val (.int (2 : Int32)), .val (.int (-1 : Int32)), .val (.int (1 : Int32)), .val (.long x1), .second] [(.long x1), (.int (0 : Int32)), (.ref c_)])) _
      refine st42 _ ?_
      show Steps p.tables e below (T42.setTop (mkF m 66 #[.val (.ref c_), .val (.int (0 : Int32)), .val (.int (2 : Int32)), .val (.int (-1 : Int32)), .val (.int (1 : Int32)), .val (.long x1), .second] [])) _
      refine XS.goto X42.here hx rfl (pc0 := 66) (pc' := 3) rfl (hb hby d13_66) (by decide) (by decide) ?_
      show Steps p.tables e below (T42.setTop (mkF m 3 #[.val (.ref c_), .val (.int (0 : Int32)), .val (.int (2 : Int32)), .val (.int (-1 : Int32)), .val (.int (1 : Int32)), .val (.long x1), .second] [])) _
      refine XS.iinc X42.here hx rfl (hb hby d13_3) rfl (l' := #[.val (.ref c_), .val (.int (0 : Int32)), .val (.int (2 : Int32)), .val (.int (-1 : Int32)), .val (.int (2 : Int32)), .val (.long x1), .second]) rfl ?_
      show Steps p.tables e below (T42.setTop (mkF m 6 #[.val (.ref c_), .val (.int (0 : Int32)), .val (.int (2 : Int32)), .val (.int (-1 : Int32)), .val (.int (2 : Int32)), .val (.long x1), .second] [])) _
      refine XS.iload X42.here hx rfl (hb hby d13_6) rfl ?_
      show Steps p.tables e below (T42.setTop (mkF m 8 #[.val (.ref c_), .val (.int (0 : Int32)), .val (.int (2 : Int32)), .val (.int (-1 : Int32)), .val (.int (2 : Int32)), .val (.long x1), .second] [(.int (2 : Int32))])) _
      refine XS.iloadN X42.here hx rfl (hb hby d13_8) rfl ?_
      show Steps p.tables e below (T42.setTop (mkF m 9 #[.val (.ref c_), .val (.int (0 : Int32)), .val (.int (2 : Int32)), .val (.int (-1 : Int32)), .val (.int (2 : Int32)), .val (.long x1), .second] [(.int (2 : Int32)), (.int (2 : Int32))])) _
      refine XS.icmpYes X42.here hx rfl (pc0 := 9) (pc' := 69) rfl (hb hby d13_9) rfl (flt (by decide : ¬ ((2 : Int32) < (2 : Int32)))).2.1 (by decide) (by decide) ?_
      exact kk
    obtain ⟨fs, hr, hrun, hended, hW, hsame⟩ := X42.leave (v := none) (fun _ => rfl)
    refine ⟨_, _, pre43 _ ?_, hrun, hended, _, _, rfl, ?_, ⟨_, rfl⟩, hW, hsame.mono (by decide) (by decide)⟩
    · show Steps p.tables e below (T42.setTop (mkF m 69 #[.val (.ref c_), .val (.int (0 : Int32)), .val (.int (2 : Int32)), .val (.int (-1 : Int32)), .val (.int (2 : Int32)), .val (.long x1), .second] [])) _
      exact X42.returnOut hx Bd.returns (hb hby d13_69) hr
    · show Q13_2 Z c_ kc_ x0 x1 h0 n0 _ T42.heap _
      rw [e42]
      exact ⟨rfl, N42, KP42, by rw [hl0, hl1]; exact Vw42⟩
  · have hl0 : (own_s2_0 x0 x1) = x0 := (if_neg hc28_35)
    have hl1 : (own_s2_1 x0 x1) = x1 := (if_neg hc28_35)
    have pre44 : ∀ t, Steps p.tables e below (s₁.setTop (mkF m 69 #[.val (.ref c_), .val (.int (0 : Int32)), .val (.int (2 : Int32)), .val (.int (1 : Int32)), .val (.int (2 : Int32)), .val (.long x1), .second] [])) t → Steps p.tables e below (s₁.setTop (entryFrame m #[(.ref c_), (.int (0 : Int32)), (.int (2 : Int32))] 7)) t := by
      intro t kk
      refine pre36 t ?_
      show Steps p.tables e below (s₁.setTop (mkF m 28 #[.val (.ref c_), .val (.int (0 : Int32)), .val (.int (2 : Int32)), .val (.int (1 : Int32)), .val (.int (1 : Int32)), .val (.long x1), .second] [(.int (lcmpW x1 x0))])) _
      refine XS.ifYes X0.here hx rfl (pc0 := 28) (pc' := 66) rfl (hb hby d13_28) rfl ((if0 _ _).trans (flt (fun q => hc28_35 ((lw_lt x1 x0).mp q))).2.1) (by decide) (by decide) ?_
      show Steps p.tables e below (s₁.setTop (mkF m 66 #[.val (.ref c_), .val (.int (0 : Int32)), .val (.int (2 : Int32)), .val (.int (1 : Int32)), .val (.int (1 : Int32)), .val (.long x1), .second] [])) _
      refine XS.goto X0.here hx rfl (pc0 := 66) (pc' := 3) rfl (hb hby d13_66) (by decide) (by decide) ?_
      show Steps p.tables e below (s₁.setTop (mkF m 3 #[.val (.ref c_), .val (.int (0 : Int32)), .val (.int (2 : Int32)), .val (.int (1 : Int32)), .val (.int (1 : Int32)), .val (.long x1), .second] [])) _
      refine XS.iinc X0.here hx rfl (hb hby d13_3) rfl (l' := #[.val (.ref c_), .val (.int (0 : Int32)), .val (.int (2 : Int32)), .val (.int (1 : Int32)), .val (.int (2 : Int32)), .val (.long x1), .second]) rfl ?_
      show Steps p.tables e below (s₁.setTop (mkF m 6 #[.val (.ref c_), .val (.int (0 : Int32)), .val (.int (2 : Int32)), .val (.int (1 : Int32)), .val (.int (2 : Int32)), .val (.long x1), .second] [])) _
      refine XS.iload X0.here hx rfl (hb hby d13_6) rfl ?_
      show Steps p.tables e below (s₁.setTop (mkF m 8 #[.val (.ref c_), .val (.int (0 : Int32)), .val (.int (2 : Int32)), .val (.int (1 : Int32)), .val (.int (2 : Int32)), .val (.long x1), .second] [(.int (2 : Int32))])) _
      refine XS.iloadN X0.here hx rfl (hb hby d13_8) rfl ?_
      show Steps p.tables e below (s₁.setTop (mkF m 9 #[.val (.ref c_), .val (.int (0 : Int32)), .val (.int (2 : Int32)), .val (.int (1 : Int32)), .val (.int (2 : Int32)), .val (.long x1), .second] [(.int (2 : Int32)), (.int (2 : Int32))])) _
      refine XS.icmpYes X0.here hx rfl (pc0 := 9) (pc' := 69) rfl (hb hby d13_9) rfl (flt (by decide : ¬ ((2 : Int32) < (2 : Int32)))).2.1 (by decide) (by decide) ?_
      exact kk
    obtain ⟨fs, hr, hrun, hended, hW, hsame⟩ := X0.leave (v := none) (fun _ => rfl)
    refine ⟨_, _, pre44 _ ?_, hrun, hended, _, _, rfl, ?_, ⟨_, rfl⟩, hW, hsame.mono (by decide) (by decide)⟩
    · show Steps p.tables e below (s₁.setTop (mkF m 69 #[.val (.ref c_), .val (.int (0 : Int32)), .val (.int (2 : Int32)), .val (.int (1 : Int32)), .val (.int (2 : Int32)), .val (.long x1), .second] [])) _
      exact X0.returnOut hx Bd.returns (hb hby d13_69) hr
    · show Q13_2 Z c_ kc_ x0 x1 h0 n0 _ s₁.heap _
      rw [e0]
      exact ⟨rfl, N0, KP0, by rw [hl0, hl1]; exact V_c⟩
def own_s3_0 (x0 : Int64) (x1 : Int64) (x2 : Int64) : Int64 := (if x1 < x0 then (if x2 < x0 then (if x2 < x1 then x2 else x1) else x1) else (if x2 < x1 then (if x2 < x0 then x2 else x0) else x0))
def own_s3_1 (x0 : Int64) (x1 : Int64) (x2 : Int64) : Int64 := (if x1 < x0 then (if x2 < x0 then (if x2 < x1 then x1 else x2) else x0) else (if x2 < x1 then (if x2 < x0 then x0 else x2) else x1))
def own_s3_2 (x0 : Int64) (x1 : Int64) (x2 : Int64) : Int64 := (if x1 < x0 then (if x2 < x0 then (if x2 < x1 then x0 else x0) else x2) else (if x2 < x1 then (if x2 < x0 then x1 else x1) else x2))
def Q13_3 (Z : State) (c_ : Addr) (kc_ : ClassId) (x0 : Int64) (x1 : Int64) (x2 : Int64) (h0 : Heap) (n0 : Nat) (v : Option Value) (h : Heap) (L : List Loc) : Prop := v = none ∧ Fr n0 L ∧ Keep h0 h [c_] ∧ Arv Z h c_ kc_ .long (3 : Int32) [(.long (own_s3_0 x0 x1 x2)), (.long (own_s3_1 x0 x1 x2)), (.long (own_s3_2 x0 x1 x2))] (.long (0 : Int64))
set_option maxRecDepth 65536 in
set_option maxHeartbeats 40000000 in
theorem rm13_3 (l : Launch) (Z : State) (aA : Array Value) (hw : ∀ d ∈ tables_1, d.before aA Z = true) (ws : List Jvm.Cond) (c_ : Addr) (kc_ : ClassId) (x0 : Int64) (x1 : Int64) (x2 : Int64) (h0 : Heap) (n0 : Nat) (Z0 : n0 ≤ h0.size) (g_c_ : n0 ≤ c_) (V_c : Arv Z h0 c_ kc_ .long (3 : Int32) [(.long x0), (.long x1), (.long x2)] (.long (0 : Int64))) :
    MetFree l (⟨"java/util/DualPivotQuicksort", "insertionSort", "([JII)V"⟩ : MethodName) (head1 (Jvm.Cond.code (⟨"java/util/DualPivotQuicksort", "insertionSort", "([JII)V"⟩ : MethodName) jdk_2529_method_15_code 7 none :: ws) ({ frames := 0, cells := 0, slots := 0, locals := 0 } : Room)) (fun a U => a = #[(.ref c_), (.int (0 : Int32)), (.int (3 : Int32))] ∧ Z.Warmed39 U.vm ∧ U.heap = h0) (fun _ _ _ _ _ => True) (fun _ U o U' => ∃ v L, o = .returned v ∧ Q13_3 Z c_ kc_ x0 x1 x2 h0 n0 v U'.heap L ∧ FrameEnd U o U' L ({ frames := 0, cells := 0, slots := 0, locals := 0 } : Room).cells ({ frames := 0, cells := 0, slots := 0, locals := 0 } : Room).slots) := by
  refine MetFree.of_bodySF (plainFor_of_name pn_java_util_DualPivotQuicksort) hisR ?_
  intro p e s m args below meth c s₁ Bd hml0 hP hK
  obtain ⟨rfl, hZ, hh⟩ := hP
  have hx := Bd.exec
  have hby := Bd.bytes
  have hml : c.maxLocals = 7 := hml0
  have hown : s.vm.findClass "java/util/DualPivotQuicksort" = some m.cls := findClass_of_methodNamed Bd.named
  have hnm := (name_of_methodNamed Bd.named Bd.method).1
  have X0 : Stand p l e ({ frames := 0, cells := 0, slots := 0, locals := 0 } : Room) s m #[(.ref c_), (.int (0 : Int32)), (.int (3 : Int32))] below meth c s₁ [] 0 0 := Stand.of_body Bd
  have e0 : s₁.heap = h0 := by rw [← hh, Bd.state]; rfl
  have N0 := Fr.nil n0
  have KP0 : Keep h0 h0 [c_] := Keep.refl h0 _
  have pre0 : ∀ t, Steps p.tables e below (s₁.setTop (mkF m 0 #[.val (.ref c_), .val (.int (0 : Int32)), .val (.int (3 : Int32)), .unset, .unset, .unset, .unset] [])) t → Steps p.tables e below (s₁.setTop (entryFrame m #[(.ref c_), (.int (0 : Int32)), (.int (3 : Int32))] 7)) t := fun t k => castTop (ef_13_RII m c_ (0 : Int32) (3 : Int32)) k
  obtain ⟨cl45, Ar45, q45, S45, N45v, H45, G45⟩ := id V_c
  have hin45 : ¬ ((1 : Int32) < 0 ∨ cl45.slots.size ≤ ((1 : Int32)).toNatClampNeg) := inb_of S45 ⟨by decide, by decide⟩
  have hat45 : cl45.slots[((1 : Int32)).toNatClampNeg]? = some (.long x1) := Has.at H45 hin45 rfl
  obtain ⟨cl46, Ar46, q46, S46, N46v, H46, G46⟩ := id V_c
  have hin46 : ¬ ((0 : Int32) < 0 ∨ cl46.slots.size ≤ ((0 : Int32)).toNatClampNeg) := inb_of S46 ⟨by decide, by decide⟩
  have hat46 : cl46.slots[((0 : Int32)).toNatClampNeg]? = some (.long x0) := Has.at H46 hin46 rfl
  have pre48 : ∀ t, Steps p.tables e below (s₁.setTop (mkF m 28 #[.val (.ref c_), .val (.int (0 : Int32)), .val (.int (3 : Int32)), .val (.int (1 : Int32)), .val (.int (1 : Int32)), .val (.long x1), .second] [(.int (lcmpW x1 x0))])) t → Steps p.tables e below (s₁.setTop (entryFrame m #[(.ref c_), (.int (0 : Int32)), (.int (3 : Int32))] 7)) t := by
    intro t kk
    refine pre0 t ?_
    show Steps p.tables e below (s₁.setTop (mkF m 0 #[.val (.ref c_), .val (.int (0 : Int32)), .val (.int (3 : Int32)), .unset, .unset, .unset, .unset] [])) _
    refine XS.iloadN X0.here hx rfl (hb hby d13_0) rfl ?_
    show Steps p.tables e below (s₁.setTop (mkF m 1 #[.val (.ref c_), .val (.int (0 : Int32)), .val (.int (3 : Int32)), .unset, .unset, .unset, .unset] [(.int (0 : Int32))])) _
    refine XS.istore X0.here hx rfl (hb hby d13_1) rfl (l' := #[.val (.ref c_), .val (.int (0 : Int32)), .val (.int (3 : Int32)), .unset, .val (.int (0 : Int32)), .unset, .unset]) rfl ?_
    show Steps p.tables e below (s₁.setTop (mkF m 3 #[.val (.ref c_), .val (.int (0 : Int32)), .val (.int (3 : Int32)), .unset, .val (.int (0 : Int32)), .unset, .unset] [])) _
    refine XS.iinc X0.here hx rfl (hb hby d13_3) rfl (l' := #[.val (.ref c_), .val (.int (0 : Int32)), .val (.int (3 : Int32)), .unset, .val (.int (1 : Int32)), .unset, .unset]) rfl ?_
    show Steps p.tables e below (s₁.setTop (mkF m 6 #[.val (.ref c_), .val (.int (0 : Int32)), .val (.int (3 : Int32)), .unset, .val (.int (1 : Int32)), .unset, .unset] [])) _
    refine XS.iload X0.here hx rfl (hb hby d13_6) rfl ?_
    show Steps p.tables e below (s₁.setTop (mkF m 8 #[.val (.ref c_), .val (.int (0 : Int32)), .val (.int (3 : Int32)), .unset, .val (.int (1 : Int32)), .unset, .unset] [(.int (1 : Int32))])) _
    refine XS.iloadN X0.here hx rfl (hb hby d13_8) rfl ?_
    show Steps p.tables e below (s₁.setTop (mkF m 9 #[.val (.ref c_), .val (.int (0 : Int32)), .val (.int (3 : Int32)), .unset, .val (.int (1 : Int32)), .unset, .unset] [(.int (3 : Int32)), (.int (1 : Int32))])) _
    refine XS.icmpNo X0.here hx rfl (hb hby d13_9) rfl (tlt (by decide : (1 : Int32) < (3 : Int32))).2.1 ?_
    show Steps p.tables e below (s₁.setTop (mkF m 12 #[.val (.ref c_), .val (.int (0 : Int32)), .val (.int (3 : Int32)), .unset, .val (.int (1 : Int32)), .unset, .unset] [])) _
    refine XS.aloadN X0.here hx rfl (hb hby d13_12) rfl rfl ?_
    show Steps p.tables e below (s₁.setTop (mkF m 13 #[.val (.ref c_), .val (.int (0 : Int32)), .val (.int (3 : Int32)), .unset, .val (.int (1 : Int32)), .unset, .unset] [(.ref c_)])) _
    refine XS.iload X0.here hx rfl (hb hby d13_13) rfl ?_
    show Steps p.tables e below (s₁.setTop (mkF m 15 #[.val (.ref c_), .val (.int (0 : Int32)), .val (.int (3 : Int32)), .unset, .val (.int (1 : Int32)), .unset, .unset] [(.int (1 : Int32)), (.ref c_)])) _
    refine XS.dup X0.here hx rfl (hb hby d13_15) rfl rfl ?_
    show Steps p.tables e below (s₁.setTop (mkF m 16 #[.val (.ref c_), .val (.int (0 : Int32)), .val (.int (3 : Int32)), .unset, .val (.int (1 : Int32)), .unset, .unset] [(.int (1 : Int32)), (.int (1 : Int32)), (.ref c_)])) _
    refine XS.istoreN X0.here hx rfl (hb hby d13_16) rfl (l' := #[.val (.ref c_), .val (.int (0 : Int32)), .val (.int (3 : Int32)), .val (.int (1 : Int32)), .val (.int (1 : Int32)), .unset, .unset]) rfl ?_
    show Steps p.tables e below (s₁.setTop (mkF m 17 #[.val (.ref c_), .val (.int (0 : Int32)), .val (.int (3 : Int32)), .val (.int (1 : Int32)), .val (.int (1 : Int32)), .unset, .unset] [(.int (1 : Int32)), (.ref c_)])) _
    refine X0.laload hx (j := (1 : Int32)) (v := (.long x1)) (by rw [e0]; exact Ar45.1) (State.isArrayOf_alike hZ.alike Ar45.2.1) Ar45.2.2 hin45 hat45 (g := (mkF m 17 #[.val (.ref c_), .val (.int (0 : Int32)), .val (.int (3 : Int32)), .val (.int (1 : Int32)), .val (.int (1 : Int32)), .unset, .unset] [(.int (1 : Int32)), (.ref c_)])) rfl rfl (hb hby d13_17) _ ?_
    show Steps p.tables e below (s₁.setTop (mkF m 18 #[.val (.ref c_), .val (.int (0 : Int32)), .val (.int (3 : Int32)), .val (.int (1 : Int32)), .val (.int (1 : Int32)), .unset, .unset] [(.long x1)])) _
    refine XS.lstore X0.here hx rfl (hb hby d13_18) rfl (l' := #[.val (.ref c_), .val (.int (0 : Int32)), .val (.int (3 : Int32)), .val (.int (1 : Int32)), .val (.int (1 : Int32)), .val (.long x1), .second]) rfl ?_
    show Steps p.tables e below (s₁.setTop (mkF m 20 #[.val (.ref c_), .val (.int (0 : Int32)), .val (.int (3 : Int32)), .val (.int (1 : Int32)), .val (.int (1 : Int32)), .val (.long x1), .second] [])) _
    refine XS.lload X0.here hx rfl (hb hby d13_20) rfl ?_
    show Steps p.tables e below (s₁.setTop (mkF m 22 #[.val (.ref c_), .val (.int (0 : Int32)), .val (.int (3 : Int32)), .val (.int (1 : Int32)), .val (.int (1 : Int32)), .val (.long x1), .second] [(.long x1)])) _
    refine XS.aloadN X0.here hx rfl (hb hby d13_22) rfl rfl ?_
    show Steps p.tables e below (s₁.setTop (mkF m 23 #[.val (.ref c_), .val (.int (0 : Int32)), .val (.int (3 : Int32)), .val (.int (1 : Int32)), .val (.int (1 : Int32)), .val (.long x1), .second] [(.ref c_), (.long x1)])) _
    refine XS.iloadN X0.here hx rfl (hb hby d13_23) rfl ?_
    show Steps p.tables e below (s₁.setTop (mkF m 24 #[.val (.ref c_), .val (.int (0 : Int32)), .val (.int (3 : Int32)), .val (.int (1 : Int32)), .val (.int (1 : Int32)), .val (.long x1), .second] [(.int (1 : Int32)), (.ref c_), (.long x1)])) _
    refine XS.iconst X0.here hx rfl (hb hby d13_24) ?_
    show Steps p.tables e below (s₁.setTop (mkF m 25 #[.val (.ref c_), .val (.int (0 : Int32)), .val (.int (3 : Int32)), .val (.int (1 : Int32)), .val (.int (1 : Int32)), .val (.long x1), .second] [(.int (1 : Int32)), (.int (1 : Int32)), (.ref c_), (.long x1)])) _
    refine XS.isub X0.here hx rfl (hb hby d13_25) rfl ?_
    show Steps p.tables e below (s₁.setTop (mkF m 26 #[.val (.ref c_), .val (.int (0 : Int32)), .val (.int (3 : Int32)), .val (.int (1 : Int32)), .val (.int (1 : Int32)), .val (.long x1), .second] [(.int (0 : Int32)), (.ref c_), (.long x1)])) _
    refine X0.laload hx (j := (0 : Int32)) (v := (.long x0)) (by rw [e0]; exact Ar46.1) (State.isArrayOf_alike hZ.alike Ar46.2.1) Ar46.2.2 hin46 hat46 (g := (mkF m 26 #[.val (.ref c_), .val (.int (0 : Int32)), .val (.int (3 : Int32)), .val (.int (1 : Int32)), .val (.int (1 : Int32)), .val (.long x1), .second] [(.int (0 : Int32)), (.ref c_), (.long x1)])) rfl rfl (hb hby d13_26) _ ?_
    show Steps p.tables e below (s₁.setTop (mkF m 27 #[.val (.ref c_), .val (.int (0 : Int32)), .val (.int (3 : Int32)), .val (.int (1 : Int32)), .val (.int (1 : Int32)), .val (.long x1), .second] [(.long x0), (.long x1)])) _
    refine XS.lcmp X0.here hx rfl (hb hby d13_27) rfl ?_
    exact kk
  by_cases hc28_47 : x1 < x0
  · obtain ⟨cl49, Ar49, q49, S49, N49v, H49, G49⟩ := id V_c
    have hin49 : ¬ ((0 : Int32) < 0 ∨ cl49.slots.size ≤ ((0 : Int32)).toNatClampNeg) := inb_of S49 ⟨by decide, by decide⟩
    have hat49 : cl49.slots[((0 : Int32)).toNatClampNeg]? = some (.long x0) := Has.at H49 hin49 rfl
    obtain ⟨cl50, Ar50, q50, S50, N50v, H50, G50⟩ := id V_c
    have hin50 : ¬ ((0 : Int32) < 0 ∨ cl50.slots.size ≤ ((0 : Int32)).toNatClampNeg) := inb_of S50 ⟨by decide, by decide⟩
    have hat50 : cl50.slots[((0 : Int32)).toNatClampNeg]? = some (.long x0) := Has.at H50 hin50 rfl
    obtain ⟨cl51, Ar51, q51, S51, N51v, H51, G51⟩ := V_c
    have hin51 : ¬ ((1 : Int32) < 0 ∨ cl51.slots.size ≤ ((1 : Int32)).toNatClampNeg) := inb_of S51 ⟨by decide, by decide⟩
    obtain ⟨T52, h52, X52, e52, W52, st52⟩ := stJ X0 hx hZ e0 Ar51 (j := (1 : Int32)) hin51 (g := (mkF m 55 #[.val (.ref c_), .val (.int (0 : Int32)), .val (.int (3 : Int32)), .val (.int (0 : Int32)), .val (.int (1 : Int32)), .val (.long x1), .second] [(.long x0), (.int (1 : Int32)), (.ref c_)])) rfl rfl (hb hby d13_55)
    have Vw52 : Arv Z h52 c_ kc_ .long (3 : Int32) [(.long x0), (.long x0), (.long x2)] (.long (0 : Int64)) := Arv.set Ar51 q51 S51 N51v H51 G51 rfl W52 1 rfl (Nat.le_of_ble_eq_true rfl)
    have KP52 : Keep h0 h52 [c_] := KP0.wr W52 (Or.inl (List.mem_of_getElem? (i := 0) rfl))
    have Z52 : n0 ≤ h52.size := Nat.le_trans Z0 (Nat.le_of_eq W52.size.symm)
    have N52 := Fr.snoc X52 N0 g_c_
    obtain ⟨cl53, Ar53, q53, S53, N53v, H53, G53⟩ := Vw52
    have hin53 : ¬ ((0 : Int32) < 0 ∨ cl53.slots.size ≤ ((0 : Int32)).toNatClampNeg) := inb_of S53 ⟨by decide, by decide⟩
    obtain ⟨T54, h54, X54, e54, W54, st54⟩ := stJ X52 hx hZ e52 Ar53 (j := (0 : Int32)) hin53 (g := (mkF m 65 #[.val (.ref c_), .val (.int (0 : Int32)), .val (.int (3 : Int32)), .val (.int (-1 : Int32)), .val (.int (1 : Int32)), .val (.long x1), .second] [(.long x1), (.int (0 : Int32)), (.ref c_)])) rfl rfl (hb hby d13_65)
    have Vw54 : Arv Z h54 c_ kc_ .long (3 : Int32) [(.long x1), (.long x0), (.long x2)] (.long (0 : Int64)) := Arv.set Ar53 q53 S53 N53v H53 G53 rfl W54 0 rfl (Nat.le_of_ble_eq_true rfl)
    have KP54 : Keep h0 h54 [c_] := KP52.wr W54 (Or.inl (List.mem_of_getElem? (i := 0) rfl))
    have Z54 : n0 ≤ h54.size := Nat.le_trans Z52 (Nat.le_of_eq W54.size.symm)
    have N54 := Fr.snoc X54 N52 g_c_
    obtain ⟨cl55, Ar55, q55, S55, N55v, H55, G55⟩ := id Vw54
    have hin55 : ¬ ((2 : Int32) < 0 ∨ cl55.slots.size ≤ ((2 : Int32)).toNatClampNeg) := inb_of S55 ⟨by decide, by decide⟩
    have hat55 : cl55.slots[((2 : Int32)).toNatClampNeg]? = some (.long x2) := Has.at H55 hin55 rfl
    obtain ⟨cl56, Ar56, q56, S56, N56v, H56, G56⟩ := id Vw54
    have hin56 : ¬ ((1 : Int32) < 0 ∨ cl56.slots.size ≤ ((1 : Int32)).toNatClampNeg) := inb_of S56 ⟨by decide, by decide⟩
    have hat56 : cl56.slots[((1 : Int32)).toNatClampNeg]? = some (.long x0) := Has.at H56 hin56 rfl
    have pre58 : ∀ t, Steps p.tables e below (T54.setTop (mkF m 28 #[.val (.ref c_), .val (.int (0 : Int32)), .val (.int (3 : Int32)), .val (.int (2 : Int32)), .val (.int (2 : Int32)), .val (.long x2), .second] [(.int (lcmpW x2 x0))])) t → Steps p.tables e below (s₁.setTop (entryFrame m #[(.ref c_), (.int (0 : Int32)), (.int (3 : Int32))] 7)) t := by
      intro t kk
      refine pre48 t ?_
      show Steps p.tables e below (s₁.setTop (mkF m 28 #[.val (.ref c_), .val (.int (0 : Int32)), .val (.int (3 : Int32)), .val (.int (1 : Int32)), .val (.int (1 : Int32)), .val (.long x1), .second] [(.int (lcmpW x1 x0))])) _
      refine XS.ifNo X0.here hx rfl (hb hby d13_28) rfl ((if0 _ _).trans (tlt ((lw_lt x1 x0).mpr hc28_47)).2.1) ?_
      show Steps p.tables e below (s₁.setTop (mkF m 31 #[.val (.ref c_), .val (.int (0 : Int32)), .val (.int (3 : Int32)), .val (.int (1 : Int32)), .val (.int (1 : Int32)), .val (.long x1), .second] [])) _
      refine XS.iinc X0.here hx rfl (hb hby d13_31) rfl (l' := #[.val (.ref c_), .val (.int (0 : Int32)), .val (.int (3 : Int32)), .val (.int (0 : Int32)), .val (.int (1 : Int32)), .val (.long x1), .second]) rfl ?_
      show Steps p.tables e below (s₁.setTop (mkF m 34 #[.val (.ref c_), .val (.int (0 : Int32)), .val (.int (3 : Int32)), .val (.int (0 : Int32)), .val (.int (1 : Int32)), .val (.long x1), .second] [])) _
      refine XS.iloadN X0.here hx rfl (hb hby d13_34) rfl ?_
      show Steps p.tables e below (s₁.setTop (mkF m 35 #[.val (.ref c_), .val (.int (0 : Int32)), .val (.int (3 : Int32)), .val (.int (0 : Int32)), .val (.int (1 : Int32)), .val (.long x1), .second] [(.int (0 : Int32))])) _
      refine XS.iloadN X0.here hx rfl (hb hby d13_35) rfl ?_
      show Steps p.tables e below (s₁.setTop (mkF m 36 #[.val (.ref c_), .val (.int (0 : Int32)), .val (.int (3 : Int32)), .val (.int (0 : Int32)), .val (.int (1 : Int32)), .val (.long x1), .second] [(.int (0 : Int32)), (.int (0 : Int32))])) _
      refine XS.icmpNo X0.here hx rfl (hb hby d13_36) rfl (flt (by decide : ¬ ((0 : Int32) < (0 : Int32)))).1 ?_
      show Steps p.tables e below (s₁.setTop (mkF m 39 #[.val (.ref c_), .val (.int (0 : Int32)), .val (.int (3 : Int32)), .val (.int (0 : Int32)), .val (.int (1 : Int32)), .val (.long x1), .second] [])) _
      refine XS.lload X0.here hx rfl (hb hby d13_39) rfl ?_
      show Steps p.tables e below (s₁.setTop (mkF m 41 #[.val (.ref c_), .val (.int (0 : Int32)), .val (.int (3 : Int32)), .val (.int (0 : Int32)), .val (.int (1 : Int32)), .val (.long x1), .second] [(.long x1)])) _
      refine XS.aloadN X0.here hx rfl (hb hby d13_41) rfl rfl ?_
      show Steps p.tables e below (s₁.setTop (mkF m 42 #[.val (.ref c_), .val (.int (0 : Int32)), .val (.int (3 : Int32)), .val (.int (0 : Int32)), .val (.int (1 : Int32)), .val (.long x1), .second] [(.ref c_), (.long x1)])) _
      refine XS.iloadN X0.here hx rfl (hb hby d13_42) rfl ?_
      show Steps p.tables e below (s₁.setTop (mkF m 43 #[.val (.ref c_), .val (.int (0 : Int32)), .val (.int (3 : Int32)), .val (.int (0 : Int32)), .val (.int (1 : Int32)), .val (.long x1), .second] [(.int (0 : Int32)), (.ref c_), (.long x1)])) _
      refine X0.laload hx (j := (0 : Int32)) (v := (.long x0)) (by rw [e0]; exact Ar49.1) (State.isArrayOf_alike hZ.alike Ar49.2.1) Ar49.2.2 hin49 hat49 (g := (mkF m 43 #[.val (.ref c_), .val (.int (0 : Int32)), .val (.int (3 : Int32)), .val (.int (0 : Int32)), .val (.int (1 : Int32)), .val (.long x1), .second] [(.int (0 : Int32)), (.ref c_), (.long x1)])) rfl rfl (hb hby d13_43) _ ?_
      show Steps p.tables e below (s₁.setTop (mkF m 44 #[.val (.ref c_), .val (.int (0 : Int32)), .val (.int (3 : Int32)), .val (.int (0 : Int32)), .val (.int (1 : Int32)), .val (.long x1), .second] [(.long x0), (.long x1)])) _
      refine XS.lcmp X0.here hx rfl (hb hby d13_44) rfl ?_
      show Steps p.tables e below (s₁.setTop (mkF m 45 #[.val (.ref c_), .val (.int (0 : Int32)), .val (.int (3 : Int32)), .val (.int (0 : Int32)), .val (.int (1 : Int32)), .val (.long x1), .second] [(.int (lcmpW x1 x0))])) _
      refine XS.ifNo X0.here hx rfl (hb hby d13_45) rfl ((if0 _ _).trans (tlt ((lw_lt x1 x0).mpr hc28_47)).2.1) ?_
      show Steps p.tables e below (s₁.setTop (mkF m 48 #[.val (.ref c_), .val (.int (0 : Int32)), .val (.int (3 : Int32)), .val (.int (0 : Int32)), .val (.int (1 : Int32)), .val (.long x1), .second] [])) _
      refine XS.aloadN X0.here hx rfl (hb hby d13_48) rfl rfl ?_
      show Steps p.tables e below (s₁.setTop (mkF m 49 #[.val (.ref c_), .val (.int (0 : Int32)), .val (.int (3 : Int32)), .val (.int (0 : Int32)), .val (.int (1 : Int32)), .val (.long x1), .second] [(.ref c_)])) _
      refine XS.iloadN X0.here hx rfl (hb hby d13_49) rfl ?_
      show Steps p.tables e below (s₁.setTop (mkF m 50 #[.val (.ref c_), .val (.int (0 : Int32)), .val (.int (3 : Int32)), .val (.int (0 : Int32)), .val (.int (1 : Int32)), .val (.long x1), .second] [(.int (0 : Int32)), (.ref c_)])) _
      refine XS.iconst X0.here hx rfl (hb hby d13_50) ?_
      show Steps p.tables e below (s₁.setTop (mkF m 51 #[.val (.ref c_), .val (.int (0 : Int32)), .val (.int (3 : Int32)), .val (.int (0 : Int32)), .val (.int (1 : Int32)), .val (.long x1), .second] [(.int (1 : Int32)), (.int (0 : Int32)), (.ref c_)])) _
      refine XS.iadd X0.here hx rfl (hb hby d13_51) rfl ?_
      show Steps p.tables e below (s₁.setTop (mkF m 52 #[.val (.ref c_), .val (.int (0 : Int32)), .val (.int (3 : Int32)), .val (.int (0 : Int32)), .val (.int (1 : Int32)), .val (.long x1), .second] [(.int (1 : Int32)), (.ref c_)])) _
      refine XS.aloadN X0.here hx rfl (hb hby d13_52) rfl rfl ?_
      show Steps p.tables e below (s₁.setTop (mkF m 53 #[.val (.ref c_), .val (.int (0 : Int32)), .val (.int (3 : Int32)), .val (.int (0 : Int32)), .val (.int (1 : Int32)), .val (.long x1), .second] [(.ref c_), (.int (1 : Int32)), (.ref c_)])) _
      refine XS.iloadN X0.here hx rfl (hb hby d13_53) rfl ?_
      show Steps p.tables e below (s₁.setTop (mkF m 54 #[.val (.ref c_), .val (.int (0 : Int32)), .val (.int (3 : Int32)), .val (.int (0 : Int32)), .val (.int (1 : Int32)), .val (.long x1), .second] [(.int (0 : Int32)), (.ref c_), (.int (1 : Int32)), (.ref c_)])) _
      refine X0.laload hx (j := (0 : Int32)) (v := (.long x0)) (by rw [e0]; exact Ar50.1) (State.isArrayOf_alike hZ.alike Ar50.2.1) Ar50.2.2 hin50 hat50 (g := (mkF m 54 #[.val (.ref c_), .val (.int (0 : Int32)), .val (.int (3 : Int32)), .val (.int (0 : Int32)), .val (.int (1 : Int32)), .val (.long x1), .second] [(.int (0 : Int32)), (.ref c_), (.int (1 : Int32)), (.ref c_)])) rfl rfl (hb hby d13_54) _ ?_
      show Steps p.tables e below (s₁.setTop (mkF m 55 #[.val (.ref c_), .val (.int (0 : Int32)), .val (.int (3 : Int32)), .val (.int (0 : Int32)), .val (.int (1 : Int32)), .val (.long x1), .second] [(.long x0), (.int (1 : Int32)), (.ref c_)])) _
      refine st52 _ ?_
      show Steps p.tables e below (T52.setTop (mkF m 56 #[.val (.ref c_), .val (.int (0 : Int32)), .val (.int (3 : Int32)), .val (.int (0 : Int32)), .val (.int (1 : Int32)), .val (.long x1), .second] [])) _
      refine XS.goto X52.here hx rfl (pc0 := 56) (pc' := 31) rfl (hb hby d13_56) (by decide) (by decide) ?_
      show Steps p.tables e below (T52.setTop (mkF m 31 #[.val (.ref c_), .val (.int (0 : Int32)), .val (.int (3 : Int32)), .val (.int (0 : Int32)), .val (.int (1 : Int32)), .val (.long x1), .second] [])) _
      refine XS.iinc X52.here hx rfl (hb hby d13_31) rfl (l' := #[.val (.ref c_), .val (.int (0 : Int32)), .val (.int (3 : Int32)), .val (.int (-1 : Int32)), .val (.int (1 : Int32)), .val (.long x1), .second]) rfl ?_
      show Steps p.tables e below (T52.setTop (mkF m 34 #[.val (.ref c_), .val (.int (0 : Int32)), .val (.int (3 : Int32)), .val (.int (-1 : Int32)), .val (.int (1 : Int32)), .val (.long x1), .second] [])) _
      refine XS.iloadN X52.here hx rfl (hb hby d13_34) rfl ?_
      show Steps p.tables e below (T52.setTop (mkF m 35 #[.val (.ref c_), .val (.int (0 : Int32)), .val (.int (3 : Int32)), .val (.int (-1 : Int32)), .val (.int (1 : Int32)), .val (.long x1), .second] [(.int (-1 : Int32))])) _
      refine XS.iloadN X52.here hx rfl (hb hby d13_35) rfl ?_
      show Steps p.tables e below (T52.setTop (mkF m 36 #[.val (.ref c_), .val (.int (0 : Int32)), .val (.int (3 : Int32)), .val (.int (-1 : Int32)), .val (.int (1 : Int32)), .val (.long x1), .second] [(.int (0 : Int32)), (.int (-1 : Int32))])) _
      refine XS.icmpYes X52.here hx rfl (pc0 := 36) (pc' := 59) rfl (hb hby d13_36) rfl (tlt (by decide : (-1 : Int32) < (0 : Int32))).1 (by decide) (by decide) ?_
      show Steps p.tables e below (T52.setTop (mkF m 59 #[.val (.ref c_), .val (.int (0 : Int32)), .val (.int (3 : Int32)), .val (.int (-1 : Int32)), .val (.int (1 : Int32)), .val (.long x1), .second] [])) _
      refine XS.aloadN X52.here hx rfl (hb hby d13_59) rfl rfl ?_
      show Steps p.tables e below (T52.setTop (mkF m 60 #[.val (.ref c_), .val (.int (0 : Int32)), .val (.int (3 : Int32)), .val (.int (-1 : Int32)), .val (.int (1 : Int32)), .val (.long x1), .second] [(.ref c_)])) _
      refine XS.iloadN X52.here hx rfl (hb hby d13_60) rfl ?_
      show Steps p.tables e below (T52.setTop (mkF m 61 #[.val (.ref c_), .val (.int (0 : Int32)), .val (.int (3 : Int32)), .val (.int (-1 : Int32)), .val (.int (1 : Int32)), .val (.long x1), .second] [(.int (-1 : Int32)), (.ref c_)])) _
      refine XS.iconst X52.here hx rfl (hb hby d13_61) ?_
      show Steps p.tables e below (T52.setTop (mkF m 62 #[.val (.ref c_), .val (.int (0 : Int32)), .val (.int (3 : Int32)), .val (.int (-1 : Int32)), .val (.int (1 : Int32)), .val (.long x1), .second] [(.int (1 : Int32)), (.int (-1 : Int32)), (.ref c_)])) _
      refine XS.iadd X52.here hx rfl (hb hby d13_62) rfl ?_
      show Steps p.tables e below (T52.setTop (mkF m 63 #[.val (.ref c_), .val (.int (0 : Int32)), .val (.int (3 : Int32)), .val (.int (-1 : Int32)), .val (.int (1 : Int32)), .val (.long x1), .second] [(.int (0 : Int32)), (.ref c_)])) _
      refine XS.lload X52.here hx rfl (hb hby d13_63) rfl ?_
      show Steps p.tables e below (T52.setTop (mkF m 65 #[.val (.ref c_), .val (.int (0 : Int32)), .val (.int (3 : Int32)), .val (.int (-1 : Int32)), .val (.int (1 : Int32)), .val (.long x1), .second] [(.long x1), (.int (0 : Int32)), (.ref c_)])) _
      refine st54 _ ?_
      show Steps p.tables e below (T54.setTop (mkF m 66 #[.val (.ref c_), .val (.int (0 : Int32)), .val (.int (3 : Int32)), .val (.int (-1 : Int32)), .val (.int (1 : Int32)), .val (.long x1), .second] [])) _
      refine XS.goto X54.here hx rfl (pc0 := 66) (pc' := 3) rfl (hb hby d13_66) (by decide) (by decide) ?_
      show Steps p.tables e below (T54.setTop (mkF m 3 #[.val (.ref c_), .val (.int (0 : Int32)), .val (.int (3 : Int32)), .val (.int (-1 : Int32)), .val (.int (1 : Int32)), .val (.long x1), .second] [])) _
      refine XS.iinc X54.here hx rfl (hb hby d13_3) rfl (l' := #[.val (.ref c_), .val (.int (0 : Int32)), .val (.int (3 : Int32)), .val (.int (-1 : Int32)), .val (.int (2 : Int32)), .val (.long x1), .second]) rfl ?_
      show Steps p.tables e below (T54.setTop (mkF m 6 #[.val (.ref c_), .val (.int (0 : Int32)), .val (.int (3 : Int32)), .val (.int (-1 : Int32)), .val (.int (2 : Int32)), .val (.long x1), .second] [])) _
      refine XS.iload X54.here hx rfl (hb hby d13_6) rfl ?_
      show Steps p.tables e below (T54.setTop (mkF m 8 #[.val (.ref c_), .val (.int (0 : Int32)), .val (.int (3 : Int32)), .val (.int (-1 : Int32)), .val (.int (2 : Int32)), .val (.long x1), .second] [(.int (2 : Int32))])) _
      refine XS.iloadN X54.here hx rfl (hb hby d13_8) rfl ?_
      show Steps p.tables e below (T54.setTop (mkF m 9 #[.val (.ref c_), .val (.int (0 : Int32)), .val (.int (3 : Int32)), .val (.int (-1 : Int32)), .val (.int (2 : Int32)), .val (.long x1), .second] [(.int (3 : Int32)), (.int (2 : Int32))])) _
      refine XS.icmpNo X54.here hx rfl (hb hby d13_9) rfl (tlt (by decide : (2 : Int32) < (3 : Int32))).2.1 ?_
      show Steps p.tables e below (T54.setTop (mkF m 12 #[.val (.ref c_), .val (.int (0 : Int32)), .val (.int (3 : Int32)), .val (.int (-1 : Int32)), .val (.int (2 : Int32)), .val (.long x1), .second] [])) _
      refine XS.aloadN X54.here hx rfl (hb hby d13_12) rfl rfl ?_
      show Steps p.tables e below (T54.setTop (mkF m 13 #[.val (.ref c_), .val (.int (0 : Int32)), .val (.int (3 : Int32)), .val (.int (-1 : Int32)), .val (.int (2 : Int32)), .val (.long x1), .second] [(.ref c_)])) _
      refine XS.iload X54.here hx rfl (hb hby d13_13) rfl ?_
      show Steps p.tables e below (T54.setTop (mkF m 15 #[.val (.ref c_), .val (.int (0 : Int32)), .val (.int (3 : Int32)), .val (.int (-1 : Int32)), .val (.int (2 : Int32)), .val (.long x1), .second] [(.int (2 : Int32)), (.ref c_)])) _
      refine XS.dup X54.here hx rfl (hb hby d13_15) rfl rfl ?_
      show Steps p.tables e below (T54.setTop (mkF m 16 #[.val (.ref c_), .val (.int (0 : Int32)), .val (.int (3 : Int32)), .val (.int (-1 : Int32)), .val (.int (2 : Int32)), .val (.long x1), .second] [(.int (2 : Int32)), (.int (2 : Int32)), (.ref c_)])) _
      refine XS.istoreN X54.here hx rfl (hb hby d13_16) rfl (l' := #[.val (.ref c_), .val (.int (0 : Int32)), .val (.int (3 : Int32)), .val (.int (2 : Int32)), .val (.int (2 : Int32)), .val (.long x1), .second]) rfl ?_
      show Steps p.tables e below (T54.setTop (mkF m 17 #[.val (.ref c_), .val (.int (0 : Int32)), .val (.int (3 : Int32)), .val (.int (2 : Int32)), .val (.int (2 : Int32)), .val (.long x1), .second] [(.int (2 : Int32)), (.ref c_)])) _
      refine X54.laload hx (j := (2 : Int32)) (v := (.long x2)) (by rw [e54]; exact Ar55.1) (State.isArrayOf_alike hZ.alike Ar55.2.1) Ar55.2.2 hin55 hat55 (g := (mkF m 17 #[.val (.ref c_), .val (.int (0 : Int32)), .val (.int (3 : Int32)), .val (.int (2 : Int32)), .val (.int (2 : Int32)), .val (.long x1), .second] [(.int (2 : Int32)), (.ref c_)])) rfl rfl (hb hby d13_17) _ ?_
      show Steps p.tables e below (T54.setTop (mkF m 18 #[.val (.ref c_), .val (.int (0 : Int32)), .val (.int (3 : Int32)), .val (.int (2 : Int32)), .val (.int (2 : Int32)), .val (.long x1), .second] [(.long x2)])) _
      refine XS.lstore X54.here hx rfl (hb hby d13_18) rfl (l' := #[.val (.ref c_), .val (.int (0 : Int32)), .val (.int (3 : Int32)), .val (.int (2 : Int32)), .val (.int (2 : Int32)), .val (.long x2), .second]) rfl ?_
      show Steps p.tables e below (T54.setTop (mkF m 20 #[.val (.ref c_), .val (.int (0 : Int32)), .val (.int (3 : Int32)), .val (.int (2 : Int32)), .val (.int (2 : Int32)), .val (.long x2), .second] [])) _
      refine XS.lload X54.here hx rfl (hb hby d13_20) rfl ?_
      show Steps p.tables e below (T54.setTop (mkF m 22 #[.val (.ref c_), .val (.int (0 : Int32)), .val (.int (3 : Int32)), .val (.int (2 : Int32)), .val (.int (2 : Int32)), .val (.long x2), .second] [(.long x2)])) _
      refine XS.aloadN X54.here hx rfl (hb hby d13_22) rfl rfl ?_
      show Steps p.tables e below (T54.setTop (mkF m 23 #[.val (.ref c_), .val (.int (0 : Int32)), .val (.int (3 : Int32)), .val (.int (2 : Int32)), .val (.int (2 : Int32)), .val (.long x2), .second] [(.ref c_), (.long x2)])) _
      refine XS.iloadN X54.here hx rfl (hb hby d13_23) rfl ?_
      show Steps p.tables e below (T54.setTop (mkF m 24 #[.val (.ref c_), .val (.int (0 : Int32)), .val (.int (3 : Int32)), .val (.int (2 : Int32)), .val (.int (2 : Int32)), .val (.long x2), .second] [(.int (2 : Int32)), (.ref c_), (.long x2)])) _
      refine XS.iconst X54.here hx rfl (hb hby d13_24) ?_
      show Steps p.tables e below (T54.setTop (mkF m 25 #[.val (.ref c_), .val (.int (0 : Int32)), .val (.int (3 : Int32)), .val (.int (2 : Int32)), .val (.int (2 : Int32)), .val (.long x2), .second] [(.int (1 : Int32)), (.int (2 : Int32)), (.ref c_), (.long x2)])) _
      refine XS.isub X54.here hx rfl (hb hby d13_25) rfl ?_
      show Steps p.tables e below (T54.setTop (mkF m 26 #[.val (.ref c_), .val (.int (0 : Int32)), .val (.int (3 : Int32)), .val (.int (2 : Int32)), .val (.int (2 : Int32)), .val (.long x2), .second] [(.int (1 : Int32)), (.ref c_), (.long x2)])) _
      refine X54.laload hx (j := (1 : Int32)) (v := (.long x0)) (by rw [e54]; exact Ar56.1) (State.isArrayOf_alike hZ.alike Ar56.2.1) Ar56.2.2 hin56 hat56 (g := (mkF m 26 #[.val (.ref c_), .val (.int (0 : Int32)), .val (.int (3 : Int32)), .val (.int (2 : Int32)), .val (.int (2 : Int32)), .val (.long x2), .second] [(.int (1 : Int32)), (.ref c_), (.long x2)])) rfl rfl (hb hby d13_26) _ ?_
      show Steps p.tables e below (T54.setTop (mkF m 27 #[.val (.ref c_), .val (.int (0 : Int32)), .val (.int (3 : Int32)), .val (.int (2 : Int32)), .val (.int (2 : Int32)), .val (.long x2), .second] [(.long x0), (.long x2)])) _
      refine XS.lcmp X54.here hx rfl (hb hby d13_27) rfl ?_
      exact kk
    by_cases hc28_57 : x2 < x0
    · obtain ⟨cl59, Ar59, q59, S59, N59v, H59, G59⟩ := id Vw54
      have hin59 : ¬ ((1 : Int32) < 0 ∨ cl59.slots.size ≤ ((1 : Int32)).toNatClampNeg) := inb_of S59 ⟨by decide, by decide⟩
      have hat59 : cl59.slots[((1 : Int32)).toNatClampNeg]? = some (.long x0) := Has.at H59 hin59 rfl
      obtain ⟨cl60, Ar60, q60, S60, N60v, H60, G60⟩ := id Vw54
      have hin60 : ¬ ((1 : Int32) < 0 ∨ cl60.slots.size ≤ ((1 : Int32)).toNatClampNeg) := inb_of S60 ⟨by decide, by decide⟩
      have hat60 : cl60.slots[((1 : Int32)).toNatClampNeg]? = some (.long x0) := Has.at H60 hin60 rfl
      obtain ⟨cl61, Ar61, q61, S61, N61v, H61, G61⟩ := Vw54
      have hin61 : ¬ ((2 : Int32) < 0 ∨ cl61.slots.size ≤ ((2 : Int32)).toNatClampNeg) := inb_of S61 ⟨by decide, by decide⟩
      obtain ⟨T62, h62, X62, e62, W62, st62⟩ := stJ X54 hx hZ e54 Ar61 (j := (2 : Int32)) hin61 (g := (mkF m 55 #[.val (.ref c_), .val (.int (0 : Int32)), .val (.int (3 : Int32)), .val (.int (1 : Int32)), .val (.int (2 : Int32)), .val (.long x2), .second] [(.long x0), (.int (2 : Int32)), (.ref c_)])) rfl rfl (hb hby d13_55)
      have Vw62 : Arv Z h62 c_ kc_ .long (3 : Int32) [(.long x1), (.long x0), (.long x0)] (.long (0 : Int64)) := Arv.set Ar61 q61 S61 N61v H61 G61 rfl W62 2 rfl (Nat.le_of_ble_eq_true rfl)
      have KP62 : Keep h0 h62 [c_] := KP54.wr W62 (Or.inl (List.mem_of_getElem? (i := 0) rfl))
      have Z62 : n0 ≤ h62.size := Nat.le_trans Z54 (Nat.le_of_eq W62.size.symm)
      have N62 := Fr.snoc X62 N54 g_c_
      obtain ⟨cl63, Ar63, q63, S63, N63v, H63, G63⟩ := id Vw62
      have hin63 : ¬ ((0 : Int32) < 0 ∨ cl63.slots.size ≤ ((0 : Int32)).toNatClampNeg) := inb_of S63 ⟨by decide, by decide⟩
      have hat63 : cl63.slots[((0 : Int32)).toNatClampNeg]? = some (.long x1) := Has.at H63 hin63 rfl
      have pre65 : ∀ t, Steps p.tables e below (T62.setTop (mkF m 45 #[.val (.ref c_), .val (.int (0 : Int32)), .val (.int (3 : Int32)), .val (.int (0 : Int32)), .val (.int (2 : Int32)), .val (.long x2), .second] [(.int (lcmpW x2 x1))])) t → Steps p.tables e below (s₁.setTop (entryFrame m #[(.ref c_), (.int (0 : Int32)), (.int (3 : Int32))] 7)) t := by
        intro t kk
        refine pre58 t ?_
        show Steps p.tables e below (T54.setTop (mkF m 28 #[.val (.ref c_), .val (.int (0 : Int32)), .val (.int (3 : Int32)), .val (.int (2 : Int32)), .val (.int (2 : Int32)), .val (.long x2), .second] [(.int (lcmpW x2 x0))])) _
        refine XS.ifNo X54.here hx rfl (hb hby d13_28) rfl ((if0 _ _).trans (tlt ((lw_lt x2 x0).mpr hc28_57)).2.1) ?_
        show Steps p.tables e below (T54.setTop (mkF m 31 #[.val (.ref c_), .val (.int (0 : Int32)), .val (.int (3 : Int32)), .val (.int (2 : Int32)), .val (.int (2 : Int32)), .val (.long x2), .second] [])) _
        refine XS.iinc X54.here hx rfl (hb hby d13_31) rfl (l' := #[.val (.ref c_), .val (.int (0 : Int32)), .val (.int (3 : Int32)), .val (.int (1 : Int32)), .val (.int (2 : Int32)), .val (.long x2), .second]) rfl ?_
        show Steps p.tables e below (T54.setTop (mkF m 34 #[.val (.ref c_), .val (.int (0 : Int32)), .val (.int (3 : Int32)), .val (.int (1 : Int32)), .val (.int (2 : Int32)), .val (.long x2), .second] [])) _
        refine XS.iloadN X54.here hx rfl (hb hby d13_34) rfl ?_
        show Steps p.tables e below (T54.setTop (mkF m 35 #[.val (.ref c_), .val (.int (0 : Int32)), .val (.int (3 : Int32)), .val (.int (1 : Int32)), .val (.int (2 : Int32)), .val (.long x2), .second] [(.int (1 : Int32))])) _
        refine XS.iloadN X54.here hx rfl (hb hby d13_35) rfl ?_
        show Steps p.tables e below (T54.setTop (mkF m 36 #[.val (.ref c_), .val (.int (0 : Int32)), .val (.int (3 : Int32)), .val (.int (1 : Int32)), .val (.int (2 : Int32)), .val (.long x2), .second] [(.int (0 : Int32)), (.int (1 : Int32))])) _
        refine XS.icmpNo X54.here hx rfl (hb hby d13_36) rfl (flt (by decide : ¬ ((1 : Int32) < (0 : Int32)))).1 ?_
        show Steps p.tables e below (T54.setTop (mkF m 39 #[.val (.ref c_), .val (.int (0 : Int32)), .val (.int (3 : Int32)), .val (.int (1 : Int32)), .val (.int (2 : Int32)), .val (.long x2), .second] [])) _
        refine XS.lload X54.here hx rfl (hb hby d13_39) rfl ?_
        show Steps p.tables e below (T54.setTop (mkF m 41 #[.val (.ref c_), .val (.int (0 : Int32)), .val (.int (3 : Int32)), .val (.int (1 : Int32)), .val (.int (2 : Int32)), .val (.long x2), .second] [(.long x2)])) _
        refine XS.aloadN X54.here hx rfl (hb hby d13_41) rfl rfl ?_
        show Steps p.tables e below (T54.setTop (mkF m 42 #[.val (.ref c_), .val (.int (0 : Int32)), .val (.int (3 : Int32)), .val (.int (1 : Int32)), .val (.int (2 : Int32)), .val (.long x2), .second] [(.ref c_), (.long x2)])) _
        refine XS.iloadN X54.here hx rfl (hb hby d13_42) rfl ?_
        show Steps p.tables e below (T54.setTop (mkF m 43 #[.val (.ref c_), .val (.int (0 : Int32)), .val (.int (3 : Int32)), .val (.int (1 : Int32)), .val (.int (2 : Int32)), .val (.long x2), .second] [(.int (1 : Int32)), (.ref c_), (.long x2)])) _
        refine X54.laload hx (j := (1 : Int32)) (v := (.long x0)) (by rw [e54]; exact Ar59.1) (State.isArrayOf_alike hZ.alike Ar59.2.1) Ar59.2.2 hin59 hat59 (g := (mkF m 43 #[.val (.ref c_), .val (.int (0 : Int32)), .val (.int (3 : Int32)), .val (.int (1 : Int32)), .val (.int (2 : Int32)), .val (.long x2), .second] [(.int (1 : Int32)), (.ref c_), (.long x2)])) rfl rfl (hb hby d13_43) _ ?_
        show Steps p.tables e below (T54.setTop (mkF m 44 #[.val (.ref c_), .val (.int (0 : Int32)), .val (.int (3 : Int32)), .val (.int (1 : Int32)), .val (.int (2 : Int32)), .val (.long x2), .second] [(.long x0), (.long x2)])) _
        refine XS.lcmp X54.here hx rfl (hb hby d13_44) rfl ?_
        show Steps p.tables e below (T54.setTop (mkF m 45 #[.val (.ref c_), .val (.int (0 : Int32)), .val (.int (3 : Int32)), .val (.int (1 : Int32)), .val (.int (2 : Int32)), .val (.long x2), .second] [(.int (lcmpW x2 x0))])) _
        refine XS.ifNo X54.here hx rfl (hb hby d13_45) rfl ((if0 _ _).trans (tlt ((lw_lt x2 x0).mpr hc28_57)).2.1) ?_
        show Steps p.tables e below (T54.setTop (mkF m 48 #[.val (.ref c_), .val (.int (0 : Int32)), .val (.int (3 : Int32)), .val (.int (1 : Int32)), .val (.int (2 : Int32)), .val (.long x2), .second] [])) _
        refine XS.aloadN X54.here hx rfl (hb hby d13_48) rfl rfl ?_
        show Steps p.tables e below (T54.setTop (mkF m 49 #[.val (.ref c_), .val (.int (0 : Int32)), .val (.int (3 : Int32)), .val (.int (1 : Int32)), .val (.int (2 : Int32)), .val (.long x2), .second] [(.ref c_)])) _
        refine XS.iloadN X54.here hx rfl (hb hby d13_49) rfl ?_
        show Steps p.tables e below (T54.setTop (mkF m 50 #[.val (.ref c_), .val (.int (0 : Int32)), .val (.int (3 : Int32)), .val (.int (1 : Int32)), .val (.int (2 : Int32)), .val (.long x2), .second] [(.int (1 : Int32)), (.ref c_)])) _
        refine XS.iconst X54.here hx rfl (hb hby d13_50) ?_
        show Steps p.tables e below (T54.setTop (mkF m 51 #[.val (.ref c_), .val (.int (0 : Int32)), .val (.int (3 : Int32)), .val (.int (1 : Int32)), .val (.int (2 : Int32)), .val (.long x2), .second] [(.int (1 : Int32)), (.int (1 : Int32)), (.ref c_)])) _
        refine XS.iadd X54.here hx rfl (hb hby d13_51) rfl ?_
        show Steps p.tables e below (T54.setTop (mkF m 52 #[.val (.ref c_), .val (.int (0 : Int32)), .val (.int (3 : Int32)), .val (.int (1 : Int32)), .val (.int (2 : Int32)), .val (.long x2), .second] [(.int (2 : Int32)), (.ref c_)])) _
        refine XS.aloadN X54.here hx rfl (hb hby d13_52) rfl rfl ?_
        show Steps p.tables e below (T54.setTop (mkF m 53 #[.val (.ref c_), .val (.int (0 : Int32)), .val (.int (3 : Int32)), .val (.int (1 : Int32)), .val (.int (2 : Int32)), .val (.long x2), .second] [(.ref c_), (.int (2 : Int32)), (.ref c_)])) _
        refine XS.iloadN X54.here hx rfl (hb hby d13_53) rfl ?_
        show Steps p.tables e below (T54.setTop (mkF m 54 #[.val (.ref c_), .val (.int (0 : Int32)), .val (.int (3 : Int32)), .val (.int (1 : Int32)), .val (.int (2 : Int32)), .val (.long x2), .second] [(.int (1 : Int32)), (.ref c_), (.int (2 : Int32)), (.ref c_)])) _
        refine X54.laload hx (j := (1 : Int32)) (v := (.long x0)) (by rw [e54]; exact Ar60.1) (State.isArrayOf_alike hZ.alike Ar60.2.1) Ar60.2.2 hin60 hat60 (g := (mkF m 54 #[.val (.ref c_), .val (.int (0 : Int32)), .val (.int (3 : Int32)), .val (.int (1 : Int32)), .val (.int (2 : Int32)), .val (.long x2), .second] [(.int (1 : Int32)), (.ref c_), (.int (2 : Int32)), (.ref c_)])) rfl rfl (hb hby d13_54) _ ?_
        show Steps p.tables e below (T54.setTop (mkF m 55 #[.val (.ref c_), .val (.int (0 : Int32)), .val (.int (3 : Int32)), .val (.int (1 : Int32)), .val (.int (2 : Int32)), .val (.long x2), .second] [(.long x0), (.int (2 : Int32)), (.ref c_)])) _
        refine st62 _ ?_
        show Steps p.tables e below (T62.setTop (mkF m 56 #[.val (.ref c_), .val (.int (0 : Int32)), .val (.int (3 : Int32)), .val (.int (1 : Int32)), .val (.int (2 : Int32)), .val (.long x2), .second] [])) _
        refine XS.goto X62.here hx rfl (pc0 := 56) (pc' := 31) rfl (hb hby d13_56) (by decide) (by decide) ?_
        show Steps p.tables e below (T62.setTop (mkF m 31 #[.val (.ref c_), .val (.int (0 : Int32)), .val (.int (3 : Int32)), .val (.int (1 : Int32)), .val (.int (2 : Int32)), .val (.long x2), .second] [])) _
        refine XS.iinc X62.here hx rfl (hb hby d13_31) rfl (l' := #[.val (.ref c_), .val (.int (0 : Int32)), .val (.int (3 : Int32)), .val (.int (0 : Int32)), .val (.int (2 : Int32)), .val (.long x2), .second]) rfl ?_
        show Steps p.tables e below (T62.setTop (mkF m 34 #[.val (.ref c_), .val (.int (0 : Int32)), .val (.int (3 : Int32)), .val (.int (0 : Int32)), .val (.int (2 : Int32)), .val (.long x2), .second] [])) _
        refine XS.iloadN X62.here hx rfl (hb hby d13_34) rfl ?_
        show Steps p.tables e below (T62.setTop (mkF m 35 #[.val (.ref c_), .val (.int (0 : Int32)), .val (.int (3 : Int32)), .val (.int (0 : Int32)), .val (.int (2 : Int32)), .val (.long x2), .second] [(.int (0 : Int32))])) _
        refine XS.iloadN X62.here hx rfl (hb hby d13_35) rfl ?_
        show Steps p.tables e below (T62.setTop (mkF m 36 #[.val (.ref c_), .val (.int (0 : Int32)), .val (.int (3 : Int32)), .val (.int (0 : Int32)), .val (.int (2 : Int32)), .val (.long x2), .second] [(.int (0 : Int32)), (.int (0 : Int32))])) _
        refine XS.icmpNo X62.here hx rfl (hb hby d13_36) rfl (flt (by decide : ¬ ((0 : Int32) < (0 : Int32)))).1 ?_
        show Steps p.tables e below (T62.setTop (mkF m 39 #[.val (.ref c_), .val (.int (0 : Int32)), .val (.int (3 : Int32)), .val (.int (0 : Int32)), .val (.int (2 : Int32)), .val (.long x2), .second] [])) _
        refine XS.lload X62.here hx rfl (hb hby d13_39) rfl ?_
        show Steps p.tables e below (T62.setTop (mkF m 41 #[.val (.ref c_), .val (.int (0 : Int32)), .val (.int (3 : Int32)), .val (.int (0 : Int32)), .val (.int (2 : Int32)), .val (.long x2), .second] [(.long x2)])) _
        refine XS.aloadN X62.here hx rfl (hb hby d13_41) rfl rfl ?_
        show Steps p.tables e below (T62.setTop (mkF m 42 #[.val (.ref c_), .val (.int (0 : Int32)), .val (.int (3 : Int32)), .val (.int (0 : Int32)), .val (.int (2 : Int32)), .val (.long x2), .second] [(.ref c_), (.long x2)])) _
        refine XS.iloadN X62.here hx rfl (hb hby d13_42) rfl ?_
        show Steps p.tables e below (T62.setTop (mkF m 43 #[.val (.ref c_), .val (.int (0 : Int32)), .val (.int (3 : Int32)), .val (.int (0 : Int32)), .val (.int (2 : Int32)), .val (.long x2), .second] [(.int (0 : Int32)), (.ref c_), (.long x2)])) _
        refine X62.laload hx (j := (0 : Int32)) (v := (.long x1)) (by rw [e62]; exact Ar63.1) (State.isArrayOf_alike hZ.alike Ar63.2.1) Ar63.2.2 hin63 hat63 (g := (mkF m 43 #[.val (.ref c_), .val (.int (0 : Int32)), .val (.int (3 : Int32)), .val (.int (0 : Int32)), .val (.int (2 : Int32)), .val (.long x2), .second] [(.int (0 : Int32)), (.ref c_), (.long x2)])) rfl rfl (hb hby d13_43) _ ?_
        show Steps p.tables e below (T62.setTop (mkF m 44 #[.val (.ref c_), .val (.int (0 : Int32)), .val (.int (3 : Int32)), .val (.int (0 : Int32)), .val (.int (2 : Int32)), .val (.long x2), .second] [(.long x1), (.long x2)])) _
        refine XS.lcmp X62.here hx rfl (hb hby d13_44) rfl ?_
        exact kk
      by_cases hc45_64 : x2 < x1
      · obtain ⟨cl66, Ar66, q66, S66, N66v, H66, G66⟩ := id Vw62
        have hin66 : ¬ ((0 : Int32) < 0 ∨ cl66.slots.size ≤ ((0 : Int32)).toNatClampNeg) := inb_of S66 ⟨by decide, by decide⟩
        have hat66 : cl66.slots[((0 : Int32)).toNatClampNeg]? = some (.long x1) := Has.at H66 hin66 rfl
        obtain ⟨cl67, Ar67, q67, S67, N67v, H67, G67⟩ := Vw62
        have hin67 : ¬ ((1 : Int32) < 0 ∨ cl67.slots.size ≤ ((1 : Int32)).toNatClampNeg) := inb_of S67 ⟨by decide, by decide⟩
        obtain ⟨T68, h68, X68, e68, W68, st68⟩ := stJ X62 hx hZ e62 Ar67 (j := (1 : Int32)) hin67 (g := (mkF m 55 #[.val (.ref c_), .val (.int (0 : Int32)), .val (.int (3 : Int32)), .val (.int (0 : Int32)), .val (.int (2 : Int32)), .val (.long x2), .second] [(.long x1), (.int (1 : Int32)), (.ref c_)])) rfl rfl (hb hby d13_55)
        have Vw68 : Arv Z h68 c_ kc_ .long (3 : Int32) [(.long x1), (.long x1), (.long x0)] (.long (0 : Int64)) := Arv.set Ar67 q67 S67 N67v H67 G67 rfl W68 1 rfl (Nat.le_of_ble_eq_true rfl)
        have KP68 : Keep h0 h68 [c_] := KP62.wr W68 (Or.inl (List.mem_of_getElem? (i := 0) rfl))
        have Z68 : n0 ≤ h68.size := Nat.le_trans Z62 (Nat.le_of_eq W68.size.symm)
        have N68 := Fr.snoc X68 N62 g_c_
        obtain ⟨cl69, Ar69, q69, S69, N69v, H69, G69⟩ := Vw68
        have hin69 : ¬ ((0 : Int32) < 0 ∨ cl69.slots.size ≤ ((0 : Int32)).toNatClampNeg) := inb_of S69 ⟨by decide, by decide⟩
        obtain ⟨T70, h70, X70, e70, W70, st70⟩ := stJ X68 hx hZ e68 Ar69 (j := (0 : Int32)) hin69 (g := (mkF m 65 #[.val (.ref c_), .val (.int (0 : Int32)), .val (.int (3 : Int32)), .val (.int (-1 : Int32)), .val (.int (2 : Int32)), .val (.long x2), .second] [(.long x2), (.int (0 : Int32)), (.ref c_)])) rfl rfl (hb hby d13_65)
        have Vw70 : Arv Z h70 c_ kc_ .long (3 : Int32) [(.long x2), (.long x1), (.long x0)] (.long (0 : Int64)) := Arv.set Ar69 q69 S69 N69v H69 G69 rfl W70 0 rfl (Nat.le_of_ble_eq_true rfl)
        have KP70 : Keep h0 h70 [c_] := KP68.wr W70 (Or.inl (List.mem_of_getElem? (i := 0) rfl))
        have Z70 : n0 ≤ h70.size := Nat.le_trans Z68 (Nat.le_of_eq W70.size.symm)
        have N70 := Fr.snoc X70 N68 g_c_
        have hl0 : (own_s3_0 x0 x1 x2) = x2 := ((if_pos hc28_47).trans ((if_pos hc28_57).trans (if_pos hc45_64)))
        have hl1 : (own_s3_1 x0 x1 x2) = x1 := ((if_pos hc28_47).trans ((if_pos hc28_57).trans (if_pos hc45_64)))
        have hl2 : (own_s3_2 x0 x1 x2) = x0 := ((if_pos hc28_47).trans ((if_pos hc28_57).trans (if_pos hc45_64)))
        have pre71 : ∀ t, Steps p.tables e below (T70.setTop (mkF m 69 #[.val (.ref c_), .val (.int (0 : Int32)), .val (.int (3 : Int32)), .val (.int (-1 : Int32)), .val (.int (3 : Int32)), .val (.long x2), .second] [])) t → Steps p.tables e below (s₁.setTop (entryFrame m #[(.ref c_), (.int (0 : Int32)), (.int (3 : Int32))] 7)) t := by
          intro t kk
          refine pre65 t ?_
          show Steps p.tables e below (T62.setTop (mkF m 45 #[.val (.ref c_), .val (.int (0 : Int32)), .val (.int (3 : Int32)), .val (.int (0 : Int32)), .val (.int (2 : Int32)), .val (.long x2), .second] [(.int (lcmpW x2 x1))])) _
          refine XS.ifNo X62.here hx rfl (hb hby d13_45) rfl ((if0 _ _).trans (tlt ((lw_lt x2 x1).mpr hc45_64)).2.1) ?_
          show Steps p.tables e below (T62.setTop (mkF m 48 #[.val (.ref c_), .val (.int (0 : Int32)), .val (.int (3 : Int32)), .val (.int (0 : Int32)), .val (.int (2 : Int32)), .val (.long x2), .second] [])) _
          refine XS.aloadN X62.here hx rfl (hb hby d13_48) rfl rfl ?_
          show Steps p.tables e below (T62.setTop (mkF m 49 #[.val (.ref c_), .val (.int (0 : Int32)), .val (.int (3 : Int32)), .val (.int (0 : Int32)), .val (.int (2 : Int32)), .val (.long x2), .second] [(.ref c_)])) _
          refine XS.iloadN X62.here hx rfl (hb hby d13_49) rfl ?_
          show Steps p.tables e below (T62.setTop (mkF m 50 #[.val (.ref c_), .val (.int (0 : Int32)), .val (.int (3 : Int32)), .val (.int (0 : Int32)), .val (.int (2 : Int32)), .val (.long x2), .second] [(.int (0 : Int32)), (.ref c_)])) _
          refine XS.iconst X62.here hx rfl (hb hby d13_50) ?_
          show Steps p.tables e below (T62.setTop (mkF m 51 #[.val (.ref c_), .val (.int (0 : Int32)), .val (.int (3 : Int32)), .val (.int (0 : Int32)), .val (.int (2 : Int32)), .val (.long x2), .second] [(.int (1 : Int32)), (.int (0 : Int32)), (.ref c_)])) _
          refine XS.iadd X62.here hx rfl (hb hby d13_51) rfl ?_
          show Steps p.tables e below (T62.setTop (mkF m 52 #[.val (.ref c_), .val (.int (0 : Int32)), .val (.int (3 : Int32)), .val (.int (0 : Int32)), .val (.int (2 : Int32)), .val (.long x2), .second] [(.int (1 : Int32)), (.ref c_)])) _
          refine XS.aloadN X62.here hx rfl (hb hby d13_52) rfl rfl ?_
          show Steps p.tables e below (T62.setTop (mkF m 53 #[.val (.ref c_), .val (.int (0 : Int32)), .val (.int (3 : Int32)), .val (.int (0 : Int32)), .val (.int (2 : Int32)), .val (.long x2), .second] [(.ref c_), (.int (1 : Int32)), (.ref c_)])) _
          refine XS.iloadN X62.here hx rfl (hb hby d13_53) rfl ?_
          show Steps p.tables e below (T62.setTop (mkF m 54 #[.val (.ref c_), .val (.int (0 : Int32)), .val (.int (3 : Int32)), .val (.int (0 : Int32)), .val (.int (2 : Int32)), .val (.long x2), .second] [(.int (0 : Int32)), (.ref c_), (.int (1 : Int32)), (.ref c_)])) _
          refine X62.laload hx (j := (0 : Int32)) (v := (.long x1)) (by rw [e62]; exact Ar66.1) (State.isArrayOf_alike hZ.alike Ar66.2.1) Ar66.2.2 hin66 hat66 (g := (mkF m 54 #[.val (.ref c_), .val (.int (0 : Int32)), .val (.int (3 : Int32)), .val (.int (0 : Int32)), .val (.int (2 : Int32)), .val (.long x2), .second] [(.int (0 : Int32)), (.ref c_), (.int (1 : Int32)), (.ref c_)])) rfl rfl (hb hby d13_54) _ ?_
          show Steps p.tables e below (T62.setTop (mkF m 55 #[.val (.ref c_), .val (.int (0 : Int32)), .val (.int (3 : Int32)), .val (.int (0 : Int32)), .val (.int (2 : Int32)), .val (.long x2), .second] [(.long x1), (.int (1 : Int32)), (.ref c_)])) _
          refine st68 _ ?_
          show Steps p.tables e below (T68.setTop (mkF m 56 #[.val (.ref c_), .val (.int (0 : Int32)), .val (.int (3 : Int32)), .val (.int (0 : Int32)), .val (.int (2 : Int32)), .val (.long x2), .second] [])) _
          refine XS.goto X68.here hx rfl (pc0 := 56) (pc' := 31) rfl (hb hby d13_56) (by decide) (by decide) ?_
          show Steps p.tables e below (T68.setTop (mkF m 31 #[.val (.ref c_), .val (.int (0 : Int32)), .val (.int (3 : Int32)), .val (.int (0 : Int32)), .val (.int (2 : Int32)), .val (.long x2), .second] [])) _
          refine XS.iinc X68.here hx rfl (hb hby d13_31) rfl (l' := #[.val (.ref c_), .val (.int (0 : Int32)), .val (.int (3 : Int32)), .val (.int (-1 : Int32)), .val (.int (2 : Int32)), .val (.long x2), .second]) rfl ?_
          show Steps p.tables e below (T68.setTop (mkF m 34 #[.val (.ref c_), .val (.int (0 : Int32)), .val (.int (3 : Int32)), .val (.int (-1 : Int32)), .val (.int (2 : Int32)), .val (.long x2), .second] [])) _
          refine XS.iloadN X68.here hx rfl (hb hby d13_34) rfl ?_
          show Steps p.tables e below (T68.setTop (mkF m 35 #[.val (.ref c_), .val (.int (0 : Int32)), .val (.int (3 : Int32)), .val (.int (-1 : Int32)), .val (.int (2 : Int32)), .val (.long x2), .second] [(.int (-1 : Int32))])) _
          refine XS.iloadN X68.here hx rfl (hb hby d13_35) rfl ?_
          show Steps p.tables e below (T68.setTop (mkF m 36 #[.val (.ref c_), .val (.int (0 : Int32)), .val (.int (3 : Int32)), .val (.int (-1 : Int32)), .val (.int (2 : Int32)), .val (.long x2), .second] [(.int (0 : Int32)), (.int (-1 : Int32))])) _
          refine XS.icmpYes X68.here hx rfl (pc0 := 36) (pc' := 59) rfl (hb hby d13_36) rfl (tlt (by decide : (-1 : Int32) < (0 : Int32))).1 (by decide) (by decide) ?_
          show Steps p.tables e below (T68.setTop (mkF m 59 #[.val (.ref c_), .val (.int (0 : Int32)), .val (.int (3 : Int32)), .val (.int (-1 : Int32)), .val (.int (2 : Int32)), .val (.long x2), .second] [])) _
          refine XS.aloadN X68.here hx rfl (hb hby d13_59) rfl rfl ?_
          show Steps p.tables e below (T68.setTop (mkF m 60 #[.val (.ref c_), .val (.int (0 : Int32)), .val (.int (3 : Int32)), .val (.int (-1 : Int32)), .val (.int (2 : Int32)), .val (.long x2), .second] [(.ref c_)])) _
          refine XS.iloadN X68.here hx rfl (hb hby d13_60) rfl ?_
          show Steps p.tables e below (T68.setTop (mkF m 61 #[.val (.ref c_), .val (.int (0 : Int32)), .val (.int (3 : Int32)), .val (.int (-1 : Int32)), .val (.int (2 : Int32)), .val (.long x2), .second] [(.int (-1 : Int32)), (.ref c_)])) _
          refine XS.iconst X68.here hx rfl (hb hby d13_61) ?_
          show Steps p.tables e below (T68.setTop (mkF m 62 #[.val (.ref c_), .val (.int (0 : Int32)), .val (.int (3 : Int32)), .val (.int (-1 : Int32)), .val (.int (2 : Int32)), .val (.long x2), .second] [(.int (1 : Int32)), (.int (-1 : Int32)), (.ref c_)])) _
          refine XS.iadd X68.here hx rfl (hb hby d13_62) rfl ?_
          show Steps p.tables e below (T68.setTop (mkF m 63 #[.val (.ref c_), .val (.int (0 : Int32)), .val (.int (3 : Int32)), .val (.int (-1 : Int32)), .val (.int (2 : Int32)), .val (.long x2), .second] [(.int (0 : Int32)), (.ref c_)])) _
          refine XS.lload X68.here hx rfl (hb hby d13_63) rfl ?_
          show Steps p.tables e below (T68.setTop (mkF m 65 #[.val (.ref c_), .val (.int (0 : Int32)), .val (.int (3 : Int32)), .val (.int (-1 : Int32)), .val (.int (2 : Int32)), .val (.long x2), .second] [(.long x2), (.int (0 : Int32)), (.ref c_)])) _
          refine st70 _ ?_
          show Steps p.tables e below (T70.setTop (mkF m 66 #[.val (.ref c_), .val (.int (0 : Int32)), .val (.int (3 : Int32)), .val (.int (-1 : Int32)), .val (.int (2 : Int32)), .val (.long x2), .second] [])) _
          refine XS.goto X70.here hx rfl (pc0 := 66) (pc' := 3) rfl (hb hby d13_66) (by decide) (by decide) ?_
          show Steps p.tables e below (T70.setTop (mkF m 3 #[.val (.ref c_), .val (.int (0 : Int32)), .val (.int (3 : Int32)), .val (.int (-1 : Int32)), .val (.int (2 : Int32)), .val (.long x2), .second] [])) _
          refine XS.iinc X70.here hx rfl (hb hby d13_3) rfl (l' := #[.val (.ref c_), .val (.int (0 : Int32)), .val (.int (3 : Int32)), .val (.int (-1 : Int32)), .val (.int (3 : Int32)), .val (.long x2), .second]) rfl ?_
          show Steps p.tables e below (T70.setTop (mkF m 6 #[.val (.ref c_), .val (.int (0 : Int32)), .val (.int (3 : Int32)), .val (.int (-1 : Int32)), .val (.int (3 : Int32)), .val (.long x2), .second] [])) _
          refine XS.iload X70.here hx rfl (hb hby d13_6) rfl ?_
          show Steps p.tables e below (T70.setTop (mkF m 8 #[.val (.ref c_), .val (.int (0 : Int32)), .val (.int (3 : Int32)), .val (.int (-1 : Int32)), .val (.int (3 : Int32)), .val (.long x2), .second] [(.int (3 : Int32))])) _
          refine XS.iloadN X70.here hx rfl (hb hby d13_8) rfl ?_
          show Steps p.tables e below (T70.setTop (mkF m 9 #[.val (.ref c_), .val (.int (0 : Int32)), .val (.int (3 : Int32)), .val (.int (-1 : Int32)), .val (.int (3 : Int32)), .val (.long x2), .second] [(.int (3 : Int32)), (.int (3 : Int32))])) _
          refine XS.icmpYes X70.here hx rfl (pc0 := 9) (pc' := 69) rfl (hb hby d13_9) rfl (flt (by decide : ¬ ((3 : Int32) < (3 : Int32)))).2.1 (by decide) (by decide) ?_
          exact kk
        obtain ⟨fs, hr, hrun, hended, hW, hsame⟩ := X70.leave (v := none) (fun _ => rfl)
        refine ⟨_, _, pre71 _ ?_, hrun, hended, _, _, rfl, ?_, ⟨_, rfl⟩, hW, hsame.mono (by decide) (by decide)⟩
        · show Steps p.tables e below (T70.setTop (mkF m 69 #[.val (.ref c_), .val (.int (0 : Int32)), .val (.int (3 : Int32)), .val (.int (-1 : Int32)), .val (.int (3 : Int32)), .val (.long x2), .second] [])) _
          exact X70.returnOut hx Bd.returns (hb hby d13_69) hr
        · show Q13_3 Z c_ kc_ x0 x1 x2 h0 n0 _ T70.heap _
          rw [e70]
          exact ⟨rfl, N70, KP70, by rw [hl0, hl1, hl2]; exact Vw70⟩
      · obtain ⟨cl72, Ar72, q72, S72, N72v, H72, G72⟩ := Vw62
        have hin72 : ¬ ((1 : Int32) < 0 ∨ cl72.slots.size ≤ ((1 : Int32)).toNatClampNeg) := inb_of S72 ⟨by decide, by decide⟩
        obtain ⟨T73, h73, X73, e73, W73, st73⟩ := stJ X62 hx hZ e62 Ar72 (j := (1 : Int32)) hin72 (g := (mkF m 65 #[.val (.ref c_), .val (.int (0 : Int32)), .val (.int (3 : Int32)), .val (.int (0 : Int32)), .val (.int (2 : Int32)), .val (.long x2), .second] [(.long x2), (.int (1 : Int32)), (.ref c_)])) rfl rfl (hb hby d13_65)
        have Vw73 : Arv Z h73 c_ kc_ .long (3 : Int32) [(.long x1), (.long x2), (.long x0)] (.long (0 : Int64)) := Arv.set Ar72 q72 S72 N72v H72 G72 rfl W73 1 rfl (Nat.le_of_ble_eq_true rfl)
        have KP73 : Keep h0 h73 [c_] := KP62.wr W73 (Or.inl (List.mem_of_getElem? (i := 0) rfl))
        have Z73 : n0 ≤ h73.size := Nat.le_trans Z62 (Nat.le_of_eq W73.size.symm)
        have N73 := Fr.snoc X73 N62 g_c_
        have hl0 : (own_s3_0 x0 x1 x2) = x1 := ((if_pos hc28_47).trans ((if_pos hc28_57).trans (if_neg hc45_64)))
        have hl1 : (own_s3_1 x0 x1 x2) = x2 := ((if_pos hc28_47).trans ((if_pos hc28_57).trans (if_neg hc45_64)))
        have hl2 : (own_s3_2 x0 x1 x2) = x0 := ((if_pos hc28_47).trans ((if_pos hc28_57).trans (if_neg hc45_64)))
        have pre74 : ∀ t, Steps p.tables e below (T73.setTop (mkF m 69 #[.val (.ref c_), .val (.int (0 : Int32)), .val (.int (3 : Int32)), .val (.int (0 : Int32)), .val (.int (3 : Int32)), .val (.long x2), .second] [])) t → Steps p.tables e below (s₁.setTop (entryFrame m #[(.ref c_), (.int (0 : Int32)), (.int (3 : Int32))] 7)) t := by
          intro t kk
          refine pre65 t ?_
          show Steps p.tables e below (T62.setTop (mkF m 45 #[.val (.ref c_), .val (.int (0 : Int32)), .val (.int (3 : Int32)), .val (.int (0 : Int32)), .val (.int (2 : Int32)), .val (.long x2), .second] [(.int (lcmpW x2 x1))])) _
          refine XS.ifYes X62.here hx rfl (pc0 := 45) (pc' := 59) rfl (hb hby d13_45) rfl ((if0 _ _).trans (flt (fun q => hc45_64 ((lw_lt x2 x1).mp q))).2.1) (by decide) (by decide) ?_
          show Steps p.tables e below (T62.setTop (mkF m 59 #[.val (.ref c_), .val (.int (0 : Int32)), .val (.int (3 : Int32)), .val (.int (0 : Int32)), .val (.int (2 : Int32)), .val (.long x2), .second] [])) _
          refine XS.aloadN X62.here hx rfl (hb hby d13_59) rfl rfl ?_
          show Steps p.tables e below (T62.setTop (mkF m 60 #[.val (.ref c_), .val (.int (0 : Int32)), .val (.int (3 : Int32)), .val (.int (0 : Int32)), .val (.int (2 : Int32)), .val (.long x2), .second] [(.ref c_)])) _
          refine XS.iloadN X62.here hx rfl (hb hby d13_60) rfl ?_
          show Steps p.tables e below (T62.setTop (mkF m 61 #[.val (.ref c_), .val (.int (0 : Int32)), .val (.int (3 : Int32)), .val (.int (0 : Int32)), .val (.int (2 : Int32)), .val (.long x2), .second] [(.int (0 : Int32)), (.ref c_)])) _
          refine XS.iconst X62.here hx rfl (hb hby d13_61) ?_
          show Steps p.tables e below (T62.setTop (mkF m 62 #[.val (.ref c_), .val (.int (0 : Int32)), .val (.int (3 : Int32)), .val (.int (0 : Int32)), .val (.int (2 : Int32)), .val (.long x2), .second] [(.int (1 : Int32)), (.int (0 : Int32)), (.ref c_)])) _
          refine XS.iadd X62.here hx rfl (hb hby d13_62) rfl ?_
          show Steps p.tables e below (T62.setTop (mkF m 63 #[.val (.ref c_), .val (.int (0 : Int32)), .val (.int (3 : Int32)), .val (.int (0 : Int32)), .val (.int (2 : Int32)), .val (.long x2), .second] [(.int (1 : Int32)), (.ref c_)])) _
          refine XS.lload X62.here hx rfl (hb hby d13_63) rfl ?_
          show Steps p.tables e below (T62.setTop (mkF m 65 #[.val (.ref c_), .val (.int (0 : Int32)), .val (.int (3 : Int32)), .val (.int (0 : Int32)), .val (.int (2 : Int32)), .val (.long x2), .second] [(.long x2), (.int (1 : Int32)), (.ref c_)])) _
          refine st73 _ ?_
          show Steps p.tables e below (T73.setTop (mkF m 66 #[.val (.ref c_), .val (.int (0 : Int32)), .val (.int (3 : Int32)), .val (.int (0 : Int32)), .val (.int (2 : Int32)), .val (.long x2), .second] [])) _
          refine XS.goto X73.here hx rfl (pc0 := 66) (pc' := 3) rfl (hb hby d13_66) (by decide) (by decide) ?_
          show Steps p.tables e below (T73.setTop (mkF m 3 #[.val (.ref c_), .val (.int (0 : Int32)), .val (.int (3 : Int32)), .val (.int (0 : Int32)), .val (.int (2 : Int32)), .val (.long x2), .second] [])) _
          refine XS.iinc X73.here hx rfl (hb hby d13_3) rfl (l' := #[.val (.ref c_), .val (.int (0 : Int32)), .val (.int (3 : Int32)), .val (.int (0 : Int32)), .val (.int (3 : Int32)), .val (.long x2), .second]) rfl ?_
          show Steps p.tables e below (T73.setTop (mkF m 6 #[.val (.ref c_), .val (.int (0 : Int32)), .val (.int (3 : Int32)), .val (.int (0 : Int32)), .val (.int (3 : Int32)), .val (.long x2), .second] [])) _
          refine XS.iload X73.here hx rfl (hb hby d13_6) rfl ?_
          show Steps p.tables e below (T73.setTop (mkF m 8 #[.val (.ref c_), .val (.int (0 : Int32)), .val (.int (3 : Int32)), .val (.int (0 : Int32)), .val (.int (3 : Int32)), .val (.long x2), .second] [(.int (3 : Int32))])) _
          refine XS.iloadN X73.here hx rfl (hb hby d13_8) rfl ?_
          show Steps p.tables e below (T73.setTop (mkF m 9 #[.val (.ref c_), .val (.int (0 : Int32)), .val (.int (3 : Int32)), .val (.int (0 : Int32)), .val (.int (3 : Int32)), .val (.long x2), .second] [(.int (3 : Int32)), (.int (3 : Int32))])) _
          refine XS.icmpYes X73.here hx rfl (pc0 := 9) (pc' := 69) rfl (hb hby d13_9) rfl (flt (by decide : ¬ ((3 : Int32) < (3 : Int32)))).2.1 (by decide) (by decide) ?_
          exact kk
        obtain ⟨fs, hr, hrun, hended, hW, hsame⟩ := X73.leave (v := none) (fun _ => rfl)
        refine ⟨_, _, pre74 _ ?_, hrun, hended, _, _, rfl, ?_, ⟨_, rfl⟩, hW, hsame.mono (by decide) (by decide)⟩
        · show Steps p.tables e below (T73.setTop (mkF m 69 #[.val (.ref c_), .val (.int (0 : Int32)), .val (.int (3 : Int32)), .val (.int (0 : Int32)), .val (.int (3 : Int32)), .val (.long x2), .second] [])) _
          exact X73.returnOut hx Bd.returns (hb hby d13_69) hr
        · show Q13_3 Z c_ kc_ x0 x1 x2 h0 n0 _ T73.heap _
          rw [e73]
          exact ⟨rfl, N73, KP73, by rw [hl0, hl1, hl2]; exact Vw73⟩
    · have hl0 : (own_s3_0 x0 x1 x2) = x1 := ((if_pos hc28_47).trans (if_neg hc28_57))
      have hl1 : (own_s3_1 x0 x1 x2) = x0 := ((if_pos hc28_47).trans (if_neg hc28_57))
      have hl2 : (own_s3_2 x0 x1 x2) = x2 := ((if_pos hc28_47).trans (if_neg hc28_57))
      have pre75 : ∀ t, Steps p.tables e below (T54.setTop (mkF m 69 #[.val (.ref c_), .val (.int (0 : Int32)), .val (.int (3 : Int32)), .val (.int (2 : Int32)), .val (.int (3 : Int32)), .val (.long x2), .second] [])) t → Steps p.tables e below (s₁.setTop (entryFrame m #[(.ref c_), (.int (0 : Int32)), (.int (3 : Int32))] 7)) t := by
        intro t kk
        refine pre58 t ?_
        show Steps p.tables e below (T54.setTop (mkF m 28 #[.val (.ref c_), .val (.int (0 : Int32)), .val (.int (3 : Int32)), .val (.int (2 : Int32)), .val (.int (2 : Int32)), .val (.long x2), .second] [(.int (lcmpW x2 x0))])) _
        refine XS.ifYes X54.here hx rfl (pc0 := 28) (pc' := 66) rfl (hb hby d13_28) rfl ((if0 _ _).trans (flt (fun q => hc28_57 ((lw_lt x2 x0).mp q))).2.1) (by decide) (by decide) ?_
        show Steps p.tables e below (T54.setTop (mkF m 66 #[.val (.ref c_), .val (.int (0 : Int32)), .val (.int (3 : Int32)), .val (.int (2 : Int32)), .val (.int (2 : Int32)), .val (.long x2), .second] [])) _
        refine XS.goto X54.here hx rfl (pc0 := 66) (pc' := 3) rfl (hb hby d13_66) (by decide) (by decide) ?_
        show Steps p.tables e below (T54.setTop (mkF m 3 #[.val (.ref c_), .val (.int (0 : Int32)), .val (.int (3 : Int32)), .val (.int (2 : Int32)), .val (.int (2 : Int32)), .val (.long x2), .second] [])) _
        refine XS.iinc X54.here hx rfl (hb hby d13_3) rfl (l' := #[.val (.ref c_), .val (.int (0 : Int32)), .val (.int (3 : Int32)), .val (.int (2 : Int32)), .val (.int (3 : Int32)), .val (.long x2), .second]) rfl ?_
        show Steps p.tables e below (T54.setTop (mkF m 6 #[.val (.ref c_), .val (.int (0 : Int32)), .val (.int (3 : Int32)), .val (.int (2 : Int32)), .val (.int (3 : Int32)), .val (.long x2), .second] [])) _
        refine XS.iload X54.here hx rfl (hb hby d13_6) rfl ?_
        show Steps p.tables e below (T54.setTop (mkF m 8 #[.val (.ref c_), .val (.int (0 : Int32)), .val (.int (3 : Int32)), .val (.int (2 : Int32)), .val (.int (3 : Int32)), .val (.long x2), .second] [(.int (3 : Int32))])) _
        refine XS.iloadN X54.here hx rfl (hb hby d13_8) rfl ?_
        show Steps p.tables e below (T54.setTop (mkF m 9 #[.val (.ref c_), .val (.int (0 : Int32)), .val (.int (3 : Int32)), .val (.int (2 : Int32)), .val (.int (3 : Int32)), .val (.long x2), .second] [(.int (3 : Int32)), (.int (3 : Int32))])) _
        refine XS.icmpYes X54.here hx rfl (pc0 := 9) (pc' := 69) rfl (hb hby d13_9) rfl (flt (by decide : ¬ ((3 : Int32) < (3 : Int32)))).2.1 (by decide) (by decide) ?_
        exact kk
      obtain ⟨fs, hr, hrun, hended, hW, hsame⟩ := X54.leave (v := none) (fun _ => rfl)
      refine ⟨_, _, pre75 _ ?_, hrun, hended, _, _, rfl, ?_, ⟨_, rfl⟩, hW, hsame.mono (by decide) (by decide)⟩
      · show Steps p.tables e below (T54.setTop (mkF m 69 #[.val (.ref c_), .val (.int (0 : Int32)), .val (.int (3 : Int32)), .val (.int (2 : Int32)), .val (.int (3 : Int32)), .val (.long x2), .second] [])) _
        exact X54.returnOut hx Bd.returns (hb hby d13_69) hr
      · show Q13_3 Z c_ kc_ x0 x1 x2 h0 n0 _ T54.heap _
        rw [e54]
        exact ⟨rfl, N54, KP54, by rw [hl0, hl1, hl2]; exact Vw54⟩
  · obtain ⟨cl76, Ar76, q76, S76, N76v, H76, G76⟩ := id V_c
    have hin76 : ¬ ((2 : Int32) < 0 ∨ cl76.slots.size ≤ ((2 : Int32)).toNatClampNeg) := inb_of S76 ⟨by decide, by decide⟩
    have hat76 : cl76.slots[((2 : Int32)).toNatClampNeg]? = some (.long x2) := Has.at H76 hin76 rfl
    obtain ⟨cl77, Ar77, q77, S77, N77v, H77, G77⟩ := id V_c
    have hin77 : ¬ ((1 : Int32) < 0 ∨ cl77.slots.size ≤ ((1 : Int32)).toNatClampNeg) := inb_of S77 ⟨by decide, by decide⟩
    have hat77 : cl77.slots[((1 : Int32)).toNatClampNeg]? = some (.long x1) := Has.at H77 hin77 rfl
    have pre79 : ∀ t, Steps p.tables e below (s₁.setTop (mkF m 28 #[.val (.ref c_), .val (.int (0 : Int32)), .val (.int (3 : Int32)), .val (.int (2 : Int32)), .val (.int (2 : Int32)), .val (.long x2), .second] [(.int (lcmpW x2 x1))])) t → Steps p.tables e below (s₁.setTop (entryFrame m #[(.ref c_), (.int (0 : Int32)), (.int (3 : Int32))] 7)) t := by
      intro t kk
      refine pre48 t ?_
      show Steps p.tables e below (s₁.setTop (mkF m 28 #[.val (.ref c_), .val (.int (0 : Int32)), .val (.int (3 : Int32)), .val (.int (1 : Int32)), .val (.int (1 : Int32)), .val (.long x1), .second] [(.int (lcmpW x1 x0))])) _
      refine XS.ifYes X0.here hx rfl (pc0 := 28) (pc' := 66) rfl (hb hby d13_28) rfl ((if0 _ _).trans (flt (fun q => hc28_47 ((lw_lt x1 x0).mp q))).2.1) (by decide) (by decide) ?_
      show Steps p.tables e below (s₁.setTop (mkF m 66 #[.val (.ref c_), .val (.int (0 : Int32)), .val (.int (3 : Int32)), .val (.int (1 : Int32)), .val (.int (1 : Int32)), .val (.long x1), .second] [])) _
      refine XS.goto X0.here hx rfl (pc0 := 66) (pc' := 3) rfl (hb hby d13_66) (by decide) (by decide) ?_
      show Steps p.tables e below (s₁.setTop (mkF m 3 #[.val (.ref c_), .val (.int (0 : Int32)), .val (.int (3 : Int32)), .val (.int (1 : Int32)), .val (.int (1 : Int32)), .val (.long x1), .second] [])) _
      refine XS.iinc X0.here hx rfl (hb hby d13_3) rfl (l' := #[.val (.ref c_), .val (.int (0 : Int32)), .val (.int (3 : Int32)), .val (.int (1 : Int32)), .val (.int (2 : Int32)), .val (.long x1), .second]) rfl ?_
      show Steps p.tables e below (s₁.setTop (mkF m 6 #[.val (.ref c_), .val (.int (0 : Int32)), .val (.int (3 : Int32)), .val (.int (1 : Int32)), .val (.int (2 : Int32)), .val (.long x1), .second] [])) _
      refine XS.iload X0.here hx rfl (hb hby d13_6) rfl ?_
      show Steps p.tables e below (s₁.setTop (mkF m 8 #[.val (.ref c_), .val (.int (0 : Int32)), .val (.int (3 : Int32)), .val (.int (1 : Int32)), .val (.int (2 : Int32)), .val (.long x1), .second] [(.int (2 : Int32))])) _
      refine XS.iloadN X0.here hx rfl (hb hby d13_8) rfl ?_
      show Steps p.tables e below (s₁.setTop (mkF m 9 #[.val (.ref c_), .val (.int (0 : Int32)), .val (.int (3 : Int32)), .val (.int (1 : Int32)), .val (.int (2 : Int32)), .val (.long x1), .second] [(.int (3 : Int32)), (.int (2 : Int32))])) _
      refine XS.icmpNo X0.here hx rfl (hb hby d13_9) rfl (tlt (by decide : (2 : Int32) < (3 : Int32))).2.1 ?_
      show Steps p.tables e below (s₁.setTop (mkF m 12 #[.val (.ref c_), .val (.int (0 : Int32)), .val (.int (3 : Int32)), .val (.int (1 : Int32)), .val (.int (2 : Int32)), .val (.long x1), .second] [])) _
      refine XS.aloadN X0.here hx rfl (hb hby d13_12) rfl rfl ?_
      show Steps p.tables e below (s₁.setTop (mkF m 13 #[.val (.ref c_), .val (.int (0 : Int32)), .val (.int (3 : Int32)), .val (.int (1 : Int32)), .val (.int (2 : Int32)), .val (.long x1), .second] [(.ref c_)])) _
      refine XS.iload X0.here hx rfl (hb hby d13_13) rfl ?_
      show Steps p.tables e below (s₁.setTop (mkF m 15 #[.val (.ref c_), .val (.int (0 : Int32)), .val (.int (3 : Int32)), .val (.int (1 : Int32)), .val (.int (2 : Int32)), .val (.long x1), .second] [(.int (2 : Int32)), (.ref c_)])) _
      refine XS.dup X0.here hx rfl (hb hby d13_15) rfl rfl ?_
      show Steps p.tables e below (s₁.setTop (mkF m 16 #[.val (.ref c_), .val (.int (0 : Int32)), .val (.int (3 : Int32)), .val (.int (1 : Int32)), .val (.int (2 : Int32)), .val (.long x1), .second] [(.int (2 : Int32)), (.int (2 : Int32)), (.ref c_)])) _
      refine XS.istoreN X0.here hx rfl (hb hby d13_16) rfl (l' := #[.val (.ref c_), .val (.int (0 : Int32)), .val (.int (3 : Int32)), .val (.int (2 : Int32)), .val (.int (2 : Int32)), .val (.long x1), .second]) rfl ?_
      show Steps p.tables e below (s₁.setTop (mkF m 17 #[.val (.ref c_), .val (.int (0 : Int32)), .val (.int (3 : Int32)), .val (.int (2 : Int32)), .val (.int (2 : Int32)), .val (.long x1), .second] [(.int (2 : Int32)), (.ref c_)])) _
      refine X0.laload hx (j := (2 : Int32)) (v := (.long x2)) (by rw [e0]; exact Ar76.1) (State.isArrayOf_alike hZ.alike Ar76.2.1) Ar76.2.2 hin76 hat76 (g := (mkF m 17 #[.val (.ref c_), .val (.int (0 : Int32)), .val (.int (3 : Int32)), .val (.int (2 : Int32)), .val (.int (2 : Int32)), .val (.long x1), .second] [(.int (2 : Int32)), (.ref c_)])) rfl rfl (hb hby d13_17) _ ?_
      show Steps p.tables e below (s₁.setTop (mkF m 18 #[.val (.ref c_), .val (.int (0 : Int32)), .val (.int (3 : Int32)), .val (.int (2 : Int32)), .val (.int (2 : Int32)), .val (.long x1), .second] [(.long x2)])) _
      refine XS.lstore X0.here hx rfl (hb hby d13_18) rfl (l' := #[.val (.ref c_), .val (.int (0 : Int32)), .val (.int (3 : Int32)), .val (.int (2 : Int32)), .val (.int (2 : Int32)), .val (.long x2), .second]) rfl ?_
      show Steps p.tables e below (s₁.setTop (mkF m 20 #[.val (.ref c_), .val (.int (0 : Int32)), .val (.int (3 : Int32)), .val (.int (2 : Int32)), .val (.int (2 : Int32)), .val (.long x2), .second] [])) _
      refine XS.lload X0.here hx rfl (hb hby d13_20) rfl ?_
      show Steps p.tables e below (s₁.setTop (mkF m 22 #[.val (.ref c_), .val (.int (0 : Int32)), .val (.int (3 : Int32)), .val (.int (2 : Int32)), .val (.int (2 : Int32)), .val (.long x2), .second] [(.long x2)])) _
      refine XS.aloadN X0.here hx rfl (hb hby d13_22) rfl rfl ?_
      show Steps p.tables e below (s₁.setTop (mkF m 23 #[.val (.ref c_), .val (.int (0 : Int32)), .val (.int (3 : Int32)), .val (.int (2 : Int32)), .val (.int (2 : Int32)), .val (.long x2), .second] [(.ref c_), (.long x2)])) _
      refine XS.iloadN X0.here hx rfl (hb hby d13_23) rfl ?_
      show Steps p.tables e below (s₁.setTop (mkF m 24 #[.val (.ref c_), .val (.int (0 : Int32)), .val (.int (3 : Int32)), .val (.int (2 : Int32)), .val (.int (2 : Int32)), .val (.long x2), .second] [(.int (2 : Int32)), (.ref c_), (.long x2)])) _
      refine XS.iconst X0.here hx rfl (hb hby d13_24) ?_
      show Steps p.tables e below (s₁.setTop (mkF m 25 #[.val (.ref c_), .val (.int (0 : Int32)), .val (.int (3 : Int32)), .val (.int (2 : Int32)), .val (.int (2 : Int32)), .val (.long x2), .second] [(.int (1 : Int32)), (.int (2 : Int32)), (.ref c_), (.long x2)])) _
      refine XS.isub X0.here hx rfl (hb hby d13_25) rfl ?_
      show Steps p.tables e below (s₁.setTop (mkF m 26 #[.val (.ref c_), .val (.int (0 : Int32)), .val (.int (3 : Int32)), .val (.int (2 : Int32)), .val (.int (2 : Int32)), .val (.long x2), .second] [(.int (1 : Int32)), (.ref c_), (.long x2)])) _
      refine X0.laload hx (j := (1 : Int32)) (v := (.long x1)) (by rw [e0]; exact Ar77.1) (State.isArrayOf_alike hZ.alike Ar77.2.1) Ar77.2.2 hin77 hat77 (g := (mkF m 26 #[.val (.ref c_), .val (.int (0 : Int32)), .val (.int (3 : Int32)), .val (.int (2 : Int32)), .val (.int (2 : Int32)), .val (.long x2), .second] [(.int (1 : Int32)), (.ref c_), (.long x2)])) rfl rfl (hb hby d13_26) _ ?_
      show Steps p.tables e below (s₁.setTop (mkF m 27 #[.val (.ref c_), .val (.int (0 : Int32)), .val (.int (3 : Int32)), .val (.int (2 : Int32)), .val (.int (2 : Int32)), .val (.long x2), .second] [(.long x1), (.long x2)])) _
      refine XS.lcmp X0.here hx rfl (hb hby d13_27) rfl ?_
      exact kk
    by_cases hc28_78 : x2 < x1
    · obtain ⟨cl80, Ar80, q80, S80, N80v, H80, G80⟩ := id V_c
      have hin80 : ¬ ((1 : Int32) < 0 ∨ cl80.slots.size ≤ ((1 : Int32)).toNatClampNeg) := inb_of S80 ⟨by decide, by decide⟩
      have hat80 : cl80.slots[((1 : Int32)).toNatClampNeg]? = some (.long x1) := Has.at H80 hin80 rfl
      obtain ⟨cl81, Ar81, q81, S81, N81v, H81, G81⟩ := id V_c
      have hin81 : ¬ ((1 : Int32) < 0 ∨ cl81.slots.size ≤ ((1 : Int32)).toNatClampNeg) := inb_of S81 ⟨by decide, by decide⟩
      have hat81 : cl81.slots[((1 : Int32)).toNatClampNeg]? = some (.long x1) := Has.at H81 hin81 rfl
      obtain ⟨cl82, Ar82, q82, S82, N82v, H82, G82⟩ := V_c
      have hin82 : ¬ ((2 : Int32) < 0 ∨ cl82.slots.size ≤ ((2 : Int32)).toNatClampNeg) := inb_of S82 ⟨by decide, by decide⟩
      obtain ⟨T83, h83, X83, e83, W83, st83⟩ := stJ X0 hx hZ e0 Ar82 (j := (2 : Int32)) hin82 (g := (mkF m 55 #[.val (.ref c_), .val (.int (0 : Int32)), .val (.int (3 : Int32)), .val (.int (1 : Int32)), .val (.int (2 : Int32)), .val (.long x2), .second] [(.long x1), (.int (2 : Int32)), (.ref c_)])) rfl rfl (hb hby d13_55)
      have Vw83 : Arv Z h83 c_ kc_ .long (3 : Int32) [(.long x0), (.long x1), (.long x1)] (.long (0 : Int64)) := Arv.set Ar82 q82 S82 N82v H82 G82 rfl W83 2 rfl (Nat.le_of_ble_eq_true rfl)
      have KP83 : Keep h0 h83 [c_] := KP0.wr W83 (Or.inl (List.mem_of_getElem? (i := 0) rfl))
      have Z83 : n0 ≤ h83.size := Nat.le_trans Z0 (Nat.le_of_eq W83.size.symm)
      have N83 := Fr.snoc X83 N0 g_c_
      obtain ⟨cl84, Ar84, q84, S84, N84v, H84, G84⟩ := id Vw83
      have hin84 : ¬ ((0 : Int32) < 0 ∨ cl84.slots.size ≤ ((0 : Int32)).toNatClampNeg) := inb_of S84 ⟨by decide, by decide⟩
      have hat84 : cl84.slots[((0 : Int32)).toNatClampNeg]? = some (.long x0) := Has.at H84 hin84 rfl
      have pre86 : ∀ t, Steps p.tables e below (T83.setTop (mkF m 45 #[.val (.ref c_), .val (.int (0 : Int32)), .val (.int (3 : Int32)), .val (.int (0 : Int32)), .val (.int (2 : Int32)), .val (.long x2), .second] [(.int (lcmpW x2 x0))])) t → Steps p.tables e below (s₁.setTop (entryFrame m #[(.ref c_), (.int (0 : Int32)), (.int (3 : Int32))] 7)) t := by
        intro t kk
        refine pre79 t ?_
        show Steps p.tables e below (s₁.setTop (mkF m 28 #[.val (.ref c_), .val (.int (0 : Int32)), .val (.int (3 : Int32)), .val (.int (2 : Int32)), .val (.int (2 : Int32)), .val (.long x2), .second] [(.int (lcmpW x2 x1))])) _
        refine XS.ifNo X0.here hx rfl (hb hby d13_28) rfl ((if0 _ _).trans (tlt ((lw_lt x2 x1).mpr hc28_78)).2.1) ?_
        show Steps p.tables e below (s₁.setTop (mkF m 31 #[.val (.ref c_), .val (.int (0 : Int32)), .val (.int (3 : Int32)), .val (.int (2 : Int32)), .val (.int (2 : Int32)), .val (.long x2), .second] [])) _
        refine XS.iinc X0.here hx rfl (hb hby d13_31) rfl (l' := #[.val (.ref c_), .val (.int (0 : Int32)), .val (.int (3 : Int32)), .val (.int (1 : Int32)), .val (.int (2 : Int32)), .val (.long x2), .second]) rfl ?_
        show Steps p.tables e below (s₁.setTop (mkF m 34 #[.val (.ref c_), .val (.int (0 : Int32)), .val (.int (3 : Int32)), .val (.int (1 : Int32)), .val (.int (2 : Int32)), .val (.long x2), .second] [])) _
        refine XS.iloadN X0.here hx rfl (hb hby d13_34) rfl ?_
        show Steps p.tables e below (s₁.setTop (mkF m 35 #[.val (.ref c_), .val (.int (0 : Int32)), .val (.int (3 : Int32)), .val (.int (1 : Int32)), .val (.int (2 : Int32)), .val (.long x2), .second] [(.int (1 : Int32))])) _
        refine XS.iloadN X0.here hx rfl (hb hby d13_35) rfl ?_
        show Steps p.tables e below (s₁.setTop (mkF m 36 #[.val (.ref c_), .val (.int (0 : Int32)), .val (.int (3 : Int32)), .val (.int (1 : Int32)), .val (.int (2 : Int32)), .val (.long x2), .second] [(.int (0 : Int32)), (.int (1 : Int32))])) _
        refine XS.icmpNo X0.here hx rfl (hb hby d13_36) rfl (flt (by decide : ¬ ((1 : Int32) < (0 : Int32)))).1 ?_
        show Steps p.tables e below (s₁.setTop (mkF m 39 #[.val (.ref c_), .val (.int (0 : Int32)), .val (.int (3 : Int32)), .val (.int (1 : Int32)), .val (.int (2 : Int32)), .val (.long x2), .second] [])) _
        refine XS.lload X0.here hx rfl (hb hby d13_39) rfl ?_
        show Steps p.tables e below (s₁.setTop (mkF m 41 #[.val (.ref c_), .val (.int (0 : Int32)), .val (.int (3 : Int32)), .val (.int (1 : Int32)), .val (.int (2 : Int32)), .val (.long x2), .second] [(.long x2)])) _
        refine XS.aloadN X0.here hx rfl (hb hby d13_41) rfl rfl ?_
        show Steps p.tables e below (s₁.setTop (mkF m 42 #[.val (.ref c_), .val (.int (0 : Int32)), .val (.int (3 : Int32)), .val (.int (1 : Int32)), .val (.int (2 : Int32)), .val (.long x2), .second] [(.ref c_), (.long x2)])) _
        refine XS.iloadN X0.here hx rfl (hb hby d13_42) rfl ?_
        show Steps p.tables e below (s₁.setTop (mkF m 43 #[.val (.ref c_), .val (.int (0 : Int32)), .val (.int (3 : Int32)), .val (.int (1 : Int32)), .val (.int (2 : Int32)), .val (.long x2), .second] [(.int (1 : Int32)), (.ref c_), (.long x2)])) _
        refine X0.laload hx (j := (1 : Int32)) (v := (.long x1)) (by rw [e0]; exact Ar80.1) (State.isArrayOf_alike hZ.alike Ar80.2.1) Ar80.2.2 hin80 hat80 (g := (mkF m 43 #[.val (.ref c_), .val (.int (0 : Int32)), .val (.int (3 : Int32)), .val (.int (1 : Int32)), .val (.int (2 : Int32)), .val (.long x2), .second] [(.int (1 : Int32)), (.ref c_), (.long x2)])) rfl rfl (hb hby d13_43) _ ?_
        show Steps p.tables e below (s₁.setTop (mkF m 44 #[.val (.ref c_), .val (.int (0 : Int32)), .val (.int (3 : Int32)), .val (.int (1 : Int32)), .val (.int (2 : Int32)), .val (.long x2), .second] [(.long x1), (.long x2)])) _
        refine XS.lcmp X0.here hx rfl (hb hby d13_44) rfl ?_
        show Steps p.tables e below (s₁.setTop (mkF m 45 #[.val (.ref c_), .val (.int (0 : Int32)), .val (.int (3 : Int32)), .val (.int (1 : Int32)), .val (.int (2 : Int32)), .val (.long x2), .second] [(.int (lcmpW x2 x1))])) _
        refine XS.ifNo X0.here hx rfl (hb hby d13_45) rfl ((if0 _ _).trans (tlt ((lw_lt x2 x1).mpr hc28_78)).2.1) ?_
        show Steps p.tables e below (s₁.setTop (mkF m 48 #[.val (.ref c_), .val (.int (0 : Int32)), .val (.int (3 : Int32)), .val (.int (1 : Int32)), .val (.int (2 : Int32)), .val (.long x2), .second] [])) _
        refine XS.aloadN X0.here hx rfl (hb hby d13_48) rfl rfl ?_
        show Steps p.tables e below (s₁.setTop (mkF m 49 #[.val (.ref c_), .val (.int (0 : Int32)), .val (.int (3 : Int32)), .val (.int (1 : Int32)), .val (.int (2 : Int32)), .val (.long x2), .second] [(.ref c_)])) _
        refine XS.iloadN X0.here hx rfl (hb hby d13_49) rfl ?_
        show Steps p.tables e below (s₁.setTop (mkF m 50 #[.val (.ref c_), .val (.int (0 : Int32)), .val (.int (3 : Int32)), .val (.int (1 : Int32)), .val (.int (2 : Int32)), .val (.long x2), .second] [(.int (1 : Int32)), (.ref c_)])) _
        refine XS.iconst X0.here hx rfl (hb hby d13_50) ?_
        show Steps p.tables e below (s₁.setTop (mkF m 51 #[.val (.ref c_), .val (.int (0 : Int32)), .val (.int (3 : Int32)), .val (.int (1 : Int32)), .val (.int (2 : Int32)), .val (.long x2), .second] [(.int (1 : Int32)), (.int (1 : Int32)), (.ref c_)])) _
        refine XS.iadd X0.here hx rfl (hb hby d13_51) rfl ?_
        show Steps p.tables e below (s₁.setTop (mkF m 52 #[.val (.ref c_), .val (.int (0 : Int32)), .val (.int (3 : Int32)), .val (.int (1 : Int32)), .val (.int (2 : Int32)), .val (.long x2), .second] [(.int (2 : Int32)), (.ref c_)])) _
        refine XS.aloadN X0.here hx rfl (hb hby d13_52) rfl rfl ?_
        show Steps p.tables e below (s₁.setTop (mkF m 53 #[.val (.ref c_), .val (.int (0 : Int32)), .val (.int (3 : Int32)), .val (.int (1 : Int32)), .val (.int (2 : Int32)), .val (.long x2), .second] [(.ref c_), (.int (2 : Int32)), (.ref c_)])) _
        refine XS.iloadN X0.here hx rfl (hb hby d13_53) rfl ?_
        show Steps p.tables e below (s₁.setTop (mkF m 54 #[.val (.ref c_), .val (.int (0 : Int32)), .val (.int (3 : Int32)), .val (.int (1 : Int32)), .val (.int (2 : Int32)), .val (.long x2), .second] [(.int (1 : Int32)), (.ref c_), (.int (2 : Int32)), (.ref c_)])) _
        refine X0.laload hx (j := (1 : Int32)) (v := (.long x1)) (by rw [e0]; exact Ar81.1) (State.isArrayOf_alike hZ.alike Ar81.2.1) Ar81.2.2 hin81 hat81 (g := (mkF m 54 #[.val (.ref c_), .val (.int (0 : Int32)), .val (.int (3 : Int32)), .val (.int (1 : Int32)), .val (.int (2 : Int32)), .val (.long x2), .second] [(.int (1 : Int32)), (.ref c_), (.int (2 : Int32)), (.ref c_)])) rfl rfl (hb hby d13_54) _ ?_
        show Steps p.tables e below (s₁.setTop (mkF m 55 #[.val (.ref c_), .val (.int (0 : Int32)), .val (.int (3 : Int32)), .val (.int (1 : Int32)), .val (.int (2 : Int32)), .val (.long x2), .second] [(.long x1), (.int (2 : Int32)), (.ref c_)])) _
        refine st83 _ ?_
        show Steps p.tables e below (T83.setTop (mkF m 56 #[.val (.ref c_), .val (.int (0 : Int32)), .val (.int (3 : Int32)), .val (.int (1 : Int32)), .val (.int (2 : Int32)), .val (.long x2), .second] [])) _
        refine XS.goto X83.here hx rfl (pc0 := 56) (pc' := 31) rfl (hb hby d13_56) (by decide) (by decide) ?_
        show Steps p.tables e below (T83.setTop (mkF m 31 #[.val (.ref c_), .val (.int (0 : Int32)), .val (.int (3 : Int32)), .val (.int (1 : Int32)), .val (.int (2 : Int32)), .val (.long x2), .second] [])) _
        refine XS.iinc X83.here hx rfl (hb hby d13_31) rfl (l' := #[.val (.ref c_), .val (.int (0 : Int32)), .val (.int (3 : Int32)), .val (.int (0 : Int32)), .val (.int (2 : Int32)), .val (.long x2), .second]) rfl ?_
        show Steps p.tables e below (T83.setTop (mkF m 34 #[.val (.ref c_), .val (.int (0 : Int32)), .val (.int (3 : Int32)), .val (.int (0 : Int32)), .val (.int (2 : Int32)), .val (.long x2), .second] [])) _
        refine XS.iloadN X83.here hx rfl (hb hby d13_34) rfl ?_
        show Steps p.tables e below (T83.setTop (mkF m 35 #[.val (.ref c_), .val (.int (0 : Int32)), .val (.int (3 : Int32)), .val (.int (0 : Int32)), .val (.int (2 : Int32)), .val (.long x2), .second] [(.int (0 : Int32))])) _
        refine XS.iloadN X83.here hx rfl (hb hby d13_35) rfl ?_
        show Steps p.tables e below (T83.setTop (mkF m 36 #[.val (.ref c_), .val (.int (0 : Int32)), .val (.int (3 : Int32)), .val (.int (0 : Int32)), .val (.int (2 : Int32)), .val (.long x2), .second] [(.int (0 : Int32)), (.int (0 : Int32))])) _
        refine XS.icmpNo X83.here hx rfl (hb hby d13_36) rfl (flt (by decide : ¬ ((0 : Int32) < (0 : Int32)))).1 ?_
        show Steps p.tables e below (T83.setTop (mkF m 39 #[.val (.ref c_), .val (.int (0 : Int32)), .val (.int (3 : Int32)), .val (.int (0 : Int32)), .val (.int (2 : Int32)), .val (.long x2), .second] [])) _
        refine XS.lload X83.here hx rfl (hb hby d13_39) rfl ?_
        show Steps p.tables e below (T83.setTop (mkF m 41 #[.val (.ref c_), .val (.int (0 : Int32)), .val (.int (3 : Int32)), .val (.int (0 : Int32)), .val (.int (2 : Int32)), .val (.long x2), .second] [(.long x2)])) _
        refine XS.aloadN X83.here hx rfl (hb hby d13_41) rfl rfl ?_
        show Steps p.tables e below (T83.setTop (mkF m 42 #[.val (.ref c_), .val (.int (0 : Int32)), .val (.int (3 : Int32)), .val (.int (0 : Int32)), .val (.int (2 : Int32)), .val (.long x2), .second] [(.ref c_), (.long x2)])) _
        refine XS.iloadN X83.here hx rfl (hb hby d13_42) rfl ?_
        show Steps p.tables e below (T83.setTop (mkF m 43 #[.val (.ref c_), .val (.int (0 : Int32)), .val (.int (3 : Int32)), .val (.int (0 : Int32)), .val (.int (2 : Int32)), .val (.long x2), .second] [(.int (0 : Int32)), (.ref c_), (.long x2)])) _
        refine X83.laload hx (j := (0 : Int32)) (v := (.long x0)) (by rw [e83]; exact Ar84.1) (State.isArrayOf_alike hZ.alike Ar84.2.1) Ar84.2.2 hin84 hat84 (g := (mkF m 43 #[.val (.ref c_), .val (.int (0 : Int32)), .val (.int (3 : Int32)), .val (.int (0 : Int32)), .val (.int (2 : Int32)), .val (.long x2), .second] [(.int (0 : Int32)), (.ref c_), (.long x2)])) rfl rfl (hb hby d13_43) _ ?_
        show Steps p.tables e below (T83.setTop (mkF m 44 #[.val (.ref c_), .val (.int (0 : Int32)), .val (.int (3 : Int32)), .val (.int (0 : Int32)), .val (.int (2 : Int32)), .val (.long x2), .second] [(.long x0), (.long x2)])) _
        refine XS.lcmp X83.here hx rfl (hb hby d13_44) rfl ?_
        exact kk
      by_cases hc45_85 : x2 < x0
      · obtain ⟨cl87, Ar87, q87, S87, N87v, H87, G87⟩ := id Vw83
        have hin87 : ¬ ((0 : Int32) < 0 ∨ cl87.slots.size ≤ ((0 : Int32)).toNatClampNeg) := inb_of S87 ⟨by decide, by decide⟩
        have hat87 : cl87.slots[((0 : Int32)).toNatClampNeg]? = some (.long x0) := Has.at H87 hin87 rfl
        obtain ⟨cl88, Ar88, q88, S88, N88v, H88, G88⟩ := Vw83
        have hin88 : ¬ ((1 : Int32) < 0 ∨ cl88.slots.size ≤ ((1 : Int32)).toNatClampNeg) := inb_of S88 ⟨by decide, by decide⟩
        obtain ⟨T89, h89, X89, e89, W89, st89⟩ := stJ X83 hx hZ e83 Ar88 (j := (1 : Int32)) hin88 (g := (mkF m 55 #[.val (.ref c_), .val (.int (0 : Int32)), .val (.int (3 : Int32)), .val (.int (0 : Int32)), .val (.int (2 : Int32)), .val (.long x2), .second] [(.long x0), (.int (1 : Int32)), (.ref c_)])) rfl rfl (hb hby d13_55)
        have Vw89 : Arv Z h89 c_ kc_ .long (3 : Int32) [(.long x0), (.long x0), (.long x1)] (.long (0 : Int64)) := Arv.set Ar88 q88 S88 N88v H88 G88 rfl W89 1 rfl (Nat.le_of_ble_eq_true rfl)
        have KP89 : Keep h0 h89 [c_] := KP83.wr W89 (Or.inl (List.mem_of_getElem? (i := 0) rfl))
        have Z89 : n0 ≤ h89.size := Nat.le_trans Z83 (Nat.le_of_eq W89.size.symm)
        have N89 := Fr.snoc X89 N83 g_c_
        obtain ⟨cl90, Ar90, q90, S90, N90v, H90, G90⟩ := Vw89
        have hin90 : ¬ ((0 : Int32) < 0 ∨ cl90.slots.size ≤ ((0 : Int32)).toNatClampNeg) := inb_of S90 ⟨by decide, by decide⟩
        obtain ⟨T91, h91, X91, e91, W91, st91⟩ := stJ X89 hx hZ e89 Ar90 (j := (0 : Int32)) hin90 (g := (mkF m 65 #[.val (.ref c_), .val (.int (0 : Int32)), .val (.int (3 : Int32)), .val (.int (-1 : Int32)), .val (.int (2 : Int32)), .val (.long x2), .second] [(.long x2), (.int (0 : Int32)), (.ref c_)])) rfl rfl (hb hby d13_65)
        have Vw91 : Arv Z h91 c_ kc_ .long (3 : Int32) [(.long x2), (.long x0), (.long x1)] (.long (0 : Int64)) := Arv.set Ar90 q90 S90 N90v H90 G90 rfl W91 0 rfl (Nat.le_of_ble_eq_true rfl)
        have KP91 : Keep h0 h91 [c_] := KP89.wr W91 (Or.inl (List.mem_of_getElem? (i := 0) rfl))
        have Z91 : n0 ≤ h91.size := Nat.le_trans Z89 (Nat.le_of_eq W91.size.symm)
        have N91 := Fr.snoc X91 N89 g_c_
        have hl0 : (own_s3_0 x0 x1 x2) = x2 := ((if_neg hc28_47).trans ((if_pos hc28_78).trans (if_pos hc45_85)))
        have hl1 : (own_s3_1 x0 x1 x2) = x0 := ((if_neg hc28_47).trans ((if_pos hc28_78).trans (if_pos hc45_85)))
        have hl2 : (own_s3_2 x0 x1 x2) = x1 := ((if_neg hc28_47).trans ((if_pos hc28_78).trans (if_pos hc45_85)))
        have pre92 : ∀ t, Steps p.tables e below (T91.setTop (mkF m 69 #[.val (.ref c_), .val (.int (0 : Int32)), .val (.int (3 : Int32)), .val (.int (-1 : Int32)), .val (.int (3 : Int32)), .val (.long x2), .second] [])) t → Steps p.tables e below (s₁.setTop (entryFrame m #[(.ref c_), (.int (0 : Int32)), (.int (3 : Int32))] 7)) t := by
          intro t kk
          refine pre86 t ?_
          show Steps p.tables e below (T83.setTop (mkF m 45 #[.val (.ref c_), .val (.int (0 : Int32)), .val (.int (3 : Int32)), .val (.int (0 : Int32)), .val (.int (2 : Int32)), .val (.long x2), .second] [(.int (lcmpW x2 x0))])) _
          refine XS.ifNo X83.here hx rfl (hb hby d13_45) rfl ((if0 _ _).trans (tlt ((lw_lt x2 x0).mpr hc45_85)).2.1) ?_
          show Steps p.tables e below (T83.setTop (mkF m 48 #[.val (.ref c_), .val (.int (0 : Int32)), .val (.int (3 : Int32)), .val (.int (0 : Int32)), .val (.int (2 : Int32)), .val (.long x2), .second] [])) _
          refine XS.aloadN X83.here hx rfl (hb hby d13_48) rfl rfl ?_
          show Steps p.tables e below (T83.setTop (mkF m 49 #[.val (.ref c_), .val (.int (0 : Int32)), .val (.int (3 : Int32)), .val (.int (0 : Int32)), .val (.int (2 : Int32)), .val (.long x2), .second] [(.ref c_)])) _
          refine XS.iloadN X83.here hx rfl (hb hby d13_49) rfl ?_
          show Steps p.tables e below (T83.setTop (mkF m 50 #[.val (.ref c_), .val (.int (0 : Int32)), .val (.int (3 : Int32)), .val (.int (0 : Int32)), .val (.int (2 : Int32)), .val (.long x2), .second] [(.int (0 : Int32)), (.ref c_)])) _
          refine XS.iconst X83.here hx rfl (hb hby d13_50) ?_
          show Steps p.tables e below (T83.setTop (mkF m 51 #[.val (.ref c_), .val (.int (0 : Int32)), .val (.int (3 : Int32)), .val (.int (0 : Int32)), .val (.int (2 : Int32)), .val (.long x2), .second] [(.int (1 : Int32)), (.int (0 : Int32)), (.ref c_)])) _
          refine XS.iadd X83.here hx rfl (hb hby d13_51) rfl ?_
          show Steps p.tables e below (T83.setTop (mkF m 52 #[.val (.ref c_), .val (.int (0 : Int32)), .val (.int (3 : Int32)), .val (.int (0 : Int32)), .val (.int (2 : Int32)), .val (.long x2), .second] [(.int (1 : Int32)), (.ref c_)])) _
          refine XS.aloadN X83.here hx rfl (hb hby d13_52) rfl rfl ?_
          show Steps p.tables e below (T83.setTop (mkF m 53 #[.val (.ref c_), .val (.int (0 : Int32)), .val (.int (3 : Int32)), .val (.int (0 : Int32)), .val (.int (2 : Int32)), .val (.long x2), .second] [(.ref c_), (.int (1 : Int32)), (.ref c_)])) _
          refine XS.iloadN X83.here hx rfl (hb hby d13_53) rfl ?_
          show Steps p.tables e below (T83.setTop (mkF m 54 #[.val (.ref c_), .val (.int (0 : Int32)), .val (.int (3 : Int32)), .val (.int (0 : Int32)), .val (.int (2 : Int32)), .val (.long x2), .second] [(.int (0 : Int32)), (.ref c_), (.int (1 : Int32)), (.ref c_)])) _
          refine X83.laload hx (j := (0 : Int32)) (v := (.long x0)) (by rw [e83]; exact Ar87.1) (State.isArrayOf_alike hZ.alike Ar87.2.1) Ar87.2.2 hin87 hat87 (g := (mkF m 54 #[.val (.ref c_), .val (.int (0 : Int32)), .val (.int (3 : Int32)), .val (.int (0 : Int32)), .val (.int (2 : Int32)), .val (.long x2), .second] [(.int (0 : Int32)), (.ref c_), (.int (1 : Int32)), (.ref c_)])) rfl rfl (hb hby d13_54) _ ?_
          show Steps p.tables e below (T83.setTop (mkF m 55 #[.val (.ref c_), .val (.int (0 : Int32)), .val (.int (3 : Int32)), .val (.int (0 : Int32)), .val (.int (2 : Int32)), .val (.long x2), .second] [(.long x0), (.int (1 : Int32)), (.ref c_)])) _
          refine st89 _ ?_
          show Steps p.tables e below (T89.setTop (mkF m 56 #[.val (.ref c_), .val (.int (0 : Int32)), .val (.int (3 : Int32)), .val (.int (0 : Int32)), .val (.int (2 : Int32)), .val (.long x2), .second] [])) _
          refine XS.goto X89.here hx rfl (pc0 := 56) (pc' := 31) rfl (hb hby d13_56) (by decide) (by decide) ?_
          show Steps p.tables e below (T89.setTop (mkF m 31 #[.val (.ref c_), .val (.int (0 : Int32)), .val (.int (3 : Int32)), .val (.int (0 : Int32)), .val (.int (2 : Int32)), .val (.long x2), .second] [])) _
          refine XS.iinc X89.here hx rfl (hb hby d13_31) rfl (l' := #[.val (.ref c_), .val (.int (0 : Int32)), .val (.int (3 : Int32)), .val (.int (-1 : Int32)), .val (.int (2 : Int32)), .val (.long x2), .second]) rfl ?_
          show Steps p.tables e below (T89.setTop (mkF m 34 #[.val (.ref c_), .val (.int (0 : Int32)), .val (.int (3 : Int32)), .val (.int (-1 : Int32)), .val (.int (2 : Int32)), .val (.long x2), .second] [])) _
          refine XS.iloadN X89.here hx rfl (hb hby d13_34) rfl ?_
          show Steps p.tables e below (T89.setTop (mkF m 35 #[.val (.ref c_), .val (.int (0 : Int32)), .val (.int (3 : Int32)), .val (.int (-1 : Int32)), .val (.int (2 : Int32)), .val (.long x2), .second] [(.int (-1 : Int32))])) _
          refine XS.iloadN X89.here hx rfl (hb hby d13_35) rfl ?_
          show Steps p.tables e below (T89.setTop (mkF m 36 #[.val (.ref c_), .val (.int (0 : Int32)), .val (.int (3 : Int32)), .val (.int (-1 : Int32)), .val (.int (2 : Int32)), .val (.long x2), .second] [(.int (0 : Int32)), (.int (-1 : Int32))])) _
          refine XS.icmpYes X89.here hx rfl (pc0 := 36) (pc' := 59) rfl (hb hby d13_36) rfl (tlt (by decide : (-1 : Int32) < (0 : Int32))).1 (by decide) (by decide) ?_
          show Steps p.tables e below (T89.setTop (mkF m 59 #[.val (.ref c_), .val (.int (0 : Int32)), .val (.int (3 : Int32)), .val (.int (-1 : Int32)), .val (.int (2 : Int32)), .val (.long x2), .second] [])) _
          refine XS.aloadN X89.here hx rfl (hb hby d13_59) rfl rfl ?_
          show Steps p.tables e below (T89.setTop (mkF m 60 #[.val (.ref c_), .val (.int (0 : Int32)), .val (.int (3 : Int32)), .val (.int (-1 : Int32)), .val (.int (2 : Int32)), .val (.long x2), .second] [(.ref c_)])) _
          refine XS.iloadN X89.here hx rfl (hb hby d13_60) rfl ?_
          show Steps p.tables e below (T89.setTop (mkF m 61 #[.val (.ref c_), .val (.int (0 : Int32)), .val (.int (3 : Int32)), .val (.int (-1 : Int32)), .val (.int (2 : Int32)), .val (.long x2), .second] [(.int (-1 : Int32)), (.ref c_)])) _
          refine XS.iconst X89.here hx rfl (hb hby d13_61) ?_
          show Steps p.tables e below (T89.setTop (mkF m 62 #[.val (.ref c_), .val (.int (0 : Int32)), .val (.int (3 : Int32)), .val (.int (-1 : Int32)), .val (.int (2 : Int32)), .val (.long x2), .second] [(.int (1 : Int32)), (.int (-1 : Int32)), (.ref c_)])) _
          refine XS.iadd X89.here hx rfl (hb hby d13_62) rfl ?_
          show Steps p.tables e below (T89.setTop (mkF m 63 #[.val (.ref c_), .val (.int (0 : Int32)), .val (.int (3 : Int32)), .val (.int (-1 : Int32)), .val (.int (2 : Int32)), .val (.long x2), .second] [(.int (0 : Int32)), (.ref c_)])) _
          refine XS.lload X89.here hx rfl (hb hby d13_63) rfl ?_
          show Steps p.tables e below (T89.setTop (mkF m 65 #[.val (.ref c_), .val (.int (0 : Int32)), .val (.int (3 : Int32)), .val (.int (-1 : Int32)), .val (.int (2 : Int32)), .val (.long x2), .second] [(.long x2), (.int (0 : Int32)), (.ref c_)])) _
          refine st91 _ ?_
          show Steps p.tables e below (T91.setTop (mkF m 66 #[.val (.ref c_), .val (.int (0 : Int32)), .val (.int (3 : Int32)), .val (.int (-1 : Int32)), .val (.int (2 : Int32)), .val (.long x2), .second] [])) _
          refine XS.goto X91.here hx rfl (pc0 := 66) (pc' := 3) rfl (hb hby d13_66) (by decide) (by decide) ?_
          show Steps p.tables e below (T91.setTop (mkF m 3 #[.val (.ref c_), .val (.int (0 : Int32)), .val (.int (3 : Int32)), .val (.int (-1 : Int32)), .val (.int (2 : Int32)), .val (.long x2), .second] [])) _
          refine XS.iinc X91.here hx rfl (hb hby d13_3) rfl (l' := #[.val (.ref c_), .val (.int (0 : Int32)), .val (.int (3 : Int32)), .val (.int (-1 : Int32)), .val (.int (3 : Int32)), .val (.long x2), .second]) rfl ?_
          show Steps p.tables e below (T91.setTop (mkF m 6 #[.val (.ref c_), .val (.int (0 : Int32)), .val (.int (3 : Int32)), .val (.int (-1 : Int32)), .val (.int (3 : Int32)), .val (.long x2), .second] [])) _
          refine XS.iload X91.here hx rfl (hb hby d13_6) rfl ?_
          show Steps p.tables e below (T91.setTop (mkF m 8 #[.val (.ref c_), .val (.int (0 : Int32)), .val (.int (3 : Int32)), .val (.int (-1 : Int32)), .val (.int (3 : Int32)), .val (.long x2), .second] [(.int (3 : Int32))])) _
          refine XS.iloadN X91.here hx rfl (hb hby d13_8) rfl ?_
          show Steps p.tables e below (T91.setTop (mkF m 9 #[.val (.ref c_), .val (.int (0 : Int32)), .val (.int (3 : Int32)), .val (.int (-1 : Int32)), .val (.int (3 : Int32)), .val (.long x2), .second] [(.int (3 : Int32)), (.int (3 : Int32))])) _
          refine XS.icmpYes X91.here hx rfl (pc0 := 9) (pc' := 69) rfl (hb hby d13_9) rfl (flt (by decide : ¬ ((3 : Int32) < (3 : Int32)))).2.1 (by decide) (by decide) ?_
          exact kk
        obtain ⟨fs, hr, hrun, hended, hW, hsame⟩ := X91.leave (v := none) (fun _ => rfl)
        refine ⟨_, _, pre92 _ ?_, hrun, hended, _, _, rfl, ?_, ⟨_, rfl⟩, hW, hsame.mono (by decide) (by decide)⟩
        · show Steps p.tables e below (T91.setTop (mkF m 69 #[.val (.ref c_), .val (.int (0 : Int32)), .val (.int (3 : Int32)), .val (.int (-1 : Int32)), .val (.int (3 : Int32)), .val (.long x2), .second] [])) _
          exact X91.returnOut hx Bd.returns (hb hby d13_69) hr
        · show Q13_3 Z c_ kc_ x0 x1 x2 h0 n0 _ T91.heap _
          rw [e91]
          exact ⟨rfl, N91, KP91, by rw [hl0, hl1, hl2]; exact Vw91⟩
      · obtain ⟨cl93, Ar93, q93, S93, N93v, H93, G93⟩ := Vw83
        have hin93 : ¬ ((1 : Int32) < 0 ∨ cl93.slots.size ≤ ((1 : Int32)).toNatClampNeg) := inb_of S93 ⟨by decide, by decide⟩
        obtain ⟨T94, h94, X94, e94, W94, st94⟩ := stJ X83 hx hZ e83 Ar93 (j := (1 : Int32)) hin93 (g := (mkF m 65 #[.val (.ref c_), .val (.int (0 : Int32)), .val (.int (3 : Int32)), .val (.int (0 : Int32)), .val (.int (2 : Int32)), .val (.long x2), .second] [(.long x2), (.int (1 : Int32)), (.ref c_)])) rfl rfl (hb hby d13_65)
        have Vw94 : Arv Z h94 c_ kc_ .long (3 : Int32) [(.long x0), (.long x2), (.long x1)] (.long (0 : Int64)) := Arv.set Ar93 q93 S93 N93v H93 G93 rfl W94 1 rfl (Nat.le_of_ble_eq_true rfl)
        have KP94 : Keep h0 h94 [c_] := KP83.wr W94 (Or.inl (List.mem_of_getElem? (i := 0) rfl))
        have Z94 : n0 ≤ h94.size := Nat.le_trans Z83 (Nat.le_of_eq W94.size.symm)
        have N94 := Fr.snoc X94 N83 g_c_
        have hl0 : (own_s3_0 x0 x1 x2) = x0 := ((if_neg hc28_47).trans ((if_pos hc28_78).trans (if_neg hc45_85)))
        have hl1 : (own_s3_1 x0 x1 x2) = x2 := ((if_neg hc28_47).trans ((if_pos hc28_78).trans (if_neg hc45_85)))
        have hl2 : (own_s3_2 x0 x1 x2) = x1 := ((if_neg hc28_47).trans ((if_pos hc28_78).trans (if_neg hc45_85)))
        have pre95 : ∀ t, Steps p.tables e below (T94.setTop (mkF m 69 #[.val (.ref c_), .val (.int (0 : Int32)), .val (.int (3 : Int32)), .val (.int (0 : Int32)), .val (.int (3 : Int32)), .val (.long x2), .second] [])) t → Steps p.tables e below (s₁.setTop (entryFrame m #[(.ref c_), (.int (0 : Int32)), (.int (3 : Int32))] 7)) t := by
          intro t kk
          refine pre86 t ?_
          show Steps p.tables e below (T83.setTop (mkF m 45 #[.val (.ref c_), .val (.int (0 : Int32)), .val (.int (3 : Int32)), .val (.int (0 : Int32)), .val (.int (2 : Int32)), .val (.long x2), .second] [(.int (lcmpW x2 x0))])) _
          refine XS.ifYes X83.here hx rfl (pc0 := 45) (pc' := 59) rfl (hb hby d13_45) rfl ((if0 _ _).trans (flt (fun q => hc45_85 ((lw_lt x2 x0).mp q))).2.1) (by decide) (by decide) ?_
          show Steps p.tables e below (T83.setTop (mkF m 59 #[.val (.ref c_), .val (.int (0 : Int32)), .val (.int (3 : Int32)), .val (.int (0 : Int32)), .val (.int (2 : Int32)), .val (.long x2), .second] [])) _
          refine XS.aloadN X83.here hx rfl (hb hby d13_59) rfl rfl ?_
          show Steps p.tables e below (T83.setTop (mkF m 60 #[.val (.ref c_), .val (.int (0 : Int32)), .val (.int (3 : Int32)), .val (.int (0 : Int32)), .val (.int (2 : Int32)), .val (.long x2), .second] [(.ref c_)])) _
          refine XS.iloadN X83.here hx rfl (hb hby d13_60) rfl ?_
          show Steps p.tables e below (T83.setTop (mkF m 61 #[.val (.ref c_), .val (.int (0 : Int32)), .val (.int (3 : Int32)), .val (.int (0 : Int32)), .val (.int (2 : Int32)), .val (.long x2), .second] [(.int (0 : Int32)), (.ref c_)])) _
          refine XS.iconst X83.here hx rfl (hb hby d13_61) ?_
          show Steps p.tables e below (T83.setTop (mkF m 62 #[.val (.ref c_), .val (.int (0 : Int32)), .val (.int (3 : Int32)), .val (.int (0 : Int32)), .val (.int (2 : Int32)), .val (.long x2), .second] [(.int (1 : Int32)), (.int (0 : Int32)), (.ref c_)])) _
          refine XS.iadd X83.here hx rfl (hb hby d13_62) rfl ?_
          show Steps p.tables e below (T83.setTop (mkF m 63 #[.val (.ref c_), .val (.int (0 : Int32)), .val (.int (3 : Int32)), .val (.int (0 : Int32)), .val (.int (2 : Int32)), .val (.long x2), .second] [(.int (1 : Int32)), (.ref c_)])) _
          refine XS.lload X83.here hx rfl (hb hby d13_63) rfl ?_
          show Steps p.tables e below (T83.setTop (mkF m 65 #[.val (.ref c_), .val (.int (0 : Int32)), .val (.int (3 : Int32)), .val (.int (0 : Int32)), .val (.int (2 : Int32)), .val (.long x2), .second] [(.long x2), (.int (1 : Int32)), (.ref c_)])) _
          refine st94 _ ?_
          show Steps p.tables e below (T94.setTop (mkF m 66 #[.val (.ref c_), .val (.int (0 : Int32)), .val (.int (3 : Int32)), .val (.int (0 : Int32)), .val (.int (2 : Int32)), .val (.long x2), .second] [])) _
          refine XS.goto X94.here hx rfl (pc0 := 66) (pc' := 3) rfl (hb hby d13_66) (by decide) (by decide) ?_
          show Steps p.tables e below (T94.setTop (mkF m 3 #[.val (.ref c_), .val (.int (0 : Int32)), .val (.int (3 : Int32)), .val (.int (0 : Int32)), .val (.int (2 : Int32)), .val (.long x2), .second] [])) _
          refine XS.iinc X94.here hx rfl (hb hby d13_3) rfl (l' := #[.val (.ref c_), .val (.int (0 : Int32)), .val (.int (3 : Int32)), .val (.int (0 : Int32)), .val (.int (3 : Int32)), .val (.long x2), .second]) rfl ?_
          show Steps p.tables e below (T94.setTop (mkF m 6 #[.val (.ref c_), .val (.int (0 : Int32)), .val (.int (3 : Int32)), .val (.int (0 : Int32)), .val (.int (3 : Int32)), .val (.long x2), .second] [])) _
          refine XS.iload X94.here hx rfl (hb hby d13_6) rfl ?_
          show Steps p.tables e below (T94.setTop (mkF m 8 #[.val (.ref c_), .val (.int (0 : Int32)), .val (.int (3 : Int32)), .val (.int (0 : Int32)), .val (.int (3 : Int32)), .val (.long x2), .second] [(.int (3 : Int32))])) _
          refine XS.iloadN X94.here hx rfl (hb hby d13_8) rfl ?_
          show Steps p.tables e below (T94.setTop (mkF m 9 #[.val (.ref c_), .val (.int (0 : Int32)), .val (.int (3 : Int32)), .val (.int (0 : Int32)), .val (.int (3 : Int32)), .val (.long x2), .second] [(.int (3 : Int32)), (.int (3 : Int32))])) _
          refine XS.icmpYes X94.here hx rfl (pc0 := 9) (pc' := 69) rfl (hb hby d13_9) rfl (flt (by decide : ¬ ((3 : Int32) < (3 : Int32)))).2.1 (by decide) (by decide) ?_
          exact kk
        obtain ⟨fs, hr, hrun, hended, hW, hsame⟩ := X94.leave (v := none) (fun _ => rfl)
        refine ⟨_, _, pre95 _ ?_, hrun, hended, _, _, rfl, ?_, ⟨_, rfl⟩, hW, hsame.mono (by decide) (by decide)⟩
        · show Steps p.tables e below (T94.setTop (mkF m 69 #[.val (.ref c_), .val (.int (0 : Int32)), .val (.int (3 : Int32)), .val (.int (0 : Int32)), .val (.int (3 : Int32)), .val (.long x2), .second] [])) _
          exact X94.returnOut hx Bd.returns (hb hby d13_69) hr
        · show Q13_3 Z c_ kc_ x0 x1 x2 h0 n0 _ T94.heap _
          rw [e94]
          exact ⟨rfl, N94, KP94, by rw [hl0, hl1, hl2]; exact Vw94⟩
    · have hl0 : (own_s3_0 x0 x1 x2) = x0 := ((if_neg hc28_47).trans (if_neg hc28_78))
      have hl1 : (own_s3_1 x0 x1 x2) = x1 := ((if_neg hc28_47).trans (if_neg hc28_78))
      have hl2 : (own_s3_2 x0 x1 x2) = x2 := ((if_neg hc28_47).trans (if_neg hc28_78))
      have pre96 : ∀ t, Steps p.tables e below (s₁.setTop (mkF m 69 #[.val (.ref c_), .val (.int (0 : Int32)), .val (.int (3 : Int32)), .val (.int (2 : Int32)), .val (.int (3 : Int32)), .val (.long x2), .second] [])) t → Steps p.tables e below (s₁.setTop (entryFrame m #[(.ref c_), (.int (0 : Int32)), (.int (3 : Int32))] 7)) t := by
        intro t kk
        refine pre79 t ?_
        show Steps p.tables e below (s₁.setTop (mkF m 28 #[.val (.ref c_), .val (.int (0 : Int32)), .val (.int (3 : Int32)), .val (.int (2 : Int32)), .val (.int (2 : Int32)), .val (.long x2), .second] [(.int (lcmpW x2 x1))])) _
        refine XS.ifYes X0.here hx rfl (pc0 := 28) (pc' := 66) rfl (hb hby d13_28) rfl ((if0 _ _).trans (flt (fun q => hc28_78 ((lw_lt x2 x1).mp q))).2.1) (by decide) (by decide) ?_
        show Steps p.tables e below (s₁.setTop (mkF m 66 #[.val (.ref c_), .val (.int (0 : Int32)), .val (.int (3 : Int32)), .val (.int (2 : Int32)), .val (.int (2 : Int32)), .val (.long x2), .second] [])) _
        refine XS.goto X0.here hx rfl (pc0 := 66) (pc' := 3) rfl (hb hby d13_66) (by decide) (by decide) ?_
        show Steps p.tables e below (s₁.setTop (mkF m 3 #[.val (.ref c_), .val (.int (0 : Int32)), .val (.int (3 : Int32)), .val (.int (2 : Int32)), .val (.int (2 : Int32)), .val (.long x2), .second] [])) _
        refine XS.iinc X0.here hx rfl (hb hby d13_3) rfl (l' := #[.val (.ref c_), .val (.int (0 : Int32)), .val (.int (3 : Int32)), .val (.int (2 : Int32)), .val (.int (3 : Int32)), .val (.long x2), .second]) rfl ?_
        show Steps p.tables e below (s₁.setTop (mkF m 6 #[.val (.ref c_), .val (.int (0 : Int32)), .val (.int (3 : Int32)), .val (.int (2 : Int32)), .val (.int (3 : Int32)), .val (.long x2), .second] [])) _
        refine XS.iload X0.here hx rfl (hb hby d13_6) rfl ?_
        show Steps p.tables e below (s₁.setTop (mkF m 8 #[.val (.ref c_), .val (.int (0 : Int32)), .val (.int (3 : Int32)), .val (.int (2 : Int32)), .val (.int (3 : Int32)), .val (.long x2), .second] [(.int (3 : Int32))])) _
        refine XS.iloadN X0.here hx rfl (hb hby d13_8) rfl ?_
        show Steps p.tables e below (s₁.setTop (mkF m 9 #[.val (.ref c_), .val (.int (0 : Int32)), .val (.int (3 : Int32)), .val (.int (2 : Int32)), .val (.int (3 : Int32)), .val (.long x2), .second] [(.int (3 : Int32)), (.int (3 : Int32))])) _
        refine XS.icmpYes X0.here hx rfl (pc0 := 9) (pc' := 69) rfl (hb hby d13_9) rfl (flt (by decide : ¬ ((3 : Int32) < (3 : Int32)))).2.1 (by decide) (by decide) ?_
        exact kk
      obtain ⟨fs, hr, hrun, hended, hW, hsame⟩ := X0.leave (v := none) (fun _ => rfl)
      refine ⟨_, _, pre96 _ ?_, hrun, hended, _, _, rfl, ?_, ⟨_, rfl⟩, hW, hsame.mono (by decide) (by decide)⟩
      · show Steps p.tables e below (s₁.setTop (mkF m 69 #[.val (.ref c_), .val (.int (0 : Int32)), .val (.int (3 : Int32)), .val (.int (2 : Int32)), .val (.int (3 : Int32)), .val (.long x2), .second] [])) _
        exact X0.returnOut hx Bd.returns (hb hby d13_69) hr
      · show Q13_3 Z c_ kc_ x0 x1 x2 h0 n0 _ s₁.heap _
        rw [e0]
        exact ⟨rfl, N0, KP0, by rw [hl0, hl1, hl2]; exact V_c⟩
theorem pd__28_5bJII_29V : parseMethodDescriptor "([JII)V" = some ⟨[(.array .long), .int, .int], none⟩ := by decide +kernel
theorem d12_0 : decode jdk_2529_method_13_code 0 = .ok (.iload 4, 2) := by decide +kernel
theorem d12_2 : decode jdk_2529_method_13_code 2 = .ok (.iconst 1, 1) := by decide +kernel
theorem d12_3 : decode jdk_2529_method_13_code 3 = .ok (.isub, 1) := by decide +kernel
theorem d12_4 : decode jdk_2529_method_13_code 4 = .ok (.istore 5, 2) := by decide +kernel
theorem d12_6 : decode jdk_2529_method_13_code 6 = .ok (.iload 4, 2) := by decide +kernel
theorem d12_8 : decode jdk_2529_method_13_code 8 = .ok (.iload_n 3, 1) := by decide +kernel
theorem d12_9 : decode jdk_2529_method_13_code 9 = .ok (.isub, 1) := by decide +kernel
theorem d12_10 : decode jdk_2529_method_13_code 10 = .ok (.istore 6, 2) := by decide +kernel
theorem d12_12 : decode jdk_2529_method_13_code 12 = .ok (.iload 6, 2) := by decide +kernel
theorem d12_14 : decode jdk_2529_method_13_code 14 = .ok (.bipush 65, 2) := by decide +kernel
theorem d12_16 : decode jdk_2529_method_13_code 16 = .ok (.iload_n 2, 1) := by decide +kernel
theorem d12_17 : decode jdk_2529_method_13_code 17 = .ok (.iadd, 1) := by decide +kernel
theorem d12_18 : decode jdk_2529_method_13_code 18 = .ok (.if_icmp .ge 28, 3) := by decide +kernel
theorem d12_21 : decode jdk_2529_method_13_code 21 = .ok (.iload_n 2, 1) := by decide +kernel
theorem d12_22 : decode jdk_2529_method_13_code 22 = .ok (.iconst 1, 1) := by decide +kernel
theorem d12_23 : decode jdk_2529_method_13_code 23 = .ok (.iand, 1) := by decide +kernel
theorem d12_24 : decode jdk_2529_method_13_code 24 = .ok (.ifCond .le 22, 3) := by decide +kernel
theorem d12_46 : decode jdk_2529_method_13_code 46 = .ok (.iload 6, 2) := by decide +kernel
theorem d12_48 : decode jdk_2529_method_13_code 48 = .ok (.bipush 44, 2) := by decide +kernel
theorem d12_50 : decode jdk_2529_method_13_code 50 = .ok (.if_icmp .ge 11, 3) := by decide +kernel
theorem d12_53 : decode jdk_2529_method_13_code 53 = .ok (.aload_n 1, 1) := by decide +kernel
theorem d12_54 : decode jdk_2529_method_13_code 54 = .ok (.iload_n 3, 1) := by decide +kernel
theorem d12_55 : decode jdk_2529_method_13_code 55 = .ok (.iload 4, 2) := by decide +kernel
theorem d12_57 : decode jdk_2529_method_13_code 57 = .ok (.invokestatic 105, 3) := by decide +kernel
theorem d12_60 : decode jdk_2529_method_13_code 60 = .ok (.return_, 1) := by decide +kernel
theorem ef_12_nRIII (m : MethodId) (x1 : Addr) (x2 : Int32) (x3 : Int32) (x4 : Int32) : entryFrame m #[.null, (.ref x1), (.int x2), (.int x3), (.int x4)] 25 = mkF m 0 #[.val .null, .val (.ref x1), .val (.int x2), .val (.int x3), .val (.int x4), .unset, .unset, .unset, .unset, .unset, .unset, .unset, .unset, .unset, .unset, .unset, .unset, .unset, .unset, .unset, .unset, .unset, .unset, .unset, .unset] [] := by first | (simp [entryFrame, mkF, argsToLocals, Value.category]; done) | rfl
def Q12_1 (Z : State) (c_ : Addr) (kc_ : ClassId) (x0 : Int64) (h0 : Heap) (n0 : Nat) (v : Option Value) (h : Heap) (L : List Loc) : Prop := v = none ∧ Fr n0 L ∧ Keep h0 h [c_] ∧ Arv Z h c_ kc_ .long (1 : Int32) [(.long x0)] (.long (0 : Int64))
set_option maxRecDepth 65536 in
set_option maxHeartbeats 40000000 in
theorem rm12_1 (l : Launch) (Z : State) (aA : Array Value) (hw : ∀ d ∈ tables_1, d.before aA Z = true) (ws : List Jvm.Cond) (c_ : Addr) (kc_ : ClassId) (x0 : Int64) (h0 : Heap) (n0 : Nat) (Z0 : n0 ≤ h0.size) (g_c_ : n0 ≤ c_) (V_c : Arv Z h0 c_ kc_ .long (1 : Int32) [(.long x0)] (.long (0 : Int64))) :
    MetFree l (⟨"java/util/DualPivotQuicksort", "sort", "(Ljava/util/DualPivotQuicksort$Sorter;[JIII)V"⟩ : MethodName) (head1 (Jvm.Cond.code (⟨"java/util/DualPivotQuicksort", "sort", "(Ljava/util/DualPivotQuicksort$Sorter;[JIII)V"⟩ : MethodName) jdk_2529_method_13_code 25 none :: ws) ({ frames := 1, cells := 0, slots := 0, locals := 18 } : Room)) (fun a U => a = #[.null, (.ref c_), (.int (0 : Int32)), (.int (0 : Int32)), (.int (1 : Int32))] ∧ Z.Warmed39 U.vm ∧ U.heap = h0) (fun _ _ _ _ _ => True) (fun _ U o U' => ∃ v L, o = .returned v ∧ Q12_1 Z c_ kc_ x0 h0 n0 v U'.heap L ∧ FrameEnd U o U' L ({ frames := 1, cells := 0, slots := 0, locals := 18 } : Room).cells ({ frames := 1, cells := 0, slots := 0, locals := 18 } : Room).slots) := by
  refine MetFree.of_bodySF (plainFor_of_name pn_java_util_DualPivotQuicksort) hisR ?_
  intro p e s m args below meth c s₁ Bd hml0 hP hK
  obtain ⟨rfl, hZ, hh⟩ := hP
  have hx := Bd.exec
  have hby := Bd.bytes
  have hml : c.maxLocals = 25 := hml0
  have hown : s.vm.findClass "java/util/DualPivotQuicksort" = some m.cls := findClass_of_methodNamed Bd.named
  have hnm := (name_of_methodNamed Bd.named Bd.method).1
  have X0 : Stand p l e ({ frames := 1, cells := 0, slots := 0, locals := 18 } : Room) s m #[.null, (.ref c_), (.int (0 : Int32)), (.int (0 : Int32)), (.int (1 : Int32))] below meth c s₁ [] 0 0 := Stand.of_body Bd
  have e0 : s₁.heap = h0 := by rw [← hh, Bd.state]; rfl
  have N0 := Fr.nil n0
  have KP0 : Keep h0 h0 [c_] := Keep.refl h0 _
  have pre0 : ∀ t, Steps p.tables e below (s₁.setTop (mkF m 0 #[.val .null, .val (.ref c_), .val (.int (0 : Int32)), .val (.int (0 : Int32)), .val (.int (1 : Int32)), .unset, .unset, .unset, .unset, .unset, .unset, .unset, .unset, .unset, .unset, .unset, .unset, .unset, .unset, .unset, .unset, .unset, .unset, .unset, .unset] [])) t → Steps p.tables e below (s₁.setTop (entryFrame m #[.null, (.ref c_), (.int (0 : Int32)), (.int (0 : Int32)), (.int (1 : Int32))] 25)) t := fun t k => castTop (ef_12_nRIII m c_ (0 : Int32) (0 : Int32) (1 : Int32)) k
  obtain ⟨_, _, ⟨T97, L97, k97, n97⟩, -, X97, ⟨Lc97, hQ97, l97, y97, z97⟩, st97⟩ := Jvm.LawKit.callS X0 hx (y := (⟨"java/util/DualPivotQuicksort", "insertionSort", "([JII)V"⟩ : MethodName)) hown (mvT hZ (hw _ (List.mem_of_getElem? (i := 57) rfl))) (mvT hZ (hw _ (List.mem_of_getElem? (i := 58) rfl))) (mvT hZ (hw _ (List.mem_of_getElem? (i := 52) rfl))) (mvT hZ (hw _ (List.mem_of_getElem? (i := 59) rfl))) (by decide) (backOf (W := 0) (rm13_1 l Z aA hw [] c_ kc_ x0 h0 n0 Z0 g_c_ V_c) hZ (hw _ (List.mem_of_getElem? (i := 59) rfl)) (hw _ (List.mem_of_getElem? (i := 52) rfl)) (by decide) (by decide)) (g := (mkF m 57 #[.val .null, .val (.ref c_), .val (.int (0 : Int32)), .val (.int (0 : Int32)), .val (.int (1 : Int32)), .val (.int (0 : Int32)), .val (.int (1 : Int32)), .unset, .unset, .unset, .unset, .unset, .unset, .unset, .unset, .unset, .unset, .unset, .unset, .unset, .unset, .unset, .unset, .unset, .unset] [(.int (1 : Int32)), (.int (0 : Int32)), (.ref c_)])) rfl (by rw [hml]; rfl) (argsL := [(.ref c_), (.int (0 : Int32)), (.int (1 : Int32))]) (rest := []) (lenOf pd__28_5bJII_29V rfl) rfl (by show 2 * 0 + _ ≤ _; exact Nat.le_of_eq rfl) (hb hby d12_57) (fun _ _ => ⟨rfl, e0, (by decide : 0 + 0 ≤ _), (by decide : 0 + 0 ≤ _)⟩)
  dsimp only [Pt.U, Pt.locs, Pt.cells, Pt.slots] at X97 l97 y97 z97 st97 hQ97
  subst l97 y97 z97
  obtain ⟨rfl, N97q, K97, Vq97⟩ := hQ97
  have N97 := Fr.app N0 N97q
  have KP97 : Keep h0 T97.heap [c_] := KP0.trans K97 (allS (Or.inl (List.mem_of_getElem? (i := 0) rfl)) all0)
  have Z97 : n0 ≤ T97.heap.size := Nat.le_trans Z0 K97.1
  have pre98 : ∀ t, Steps p.tables e below (T97.setTop (mkF m 60 #[.val .null, .val (.ref c_), .val (.int (0 : Int32)), .val (.int (0 : Int32)), .val (.int (1 : Int32)), .val (.int (0 : Int32)), .val (.int (1 : Int32)), .unset, .unset, .unset, .unset, .unset, .unset, .unset, .unset, .unset, .unset, .unset, .unset, .unset, .unset, .unset, .unset, .unset, .unset] [])) t → Steps p.tables e below (s₁.setTop (entryFrame m #[.null, (.ref c_), (.int (0 : Int32)), (.int (0 : Int32)), (.int (1 : Int32))] 25)) t := by
    intro t kk
    refine pre0 t ?_
    show Steps p.tables e below (s₁.setTop (mkF m 0 #[.val .null, .val (.ref c_), .val (.int (0 : Int32)), .val (.int (0 : Int32)), .val (.int (1 : Int32)), .unset, .unset, .unset, .unset, .unset, .unset, .unset, .unset, .unset, .unset, .unset, .unset, .unset, .unset, .unset, .unset, .unset, .unset, .unset, .unset] [])) _
    refine XS.iload X0.here hx rfl (hb hby d12_0) rfl ?_
    show Steps p.tables e below (s₁.setTop (mkF m 2 #[.val .null, .val (.ref c_), .val (.int (0 : Int32)), .val (.int (0 : Int32)), .val (.int (1 : Int32)), .unset, .unset, .unset, .unset, .unset, .unset, .unset, .unset, .unset, .unset, .unset, .unset, .unset, .unset, .unset, .unset, .unset, .unset, .unset, .unset] [(.int (1 : Int32))])) _
    refine XS.iconst X0.here hx rfl (hb hby d12_2) ?_
    show Steps p.tables e below (s₁.setTop (mkF m 3 #[.val .null, .val (.ref c_), .val (.int (0 : Int32)), .val (.int (0 : Int32)), .val (.int (1 : Int32)), .unset, .unset, .unset, .unset, .unset, .unset, .unset, .unset, .unset, .unset, .unset, .unset, .unset, .unset, .unset, .unset, .unset, .unset, .unset, .unset] [(.int (1 : Int32)), (.int (1 : Int32))])) _
    refine XS.isub X0.here hx rfl (hb hby d12_3) rfl ?_
    show Steps p.tables e below (s₁.setTop (mkF m 4 #[.val .null, .val (.ref c_), .val (.int (0 : Int32)), .val (.int (0 : Int32)), .val (.int (1 : Int32)), .unset, .unset, .unset, .unset, .unset, .unset, .unset, .unset, .unset, .unset, .unset, .unset, .unset, .unset, .unset, .unset, .unset, .unset, .unset, .unset] [(.int (0 : Int32))])) _
    refine XS.istore X0.here hx rfl (hb hby d12_4) rfl (l' := #[.val .null, .val (.ref c_), .val (.int (0 : Int32)), .val (.int (0 : Int32)), .val (.int (1 : Int32)), .val (.int (0 : Int32)), .unset, .unset, .unset, .unset, .unset, .unset, .unset, .unset, .unset, .unset, .unset, .unset, .unset, .unset, .unset, .unset, .unset, .unset, .unset]) rfl ?_
    show Steps p.tables e below (s₁.setTop (mkF m 6 #[.val .null, .val (.ref c_), .val (.int (0 : Int32)), .val (.int (0 : Int32)), .val (.int (1 : Int32)), .val (.int (0 : Int32)), .unset, .unset, .unset, .unset, .unset, .unset, .unset, .unset, .unset, .unset, .unset, .unset, .unset, .unset, .unset, .unset, .unset, .unset, .unset] [])) _
    refine XS.iload X0.here hx rfl (hb hby d12_6) rfl ?_
    show Steps p.tables e below (s₁.setTop (mkF m 8 #[.val .null, .val (.ref c_), .val (.int (0 : Int32)), .val (.int (0 : Int32)), .val (.int (1 : Int32)), .val (.int (0 : Int32)), .unset, .unset, .unset, .unset, .unset, .unset, .unset, .unset, .unset, .unset, .unset, .unset, .unset, .unset, .unset, .unset, .unset, .unset, .unset] [(.int (1 : Int32))])) _
    refine XS.iloadN X0.here hx rfl (hb hby d12_8) rfl ?_
    show Steps p.tables e below (s₁.setTop (mkF m 9 #[.val .null, .val (.ref c_), .val (.int (0 : Int32)), .val (.int (0 : Int32)), .val (.int (1 : Int32)), .val (.int (0 : Int32)), .unset, .unset, .unset, .unset, .unset, .unset, .unset, .unset, .unset, .unset, .unset, .unset, .unset, .unset, .unset, .unset, .unset, .unset, .unset] [(.int (0 : Int32)), (.int (1 : Int32))])) _
    refine XS.isub X0.here hx rfl (hb hby d12_9) rfl ?_
    show Steps p.tables e below (s₁.setTop (mkF m 10 #[.val .null, .val (.ref c_), .val (.int (0 : Int32)), .val (.int (0 : Int32)), .val (.int (1 : Int32)), .val (.int (0 : Int32)), .unset, .unset, .unset, .unset, .unset, .unset, .unset, .unset, .unset, .unset, .unset, .unset, .unset, .unset, .unset, .unset, .unset, .unset, .unset] [(.int (1 : Int32))])) _
    refine XS.istore X0.here hx rfl (hb hby d12_10) rfl (l' := #[.val .null, .val (.ref c_), .val (.int (0 : Int32)), .val (.int (0 : Int32)), .val (.int (1 : Int32)), .val (.int (0 : Int32)), .val (.int (1 : Int32)), .unset, .unset, .unset, .unset, .unset, .unset, .unset, .unset, .unset, .unset, .unset, .unset, .unset, .unset, .unset, .unset, .unset, .unset]) rfl ?_
    show Steps p.tables e below (s₁.setTop (mkF m 12 #[.val .null, .val (.ref c_), .val (.int (0 : Int32)), .val (.int (0 : Int32)), .val (.int (1 : Int32)), .val (.int (0 : Int32)), .val (.int (1 : Int32)), .unset, .unset, .unset, .unset, .unset, .unset, .unset, .unset, .unset, .unset, .unset, .unset, .unset, .unset, .unset, .unset, .unset, .unset] [])) _
    refine XS.iload X0.here hx rfl (hb hby d12_12) rfl ?_
    show Steps p.tables e below (s₁.setTop (mkF m 14 #[.val .null, .val (.ref c_), .val (.int (0 : Int32)), .val (.int (0 : Int32)), .val (.int (1 : Int32)), .val (.int (0 : Int32)), .val (.int (1 : Int32)), .unset, .unset, .unset, .unset, .unset, .unset, .unset, .unset, .unset, .unset, .unset, .unset, .unset, .unset, .unset, .unset, .unset, .unset] [(.int (1 : Int32))])) _
    refine XS.bipush X0.here hx rfl (hb hby d12_14) ?_
    show Steps p.tables e below (s₁.setTop (mkF m 16 #[.val .null, .val (.ref c_), .val (.int (0 : Int32)), .val (.int (0 : Int32)), .val (.int (1 : Int32)), .val (.int (0 : Int32)), .val (.int (1 : Int32)), .unset, .unset, .unset, .unset, .unset, .unset, .unset, .unset, .unset, .unset, .unset, .unset, .unset, .unset, .unset, .unset, .unset, .unset] [(.int (65 : Int32)), (.int (1 : Int32))])) _
    refine XS.iloadN X0.here hx rfl (hb hby d12_16) rfl ?_
    show Steps p.tables e below (s₁.setTop (mkF m 17 #[.val .null, .val (.ref c_), .val (.int (0 : Int32)), .val (.int (0 : Int32)), .val (.int (1 : Int32)), .val (.int (0 : Int32)), .val (.int (1 : Int32)), .unset, .unset, .unset, .unset, .unset, .unset, .unset, .unset, .unset, .unset, .unset, .unset, .unset, .unset, .unset, .unset, .unset, .unset] [(.int (0 : Int32)), (.int (65 : Int32)), (.int (1 : Int32))])) _
    refine XS.iadd X0.here hx rfl (hb hby d12_17) rfl ?_
    show Steps p.tables e below (s₁.setTop (mkF m 18 #[.val .null, .val (.ref c_), .val (.int (0 : Int32)), .val (.int (0 : Int32)), .val (.int (1 : Int32)), .val (.int (0 : Int32)), .val (.int (1 : Int32)), .unset, .unset, .unset, .unset, .unset, .unset, .unset, .unset, .unset, .unset, .unset, .unset, .unset, .unset, .unset, .unset, .unset, .unset] [(.int (65 : Int32)), (.int (1 : Int32))])) _
    refine XS.icmpNo X0.here hx rfl (hb hby d12_18) rfl (tlt (by decide : (1 : Int32) < (65 : Int32))).2.1 ?_
    show Steps p.tables e below (s₁.setTop (mkF m 21 #[.val .null, .val (.ref c_), .val (.int (0 : Int32)), .val (.int (0 : Int32)), .val (.int (1 : Int32)), .val (.int (0 : Int32)), .val (.int (1 : Int32)), .unset, .unset, .unset, .unset, .unset, .unset, .unset, .unset, .unset, .unset, .unset, .unset, .unset, .unset, .unset, .unset, .unset, .unset] [])) _
    refine XS.iloadN X0.here hx rfl (hb hby d12_21) rfl ?_
    show Steps p.tables e below (s₁.setTop (mkF m 22 #[.val .null, .val (.ref c_), .val (.int (0 : Int32)), .val (.int (0 : Int32)), .val (.int (1 : Int32)), .val (.int (0 : Int32)), .val (.int (1 : Int32)), .unset, .unset, .unset, .unset, .unset, .unset, .unset, .unset, .unset, .unset, .unset, .unset, .unset, .unset, .unset, .unset, .unset, .unset] [(.int (0 : Int32))])) _
    refine XS.iconst X0.here hx rfl (hb hby d12_22) ?_
    show Steps p.tables e below (s₁.setTop (mkF m 23 #[.val .null, .val (.ref c_), .val (.int (0 : Int32)), .val (.int (0 : Int32)), .val (.int (1 : Int32)), .val (.int (0 : Int32)), .val (.int (1 : Int32)), .unset, .unset, .unset, .unset, .unset, .unset, .unset, .unset, .unset, .unset, .unset, .unset, .unset, .unset, .unset, .unset, .unset, .unset] [(.int (1 : Int32)), (.int (0 : Int32))])) _
    refine XS.iand X0.here hx rfl (hb hby d12_23) rfl ?_
    show Steps p.tables e below (s₁.setTop (mkF m 24 #[.val .null, .val (.ref c_), .val (.int (0 : Int32)), .val (.int (0 : Int32)), .val (.int (1 : Int32)), .val (.int (0 : Int32)), .val (.int (1 : Int32)), .unset, .unset, .unset, .unset, .unset, .unset, .unset, .unset, .unset, .unset, .unset, .unset, .unset, .unset, .unset, .unset, .unset, .unset] [(.int (0 : Int32))])) _
    refine XS.ifYes X0.here hx rfl (pc0 := 24) (pc' := 46) rfl (hb hby d12_24) rfl ((if0 _ _).trans (flt (by decide : ¬ ((0 : Int32) < (0 : Int32)))).2.2.2) (by decide) (by decide) ?_
    show Steps p.tables e below (s₁.setTop (mkF m 46 #[.val .null, .val (.ref c_), .val (.int (0 : Int32)), .val (.int (0 : Int32)), .val (.int (1 : Int32)), .val (.int (0 : Int32)), .val (.int (1 : Int32)), .unset, .unset, .unset, .unset, .unset, .unset, .unset, .unset, .unset, .unset, .unset, .unset, .unset, .unset, .unset, .unset, .unset, .unset] [])) _
    refine XS.iload X0.here hx rfl (hb hby d12_46) rfl ?_
    show Steps p.tables e below (s₁.setTop (mkF m 48 #[.val .null, .val (.ref c_), .val (.int (0 : Int32)), .val (.int (0 : Int32)), .val (.int (1 : Int32)), .val (.int (0 : Int32)), .val (.int (1 : Int32)), .unset, .unset, .unset, .unset, .unset, .unset, .unset, .unset, .unset, .unset, .unset, .unset, .unset, .unset, .unset, .unset, .unset, .unset] [(.int (1 : Int32))])) _
    refine XS.bipush X0.here hx rfl (hb hby d12_48) ?_
    show Steps p.tables e below (s₁.setTop (mkF m 50 #[.val .null, .val (.ref c_), .val (.int (0 : Int32)), .val (.int (0 : Int32)), .val (.int (1 : Int32)), .val (.int (0 : Int32)), .val (.int (1 : Int32)), .unset, .unset, .unset, .unset, .unset, .unset, .unset, .unset, .unset, .unset, .unset, .unset, .unset, .unset, .unset, .unset, .unset, .unset] [(.int (44 : Int32)), (.int (1 : Int32))])) _
    refine XS.icmpNo X0.here hx rfl (hb hby d12_50) rfl (tlt (by decide : (1 : Int32) < (44 : Int32))).2.1 ?_
    show Steps p.tables e below (s₁.setTop (mkF m 53 #[.val .null, .val (.ref c_), .val (.int (0 : Int32)), .val (.int (0 : Int32)), .val (.int (1 : Int32)), .val (.int (0 : Int32)), .val (.int (1 : Int32)), .unset, .unset, .unset, .unset, .unset, .unset, .unset, .unset, .unset, .unset, .unset, .unset, .unset, .unset, .unset, .unset, .unset, .unset] [])) _
    refine XS.aloadN X0.here hx rfl (hb hby d12_53) rfl rfl ?_
    show Steps p.tables e below (s₁.setTop (mkF m 54 #[.val .null, .val (.ref c_), .val (.int (0 : Int32)), .val (.int (0 : Int32)), .val (.int (1 : Int32)), .val (.int (0 : Int32)), .val (.int (1 : Int32)), .unset, .unset, .unset, .unset, .unset, .unset, .unset, .unset, .unset, .unset, .unset, .unset, .unset, .unset, .unset, .unset, .unset, .unset] [(.ref c_)])) _
    refine XS.iloadN X0.here hx rfl (hb hby d12_54) rfl ?_
    show Steps p.tables e below (s₁.setTop (mkF m 55 #[.val .null, .val (.ref c_), .val (.int (0 : Int32)), .val (.int (0 : Int32)), .val (.int (1 : Int32)), .val (.int (0 : Int32)), .val (.int (1 : Int32)), .unset, .unset, .unset, .unset, .unset, .unset, .unset, .unset, .unset, .unset, .unset, .unset, .unset, .unset, .unset, .unset, .unset, .unset] [(.int (0 : Int32)), (.ref c_)])) _
    refine XS.iload X0.here hx rfl (hb hby d12_55) rfl ?_
    show Steps p.tables e below (s₁.setTop (mkF m 57 #[.val .null, .val (.ref c_), .val (.int (0 : Int32)), .val (.int (0 : Int32)), .val (.int (1 : Int32)), .val (.int (0 : Int32)), .val (.int (1 : Int32)), .unset, .unset, .unset, .unset, .unset, .unset, .unset, .unset, .unset, .unset, .unset, .unset, .unset, .unset, .unset, .unset, .unset, .unset] [(.int (1 : Int32)), (.int (0 : Int32)), (.ref c_)])) _
    refine st97 _ ?_
    exact kk
  obtain ⟨fs, hr, hrun, hended, hW, hsame⟩ := X97.leave (v := none) (fun _ => rfl)
  refine ⟨_, _, pre98 _ ?_, hrun, hended, _, _, rfl, ?_, ⟨_, rfl⟩, hW, hsame.mono (by decide) (by decide)⟩
  · show Steps p.tables e below (T97.setTop (mkF m 60 #[.val .null, .val (.ref c_), .val (.int (0 : Int32)), .val (.int (0 : Int32)), .val (.int (1 : Int32)), .val (.int (0 : Int32)), .val (.int (1 : Int32)), .unset, .unset, .unset, .unset, .unset, .unset, .unset, .unset, .unset, .unset, .unset, .unset, .unset, .unset, .unset, .unset, .unset, .unset] [])) _
    exact X97.returnOut hx Bd.returns (hb hby d12_60) hr
  · show Q12_1 Z c_ kc_ x0 h0 n0 _ T97.heap _
    exact ⟨rfl, N97, KP97, Vq97⟩
def Q12_2 (Z : State) (c_ : Addr) (kc_ : ClassId) (x0 : Int64) (x1 : Int64) (h0 : Heap) (n0 : Nat) (v : Option Value) (h : Heap) (L : List Loc) : Prop := v = none ∧ Fr n0 L ∧ Keep h0 h [c_] ∧ Arv Z h c_ kc_ .long (2 : Int32) [(.long (own_s2_0 x0 x1)), (.long (own_s2_1 x0 x1))] (.long (0 : Int64))
set_option maxRecDepth 65536 in
set_option maxHeartbeats 40000000 in
theorem rm12_2 (l : Launch) (Z : State) (aA : Array Value) (hw : ∀ d ∈ tables_1, d.before aA Z = true) (ws : List Jvm.Cond) (c_ : Addr) (kc_ : ClassId) (x0 : Int64) (x1 : Int64) (h0 : Heap) (n0 : Nat) (Z0 : n0 ≤ h0.size) (g_c_ : n0 ≤ c_) (V_c : Arv Z h0 c_ kc_ .long (2 : Int32) [(.long x0), (.long x1)] (.long (0 : Int64))) :
    MetFree l (⟨"java/util/DualPivotQuicksort", "sort", "(Ljava/util/DualPivotQuicksort$Sorter;[JIII)V"⟩ : MethodName) (head1 (Jvm.Cond.code (⟨"java/util/DualPivotQuicksort", "sort", "(Ljava/util/DualPivotQuicksort$Sorter;[JIII)V"⟩ : MethodName) jdk_2529_method_13_code 25 none :: ws) ({ frames := 1, cells := 0, slots := 0, locals := 18 } : Room)) (fun a U => a = #[.null, (.ref c_), (.int (0 : Int32)), (.int (0 : Int32)), (.int (2 : Int32))] ∧ Z.Warmed39 U.vm ∧ U.heap = h0) (fun _ _ _ _ _ => True) (fun _ U o U' => ∃ v L, o = .returned v ∧ Q12_2 Z c_ kc_ x0 x1 h0 n0 v U'.heap L ∧ FrameEnd U o U' L ({ frames := 1, cells := 0, slots := 0, locals := 18 } : Room).cells ({ frames := 1, cells := 0, slots := 0, locals := 18 } : Room).slots) := by
  refine MetFree.of_bodySF (plainFor_of_name pn_java_util_DualPivotQuicksort) hisR ?_
  intro p e s m args below meth c s₁ Bd hml0 hP hK
  obtain ⟨rfl, hZ, hh⟩ := hP
  have hx := Bd.exec
  have hby := Bd.bytes
  have hml : c.maxLocals = 25 := hml0
  have hown : s.vm.findClass "java/util/DualPivotQuicksort" = some m.cls := findClass_of_methodNamed Bd.named
  have hnm := (name_of_methodNamed Bd.named Bd.method).1
  have X0 : Stand p l e ({ frames := 1, cells := 0, slots := 0, locals := 18 } : Room) s m #[.null, (.ref c_), (.int (0 : Int32)), (.int (0 : Int32)), (.int (2 : Int32))] below meth c s₁ [] 0 0 := Stand.of_body Bd
  have e0 : s₁.heap = h0 := by rw [← hh, Bd.state]; rfl
  have N0 := Fr.nil n0
  have KP0 : Keep h0 h0 [c_] := Keep.refl h0 _
  have pre0 : ∀ t, Steps p.tables e below (s₁.setTop (mkF m 0 #[.val .null, .val (.ref c_), .val (.int (0 : Int32)), .val (.int (0 : Int32)), .val (.int (2 : Int32)), .unset, .unset, .unset, .unset, .unset, .unset, .unset, .unset, .unset, .unset, .unset, .unset, .unset, .unset, .unset, .unset, .unset, .unset, .unset, .unset] [])) t → Steps p.tables e below (s₁.setTop (entryFrame m #[.null, (.ref c_), (.int (0 : Int32)), (.int (0 : Int32)), (.int (2 : Int32))] 25)) t := fun t k => castTop (ef_12_nRIII m c_ (0 : Int32) (0 : Int32) (2 : Int32)) k
  obtain ⟨_, _, ⟨T99, L99, k99, n99⟩, -, X99, ⟨Lc99, hQ99, l99, y99, z99⟩, st99⟩ := Jvm.LawKit.callS X0 hx (y := (⟨"java/util/DualPivotQuicksort", "insertionSort", "([JII)V"⟩ : MethodName)) hown (mvT hZ (hw _ (List.mem_of_getElem? (i := 57) rfl))) (mvT hZ (hw _ (List.mem_of_getElem? (i := 58) rfl))) (mvT hZ (hw _ (List.mem_of_getElem? (i := 52) rfl))) (mvT hZ (hw _ (List.mem_of_getElem? (i := 59) rfl))) (by decide) (backOf (W := 0) (rm13_2 l Z aA hw [] c_ kc_ x0 x1 h0 n0 Z0 g_c_ V_c) hZ (hw _ (List.mem_of_getElem? (i := 59) rfl)) (hw _ (List.mem_of_getElem? (i := 52) rfl)) (by decide) (by decide)) (g := (mkF m 57 #[.val .null, .val (.ref c_), .val (.int (0 : Int32)), .val (.int (0 : Int32)), .val (.int (2 : Int32)), .val (.int (1 : Int32)), .val (.int (2 : Int32)), .unset, .unset, .unset, .unset, .unset, .unset, .unset, .unset, .unset, .unset, .unset, .unset, .unset, .unset, .unset, .unset, .unset, .unset] [(.int (2 : Int32)), (.int (0 : Int32)), (.ref c_)])) rfl (by rw [hml]; rfl) (argsL := [(.ref c_), (.int (0 : Int32)), (.int (2 : Int32))]) (rest := []) (lenOf pd__28_5bJII_29V rfl) rfl (by show 2 * 0 + _ ≤ _; exact Nat.le_of_eq rfl) (hb hby d12_57) (fun _ _ => ⟨rfl, e0, (by decide : 0 + 0 ≤ _), (by decide : 0 + 0 ≤ _)⟩)
  dsimp only [Pt.U, Pt.locs, Pt.cells, Pt.slots] at X99 l99 y99 z99 st99 hQ99
  subst l99 y99 z99
  obtain ⟨rfl, N99q, K99, Vq99⟩ := hQ99
  have N99 := Fr.app N0 N99q
  have KP99 : Keep h0 T99.heap [c_] := KP0.trans K99 (allS (Or.inl (List.mem_of_getElem? (i := 0) rfl)) all0)
  have Z99 : n0 ≤ T99.heap.size := Nat.le_trans Z0 K99.1
  have pre100 : ∀ t, Steps p.tables e below (T99.setTop (mkF m 60 #[.val .null, .val (.ref c_), .val (.int (0 : Int32)), .val (.int (0 : Int32)), .val (.int (2 : Int32)), .val (.int (1 : Int32)), .val (.int (2 : Int32)), .unset, .unset, .unset, .unset, .unset, .unset, .unset, .unset, .unset, .unset, .unset, .unset, .unset, .unset, .unset, .unset, .unset, .unset] [])) t → Steps p.tables e below (s₁.setTop (entryFrame m #[.null, (.ref c_), (.int (0 : Int32)), (.int (0 : Int32)), (.int (2 : Int32))] 25)) t := by
    intro t kk
    refine pre0 t ?_
    show Steps p.tables e below (s₁.setTop (mkF m 0 #[.val .null, .val (.ref c_), .val (.int (0 : Int32)), .val (.int (0 : Int32)), .val (.int (2 : Int32)), .unset, .unset, .unset, .unset, .unset, .unset, .unset, .unset, .unset, .unset, .unset, .unset, .unset, .unset, .unset, .unset, .unset, .unset, .unset, .unset] [])) _
    refine XS.iload X0.here hx rfl (hb hby d12_0) rfl ?_
    show Steps p.tables e below (s₁.setTop (mkF m 2 #[.val .null, .val (.ref c_), .val (.int (0 : Int32)), .val (.int (0 : Int32)), .val (.int (2 : Int32)), .unset, .unset, .unset, .unset, .unset, .unset, .unset, .unset, .unset, .unset, .unset, .unset, .unset, .unset, .unset, .unset, .unset, .unset, .unset, .unset] [(.int (2 : Int32))])) _
    refine XS.iconst X0.here hx rfl (hb hby d12_2) ?_
    show Steps p.tables e below (s₁.setTop (mkF m 3 #[.val .null, .val (.ref c_), .val (.int (0 : Int32)), .val (.int (0 : Int32)), .val (.int (2 : Int32)), .unset, .unset, .unset, .unset, .unset, .unset, .unset, .unset, .unset, .unset, .unset, .unset, .unset, .unset, .unset, .unset, .unset, .unset, .unset, .unset] [(.int (1 : Int32)), (.int (2 : Int32))])) _
    refine XS.isub X0.here hx rfl (hb hby d12_3) rfl ?_
    show Steps p.tables e below (s₁.setTop (mkF m 4 #[.val .null, .val (.ref c_), .val (.int (0 : Int32)), .val (.int (0 : Int32)), .val (.int (2 : Int32)), .unset, .unset, .unset, .unset, .unset, .unset, .unset, .unset, .unset, .unset, .unset, .unset, .unset, .unset, .unset, .unset, .unset, .unset, .unset, .unset] [(.int (1 : Int32))])) _
    refine XS.istore X0.here hx rfl (hb hby d12_4) rfl (l' := #[.val .null, .val (.ref c_), .val (.int (0 : Int32)), .val (.int (0 : Int32)), .val (.int (2 : Int32)), .val (.int (1 : Int32)), .unset, .unset, .unset, .unset, .unset, .unset, .unset, .unset, .unset, .unset, .unset, .unset, .unset, .unset, .unset, .unset, .unset, .unset, .unset]) rfl ?_
    show Steps p.tables e below (s₁.setTop (mkF m 6 #[.val .null, .val (.ref c_), .val (.int (0 : Int32)), .val (.int (0 : Int32)), .val (.int (2 : Int32)), .val (.int (1 : Int32)), .unset, .unset, .unset, .unset, .unset, .unset, .unset, .unset, .unset, .unset, .unset, .unset, .unset, .unset, .unset, .unset, .unset, .unset, .unset] [])) _
    refine XS.iload X0.here hx rfl (hb hby d12_6) rfl ?_
    show Steps p.tables e below (s₁.setTop (mkF m 8 #[.val .null, .val (.ref c_), .val (.int (0 : Int32)), .val (.int (0 : Int32)), .val (.int (2 : Int32)), .val (.int (1 : Int32)), .unset, .unset, .unset, .unset, .unset, .unset, .unset, .unset, .unset, .unset, .unset, .unset, .unset, .unset, .unset, .unset, .unset, .unset, .unset] [(.int (2 : Int32))])) _
    refine XS.iloadN X0.here hx rfl (hb hby d12_8) rfl ?_
    show Steps p.tables e below (s₁.setTop (mkF m 9 #[.val .null, .val (.ref c_), .val (.int (0 : Int32)), .val (.int (0 : Int32)), .val (.int (2 : Int32)), .val (.int (1 : Int32)), .unset, .unset, .unset, .unset, .unset, .unset, .unset, .unset, .unset, .unset, .unset, .unset, .unset, .unset, .unset, .unset, .unset, .unset, .unset] [(.int (0 : Int32)), (.int (2 : Int32))])) _
    refine XS.isub X0.here hx rfl (hb hby d12_9) rfl ?_
    show Steps p.tables e below (s₁.setTop (mkF m 10 #[.val .null, .val (.ref c_), .val (.int (0 : Int32)), .val (.int (0 : Int32)), .val (.int (2 : Int32)), .val (.int (1 : Int32)), .unset, .unset, .unset, .unset, .unset, .unset, .unset, .unset, .unset, .unset, .unset, .unset, .unset, .unset, .unset, .unset, .unset, .unset, .unset] [(.int (2 : Int32))])) _
    refine XS.istore X0.here hx rfl (hb hby d12_10) rfl (l' := #[.val .null, .val (.ref c_), .val (.int (0 : Int32)), .val (.int (0 : Int32)), .val (.int (2 : Int32)), .val (.int (1 : Int32)), .val (.int (2 : Int32)), .unset, .unset, .unset, .unset, .unset, .unset, .unset, .unset, .unset, .unset, .unset, .unset, .unset, .unset, .unset, .unset, .unset, .unset]) rfl ?_
    show Steps p.tables e below (s₁.setTop (mkF m 12 #[.val .null, .val (.ref c_), .val (.int (0 : Int32)), .val (.int (0 : Int32)), .val (.int (2 : Int32)), .val (.int (1 : Int32)), .val (.int (2 : Int32)), .unset, .unset, .unset, .unset, .unset, .unset, .unset, .unset, .unset, .unset, .unset, .unset, .unset, .unset, .unset, .unset, .unset, .unset] [])) _
    refine XS.iload X0.here hx rfl (hb hby d12_12) rfl ?_
    show Steps p.tables e below (s₁.setTop (mkF m 14 #[.val .null, .val (.ref c_), .val (.int (0 : Int32)), .val (.int (0 : Int32)), .val (.int (2 : Int32)), .val (.int (1 : Int32)), .val (.int (2 : Int32)), .unset, .unset, .unset, .unset, .unset, .unset, .unset, .unset, .unset, .unset, .unset, .unset, .unset, .unset, .unset, .unset, .unset, .unset] [(.int (2 : Int32))])) _
    refine XS.bipush X0.here hx rfl (hb hby d12_14) ?_
    show Steps p.tables e below (s₁.setTop (mkF m 16 #[.val .null, .val (.ref c_), .val (.int (0 : Int32)), .val (.int (0 : Int32)), .val (.int (2 : Int32)), .val (.int (1 : Int32)), .val (.int (2 : Int32)), .unset, .unset, .unset, .unset, .unset, .unset, .unset, .unset, .unset, .unset, .unset, .unset, .unset, .unset, .unset, .unset, .unset, .unset] [(.int (65 : Int32)), (.int (2 : Int32))])) _
    refine XS.iloadN X0.here hx rfl (hb hby d12_16) rfl ?_
    show Steps p.tables e below (s₁.setTop (mkF m 17 #[.val .null, .val (.ref c_), .val (.int (0 : Int32)), .val (.int (0 : Int32)), .val (.int (2 : Int32)), .val (.int (1 : Int32)), .val (.int (2 : Int32)), .unset, .unset, .unset, .unset, .unset, .unset, .unset, .unset, .unset, .unset, .unset, .unset, .unset, .unset, .unset, .unset, .unset, .unset] [(.int (0 : Int32)), (.int (65 : Int32)), (.int (2 : Int32))])) _
    refine XS.iadd X0.here hx rfl (hb hby d12_17) rfl ?_
    show Steps p.tables e below (s₁.setTop (mkF m 18 #[.val .null, .val (.ref c_), .val (.int (0 : Int32)), .val (.int (0 : Int32)), .val (.int (2 : Int32)), .val (.int (1 : Int32)), .val (.int (2 : Int32)), .unset, .unset, .unset, .unset, .unset, .unset, .unset, .unset, .unset, .unset, .unset, .unset, .unset, .unset, .unset, .unset, .unset, .unset] [(.int (65 : Int32)), (.int (2 : Int32))])) _
    refine XS.icmpNo X0.here hx rfl (hb hby d12_18) rfl (tlt (by decide : (2 : Int32) < (65 : Int32))).2.1 ?_
    show Steps p.tables e below (s₁.setTop (mkF m 21 #[.val .null, .val (.ref c_), .val (.int (0 : Int32)), .val (.int (0 : Int32)), .val (.int (2 : Int32)), .val (.int (1 : Int32)), .val (.int (2 : Int32)), .unset, .unset, .unset, .unset, .unset, .unset, .unset, .unset, .unset, .unset, .unset, .unset, .unset, .unset, .unset, .unset, .unset, .unset] [])) _
    refine XS.iloadN X0.here hx rfl (hb hby d12_21) rfl ?_
    show Steps p.tables e below (s₁.setTop (mkF m 22 #[.val .null, .val (.ref c_), .val (.int (0 : Int32)), .val (.int (0 : Int32)), .val (.int (2 : Int32)), .val (.int (1 : Int32)), .val (.int (2 : Int32)), .unset, .unset, .unset, .unset, .unset, .unset, .unset, .unset, .unset, .unset, .unset, .unset, .unset, .unset, .unset, .unset, .unset, .unset] [(.int (0 : Int32))])) _
    refine XS.iconst X0.here hx rfl (hb hby d12_22) ?_
    show Steps p.tables e below (s₁.setTop (mkF m 23 #[.val .null, .val (.ref c_), .val (.int (0 : Int32)), .val (.int (0 : Int32)), .val (.int (2 : Int32)), .val (.int (1 : Int32)), .val (.int (2 : Int32)), .unset, .unset, .unset, .unset, .unset, .unset, .unset, .unset, .unset, .unset, .unset, .unset, .unset, .unset, .unset, .unset, .unset, .unset] [(.int (1 : Int32)), (.int (0 : Int32))])) _
    refine XS.iand X0.here hx rfl (hb hby d12_23) rfl ?_
    show Steps p.tables e below (s₁.setTop (mkF m 24 #[.val .null, .val (.ref c_), .val (.int (0 : Int32)), .val (.int (0 : Int32)), .val (.int (2 : Int32)), .val (.int (1 : Int32)), .val (.int (2 : Int32)), .unset, .unset, .unset, .unset, .unset, .unset, .unset, .unset, .unset, .unset, .unset, .unset, .unset, .unset, .unset, .unset, .unset, .unset] [(.int (0 : Int32))])) _
    refine XS.ifYes X0.here hx rfl (pc0 := 24) (pc' := 46) rfl (hb hby d12_24) rfl ((if0 _ _).trans (flt (by decide : ¬ ((0 : Int32) < (0 : Int32)))).2.2.2) (by decide) (by decide) ?_
    show Steps p.tables e below (s₁.setTop (mkF m 46 #[.val .null, .val (.ref c_), .val (.int (0 : Int32)), .val (.int (0 : Int32)), .val (.int (2 : Int32)), .val (.int (1 : Int32)), .val (.int (2 : Int32)), .unset, .unset, .unset, .unset, .unset, .unset, .unset, .unset, .unset, .unset, .unset, .unset, .unset, .unset, .unset, .unset, .unset, .unset] [])) _
    refine XS.iload X0.here hx rfl (hb hby d12_46) rfl ?_
    show Steps p.tables e below (s₁.setTop (mkF m 48 #[.val .null, .val (.ref c_), .val (.int (0 : Int32)), .val (.int (0 : Int32)), .val (.int (2 : Int32)), .val (.int (1 : Int32)), .val (.int (2 : Int32)), .unset, .unset, .unset, .unset, .unset, .unset, .unset, .unset, .unset, .unset, .unset, .unset, .unset, .unset, .unset, .unset, .unset, .unset] [(.int (2 : Int32))])) _
    refine XS.bipush X0.here hx rfl (hb hby d12_48) ?_
    show Steps p.tables e below (s₁.setTop (mkF m 50 #[.val .null, .val (.ref c_), .val (.int (0 : Int32)), .val (.int (0 : Int32)), .val (.int (2 : Int32)), .val (.int (1 : Int32)), .val (.int (2 : Int32)), .unset, .unset, .unset, .unset, .unset, .unset, .unset, .unset, .unset, .unset, .unset, .unset, .unset, .unset, .unset, .unset, .unset, .unset] [(.int (44 : Int32)), (.int (2 : Int32))])) _
    refine XS.icmpNo X0.here hx rfl (hb hby d12_50) rfl (tlt (by decide : (2 : Int32) < (44 : Int32))).2.1 ?_
    show Steps p.tables e below (s₁.setTop (mkF m 53 #[.val .null, .val (.ref c_), .val (.int (0 : Int32)), .val (.int (0 : Int32)), .val (.int (2 : Int32)), .val (.int (1 : Int32)), .val (.int (2 : Int32)), .unset, .unset, .unset, .unset, .unset, .unset, .unset, .unset, .unset, .unset, .unset, .unset, .unset, .unset, .unset, .unset, .unset, .unset] [])) _
    refine XS.aloadN X0.here hx rfl (hb hby d12_53) rfl rfl ?_
    show Steps p.tables e below (s₁.setTop (mkF m 54 #[.val .null, .val (.ref c_), .val (.int (0 : Int32)), .val (.int (0 : Int32)), .val (.int (2 : Int32)), .val (.int (1 : Int32)), .val (.int (2 : Int32)), .unset, .unset, .unset, .unset, .unset, .unset, .unset, .unset, .unset, .unset, .unset, .unset, .unset, .unset, .unset, .unset, .unset, .unset] [(.ref c_)])) _
    refine XS.iloadN X0.here hx rfl (hb hby d12_54) rfl ?_
    show Steps p.tables e below (s₁.setTop (mkF m 55 #[.val .null, .val (.ref c_), .val (.int (0 : Int32)), .val (.int (0 : Int32)), .val (.int (2 : Int32)), .val (.int (1 : Int32)), .val (.int (2 : Int32)), .unset, .unset, .unset, .unset, .unset, .unset, .unset, .unset, .unset, .unset, .unset, .unset, .unset, .unset, .unset, .unset, .unset, .unset] [(.int (0 : Int32)), (.ref c_)])) _
    refine XS.iload X0.here hx rfl (hb hby d12_55) rfl ?_
    show Steps p.tables e below (s₁.setTop (mkF m 57 #[.val .null, .val (.ref c_), .val (.int (0 : Int32)), .val (.int (0 : Int32)), .val (.int (2 : Int32)), .val (.int (1 : Int32)), .val (.int (2 : Int32)), .unset, .unset, .unset, .unset, .unset, .unset, .unset, .unset, .unset, .unset, .unset, .unset, .unset, .unset, .unset, .unset, .unset, .unset] [(.int (2 : Int32)), (.int (0 : Int32)), (.ref c_)])) _
    refine st99 _ ?_
    exact kk
  obtain ⟨fs, hr, hrun, hended, hW, hsame⟩ := X99.leave (v := none) (fun _ => rfl)
  refine ⟨_, _, pre100 _ ?_, hrun, hended, _, _, rfl, ?_, ⟨_, rfl⟩, hW, hsame.mono (by decide) (by decide)⟩
  · show Steps p.tables e below (T99.setTop (mkF m 60 #[.val .null, .val (.ref c_), .val (.int (0 : Int32)), .val (.int (0 : Int32)), .val (.int (2 : Int32)), .val (.int (1 : Int32)), .val (.int (2 : Int32)), .unset, .unset, .unset, .unset, .unset, .unset, .unset, .unset, .unset, .unset, .unset, .unset, .unset, .unset, .unset, .unset, .unset, .unset] [])) _
    exact X99.returnOut hx Bd.returns (hb hby d12_60) hr
  · show Q12_2 Z c_ kc_ x0 x1 h0 n0 _ T99.heap _
    exact ⟨rfl, N99, KP99, Vq99⟩
def Q12_3 (Z : State) (c_ : Addr) (kc_ : ClassId) (x0 : Int64) (x1 : Int64) (x2 : Int64) (h0 : Heap) (n0 : Nat) (v : Option Value) (h : Heap) (L : List Loc) : Prop := v = none ∧ Fr n0 L ∧ Keep h0 h [c_] ∧ Arv Z h c_ kc_ .long (3 : Int32) [(.long (own_s3_0 x0 x1 x2)), (.long (own_s3_1 x0 x1 x2)), (.long (own_s3_2 x0 x1 x2))] (.long (0 : Int64))
set_option maxRecDepth 65536 in
set_option maxHeartbeats 40000000 in
theorem rm12_3 (l : Launch) (Z : State) (aA : Array Value) (hw : ∀ d ∈ tables_1, d.before aA Z = true) (ws : List Jvm.Cond) (c_ : Addr) (kc_ : ClassId) (x0 : Int64) (x1 : Int64) (x2 : Int64) (h0 : Heap) (n0 : Nat) (Z0 : n0 ≤ h0.size) (g_c_ : n0 ≤ c_) (V_c : Arv Z h0 c_ kc_ .long (3 : Int32) [(.long x0), (.long x1), (.long x2)] (.long (0 : Int64))) :
    MetFree l (⟨"java/util/DualPivotQuicksort", "sort", "(Ljava/util/DualPivotQuicksort$Sorter;[JIII)V"⟩ : MethodName) (head1 (Jvm.Cond.code (⟨"java/util/DualPivotQuicksort", "sort", "(Ljava/util/DualPivotQuicksort$Sorter;[JIII)V"⟩ : MethodName) jdk_2529_method_13_code 25 none :: ws) ({ frames := 1, cells := 0, slots := 0, locals := 18 } : Room)) (fun a U => a = #[.null, (.ref c_), (.int (0 : Int32)), (.int (0 : Int32)), (.int (3 : Int32))] ∧ Z.Warmed39 U.vm ∧ U.heap = h0) (fun _ _ _ _ _ => True) (fun _ U o U' => ∃ v L, o = .returned v ∧ Q12_3 Z c_ kc_ x0 x1 x2 h0 n0 v U'.heap L ∧ FrameEnd U o U' L ({ frames := 1, cells := 0, slots := 0, locals := 18 } : Room).cells ({ frames := 1, cells := 0, slots := 0, locals := 18 } : Room).slots) := by
  refine MetFree.of_bodySF (plainFor_of_name pn_java_util_DualPivotQuicksort) hisR ?_
  intro p e s m args below meth c s₁ Bd hml0 hP hK
  obtain ⟨rfl, hZ, hh⟩ := hP
  have hx := Bd.exec
  have hby := Bd.bytes
  have hml : c.maxLocals = 25 := hml0
  have hown : s.vm.findClass "java/util/DualPivotQuicksort" = some m.cls := findClass_of_methodNamed Bd.named
  have hnm := (name_of_methodNamed Bd.named Bd.method).1
  have X0 : Stand p l e ({ frames := 1, cells := 0, slots := 0, locals := 18 } : Room) s m #[.null, (.ref c_), (.int (0 : Int32)), (.int (0 : Int32)), (.int (3 : Int32))] below meth c s₁ [] 0 0 := Stand.of_body Bd
  have e0 : s₁.heap = h0 := by rw [← hh, Bd.state]; rfl
  have N0 := Fr.nil n0
  have KP0 : Keep h0 h0 [c_] := Keep.refl h0 _
  have pre0 : ∀ t, Steps p.tables e below (s₁.setTop (mkF m 0 #[.val .null, .val (.ref c_), .val (.int (0 : Int32)), .val (.int (0 : Int32)), .val (.int (3 : Int32)), .unset, .unset, .unset, .unset, .unset, .unset, .unset, .unset, .unset, .unset, .unset, .unset, .unset, .unset, .unset, .unset, .unset, .unset, .unset, .unset] [])) t → Steps p.tables e below (s₁.setTop (entryFrame m #[.null, (.ref c_), (.int (0 : Int32)), (.int (0 : Int32)), (.int (3 : Int32))] 25)) t := fun t k => castTop (ef_12_nRIII m c_ (0 : Int32) (0 : Int32) (3 : Int32)) k
  obtain ⟨_, _, ⟨T101, L101, k101, n101⟩, -, X101, ⟨Lc101, hQ101, l101, y101, z101⟩, st101⟩ := Jvm.LawKit.callS X0 hx (y := (⟨"java/util/DualPivotQuicksort", "insertionSort", "([JII)V"⟩ : MethodName)) hown (mvT hZ (hw _ (List.mem_of_getElem? (i := 57) rfl))) (mvT hZ (hw _ (List.mem_of_getElem? (i := 58) rfl))) (mvT hZ (hw _ (List.mem_of_getElem? (i := 52) rfl))) (mvT hZ (hw _ (List.mem_of_getElem? (i := 59) rfl))) (by decide) (backOf (W := 0) (rm13_3 l Z aA hw [] c_ kc_ x0 x1 x2 h0 n0 Z0 g_c_ V_c) hZ (hw _ (List.mem_of_getElem? (i := 59) rfl)) (hw _ (List.mem_of_getElem? (i := 52) rfl)) (by decide) (by decide)) (g := (mkF m 57 #[.val .null, .val (.ref c_), .val (.int (0 : Int32)), .val (.int (0 : Int32)), .val (.int (3 : Int32)), .val (.int (2 : Int32)), .val (.int (3 : Int32)), .unset, .unset, .unset, .unset, .unset, .unset, .unset, .unset, .unset, .unset, .unset, .unset, .unset, .unset, .unset, .unset, .unset, .unset] [(.int (3 : Int32)), (.int (0 : Int32)), (.ref c_)])) rfl (by rw [hml]; rfl) (argsL := [(.ref c_), (.int (0 : Int32)), (.int (3 : Int32))]) (rest := []) (lenOf pd__28_5bJII_29V rfl) rfl (by show 2 * 0 + _ ≤ _; exact Nat.le_of_eq rfl) (hb hby d12_57) (fun _ _ => ⟨rfl, e0, (by decide : 0 + 0 ≤ _), (by decide : 0 + 0 ≤ _)⟩)
  dsimp only [Pt.U, Pt.locs, Pt.cells, Pt.slots] at X101 l101 y101 z101 st101 hQ101
  subst l101 y101 z101
  obtain ⟨rfl, N101q, K101, Vq101⟩ := hQ101
  have N101 := Fr.app N0 N101q
  have KP101 : Keep h0 T101.heap [c_] := KP0.trans K101 (allS (Or.inl (List.mem_of_getElem? (i := 0) rfl)) all0)
  have Z101 : n0 ≤ T101.heap.size := Nat.le_trans Z0 K101.1
  have pre102 : ∀ t, Steps p.tables e below (T101.setTop (mkF m 60 #[.val .null, .val (.ref c_), .val (.int (0 : Int32)), .val (.int (0 : Int32)), .val (.int (3 : Int32)), .val (.int (2 : Int32)), .val (.int (3 : Int32)), .unset, .unset, .unset, .unset, .unset, .unset, .unset, .unset, .unset, .unset, .unset, .unset, .unset, .unset, .unset, .unset, .unset, .unset] [])) t → Steps p.tables e below (s₁.setTop (entryFrame m #[.null, (.ref c_), (.int (0 : Int32)), (.int (0 : Int32)), (.int (3 : Int32))] 25)) t := by
    intro t kk
    refine pre0 t ?_
    show Steps p.tables e below (s₁.setTop (mkF m 0 #[.val .null, .val (.ref c_), .val (.int (0 : Int32)), .val (.int (0 : Int32)), .val (.int (3 : Int32)), .unset, .unset, .unset, .unset, .unset, .unset, .unset, .unset, .unset, .unset, .unset, .unset, .unset, .unset, .unset, .unset, .unset, .unset, .unset, .unset] [])) _
    refine XS.iload X0.here hx rfl (hb hby d12_0) rfl ?_
    show Steps p.tables e below (s₁.setTop (mkF m 2 #[.val .null, .val (.ref c_), .val (.int (0 : Int32)), .val (.int (0 : Int32)), .val (.int (3 : Int32)), .unset, .unset, .unset, .unset, .unset, .unset, .unset, .unset, .unset, .unset, .unset, .unset, .unset, .unset, .unset, .unset, .unset, .unset, .unset, .unset] [(.int (3 : Int32))])) _
    refine XS.iconst X0.here hx rfl (hb hby d12_2) ?_
    show Steps p.tables e below (s₁.setTop (mkF m 3 #[.val .null, .val (.ref c_), .val (.int (0 : Int32)), .val (.int (0 : Int32)), .val (.int (3 : Int32)), .unset, .unset, .unset, .unset, .unset, .unset, .unset, .unset, .unset, .unset, .unset, .unset, .unset, .unset, .unset, .unset, .unset, .unset, .unset, .unset] [(.int (1 : Int32)), (.int (3 : Int32))])) _
    refine XS.isub X0.here hx rfl (hb hby d12_3) rfl ?_
    show Steps p.tables e below (s₁.setTop (mkF m 4 #[.val .null, .val (.ref c_), .val (.int (0 : Int32)), .val (.int (0 : Int32)), .val (.int (3 : Int32)), .unset, .unset, .unset, .unset, .unset, .unset, .unset, .unset, .unset, .unset, .unset, .unset, .unset, .unset, .unset, .unset, .unset, .unset, .unset, .unset] [(.int (2 : Int32))])) _
    refine XS.istore X0.here hx rfl (hb hby d12_4) rfl (l' := #[.val .null, .val (.ref c_), .val (.int (0 : Int32)), .val (.int (0 : Int32)), .val (.int (3 : Int32)), .val (.int (2 : Int32)), .unset, .unset, .unset, .unset, .unset, .unset, .unset, .unset, .unset, .unset, .unset, .unset, .unset, .unset, .unset, .unset, .unset, .unset, .unset]) rfl ?_
    show Steps p.tables e below (s₁.setTop (mkF m 6 #[.val .null, .val (.ref c_), .val (.int (0 : Int32)), .val (.int (0 : Int32)), .val (.int (3 : Int32)), .val (.int (2 : Int32)), .unset, .unset, .unset, .unset, .unset, .unset, .unset, .unset, .unset, .unset, .unset, .unset, .unset, .unset, .unset, .unset, .unset, .unset, .unset] [])) _
    refine XS.iload X0.here hx rfl (hb hby d12_6) rfl ?_
    show Steps p.tables e below (s₁.setTop (mkF m 8 #[.val .null, .val (.ref c_), .val (.int (0 : Int32)), .val (.int (0 : Int32)), .val (.int (3 : Int32)), .val (.int (2 : Int32)), .unset, .unset, .unset, .unset, .unset, .unset, .unset, .unset, .unset, .unset, .unset, .unset, .unset, .unset, .unset, .unset, .unset, .unset, .unset] [(.int (3 : Int32))])) _
    refine XS.iloadN X0.here hx rfl (hb hby d12_8) rfl ?_
    show Steps p.tables e below (s₁.setTop (mkF m 9 #[.val .null, .val (.ref c_), .val (.int (0 : Int32)), .val (.int (0 : Int32)), .val (.int (3 : Int32)), .val (.int (2 : Int32)), .unset, .unset, .unset, .unset, .unset, .unset, .unset, .unset, .unset, .unset, .unset, .unset, .unset, .unset, .unset, .unset, .unset, .unset, .unset] [(.int (0 : Int32)), (.int (3 : Int32))])) _
    refine XS.isub X0.here hx rfl (hb hby d12_9) rfl ?_
    show Steps p.tables e below (s₁.setTop (mkF m 10 #[.val .null, .val (.ref c_), .val (.int (0 : Int32)), .val (.int (0 : Int32)), .val (.int (3 : Int32)), .val (.int (2 : Int32)), .unset, .unset, .unset, .unset, .unset, .unset, .unset, .unset, .unset, .unset, .unset, .unset, .unset, .unset, .unset, .unset, .unset, .unset, .unset] [(.int (3 : Int32))])) _
    refine XS.istore X0.here hx rfl (hb hby d12_10) rfl (l' := #[.val .null, .val (.ref c_), .val (.int (0 : Int32)), .val (.int (0 : Int32)), .val (.int (3 : Int32)), .val (.int (2 : Int32)), .val (.int (3 : Int32)), .unset, .unset, .unset, .unset, .unset, .unset, .unset, .unset, .unset, .unset, .unset, .unset, .unset, .unset, .unset, .unset, .unset, .unset]) rfl ?_
    show Steps p.tables e below (s₁.setTop (mkF m 12 #[.val .null, .val (.ref c_), .val (.int (0 : Int32)), .val (.int (0 : Int32)), .val (.int (3 : Int32)), .val (.int (2 : Int32)), .val (.int (3 : Int32)), .unset, .unset, .unset, .unset, .unset, .unset, .unset, .unset, .unset, .unset, .unset, .unset, .unset, .unset, .unset, .unset, .unset, .unset] [])) _
    refine XS.iload X0.here hx rfl (hb hby d12_12) rfl ?_
    show Steps p.tables e below (s₁.setTop (mkF m 14 #[.val .null, .val (.ref c_), .val (.int (0 : Int32)), .val (.int (0 : Int32)), .val (.int (3 : Int32)), .val (.int (2 : Int32)), .val (.int (3 : Int32)), .unset, .unset, .unset, .unset, .unset, .unset, .unset, .unset, .unset, .unset, .unset, .unset, .unset, .unset, .unset, .unset, .unset, .unset] [(.int (3 : Int32))])) _
    refine XS.bipush X0.here hx rfl (hb hby d12_14) ?_
    show Steps p.tables e below (s₁.setTop (mkF m 16 #[.val .null, .val (.ref c_), .val (.int (0 : Int32)), .val (.int (0 : Int32)), .val (.int (3 : Int32)), .val (.int (2 : Int32)), .val (.int (3 : Int32)), .unset, .unset, .unset, .unset, .unset, .unset, .unset, .unset, .unset, .unset, .unset, .unset, .unset, .unset, .unset, .unset, .unset, .unset] [(.int (65 : Int32)), (.int (3 : Int32))])) _
    refine XS.iloadN X0.here hx rfl (hb hby d12_16) rfl ?_
    show Steps p.tables e below (s₁.setTop (mkF m 17 #[.val .null, .val (.ref c_), .val (.int (0 : Int32)), .val (.int (0 : Int32)), .val (.int (3 : Int32)), .val (.int (2 : Int32)), .val (.int (3 : Int32)), .unset, .unset, .unset, .unset, .unset, .unset, .unset, .unset, .unset, .unset, .unset, .unset, .unset, .unset, .unset, .unset, .unset, .unset] [(.int (0 : Int32)), (.int (65 : Int32)), (.int (3 : Int32))])) _
    refine XS.iadd X0.here hx rfl (hb hby d12_17) rfl ?_
    show Steps p.tables e below (s₁.setTop (mkF m 18 #[.val .null, .val (.ref c_), .val (.int (0 : Int32)), .val (.int (0 : Int32)), .val (.int (3 : Int32)), .val (.int (2 : Int32)), .val (.int (3 : Int32)), .unset, .unset, .unset, .unset, .unset, .unset, .unset, .unset, .unset, .unset, .unset, .unset, .unset, .unset, .unset, .unset, .unset, .unset] [(.int (65 : Int32)), (.int (3 : Int32))])) _
    refine XS.icmpNo X0.here hx rfl (hb hby d12_18) rfl (tlt (by decide : (3 : Int32) < (65 : Int32))).2.1 ?_
    show Steps p.tables e below (s₁.setTop (mkF m 21 #[.val .null, .val (.ref c_), .val (.int (0 : Int32)), .val (.int (0 : Int32)), .val (.int (3 : Int32)), .val (.int (2 : Int32)), .val (.int (3 : Int32)), .unset, .unset, .unset, .unset, .unset, .unset, .unset, .unset, .unset, .unset, .unset, .unset, .unset, .unset, .unset, .unset, .unset, .unset] [])) _
    refine XS.iloadN X0.here hx rfl (hb hby d12_21) rfl ?_
    show Steps p.tables e below (s₁.setTop (mkF m 22 #[.val .null, .val (.ref c_), .val (.int (0 : Int32)), .val (.int (0 : Int32)), .val (.int (3 : Int32)), .val (.int (2 : Int32)), .val (.int (3 : Int32)), .unset, .unset, .unset, .unset, .unset, .unset, .unset, .unset, .unset, .unset, .unset, .unset, .unset, .unset, .unset, .unset, .unset, .unset] [(.int (0 : Int32))])) _
    refine XS.iconst X0.here hx rfl (hb hby d12_22) ?_
    show Steps p.tables e below (s₁.setTop (mkF m 23 #[.val .null, .val (.ref c_), .val (.int (0 : Int32)), .val (.int (0 : Int32)), .val (.int (3 : Int32)), .val (.int (2 : Int32)), .val (.int (3 : Int32)), .unset, .unset, .unset, .unset, .unset, .unset, .unset, .unset, .unset, .unset, .unset, .unset, .unset, .unset, .unset, .unset, .unset, .unset] [(.int (1 : Int32)), (.int (0 : Int32))])) _
    refine XS.iand X0.here hx rfl (hb hby d12_23) rfl ?_
    show Steps p.tables e below (s₁.setTop (mkF m 24 #[.val .null, .val (.ref c_), .val (.int (0 : Int32)), .val (.int (0 : Int32)), .val (.int (3 : Int32)), .val (.int (2 : Int32)), .val (.int (3 : Int32)), .unset, .unset, .unset, .unset, .unset, .unset, .unset, .unset, .unset, .unset, .unset, .unset, .unset, .unset, .unset, .unset, .unset, .unset] [(.int (0 : Int32))])) _
    refine XS.ifYes X0.here hx rfl (pc0 := 24) (pc' := 46) rfl (hb hby d12_24) rfl ((if0 _ _).trans (flt (by decide : ¬ ((0 : Int32) < (0 : Int32)))).2.2.2) (by decide) (by decide) ?_
    show Steps p.tables e below (s₁.setTop (mkF m 46 #[.val .null, .val (.ref c_), .val (.int (0 : Int32)), .val (.int (0 : Int32)), .val (.int (3 : Int32)), .val (.int (2 : Int32)), .val (.int (3 : Int32)), .unset, .unset, .unset, .unset, .unset, .unset, .unset, .unset, .unset, .unset, .unset, .unset, .unset, .unset, .unset, .unset, .unset, .unset] [])) _
    refine XS.iload X0.here hx rfl (hb hby d12_46) rfl ?_
    show Steps p.tables e below (s₁.setTop (mkF m 48 #[.val .null, .val (.ref c_), .val (.int (0 : Int32)), .val (.int (0 : Int32)), .val (.int (3 : Int32)), .val (.int (2 : Int32)), .val (.int (3 : Int32)), .unset, .unset, .unset, .unset, .unset, .unset, .unset, .unset, .unset, .unset, .unset, .unset, .unset, .unset, .unset, .unset, .unset, .unset] [(.int (3 : Int32))])) _
    refine XS.bipush X0.here hx rfl (hb hby d12_48) ?_
    show Steps p.tables e below (s₁.setTop (mkF m 50 #[.val .null, .val (.ref c_), .val (.int (0 : Int32)), .val (.int (0 : Int32)), .val (.int (3 : Int32)), .val (.int (2 : Int32)), .val (.int (3 : Int32)), .unset, .unset, .unset, .unset, .unset, .unset, .unset, .unset, .unset, .unset, .unset, .unset, .unset, .unset, .unset, .unset, .unset, .unset] [(.int (44 : Int32)), (.int (3 : Int32))])) _
    refine XS.icmpNo X0.here hx rfl (hb hby d12_50) rfl (tlt (by decide : (3 : Int32) < (44 : Int32))).2.1 ?_
    show Steps p.tables e below (s₁.setTop (mkF m 53 #[.val .null, .val (.ref c_), .val (.int (0 : Int32)), .val (.int (0 : Int32)), .val (.int (3 : Int32)), .val (.int (2 : Int32)), .val (.int (3 : Int32)), .unset, .unset, .unset, .unset, .unset, .unset, .unset, .unset, .unset, .unset, .unset, .unset, .unset, .unset, .unset, .unset, .unset, .unset] [])) _
    refine XS.aloadN X0.here hx rfl (hb hby d12_53) rfl rfl ?_
    show Steps p.tables e below (s₁.setTop (mkF m 54 #[.val .null, .val (.ref c_), .val (.int (0 : Int32)), .val (.int (0 : Int32)), .val (.int (3 : Int32)), .val (.int (2 : Int32)), .val (.int (3 : Int32)), .unset, .unset, .unset, .unset, .unset, .unset, .unset, .unset, .unset, .unset, .unset, .unset, .unset, .unset, .unset, .unset, .unset, .unset] [(.ref c_)])) _
    refine XS.iloadN X0.here hx rfl (hb hby d12_54) rfl ?_
    show Steps p.tables e below (s₁.setTop (mkF m 55 #[.val .null, .val (.ref c_), .val (.int (0 : Int32)), .val (.int (0 : Int32)), .val (.int (3 : Int32)), .val (.int (2 : Int32)), .val (.int (3 : Int32)), .unset, .unset, .unset, .unset, .unset, .unset, .unset, .unset, .unset, .unset, .unset, .unset, .unset, .unset, .unset, .unset, .unset, .unset] [(.int (0 : Int32)), (.ref c_)])) _
    refine XS.iload X0.here hx rfl (hb hby d12_55) rfl ?_
    show Steps p.tables e below (s₁.setTop (mkF m 57 #[.val .null, .val (.ref c_), .val (.int (0 : Int32)), .val (.int (0 : Int32)), .val (.int (3 : Int32)), .val (.int (2 : Int32)), .val (.int (3 : Int32)), .unset, .unset, .unset, .unset, .unset, .unset, .unset, .unset, .unset, .unset, .unset, .unset, .unset, .unset, .unset, .unset, .unset, .unset] [(.int (3 : Int32)), (.int (0 : Int32)), (.ref c_)])) _
    refine st101 _ ?_
    exact kk
  obtain ⟨fs, hr, hrun, hended, hW, hsame⟩ := X101.leave (v := none) (fun _ => rfl)
  refine ⟨_, _, pre102 _ ?_, hrun, hended, _, _, rfl, ?_, ⟨_, rfl⟩, hW, hsame.mono (by decide) (by decide)⟩
  · show Steps p.tables e below (T101.setTop (mkF m 60 #[.val .null, .val (.ref c_), .val (.int (0 : Int32)), .val (.int (0 : Int32)), .val (.int (3 : Int32)), .val (.int (2 : Int32)), .val (.int (3 : Int32)), .unset, .unset, .unset, .unset, .unset, .unset, .unset, .unset, .unset, .unset, .unset, .unset, .unset, .unset, .unset, .unset, .unset, .unset] [])) _
    exact X101.returnOut hx Bd.returns (hb hby d12_60) hr
  · show Q12_3 Z c_ kc_ x0 x1 x2 h0 n0 _ T101.heap _
    exact ⟨rfl, N101, KP101, Vq101⟩
theorem pd__28Ljava_2futil_2fDualPivotQuicksort_24Sorter_3b_5bJIII_29V : parseMethodDescriptor "(Ljava/util/DualPivotQuicksort$Sorter;[JIII)V" = some ⟨[(.object "java/util/DualPivotQuicksort$Sorter"), (.array .long), .int, .int, .int], none⟩ := by decide +kernel
theorem d11_0 : decode jdk_2529_method_12_code 0 = .ok (.iload_n 3, 1) := by decide +kernel
theorem d11_1 : decode jdk_2529_method_12_code 1 = .ok (.iload_n 2, 1) := by decide +kernel
theorem d11_2 : decode jdk_2529_method_12_code 2 = .ok (.isub, 1) := by decide +kernel
theorem d11_3 : decode jdk_2529_method_12_code 3 = .ok (.istore 4, 2) := by decide +kernel
theorem d11_5 : decode jdk_2529_method_12_code 5 = .ok (.iload_n 1, 1) := by decide +kernel
theorem d11_6 : decode jdk_2529_method_12_code 6 = .ok (.iconst 1, 1) := by decide +kernel
theorem d11_7 : decode jdk_2529_method_12_code 7 = .ok (.if_icmp .le 61, 3) := by decide +kernel
theorem d11_68 : decode jdk_2529_method_12_code 68 = .ok (.aconst_null, 1) := by decide +kernel
theorem d11_69 : decode jdk_2529_method_12_code 69 = .ok (.aload_n 0, 1) := by decide +kernel
theorem d11_70 : decode jdk_2529_method_12_code 70 = .ok (.iconst 0, 1) := by decide +kernel
theorem d11_71 : decode jdk_2529_method_12_code 71 = .ok (.iload_n 2, 1) := by decide +kernel
theorem d11_72 : decode jdk_2529_method_12_code 72 = .ok (.iload_n 3, 1) := by decide +kernel
theorem d11_73 : decode jdk_2529_method_12_code 73 = .ok (.invokestatic 99, 3) := by decide +kernel
theorem d11_76 : decode jdk_2529_method_12_code 76 = .ok (.return_, 1) := by decide +kernel
theorem ef_11_RIII (m : MethodId) (x0 : Addr) (x1 : Int32) (x2 : Int32) (x3 : Int32) : entryFrame m #[(.ref x0), (.int x1), (.int x2), (.int x3)] 7 = mkF m 0 #[.val (.ref x0), .val (.int x1), .val (.int x2), .val (.int x3), .unset, .unset, .unset] [] := by first | (simp [entryFrame, mkF, argsToLocals, Value.category]; done) | rfl
def Q11_1 (Z : State) (c_ : Addr) (kc_ : ClassId) (x0 : Int64) (h0 : Heap) (n0 : Nat) (v : Option Value) (h : Heap) (L : List Loc) : Prop := v = none ∧ Fr n0 L ∧ Keep h0 h [c_] ∧ Arv Z h c_ kc_ .long (1 : Int32) [(.long x0)] (.long (0 : Int64))
set_option maxRecDepth 65536 in
set_option maxHeartbeats 40000000 in
theorem rm11_1 (l : Launch) (Z : State) (aA : Array Value) (hw : ∀ d ∈ tables_1, d.before aA Z = true) (ws : List Jvm.Cond) (c_ : Addr) (kc_ : ClassId) (x0 : Int64) (h0 : Heap) (n0 : Nat) (Z0 : n0 ≤ h0.size) (g_c_ : n0 ≤ c_) (V_c : Arv Z h0 c_ kc_ .long (1 : Int32) [(.long x0)] (.long (0 : Int64))) :
    MetFree l (⟨"java/util/DualPivotQuicksort", "sort", "([JIII)V"⟩ : MethodName) (head1 (Jvm.Cond.code (⟨"java/util/DualPivotQuicksort", "sort", "([JIII)V"⟩ : MethodName) jdk_2529_method_12_code 7 none :: ws) ({ frames := 2, cells := 0, slots := 0, locals := 54 } : Room)) (fun a U => a = #[(.ref c_), (.int (0 : Int32)), (.int (0 : Int32)), (.int (1 : Int32))] ∧ Z.Warmed39 U.vm ∧ U.heap = h0) (fun _ _ _ _ _ => True) (fun _ U o U' => ∃ v L, o = .returned v ∧ Q11_1 Z c_ kc_ x0 h0 n0 v U'.heap L ∧ FrameEnd U o U' L ({ frames := 2, cells := 0, slots := 0, locals := 54 } : Room).cells ({ frames := 2, cells := 0, slots := 0, locals := 54 } : Room).slots) := by
  refine MetFree.of_bodySF (plainFor_of_name pn_java_util_DualPivotQuicksort) hisR ?_
  intro p e s m args below meth c s₁ Bd hml0 hP hK
  obtain ⟨rfl, hZ, hh⟩ := hP
  have hx := Bd.exec
  have hby := Bd.bytes
  have hml : c.maxLocals = 7 := hml0
  have hown : s.vm.findClass "java/util/DualPivotQuicksort" = some m.cls := findClass_of_methodNamed Bd.named
  have hnm := (name_of_methodNamed Bd.named Bd.method).1
  have X0 : Stand p l e ({ frames := 2, cells := 0, slots := 0, locals := 54 } : Room) s m #[(.ref c_), (.int (0 : Int32)), (.int (0 : Int32)), (.int (1 : Int32))] below meth c s₁ [] 0 0 := Stand.of_body Bd
  have e0 : s₁.heap = h0 := by rw [← hh, Bd.state]; rfl
  have N0 := Fr.nil n0
  have KP0 : Keep h0 h0 [c_] := Keep.refl h0 _
  have pre0 : ∀ t, Steps p.tables e below (s₁.setTop (mkF m 0 #[.val (.ref c_), .val (.int (0 : Int32)), .val (.int (0 : Int32)), .val (.int (1 : Int32)), .unset, .unset, .unset] [])) t → Steps p.tables e below (s₁.setTop (entryFrame m #[(.ref c_), (.int (0 : Int32)), (.int (0 : Int32)), (.int (1 : Int32))] 7)) t := fun t k => castTop (ef_11_RIII m c_ (0 : Int32) (0 : Int32) (1 : Int32)) k
  obtain ⟨_, _, ⟨T103, L103, k103, n103⟩, -, X103, ⟨Lc103, hQ103, l103, y103, z103⟩, st103⟩ := Jvm.LawKit.callS X0 hx (y := (⟨"java/util/DualPivotQuicksort", "sort", "(Ljava/util/DualPivotQuicksort$Sorter;[JIII)V"⟩ : MethodName)) hown (mvT hZ (hw _ (List.mem_of_getElem? (i := 54) rfl))) (mvT hZ (hw _ (List.mem_of_getElem? (i := 55) rfl))) (mvT hZ (hw _ (List.mem_of_getElem? (i := 52) rfl))) (mvT hZ (hw _ (List.mem_of_getElem? (i := 56) rfl))) (by decide) (backOf (W := 0) (rm12_1 l Z aA hw [] c_ kc_ x0 h0 n0 Z0 g_c_ V_c) hZ (hw _ (List.mem_of_getElem? (i := 56) rfl)) (hw _ (List.mem_of_getElem? (i := 52) rfl)) (by decide) (by decide)) (g := (mkF m 73 #[.val (.ref c_), .val (.int (0 : Int32)), .val (.int (0 : Int32)), .val (.int (1 : Int32)), .val (.int (1 : Int32)), .unset, .unset] [(.int (1 : Int32)), (.int (0 : Int32)), (.int (0 : Int32)), (.ref c_), .null])) rfl (by rw [hml]; rfl) (argsL := [.null, (.ref c_), (.int (0 : Int32)), (.int (0 : Int32)), (.int (1 : Int32))]) (rest := []) (lenOf pd__28Ljava_2futil_2fDualPivotQuicksort_24Sorter_3b_5bJIII_29V rfl) rfl (by show 2 * 0 + _ ≤ _; exact Nat.le_of_eq rfl) (hb hby d11_73) (fun _ _ => ⟨rfl, e0, (by decide : 0 + 0 ≤ _), (by decide : 0 + 0 ≤ _)⟩)
  dsimp only [Pt.U, Pt.locs, Pt.cells, Pt.slots] at X103 l103 y103 z103 st103 hQ103
  subst l103 y103 z103
  obtain ⟨rfl, N103q, K103, Vq103⟩ := hQ103
  have N103 := Fr.app N0 N103q
  have KP103 : Keep h0 T103.heap [c_] := KP0.trans K103 (allS (Or.inl (List.mem_of_getElem? (i := 0) rfl)) all0)
  have Z103 : n0 ≤ T103.heap.size := Nat.le_trans Z0 K103.1
  have pre104 : ∀ t, Steps p.tables e below (T103.setTop (mkF m 76 #[.val (.ref c_), .val (.int (0 : Int32)), .val (.int (0 : Int32)), .val (.int (1 : Int32)), .val (.int (1 : Int32)), .unset, .unset] [])) t → Steps p.tables e below (s₁.setTop (entryFrame m #[(.ref c_), (.int (0 : Int32)), (.int (0 : Int32)), (.int (1 : Int32))] 7)) t := by
    intro t kk
    refine pre0 t ?_
    show Steps p.tables e below (s₁.setTop (mkF m 0 #[.val (.ref c_), .val (.int (0 : Int32)), .val (.int (0 : Int32)), .val (.int (1 : Int32)), .unset, .unset, .unset] [])) _
    refine XS.iloadN X0.here hx rfl (hb hby d11_0) rfl ?_
    show Steps p.tables e below (s₁.setTop (mkF m 1 #[.val (.ref c_), .val (.int (0 : Int32)), .val (.int (0 : Int32)), .val (.int (1 : Int32)), .unset, .unset, .unset] [(.int (1 : Int32))])) _
    refine XS.iloadN X0.here hx rfl (hb hby d11_1) rfl ?_
    show Steps p.tables e below (s₁.setTop (mkF m 2 #[.val (.ref c_), .val (.int (0 : Int32)), .val (.int (0 : Int32)), .val (.int (1 : Int32)), .unset, .unset, .unset] [(.int (0 : Int32)), (.int (1 : Int32))])) _
    refine XS.isub X0.here hx rfl (hb hby d11_2) rfl ?_
    show Steps p.tables e below (s₁.setTop (mkF m 3 #[.val (.ref c_), .val (.int (0 : Int32)), .val (.int (0 : Int32)), .val (.int (1 : Int32)), .unset, .unset, .unset] [(.int (1 : Int32))])) _
    refine XS.istore X0.here hx rfl (hb hby d11_3) rfl (l' := #[.val (.ref c_), .val (.int (0 : Int32)), .val (.int (0 : Int32)), .val (.int (1 : Int32)), .val (.int (1 : Int32)), .unset, .unset]) rfl ?_
    show Steps p.tables e below (s₁.setTop (mkF m 5 #[.val (.ref c_), .val (.int (0 : Int32)), .val (.int (0 : Int32)), .val (.int (1 : Int32)), .val (.int (1 : Int32)), .unset, .unset] [])) _
    refine XS.iloadN X0.here hx rfl (hb hby d11_5) rfl ?_
    show Steps p.tables e below (s₁.setTop (mkF m 6 #[.val (.ref c_), .val (.int (0 : Int32)), .val (.int (0 : Int32)), .val (.int (1 : Int32)), .val (.int (1 : Int32)), .unset, .unset] [(.int (0 : Int32))])) _
    refine XS.iconst X0.here hx rfl (hb hby d11_6) ?_
    show Steps p.tables e below (s₁.setTop (mkF m 7 #[.val (.ref c_), .val (.int (0 : Int32)), .val (.int (0 : Int32)), .val (.int (1 : Int32)), .val (.int (1 : Int32)), .unset, .unset] [(.int (1 : Int32)), (.int (0 : Int32))])) _
    refine XS.icmpYes X0.here hx rfl (pc0 := 7) (pc' := 68) rfl (hb hby d11_7) rfl (flt (by decide : ¬ ((1 : Int32) < (0 : Int32)))).2.2.2 (by decide) (by decide) ?_
    show Steps p.tables e below (s₁.setTop (mkF m 68 #[.val (.ref c_), .val (.int (0 : Int32)), .val (.int (0 : Int32)), .val (.int (1 : Int32)), .val (.int (1 : Int32)), .unset, .unset] [])) _
    refine XS.aconstNull X0.here hx rfl (hb hby d11_68) ?_
    show Steps p.tables e below (s₁.setTop (mkF m 69 #[.val (.ref c_), .val (.int (0 : Int32)), .val (.int (0 : Int32)), .val (.int (1 : Int32)), .val (.int (1 : Int32)), .unset, .unset] [.null])) _
    refine XS.aloadN X0.here hx rfl (hb hby d11_69) rfl rfl ?_
    show Steps p.tables e below (s₁.setTop (mkF m 70 #[.val (.ref c_), .val (.int (0 : Int32)), .val (.int (0 : Int32)), .val (.int (1 : Int32)), .val (.int (1 : Int32)), .unset, .unset] [(.ref c_), .null])) _
    refine XS.iconst X0.here hx rfl (hb hby d11_70) ?_
    show Steps p.tables e below (s₁.setTop (mkF m 71 #[.val (.ref c_), .val (.int (0 : Int32)), .val (.int (0 : Int32)), .val (.int (1 : Int32)), .val (.int (1 : Int32)), .unset, .unset] [(.int (0 : Int32)), (.ref c_), .null])) _
    refine XS.iloadN X0.here hx rfl (hb hby d11_71) rfl ?_
    show Steps p.tables e below (s₁.setTop (mkF m 72 #[.val (.ref c_), .val (.int (0 : Int32)), .val (.int (0 : Int32)), .val (.int (1 : Int32)), .val (.int (1 : Int32)), .unset, .unset] [(.int (0 : Int32)), (.int (0 : Int32)), (.ref c_), .null])) _
    refine XS.iloadN X0.here hx rfl (hb hby d11_72) rfl ?_
    show Steps p.tables e below (s₁.setTop (mkF m 73 #[.val (.ref c_), .val (.int (0 : Int32)), .val (.int (0 : Int32)), .val (.int (1 : Int32)), .val (.int (1 : Int32)), .unset, .unset] [(.int (1 : Int32)), (.int (0 : Int32)), (.int (0 : Int32)), (.ref c_), .null])) _
    refine st103 _ ?_
    exact kk
  obtain ⟨fs, hr, hrun, hended, hW, hsame⟩ := X103.leave (v := none) (fun _ => rfl)
  refine ⟨_, _, pre104 _ ?_, hrun, hended, _, _, rfl, ?_, ⟨_, rfl⟩, hW, hsame.mono (by decide) (by decide)⟩
  · show Steps p.tables e below (T103.setTop (mkF m 76 #[.val (.ref c_), .val (.int (0 : Int32)), .val (.int (0 : Int32)), .val (.int (1 : Int32)), .val (.int (1 : Int32)), .unset, .unset] [])) _
    exact X103.returnOut hx Bd.returns (hb hby d11_76) hr
  · show Q11_1 Z c_ kc_ x0 h0 n0 _ T103.heap _
    exact ⟨rfl, N103, KP103, Vq103⟩
def Q11_2 (Z : State) (c_ : Addr) (kc_ : ClassId) (x0 : Int64) (x1 : Int64) (h0 : Heap) (n0 : Nat) (v : Option Value) (h : Heap) (L : List Loc) : Prop := v = none ∧ Fr n0 L ∧ Keep h0 h [c_] ∧ Arv Z h c_ kc_ .long (2 : Int32) [(.long (own_s2_0 x0 x1)), (.long (own_s2_1 x0 x1))] (.long (0 : Int64))
set_option maxRecDepth 65536 in
set_option maxHeartbeats 40000000 in
theorem rm11_2 (l : Launch) (Z : State) (aA : Array Value) (hw : ∀ d ∈ tables_1, d.before aA Z = true) (ws : List Jvm.Cond) (c_ : Addr) (kc_ : ClassId) (x0 : Int64) (x1 : Int64) (h0 : Heap) (n0 : Nat) (Z0 : n0 ≤ h0.size) (g_c_ : n0 ≤ c_) (V_c : Arv Z h0 c_ kc_ .long (2 : Int32) [(.long x0), (.long x1)] (.long (0 : Int64))) :
    MetFree l (⟨"java/util/DualPivotQuicksort", "sort", "([JIII)V"⟩ : MethodName) (head1 (Jvm.Cond.code (⟨"java/util/DualPivotQuicksort", "sort", "([JIII)V"⟩ : MethodName) jdk_2529_method_12_code 7 none :: ws) ({ frames := 2, cells := 0, slots := 0, locals := 54 } : Room)) (fun a U => a = #[(.ref c_), (.int (0 : Int32)), (.int (0 : Int32)), (.int (2 : Int32))] ∧ Z.Warmed39 U.vm ∧ U.heap = h0) (fun _ _ _ _ _ => True) (fun _ U o U' => ∃ v L, o = .returned v ∧ Q11_2 Z c_ kc_ x0 x1 h0 n0 v U'.heap L ∧ FrameEnd U o U' L ({ frames := 2, cells := 0, slots := 0, locals := 54 } : Room).cells ({ frames := 2, cells := 0, slots := 0, locals := 54 } : Room).slots) := by
  refine MetFree.of_bodySF (plainFor_of_name pn_java_util_DualPivotQuicksort) hisR ?_
  intro p e s m args below meth c s₁ Bd hml0 hP hK
  obtain ⟨rfl, hZ, hh⟩ := hP
  have hx := Bd.exec
  have hby := Bd.bytes
  have hml : c.maxLocals = 7 := hml0
  have hown : s.vm.findClass "java/util/DualPivotQuicksort" = some m.cls := findClass_of_methodNamed Bd.named
  have hnm := (name_of_methodNamed Bd.named Bd.method).1
  have X0 : Stand p l e ({ frames := 2, cells := 0, slots := 0, locals := 54 } : Room) s m #[(.ref c_), (.int (0 : Int32)), (.int (0 : Int32)), (.int (2 : Int32))] below meth c s₁ [] 0 0 := Stand.of_body Bd
  have e0 : s₁.heap = h0 := by rw [← hh, Bd.state]; rfl
  have N0 := Fr.nil n0
  have KP0 : Keep h0 h0 [c_] := Keep.refl h0 _
  have pre0 : ∀ t, Steps p.tables e below (s₁.setTop (mkF m 0 #[.val (.ref c_), .val (.int (0 : Int32)), .val (.int (0 : Int32)), .val (.int (2 : Int32)), .unset, .unset, .unset] [])) t → Steps p.tables e below (s₁.setTop (entryFrame m #[(.ref c_), (.int (0 : Int32)), (.int (0 : Int32)), (.int (2 : Int32))] 7)) t := fun t k => castTop (ef_11_RIII m c_ (0 : Int32) (0 : Int32) (2 : Int32)) k
  obtain ⟨_, _, ⟨T105, L105, k105, n105⟩, -, X105, ⟨Lc105, hQ105, l105, y105, z105⟩, st105⟩ := Jvm.LawKit.callS X0 hx (y := (⟨"java/util/DualPivotQuicksort", "sort", "(Ljava/util/DualPivotQuicksort$Sorter;[JIII)V"⟩ : MethodName)) hown (mvT hZ (hw _ (List.mem_of_getElem? (i := 54) rfl))) (mvT hZ (hw _ (List.mem_of_getElem? (i := 55) rfl))) (mvT hZ (hw _ (List.mem_of_getElem? (i := 52) rfl))) (mvT hZ (hw _ (List.mem_of_getElem? (i := 56) rfl))) (by decide) (backOf (W := 0) (rm12_2 l Z aA hw [] c_ kc_ x0 x1 h0 n0 Z0 g_c_ V_c) hZ (hw _ (List.mem_of_getElem? (i := 56) rfl)) (hw _ (List.mem_of_getElem? (i := 52) rfl)) (by decide) (by decide)) (g := (mkF m 73 #[.val (.ref c_), .val (.int (0 : Int32)), .val (.int (0 : Int32)), .val (.int (2 : Int32)), .val (.int (2 : Int32)), .unset, .unset] [(.int (2 : Int32)), (.int (0 : Int32)), (.int (0 : Int32)), (.ref c_), .null])) rfl (by rw [hml]; rfl) (argsL := [.null, (.ref c_), (.int (0 : Int32)), (.int (0 : Int32)), (.int (2 : Int32))]) (rest := []) (lenOf pd__28Ljava_2futil_2fDualPivotQuicksort_24Sorter_3b_5bJIII_29V rfl) rfl (by show 2 * 0 + _ ≤ _; exact Nat.le_of_eq rfl) (hb hby d11_73) (fun _ _ => ⟨rfl, e0, (by decide : 0 + 0 ≤ _), (by decide : 0 + 0 ≤ _)⟩)
  dsimp only [Pt.U, Pt.locs, Pt.cells, Pt.slots] at X105 l105 y105 z105 st105 hQ105
  subst l105 y105 z105
  obtain ⟨rfl, N105q, K105, Vq105⟩ := hQ105
  have N105 := Fr.app N0 N105q
  have KP105 : Keep h0 T105.heap [c_] := KP0.trans K105 (allS (Or.inl (List.mem_of_getElem? (i := 0) rfl)) all0)
  have Z105 : n0 ≤ T105.heap.size := Nat.le_trans Z0 K105.1
  have pre106 : ∀ t, Steps p.tables e below (T105.setTop (mkF m 76 #[.val (.ref c_), .val (.int (0 : Int32)), .val (.int (0 : Int32)), .val (.int (2 : Int32)), .val (.int (2 : Int32)), .unset, .unset] [])) t → Steps p.tables e below (s₁.setTop (entryFrame m #[(.ref c_), (.int (0 : Int32)), (.int (0 : Int32)), (.int (2 : Int32))] 7)) t := by
    intro t kk
    refine pre0 t ?_
    show Steps p.tables e below (s₁.setTop (mkF m 0 #[.val (.ref c_), .val (.int (0 : Int32)), .val (.int (0 : Int32)), .val (.int (2 : Int32)), .unset, .unset, .unset] [])) _
    refine XS.iloadN X0.here hx rfl (hb hby d11_0) rfl ?_
    show Steps p.tables e below (s₁.setTop (mkF m 1 #[.val (.ref c_), .val (.int (0 : Int32)), .val (.int (0 : Int32)), .val (.int (2 : Int32)), .unset, .unset, .unset] [(.int (2 : Int32))])) _
    refine XS.iloadN X0.here hx rfl (hb hby d11_1) rfl ?_
    show Steps p.tables e below (s₁.setTop (mkF m 2 #[.val (.ref c_), .val (.int (0 : Int32)), .val (.int (0 : Int32)), .val (.int (2 : Int32)), .unset, .unset, .unset] [(.int (0 : Int32)), (.int (2 : Int32))])) _
    refine XS.isub X0.here hx rfl (hb hby d11_2) rfl ?_
    show Steps p.tables e below (s₁.setTop (mkF m 3 #[.val (.ref c_), .val (.int (0 : Int32)), .val (.int (0 : Int32)), .val (.int (2 : Int32)), .unset, .unset, .unset] [(.int (2 : Int32))])) _
    refine XS.istore X0.here hx rfl (hb hby d11_3) rfl (l' := #[.val (.ref c_), .val (.int (0 : Int32)), .val (.int (0 : Int32)), .val (.int (2 : Int32)), .val (.int (2 : Int32)), .unset, .unset]) rfl ?_
    show Steps p.tables e below (s₁.setTop (mkF m 5 #[.val (.ref c_), .val (.int (0 : Int32)), .val (.int (0 : Int32)), .val (.int (2 : Int32)), .val (.int (2 : Int32)), .unset, .unset] [])) _
    refine XS.iloadN X0.here hx rfl (hb hby d11_5) rfl ?_
    show Steps p.tables e below (s₁.setTop (mkF m 6 #[.val (.ref c_), .val (.int (0 : Int32)), .val (.int (0 : Int32)), .val (.int (2 : Int32)), .val (.int (2 : Int32)), .unset, .unset] [(.int (0 : Int32))])) _
    refine XS.iconst X0.here hx rfl (hb hby d11_6) ?_
    show Steps p.tables e below (s₁.setTop (mkF m 7 #[.val (.ref c_), .val (.int (0 : Int32)), .val (.int (0 : Int32)), .val (.int (2 : Int32)), .val (.int (2 : Int32)), .unset, .unset] [(.int (1 : Int32)), (.int (0 : Int32))])) _
    refine XS.icmpYes X0.here hx rfl (pc0 := 7) (pc' := 68) rfl (hb hby d11_7) rfl (flt (by decide : ¬ ((1 : Int32) < (0 : Int32)))).2.2.2 (by decide) (by decide) ?_
    show Steps p.tables e below (s₁.setTop (mkF m 68 #[.val (.ref c_), .val (.int (0 : Int32)), .val (.int (0 : Int32)), .val (.int (2 : Int32)), .val (.int (2 : Int32)), .unset, .unset] [])) _
    refine XS.aconstNull X0.here hx rfl (hb hby d11_68) ?_
    show Steps p.tables e below (s₁.setTop (mkF m 69 #[.val (.ref c_), .val (.int (0 : Int32)), .val (.int (0 : Int32)), .val (.int (2 : Int32)), .val (.int (2 : Int32)), .unset, .unset] [.null])) _
    refine XS.aloadN X0.here hx rfl (hb hby d11_69) rfl rfl ?_
    show Steps p.tables e below (s₁.setTop (mkF m 70 #[.val (.ref c_), .val (.int (0 : Int32)), .val (.int (0 : Int32)), .val (.int (2 : Int32)), .val (.int (2 : Int32)), .unset, .unset] [(.ref c_), .null])) _
    refine XS.iconst X0.here hx rfl (hb hby d11_70) ?_
    show Steps p.tables e below (s₁.setTop (mkF m 71 #[.val (.ref c_), .val (.int (0 : Int32)), .val (.int (0 : Int32)), .val (.int (2 : Int32)), .val (.int (2 : Int32)), .unset, .unset] [(.int (0 : Int32)), (.ref c_), .null])) _
    refine XS.iloadN X0.here hx rfl (hb hby d11_71) rfl ?_
    show Steps p.tables e below (s₁.setTop (mkF m 72 #[.val (.ref c_), .val (.int (0 : Int32)), .val (.int (0 : Int32)), .val (.int (2 : Int32)), .val (.int (2 : Int32)), .unset, .unset] [(.int (0 : Int32)), (.int (0 : Int32)), (.ref c_), .null])) _
    refine XS.iloadN X0.here hx rfl (hb hby d11_72) rfl ?_
    show Steps p.tables e below (s₁.setTop (mkF m 73 #[.val (.ref c_), .val (.int (0 : Int32)), .val (.int (0 : Int32)), .val (.int (2 : Int32)), .val (.int (2 : Int32)), .unset, .unset] [(.int (2 : Int32)), (.int (0 : Int32)), (.int (0 : Int32)), (.ref c_), .null])) _
    refine st105 _ ?_
    exact kk
  obtain ⟨fs, hr, hrun, hended, hW, hsame⟩ := X105.leave (v := none) (fun _ => rfl)
  refine ⟨_, _, pre106 _ ?_, hrun, hended, _, _, rfl, ?_, ⟨_, rfl⟩, hW, hsame.mono (by decide) (by decide)⟩
  · show Steps p.tables e below (T105.setTop (mkF m 76 #[.val (.ref c_), .val (.int (0 : Int32)), .val (.int (0 : Int32)), .val (.int (2 : Int32)), .val (.int (2 : Int32)), .unset, .unset] [])) _
    exact X105.returnOut hx Bd.returns (hb hby d11_76) hr
  · show Q11_2 Z c_ kc_ x0 x1 h0 n0 _ T105.heap _
    exact ⟨rfl, N105, KP105, Vq105⟩
def Q11_3 (Z : State) (c_ : Addr) (kc_ : ClassId) (x0 : Int64) (x1 : Int64) (x2 : Int64) (h0 : Heap) (n0 : Nat) (v : Option Value) (h : Heap) (L : List Loc) : Prop := v = none ∧ Fr n0 L ∧ Keep h0 h [c_] ∧ Arv Z h c_ kc_ .long (3 : Int32) [(.long (own_s3_0 x0 x1 x2)), (.long (own_s3_1 x0 x1 x2)), (.long (own_s3_2 x0 x1 x2))] (.long (0 : Int64))
set_option maxRecDepth 65536 in
set_option maxHeartbeats 40000000 in
theorem rm11_3 (l : Launch) (Z : State) (aA : Array Value) (hw : ∀ d ∈ tables_1, d.before aA Z = true) (ws : List Jvm.Cond) (c_ : Addr) (kc_ : ClassId) (x0 : Int64) (x1 : Int64) (x2 : Int64) (h0 : Heap) (n0 : Nat) (Z0 : n0 ≤ h0.size) (g_c_ : n0 ≤ c_) (V_c : Arv Z h0 c_ kc_ .long (3 : Int32) [(.long x0), (.long x1), (.long x2)] (.long (0 : Int64))) :
    MetFree l (⟨"java/util/DualPivotQuicksort", "sort", "([JIII)V"⟩ : MethodName) (head1 (Jvm.Cond.code (⟨"java/util/DualPivotQuicksort", "sort", "([JIII)V"⟩ : MethodName) jdk_2529_method_12_code 7 none :: ws) ({ frames := 2, cells := 0, slots := 0, locals := 54 } : Room)) (fun a U => a = #[(.ref c_), (.int (0 : Int32)), (.int (0 : Int32)), (.int (3 : Int32))] ∧ Z.Warmed39 U.vm ∧ U.heap = h0) (fun _ _ _ _ _ => True) (fun _ U o U' => ∃ v L, o = .returned v ∧ Q11_3 Z c_ kc_ x0 x1 x2 h0 n0 v U'.heap L ∧ FrameEnd U o U' L ({ frames := 2, cells := 0, slots := 0, locals := 54 } : Room).cells ({ frames := 2, cells := 0, slots := 0, locals := 54 } : Room).slots) := by
  refine MetFree.of_bodySF (plainFor_of_name pn_java_util_DualPivotQuicksort) hisR ?_
  intro p e s m args below meth c s₁ Bd hml0 hP hK
  obtain ⟨rfl, hZ, hh⟩ := hP
  have hx := Bd.exec
  have hby := Bd.bytes
  have hml : c.maxLocals = 7 := hml0
  have hown : s.vm.findClass "java/util/DualPivotQuicksort" = some m.cls := findClass_of_methodNamed Bd.named
  have hnm := (name_of_methodNamed Bd.named Bd.method).1
  have X0 : Stand p l e ({ frames := 2, cells := 0, slots := 0, locals := 54 } : Room) s m #[(.ref c_), (.int (0 : Int32)), (.int (0 : Int32)), (.int (3 : Int32))] below meth c s₁ [] 0 0 := Stand.of_body Bd
  have e0 : s₁.heap = h0 := by rw [← hh, Bd.state]; rfl
  have N0 := Fr.nil n0
  have KP0 : Keep h0 h0 [c_] := Keep.refl h0 _
  have pre0 : ∀ t, Steps p.tables e below (s₁.setTop (mkF m 0 #[.val (.ref c_), .val (.int (0 : Int32)), .val (.int (0 : Int32)), .val (.int (3 : Int32)), .unset, .unset, .unset] [])) t → Steps p.tables e below (s₁.setTop (entryFrame m #[(.ref c_), (.int (0 : Int32)), (.int (0 : Int32)), (.int (3 : Int32))] 7)) t := fun t k => castTop (ef_11_RIII m c_ (0 : Int32) (0 : Int32) (3 : Int32)) k
  obtain ⟨_, _, ⟨T107, L107, k107, n107⟩, -, X107, ⟨Lc107, hQ107, l107, y107, z107⟩, st107⟩ := Jvm.LawKit.callS X0 hx (y := (⟨"java/util/DualPivotQuicksort", "sort", "(Ljava/util/DualPivotQuicksort$Sorter;[JIII)V"⟩ : MethodName)) hown (mvT hZ (hw _ (List.mem_of_getElem? (i := 54) rfl))) (mvT hZ (hw _ (List.mem_of_getElem? (i := 55) rfl))) (mvT hZ (hw _ (List.mem_of_getElem? (i := 52) rfl))) (mvT hZ (hw _ (List.mem_of_getElem? (i := 56) rfl))) (by decide) (backOf (W := 0) (rm12_3 l Z aA hw [] c_ kc_ x0 x1 x2 h0 n0 Z0 g_c_ V_c) hZ (hw _ (List.mem_of_getElem? (i := 56) rfl)) (hw _ (List.mem_of_getElem? (i := 52) rfl)) (by decide) (by decide)) (g := (mkF m 73 #[.val (.ref c_), .val (.int (0 : Int32)), .val (.int (0 : Int32)), .val (.int (3 : Int32)), .val (.int (3 : Int32)), .unset, .unset] [(.int (3 : Int32)), (.int (0 : Int32)), (.int (0 : Int32)), (.ref c_), .null])) rfl (by rw [hml]; rfl) (argsL := [.null, (.ref c_), (.int (0 : Int32)), (.int (0 : Int32)), (.int (3 : Int32))]) (rest := []) (lenOf pd__28Ljava_2futil_2fDualPivotQuicksort_24Sorter_3b_5bJIII_29V rfl) rfl (by show 2 * 0 + _ ≤ _; exact Nat.le_of_eq rfl) (hb hby d11_73) (fun _ _ => ⟨rfl, e0, (by decide : 0 + 0 ≤ _), (by decide : 0 + 0 ≤ _)⟩)
  dsimp only [Pt.U, Pt.locs, Pt.cells, Pt.slots] at X107 l107 y107 z107 st107 hQ107
  subst l107 y107 z107
  obtain ⟨rfl, N107q, K107, Vq107⟩ := hQ107
  have N107 := Fr.app N0 N107q
  have KP107 : Keep h0 T107.heap [c_] := KP0.trans K107 (allS (Or.inl (List.mem_of_getElem? (i := 0) rfl)) all0)
  have Z107 : n0 ≤ T107.heap.size := Nat.le_trans Z0 K107.1
  have pre108 : ∀ t, Steps p.tables e below (T107.setTop (mkF m 76 #[.val (.ref c_), .val (.int (0 : Int32)), .val (.int (0 : Int32)), .val (.int (3 : Int32)), .val (.int (3 : Int32)), .unset, .unset] [])) t → Steps p.tables e below (s₁.setTop (entryFrame m #[(.ref c_), (.int (0 : Int32)), (.int (0 : Int32)), (.int (3 : Int32))] 7)) t := by
    intro t kk
    refine pre0 t ?_
    show Steps p.tables e below (s₁.setTop (mkF m 0 #[.val (.ref c_), .val (.int (0 : Int32)), .val (.int (0 : Int32)), .val (.int (3 : Int32)), .unset, .unset, .unset] [])) _
    refine XS.iloadN X0.here hx rfl (hb hby d11_0) rfl ?_
    show Steps p.tables e below (s₁.setTop (mkF m 1 #[.val (.ref c_), .val (.int (0 : Int32)), .val (.int (0 : Int32)), .val (.int (3 : Int32)), .unset, .unset, .unset] [(.int (3 : Int32))])) _
    refine XS.iloadN X0.here hx rfl (hb hby d11_1) rfl ?_
    show Steps p.tables e below (s₁.setTop (mkF m 2 #[.val (.ref c_), .val (.int (0 : Int32)), .val (.int (0 : Int32)), .val (.int (3 : Int32)), .unset, .unset, .unset] [(.int (0 : Int32)), (.int (3 : Int32))])) _
    refine XS.isub X0.here hx rfl (hb hby d11_2) rfl ?_
    show Steps p.tables e below (s₁.setTop (mkF m 3 #[.val (.ref c_), .val (.int (0 : Int32)), .val (.int (0 : Int32)), .val (.int (3 : Int32)), .unset, .unset, .unset] [(.int (3 : Int32))])) _
    refine XS.istore X0.here hx rfl (hb hby d11_3) rfl (l' := #[.val (.ref c_), .val (.int (0 : Int32)), .val (.int (0 : Int32)), .val (.int (3 : Int32)), .val (.int (3 : Int32)), .unset, .unset]) rfl ?_
    show Steps p.tables e below (s₁.setTop (mkF m 5 #[.val (.ref c_), .val (.int (0 : Int32)), .val (.int (0 : Int32)), .val (.int (3 : Int32)), .val (.int (3 : Int32)), .unset, .unset] [])) _
    refine XS.iloadN X0.here hx rfl (hb hby d11_5) rfl ?_
    show Steps p.tables e below (s₁.setTop (mkF m 6 #[.val (.ref c_), .val (.int (0 : Int32)), .val (.int (0 : Int32)), .val (.int (3 : Int32)), .val (.int (3 : Int32)), .unset, .unset] [(.int (0 : Int32))])) _
    refine XS.iconst X0.here hx rfl (hb hby d11_6) ?_
    show Steps p.tables e below (s₁.setTop (mkF m 7 #[.val (.ref c_), .val (.int (0 : Int32)), .val (.int (0 : Int32)), .val (.int (3 : Int32)), .val (.int (3 : Int32)), .unset, .unset] [(.int (1 : Int32)), (.int (0 : Int32))])) _
    refine XS.icmpYes X0.here hx rfl (pc0 := 7) (pc' := 68) rfl (hb hby d11_7) rfl (flt (by decide : ¬ ((1 : Int32) < (0 : Int32)))).2.2.2 (by decide) (by decide) ?_
    show Steps p.tables e below (s₁.setTop (mkF m 68 #[.val (.ref c_), .val (.int (0 : Int32)), .val (.int (0 : Int32)), .val (.int (3 : Int32)), .val (.int (3 : Int32)), .unset, .unset] [])) _
    refine XS.aconstNull X0.here hx rfl (hb hby d11_68) ?_
    show Steps p.tables e below (s₁.setTop (mkF m 69 #[.val (.ref c_), .val (.int (0 : Int32)), .val (.int (0 : Int32)), .val (.int (3 : Int32)), .val (.int (3 : Int32)), .unset, .unset] [.null])) _
    refine XS.aloadN X0.here hx rfl (hb hby d11_69) rfl rfl ?_
    show Steps p.tables e below (s₁.setTop (mkF m 70 #[.val (.ref c_), .val (.int (0 : Int32)), .val (.int (0 : Int32)), .val (.int (3 : Int32)), .val (.int (3 : Int32)), .unset, .unset] [(.ref c_), .null])) _
    refine XS.iconst X0.here hx rfl (hb hby d11_70) ?_
    show Steps p.tables e below (s₁.setTop (mkF m 71 #[.val (.ref c_), .val (.int (0 : Int32)), .val (.int (0 : Int32)), .val (.int (3 : Int32)), .val (.int (3 : Int32)), .unset, .unset] [(.int (0 : Int32)), (.ref c_), .null])) _
    refine XS.iloadN X0.here hx rfl (hb hby d11_71) rfl ?_
    show Steps p.tables e below (s₁.setTop (mkF m 72 #[.val (.ref c_), .val (.int (0 : Int32)), .val (.int (0 : Int32)), .val (.int (3 : Int32)), .val (.int (3 : Int32)), .unset, .unset] [(.int (0 : Int32)), (.int (0 : Int32)), (.ref c_), .null])) _
    refine XS.iloadN X0.here hx rfl (hb hby d11_72) rfl ?_
    show Steps p.tables e below (s₁.setTop (mkF m 73 #[.val (.ref c_), .val (.int (0 : Int32)), .val (.int (0 : Int32)), .val (.int (3 : Int32)), .val (.int (3 : Int32)), .unset, .unset] [(.int (3 : Int32)), (.int (0 : Int32)), (.int (0 : Int32)), (.ref c_), .null])) _
    refine st107 _ ?_
    exact kk
  obtain ⟨fs, hr, hrun, hended, hW, hsame⟩ := X107.leave (v := none) (fun _ => rfl)
  refine ⟨_, _, pre108 _ ?_, hrun, hended, _, _, rfl, ?_, ⟨_, rfl⟩, hW, hsame.mono (by decide) (by decide)⟩
  · show Steps p.tables e below (T107.setTop (mkF m 76 #[.val (.ref c_), .val (.int (0 : Int32)), .val (.int (0 : Int32)), .val (.int (3 : Int32)), .val (.int (3 : Int32)), .unset, .unset] [])) _
    exact X107.returnOut hx Bd.returns (hb hby d11_76) hr
  · show Q11_3 Z c_ kc_ x0 x1 x2 h0 n0 _ T107.heap _
    exact ⟨rfl, N107, KP107, Vq107⟩
theorem pd__28_5bJIII_29V : parseMethodDescriptor "([JIII)V" = some ⟨[(.array .long), .int, .int, .int], none⟩ := by decide +kernel
theorem d10_0 : decode jdk_65_method_4_code 0 = .ok (.aload_n 0, 1) := by decide +kernel
theorem d10_1 : decode jdk_65_method_4_code 1 = .ok (.iconst 0, 1) := by decide +kernel
theorem d10_2 : decode jdk_65_method_4_code 2 = .ok (.iconst 0, 1) := by decide +kernel
theorem d10_3 : decode jdk_65_method_4_code 3 = .ok (.aload_n 0, 1) := by decide +kernel
theorem d10_4 : decode jdk_65_method_4_code 4 = .ok (.arraylength, 1) := by decide +kernel
theorem d10_5 : decode jdk_65_method_4_code 5 = .ok (.invokestatic 19, 3) := by decide +kernel
theorem d10_8 : decode jdk_65_method_4_code 8 = .ok (.return_, 1) := by decide +kernel
theorem pn_java_util_Arrays : plainName "java/util/Arrays" = true := by first | (simp [plainName, overriddenIn]; done) | decide +kernel
theorem ef_10_R (m : MethodId) (x0 : Addr) : entryFrame m #[(.ref x0)] 1 = mkF m 0 #[.val (.ref x0)] [] := by first | (simp [entryFrame, mkF, argsToLocals, Value.category]; done) | rfl
def Q10_1 (Z : State) (c_ : Addr) (kc_ : ClassId) (x0 : Int64) (h0 : Heap) (n0 : Nat) (v : Option Value) (h : Heap) (L : List Loc) : Prop := v = none ∧ Fr n0 L ∧ Keep h0 h [c_] ∧ Arv Z h c_ kc_ .long (1 : Int32) [(.long x0)] (.long (0 : Int64))
set_option maxRecDepth 65536 in
set_option maxHeartbeats 40000000 in
theorem rm10_1 (l : Launch) (Z : State) (aA : Array Value) (hw : ∀ d ∈ tables_1, d.before aA Z = true) (ws : List Jvm.Cond) (c_ : Addr) (kc_ : ClassId) (x0 : Int64) (h0 : Heap) (n0 : Nat) (Z0 : n0 ≤ h0.size) (g_c_ : n0 ≤ c_) (V_c : Arv Z h0 c_ kc_ .long (1 : Int32) [(.long x0)] (.long (0 : Int64))) :
    MetFree l (⟨"java/util/Arrays", "sort", "([J)V"⟩ : MethodName) (head1 (Jvm.Cond.code (⟨"java/util/Arrays", "sort", "([J)V"⟩ : MethodName) jdk_65_method_4_code 1 none :: ws) ({ frames := 3, cells := 0, slots := 0, locals := 72 } : Room)) (fun a U => a = #[(.ref c_)] ∧ Z.Warmed39 U.vm ∧ U.heap = h0) (fun _ _ _ _ _ => True) (fun _ U o U' => ∃ v L, o = .returned v ∧ Q10_1 Z c_ kc_ x0 h0 n0 v U'.heap L ∧ FrameEnd U o U' L ({ frames := 3, cells := 0, slots := 0, locals := 72 } : Room).cells ({ frames := 3, cells := 0, slots := 0, locals := 72 } : Room).slots) := by
  refine MetFree.of_bodySF (plainFor_of_name pn_java_util_Arrays) hisR ?_
  intro p e s m args below meth c s₁ Bd hml0 hP hK
  obtain ⟨rfl, hZ, hh⟩ := hP
  have hx := Bd.exec
  have hby := Bd.bytes
  have hml : c.maxLocals = 1 := hml0
  have hown : s.vm.findClass "java/util/Arrays" = some m.cls := findClass_of_methodNamed Bd.named
  have hnm := (name_of_methodNamed Bd.named Bd.method).1
  have X0 : Stand p l e ({ frames := 3, cells := 0, slots := 0, locals := 72 } : Room) s m #[(.ref c_)] below meth c s₁ [] 0 0 := Stand.of_body Bd
  have e0 : s₁.heap = h0 := by rw [← hh, Bd.state]; rfl
  have N0 := Fr.nil n0
  have KP0 : Keep h0 h0 [c_] := Keep.refl h0 _
  have pre0 : ∀ t, Steps p.tables e below (s₁.setTop (mkF m 0 #[.val (.ref c_)] [])) t → Steps p.tables e below (s₁.setTop (entryFrame m #[(.ref c_)] 1)) t := fun t k => castTop (ef_10_R m c_) k
  obtain ⟨cl109, Ar109, -, S109, N109v, -, -⟩ := id V_c
  obtain ⟨_, _, ⟨T110, L110, k110, n110⟩, -, X110, ⟨Lc110, hQ110, l110, y110, z110⟩, st110⟩ := Jvm.LawKit.callS X0 hx (y := (⟨"java/util/DualPivotQuicksort", "sort", "([JIII)V"⟩ : MethodName)) hown (mvT hZ (hw _ (List.mem_of_getElem? (i := 50) rfl))) (mvT hZ (hw _ (List.mem_of_getElem? (i := 51) rfl))) (mvT hZ (hw _ (List.mem_of_getElem? (i := 52) rfl))) (mvT hZ (hw _ (List.mem_of_getElem? (i := 53) rfl))) (by decide) (backOf (W := 0) (rm11_1 l Z aA hw [] c_ kc_ x0 h0 n0 Z0 g_c_ V_c) hZ (hw _ (List.mem_of_getElem? (i := 53) rfl)) (hw _ (List.mem_of_getElem? (i := 52) rfl)) (by decide) (by decide)) (g := (mkF m 5 #[.val (.ref c_)] [(.int (1 : Int32)), (.int (0 : Int32)), (.int (0 : Int32)), (.ref c_)])) rfl (by rw [hml]; rfl) (argsL := [(.ref c_), (.int (0 : Int32)), (.int (0 : Int32)), (.int (1 : Int32))]) (rest := []) (lenOf pd__28_5bJIII_29V rfl) rfl (by show 2 * 0 + _ ≤ _; exact Nat.le_of_eq rfl) (hb hby d10_5) (fun _ _ => ⟨rfl, e0, (by decide : 0 + 0 ≤ _), (by decide : 0 + 0 ≤ _)⟩)
  dsimp only [Pt.U, Pt.locs, Pt.cells, Pt.slots] at X110 l110 y110 z110 st110 hQ110
  subst l110 y110 z110
  obtain ⟨rfl, N110q, K110, Vq110⟩ := hQ110
  have N110 := Fr.app N0 N110q
  have KP110 : Keep h0 T110.heap [c_] := KP0.trans K110 (allS (Or.inl (List.mem_of_getElem? (i := 0) rfl)) all0)
  have Z110 : n0 ≤ T110.heap.size := Nat.le_trans Z0 K110.1
  have pre111 : ∀ t, Steps p.tables e below (T110.setTop (mkF m 8 #[.val (.ref c_)] [])) t → Steps p.tables e below (s₁.setTop (entryFrame m #[(.ref c_)] 1)) t := by
    intro t kk
    refine pre0 t ?_
    show Steps p.tables e below (s₁.setTop (mkF m 0 #[.val (.ref c_)] [])) _
    refine XS.aloadN X0.here hx rfl (hb hby d10_0) rfl rfl ?_
    show Steps p.tables e below (s₁.setTop (mkF m 1 #[.val (.ref c_)] [(.ref c_)])) _
    refine XS.iconst X0.here hx rfl (hb hby d10_1) ?_
    show Steps p.tables e below (s₁.setTop (mkF m 2 #[.val (.ref c_)] [(.int (0 : Int32)), (.ref c_)])) _
    refine XS.iconst X0.here hx rfl (hb hby d10_2) ?_
    show Steps p.tables e below (s₁.setTop (mkF m 3 #[.val (.ref c_)] [(.int (0 : Int32)), (.int (0 : Int32)), (.ref c_)])) _
    refine XS.aloadN X0.here hx rfl (hb hby d10_3) rfl rfl ?_
    show Steps p.tables e below (s₁.setTop (mkF m 4 #[.val (.ref c_)] [(.ref c_), (.int (0 : Int32)), (.int (0 : Int32)), (.ref c_)])) _
    refine X0.arraylength hx (by rw [e0]; exact Ar109.1) (State.isArrayOf_alike hZ.alike Ar109.2.1) (g := (mkF m 4 #[.val (.ref c_)] [(.ref c_), (.int (0 : Int32)), (.int (0 : Int32)), (.ref c_)])) rfl rfl (hb hby d10_4) _ ?_
    rw [len_of S109 N109v]
    show Steps p.tables e below (s₁.setTop (mkF m 5 #[.val (.ref c_)] [(.int (1 : Int32)), (.int (0 : Int32)), (.int (0 : Int32)), (.ref c_)])) _
    refine st110 _ ?_
    exact kk
  obtain ⟨fs, hr, hrun, hended, hW, hsame⟩ := X110.leave (v := none) (fun _ => rfl)
  refine ⟨_, _, pre111 _ ?_, hrun, hended, _, _, rfl, ?_, ⟨_, rfl⟩, hW, hsame.mono (by decide) (by decide)⟩
  · show Steps p.tables e below (T110.setTop (mkF m 8 #[.val (.ref c_)] [])) _
    exact X110.returnOut hx Bd.returns (hb hby d10_8) hr
  · show Q10_1 Z c_ kc_ x0 h0 n0 _ T110.heap _
    exact ⟨rfl, N110, KP110, Vq110⟩
def Q10_2 (Z : State) (c_ : Addr) (kc_ : ClassId) (x0 : Int64) (x1 : Int64) (h0 : Heap) (n0 : Nat) (v : Option Value) (h : Heap) (L : List Loc) : Prop := v = none ∧ Fr n0 L ∧ Keep h0 h [c_] ∧ Arv Z h c_ kc_ .long (2 : Int32) [(.long (own_s2_0 x0 x1)), (.long (own_s2_1 x0 x1))] (.long (0 : Int64))
set_option maxRecDepth 65536 in
set_option maxHeartbeats 40000000 in
theorem rm10_2 (l : Launch) (Z : State) (aA : Array Value) (hw : ∀ d ∈ tables_1, d.before aA Z = true) (ws : List Jvm.Cond) (c_ : Addr) (kc_ : ClassId) (x0 : Int64) (x1 : Int64) (h0 : Heap) (n0 : Nat) (Z0 : n0 ≤ h0.size) (g_c_ : n0 ≤ c_) (V_c : Arv Z h0 c_ kc_ .long (2 : Int32) [(.long x0), (.long x1)] (.long (0 : Int64))) :
    MetFree l (⟨"java/util/Arrays", "sort", "([J)V"⟩ : MethodName) (head1 (Jvm.Cond.code (⟨"java/util/Arrays", "sort", "([J)V"⟩ : MethodName) jdk_65_method_4_code 1 none :: ws) ({ frames := 3, cells := 0, slots := 0, locals := 72 } : Room)) (fun a U => a = #[(.ref c_)] ∧ Z.Warmed39 U.vm ∧ U.heap = h0) (fun _ _ _ _ _ => True) (fun _ U o U' => ∃ v L, o = .returned v ∧ Q10_2 Z c_ kc_ x0 x1 h0 n0 v U'.heap L ∧ FrameEnd U o U' L ({ frames := 3, cells := 0, slots := 0, locals := 72 } : Room).cells ({ frames := 3, cells := 0, slots := 0, locals := 72 } : Room).slots) := by
  refine MetFree.of_bodySF (plainFor_of_name pn_java_util_Arrays) hisR ?_
  intro p e s m args below meth c s₁ Bd hml0 hP hK
  obtain ⟨rfl, hZ, hh⟩ := hP
  have hx := Bd.exec
  have hby := Bd.bytes
  have hml : c.maxLocals = 1 := hml0
  have hown : s.vm.findClass "java/util/Arrays" = some m.cls := findClass_of_methodNamed Bd.named
  have hnm := (name_of_methodNamed Bd.named Bd.method).1
  have X0 : Stand p l e ({ frames := 3, cells := 0, slots := 0, locals := 72 } : Room) s m #[(.ref c_)] below meth c s₁ [] 0 0 := Stand.of_body Bd
  have e0 : s₁.heap = h0 := by rw [← hh, Bd.state]; rfl
  have N0 := Fr.nil n0
  have KP0 : Keep h0 h0 [c_] := Keep.refl h0 _
  have pre0 : ∀ t, Steps p.tables e below (s₁.setTop (mkF m 0 #[.val (.ref c_)] [])) t → Steps p.tables e below (s₁.setTop (entryFrame m #[(.ref c_)] 1)) t := fun t k => castTop (ef_10_R m c_) k
  obtain ⟨cl112, Ar112, -, S112, N112v, -, -⟩ := id V_c
  obtain ⟨_, _, ⟨T113, L113, k113, n113⟩, -, X113, ⟨Lc113, hQ113, l113, y113, z113⟩, st113⟩ := Jvm.LawKit.callS X0 hx (y := (⟨"java/util/DualPivotQuicksort", "sort", "([JIII)V"⟩ : MethodName)) hown (mvT hZ (hw _ (List.mem_of_getElem? (i := 50) rfl))) (mvT hZ (hw _ (List.mem_of_getElem? (i := 51) rfl))) (mvT hZ (hw _ (List.mem_of_getElem? (i := 52) rfl))) (mvT hZ (hw _ (List.mem_of_getElem? (i := 53) rfl))) (by decide) (backOf (W := 0) (rm11_2 l Z aA hw [] c_ kc_ x0 x1 h0 n0 Z0 g_c_ V_c) hZ (hw _ (List.mem_of_getElem? (i := 53) rfl)) (hw _ (List.mem_of_getElem? (i := 52) rfl)) (by decide) (by decide)) (g := (mkF m 5 #[.val (.ref c_)] [(.int (2 : Int32)), (.int (0 : Int32)), (.int (0 : Int32)), (.ref c_)])) rfl (by rw [hml]; rfl) (argsL := [(.ref c_), (.int (0 : Int32)), (.int (0 : Int32)), (.int (2 : Int32))]) (rest := []) (lenOf pd__28_5bJIII_29V rfl) rfl (by show 2 * 0 + _ ≤ _; exact Nat.le_of_eq rfl) (hb hby d10_5) (fun _ _ => ⟨rfl, e0, (by decide : 0 + 0 ≤ _), (by decide : 0 + 0 ≤ _)⟩)
  dsimp only [Pt.U, Pt.locs, Pt.cells, Pt.slots] at X113 l113 y113 z113 st113 hQ113
  subst l113 y113 z113
  obtain ⟨rfl, N113q, K113, Vq113⟩ := hQ113
  have N113 := Fr.app N0 N113q
  have KP113 : Keep h0 T113.heap [c_] := KP0.trans K113 (allS (Or.inl (List.mem_of_getElem? (i := 0) rfl)) all0)
  have Z113 : n0 ≤ T113.heap.size := Nat.le_trans Z0 K113.1
  have pre114 : ∀ t, Steps p.tables e below (T113.setTop (mkF m 8 #[.val (.ref c_)] [])) t → Steps p.tables e below (s₁.setTop (entryFrame m #[(.ref c_)] 1)) t := by
    intro t kk
    refine pre0 t ?_
    show Steps p.tables e below (s₁.setTop (mkF m 0 #[.val (.ref c_)] [])) _
    refine XS.aloadN X0.here hx rfl (hb hby d10_0) rfl rfl ?_
    show Steps p.tables e below (s₁.setTop (mkF m 1 #[.val (.ref c_)] [(.ref c_)])) _
    refine XS.iconst X0.here hx rfl (hb hby d10_1) ?_
    show Steps p.tables e below (s₁.setTop (mkF m 2 #[.val (.ref c_)] [(.int (0 : Int32)), (.ref c_)])) _
    refine XS.iconst X0.here hx rfl (hb hby d10_2) ?_
    show Steps p.tables e below (s₁.setTop (mkF m 3 #[.val (.ref c_)] [(.int (0 : Int32)), (.int (0 : Int32)), (.ref c_)])) _
    refine XS.aloadN X0.here hx rfl (hb hby d10_3) rfl rfl ?_
    show Steps p.tables e below (s₁.setTop (mkF m 4 #[.val (.ref c_)] [(.ref c_), (.int (0 : Int32)), (.int (0 : Int32)), (.ref c_)])) _
    refine X0.arraylength hx (by rw [e0]; exact Ar112.1) (State.isArrayOf_alike hZ.alike Ar112.2.1) (g := (mkF m 4 #[.val (.ref c_)] [(.ref c_), (.int (0 : Int32)), (.int (0 : Int32)), (.ref c_)])) rfl rfl (hb hby d10_4) _ ?_
    rw [len_of S112 N112v]
    show Steps p.tables e below (s₁.setTop (mkF m 5 #[.val (.ref c_)] [(.int (2 : Int32)), (.int (0 : Int32)), (.int (0 : Int32)), (.ref c_)])) _
    refine st113 _ ?_
    exact kk
  obtain ⟨fs, hr, hrun, hended, hW, hsame⟩ := X113.leave (v := none) (fun _ => rfl)
  refine ⟨_, _, pre114 _ ?_, hrun, hended, _, _, rfl, ?_, ⟨_, rfl⟩, hW, hsame.mono (by decide) (by decide)⟩
  · show Steps p.tables e below (T113.setTop (mkF m 8 #[.val (.ref c_)] [])) _
    exact X113.returnOut hx Bd.returns (hb hby d10_8) hr
  · show Q10_2 Z c_ kc_ x0 x1 h0 n0 _ T113.heap _
    exact ⟨rfl, N113, KP113, Vq113⟩
def Q10_3 (Z : State) (c_ : Addr) (kc_ : ClassId) (x0 : Int64) (x1 : Int64) (x2 : Int64) (h0 : Heap) (n0 : Nat) (v : Option Value) (h : Heap) (L : List Loc) : Prop := v = none ∧ Fr n0 L ∧ Keep h0 h [c_] ∧ Arv Z h c_ kc_ .long (3 : Int32) [(.long (own_s3_0 x0 x1 x2)), (.long (own_s3_1 x0 x1 x2)), (.long (own_s3_2 x0 x1 x2))] (.long (0 : Int64))
set_option maxRecDepth 65536 in
set_option maxHeartbeats 40000000 in
theorem rm10_3 (l : Launch) (Z : State) (aA : Array Value) (hw : ∀ d ∈ tables_1, d.before aA Z = true) (ws : List Jvm.Cond) (c_ : Addr) (kc_ : ClassId) (x0 : Int64) (x1 : Int64) (x2 : Int64) (h0 : Heap) (n0 : Nat) (Z0 : n0 ≤ h0.size) (g_c_ : n0 ≤ c_) (V_c : Arv Z h0 c_ kc_ .long (3 : Int32) [(.long x0), (.long x1), (.long x2)] (.long (0 : Int64))) :
    MetFree l (⟨"java/util/Arrays", "sort", "([J)V"⟩ : MethodName) (head1 (Jvm.Cond.code (⟨"java/util/Arrays", "sort", "([J)V"⟩ : MethodName) jdk_65_method_4_code 1 none :: ws) ({ frames := 3, cells := 0, slots := 0, locals := 72 } : Room)) (fun a U => a = #[(.ref c_)] ∧ Z.Warmed39 U.vm ∧ U.heap = h0) (fun _ _ _ _ _ => True) (fun _ U o U' => ∃ v L, o = .returned v ∧ Q10_3 Z c_ kc_ x0 x1 x2 h0 n0 v U'.heap L ∧ FrameEnd U o U' L ({ frames := 3, cells := 0, slots := 0, locals := 72 } : Room).cells ({ frames := 3, cells := 0, slots := 0, locals := 72 } : Room).slots) := by
  refine MetFree.of_bodySF (plainFor_of_name pn_java_util_Arrays) hisR ?_
  intro p e s m args below meth c s₁ Bd hml0 hP hK
  obtain ⟨rfl, hZ, hh⟩ := hP
  have hx := Bd.exec
  have hby := Bd.bytes
  have hml : c.maxLocals = 1 := hml0
  have hown : s.vm.findClass "java/util/Arrays" = some m.cls := findClass_of_methodNamed Bd.named
  have hnm := (name_of_methodNamed Bd.named Bd.method).1
  have X0 : Stand p l e ({ frames := 3, cells := 0, slots := 0, locals := 72 } : Room) s m #[(.ref c_)] below meth c s₁ [] 0 0 := Stand.of_body Bd
  have e0 : s₁.heap = h0 := by rw [← hh, Bd.state]; rfl
  have N0 := Fr.nil n0
  have KP0 : Keep h0 h0 [c_] := Keep.refl h0 _
  have pre0 : ∀ t, Steps p.tables e below (s₁.setTop (mkF m 0 #[.val (.ref c_)] [])) t → Steps p.tables e below (s₁.setTop (entryFrame m #[(.ref c_)] 1)) t := fun t k => castTop (ef_10_R m c_) k
  obtain ⟨cl115, Ar115, -, S115, N115v, -, -⟩ := id V_c
  obtain ⟨_, _, ⟨T116, L116, k116, n116⟩, -, X116, ⟨Lc116, hQ116, l116, y116, z116⟩, st116⟩ := Jvm.LawKit.callS X0 hx (y := (⟨"java/util/DualPivotQuicksort", "sort", "([JIII)V"⟩ : MethodName)) hown (mvT hZ (hw _ (List.mem_of_getElem? (i := 50) rfl))) (mvT hZ (hw _ (List.mem_of_getElem? (i := 51) rfl))) (mvT hZ (hw _ (List.mem_of_getElem? (i := 52) rfl))) (mvT hZ (hw _ (List.mem_of_getElem? (i := 53) rfl))) (by decide) (backOf (W := 0) (rm11_3 l Z aA hw [] c_ kc_ x0 x1 x2 h0 n0 Z0 g_c_ V_c) hZ (hw _ (List.mem_of_getElem? (i := 53) rfl)) (hw _ (List.mem_of_getElem? (i := 52) rfl)) (by decide) (by decide)) (g := (mkF m 5 #[.val (.ref c_)] [(.int (3 : Int32)), (.int (0 : Int32)), (.int (0 : Int32)), (.ref c_)])) rfl (by rw [hml]; rfl) (argsL := [(.ref c_), (.int (0 : Int32)), (.int (0 : Int32)), (.int (3 : Int32))]) (rest := []) (lenOf pd__28_5bJIII_29V rfl) rfl (by show 2 * 0 + _ ≤ _; exact Nat.le_of_eq rfl) (hb hby d10_5) (fun _ _ => ⟨rfl, e0, (by decide : 0 + 0 ≤ _), (by decide : 0 + 0 ≤ _)⟩)
  dsimp only [Pt.U, Pt.locs, Pt.cells, Pt.slots] at X116 l116 y116 z116 st116 hQ116
  subst l116 y116 z116
  obtain ⟨rfl, N116q, K116, Vq116⟩ := hQ116
  have N116 := Fr.app N0 N116q
  have KP116 : Keep h0 T116.heap [c_] := KP0.trans K116 (allS (Or.inl (List.mem_of_getElem? (i := 0) rfl)) all0)
  have Z116 : n0 ≤ T116.heap.size := Nat.le_trans Z0 K116.1
  have pre117 : ∀ t, Steps p.tables e below (T116.setTop (mkF m 8 #[.val (.ref c_)] [])) t → Steps p.tables e below (s₁.setTop (entryFrame m #[(.ref c_)] 1)) t := by
    intro t kk
    refine pre0 t ?_
    show Steps p.tables e below (s₁.setTop (mkF m 0 #[.val (.ref c_)] [])) _
    refine XS.aloadN X0.here hx rfl (hb hby d10_0) rfl rfl ?_
    show Steps p.tables e below (s₁.setTop (mkF m 1 #[.val (.ref c_)] [(.ref c_)])) _
    refine XS.iconst X0.here hx rfl (hb hby d10_1) ?_
    show Steps p.tables e below (s₁.setTop (mkF m 2 #[.val (.ref c_)] [(.int (0 : Int32)), (.ref c_)])) _
    refine XS.iconst X0.here hx rfl (hb hby d10_2) ?_
    show Steps p.tables e below (s₁.setTop (mkF m 3 #[.val (.ref c_)] [(.int (0 : Int32)), (.int (0 : Int32)), (.ref c_)])) _
    refine XS.aloadN X0.here hx rfl (hb hby d10_3) rfl rfl ?_
    show Steps p.tables e below (s₁.setTop (mkF m 4 #[.val (.ref c_)] [(.ref c_), (.int (0 : Int32)), (.int (0 : Int32)), (.ref c_)])) _
    refine X0.arraylength hx (by rw [e0]; exact Ar115.1) (State.isArrayOf_alike hZ.alike Ar115.2.1) (g := (mkF m 4 #[.val (.ref c_)] [(.ref c_), (.int (0 : Int32)), (.int (0 : Int32)), (.ref c_)])) rfl rfl (hb hby d10_4) _ ?_
    rw [len_of S115 N115v]
    show Steps p.tables e below (s₁.setTop (mkF m 5 #[.val (.ref c_)] [(.int (3 : Int32)), (.int (0 : Int32)), (.int (0 : Int32)), (.ref c_)])) _
    refine st116 _ ?_
    exact kk
  obtain ⟨fs, hr, hrun, hended, hW, hsame⟩ := X116.leave (v := none) (fun _ => rfl)
  refine ⟨_, _, pre117 _ ?_, hrun, hended, _, _, rfl, ?_, ⟨_, rfl⟩, hW, hsame.mono (by decide) (by decide)⟩
  · show Steps p.tables e below (T116.setTop (mkF m 8 #[.val (.ref c_)] [])) _
    exact X116.returnOut hx Bd.returns (hb hby d10_8) hr
  · show Q10_3 Z c_ kc_ x0 x1 x2 h0 n0 _ T116.heap _
    exact ⟨rfl, N116, KP116, Vq116⟩
theorem own_lt {a b c : Int32} (h1 : a < b) (h2 : b < c) : a < c := by
  rw [Int32.lt_iff_toInt_lt] at *
  omega
theorem own_k0 (x kv : Int32) (h : kv = (x &&& (3 : Int32))) (h1 : kv < (1 : Int32)) : kv = (0 : Int32) := by
  have a := c_and x (3 : Int32) (by decide)
  rw [← h] at a
  rw [Int32.lt_iff_toInt_lt, show (1 : Int32).toInt = 1 by decide] at h1
  apply Int32.toInt_inj.mp
  rw [show (0 : Int32).toInt = 0 by decide]
  omega
theorem own_k1 (kv : Int32) (h1 : ¬ kv < (1 : Int32)) (h2 : kv < (2 : Int32)) : kv = (1 : Int32) := by
  rw [Int32.lt_iff_toInt_lt, show (1 : Int32).toInt = 1 by decide] at h1
  rw [Int32.lt_iff_toInt_lt, show (2 : Int32).toInt = 2 by decide] at h2
  apply Int32.toInt_inj.mp
  rw [show (1 : Int32).toInt = 1 by decide]
  omega
theorem own_k2 (kv : Int32) (h1 : ¬ kv < (2 : Int32)) (h2 : kv < (3 : Int32)) : kv = (2 : Int32) := by
  rw [Int32.lt_iff_toInt_lt, show (2 : Int32).toInt = 2 by decide] at h1
  rw [Int32.lt_iff_toInt_lt, show (3 : Int32).toInt = 3 by decide] at h2
  apply Int32.toInt_inj.mp
  rw [show (2 : Int32).toInt = 2 by decide]
  omega
theorem own_k3 (x kv : Int32) (h : kv = (x &&& (3 : Int32))) (h1 : ¬ kv < (3 : Int32)) : kv = (3 : Int32) := by
  have a := c_and x (3 : Int32) (by decide)
  rw [← h, show (3 : Int32).toInt = 3 by decide] at a
  rw [Int32.lt_iff_toInt_lt, show (3 : Int32).toInt = 3 by decide] at h1
  apply Int32.toInt_inj.mp
  rw [show (3 : Int32).toInt = 3 by decide]
  omega
theorem own_v2_lo (q0 q1 : Int64) : (own_s2_0 q0 q1) = (F5 q0 q1) := by
  apply Int64.toInt_inj.mp
  unfold own_s2_0
  try unfold F5
  try unfold F6
  simp only [Int64.lt_iff_toInt_lt]
  repeat' split
  all_goals first | rfl | omega | (simp only [Int64.lt_iff_toInt_lt] at *; omega)
theorem own_eq2_lo (q0 q1 : Int64) : FP.dcmp (FP.ddiv (FP.l2d (own_s2_0 q0 q1)) (4696837146684686336 : UInt64)) (FP.ddiv (FP.l2d (F5 q0 q1)) (4696837146684686336 : UInt64)) = some .eq := by
  rw [own_v2_lo]
  exact own_self _
theorem own_v2_mid (q0 q1 : Int64) : (own_s2_0 q0 q1) = (F5 q0 q1) := by
  apply Int64.toInt_inj.mp
  unfold own_s2_0
  try unfold F5
  try unfold F6
  simp only [Int64.lt_iff_toInt_lt]
  repeat' split
  all_goals first | rfl | omega | (simp only [Int64.lt_iff_toInt_lt] at *; omega)
theorem own_eq2_mid (q0 q1 : Int64) : FP.dcmp (FP.ddiv (FP.l2d (own_s2_0 q0 q1)) (4696837146684686336 : UInt64)) (FP.ddiv (FP.l2d (F5 q0 q1)) (4696837146684686336 : UInt64)) = some .eq := by
  rw [own_v2_mid]
  exact own_self _
theorem own_v2_hi (q0 q1 : Int64) : (own_s2_1 q0 q1) = (F6 q0 q1) := by
  apply Int64.toInt_inj.mp
  unfold own_s2_1
  try unfold F5
  try unfold F6
  simp only [Int64.lt_iff_toInt_lt]
  repeat' split
  all_goals first | rfl | omega | (simp only [Int64.lt_iff_toInt_lt] at *; omega)
theorem own_eq2_hi (q0 q1 : Int64) : FP.dcmp (FP.ddiv (FP.l2d (own_s2_1 q0 q1)) (4696837146684686336 : UInt64)) (FP.ddiv (FP.l2d (F6 q0 q1)) (4696837146684686336 : UInt64)) = some .eq := by
  rw [own_v2_hi]
  exact own_self _
theorem own_v3_lo (q0 q1 q2 : Int64) : (own_s3_0 q0 q1 q2) = (F5 (F5 q0 q1) q2) := by
  apply Int64.toInt_inj.mp
  unfold own_s3_0
  try unfold F5
  try unfold F6
  simp only [Int64.lt_iff_toInt_lt]
  repeat' split
  all_goals first | rfl | omega | (simp only [Int64.lt_iff_toInt_lt] at *; omega)
theorem own_eq3_lo (q0 q1 q2 : Int64) : FP.dcmp (FP.ddiv (FP.l2d (own_s3_0 q0 q1 q2)) (4696837146684686336 : UInt64)) (FP.ddiv (FP.l2d (F5 (F5 q0 q1) q2)) (4696837146684686336 : UInt64)) = some .eq := by
  rw [own_v3_lo]
  exact own_self _
theorem own_v3_mid (q0 q1 q2 : Int64) : (own_s3_1 q0 q1 q2) = (F6 (F5 q0 q1) (F5 (F6 q0 q1) q2)) := by
  apply Int64.toInt_inj.mp
  unfold own_s3_1
  try unfold F5
  try unfold F6
  simp only [Int64.lt_iff_toInt_lt]
  repeat' split
  all_goals first | rfl | omega | (simp only [Int64.lt_iff_toInt_lt] at *; omega)
theorem own_eq3_mid (q0 q1 q2 : Int64) : FP.dcmp (FP.ddiv (FP.l2d (own_s3_1 q0 q1 q2)) (4696837146684686336 : UInt64)) (FP.ddiv (FP.l2d (F6 (F5 q0 q1) (F5 (F6 q0 q1) q2))) (4696837146684686336 : UInt64)) = some .eq := by
  rw [own_v3_mid]
  exact own_self _
theorem own_v3_hi (q0 q1 q2 : Int64) : (own_s3_2 q0 q1 q2) = (F6 (F6 q0 q1) q2) := by
  apply Int64.toInt_inj.mp
  unfold own_s3_2
  try unfold F5
  try unfold F6
  simp only [Int64.lt_iff_toInt_lt]
  repeat' split
  all_goals first | rfl | omega | (simp only [Int64.lt_iff_toInt_lt] at *; omega)
theorem own_eq3_hi (q0 q1 q2 : Int64) : FP.dcmp (FP.ddiv (FP.l2d (own_s3_2 q0 q1 q2)) (4696837146684686336 : UInt64)) (FP.ddiv (FP.l2d (F6 (F6 q0 q1) q2)) (4696837146684686336 : UInt64)) = some .eq := by
  rw [own_v3_hi]
  exact own_self _
theorem pd__28_29V : parseMethodDescriptor "()V" = some ⟨[], none⟩ := by decide +kernel
theorem pd__28_29I : parseMethodDescriptor "()I" = some ⟨[], some .int⟩ := by decide +kernel
theorem d7_0 : decode prog_53_method_5_code 0 = .ok (.aload_n 0, 1) := by decide +kernel
theorem d7_1 : decode prog_53_method_5_code 1 = .ok (.getfield 13, 3) := by decide +kernel
theorem d7_4 : decode prog_53_method_5_code 4 = .ok (.ifCond .ne 7, 3) := by decide +kernel
theorem d7_7 : decode prog_53_method_5_code 7 = .ok (.ldc2_w 29, 3) := by decide +kernel
theorem d7_10 : decode prog_53_method_5_code 10 = .ok (.dreturn, 1) := by decide +kernel
theorem ef_7_RI (m : MethodId) (x0 : Addr) (x1 : Int32) : entryFrame m #[(.ref x0), (.int x1)] 5 = mkF m 0 #[.val (.ref x0), .val (.int x1), .unset, .unset, .unset] [] := by first | (simp [entryFrame, mkF, argsToLocals, Value.category]; done) | rfl
def Q7_0_50 (Z : State) (a_ : Addr) (b_ : Addr) (k_ : ClassId) (h0 : Heap) (n0 : Nat) (v : Option Value) (h : Heap) (L : List Loc) : Prop := v = some (.double (9221120237041090560 : UInt64)) ∧ Fr n0 L ∧ Keep h0 h []
set_option maxRecDepth 65536 in
set_option maxHeartbeats 40000000 in
theorem rm7_0_50 (l : Launch) (Z : State) (aA : Array Value) (hw : ∀ d ∈ tables_1, d.before aA Z = true) (ws : List Jvm.Cond) (a_ : Addr) (b_ : Addr) (k_ : ClassId) (h0 : Heap) (n0 : Nat) (Z0 : n0 ≤ h0.size) (hne : a_ ≠ b_) (E_a : Exa Z h0 a_ "farspeak/greeter/Times") (F_nanos : Fld Z h0 a_ "farspeak/greeter/Times" "nanos" "[J" (.ref b_)) (F_size : Fld Z h0 a_ "farspeak/greeter/Times" "size" "I" (.int (0 : Int32))) (V_b : Arv Z h0 b_ k_ .long (1024 : Int32) [] (.long (0 : Int64))) :
    MetFree l (⟨"farspeak/greeter/Times", "percentileMillis", "(I)D"⟩ : MethodName) (head1 (Jvm.Cond.code (⟨"farspeak/greeter/Times", "percentileMillis", "(I)D"⟩ : MethodName) prog_53_method_5_code 5 (some .double) :: ws) ({ frames := 0, cells := 0, slots := 0, locals := 0 } : Room)) (fun a U => a = #[(.ref a_), (.int (50 : Int32))] ∧ Z.Warmed39 U.vm ∧ U.heap = h0) (fun _ _ _ _ _ => True) (fun _ U o U' => ∃ v L, o = .returned v ∧ Q7_0_50 Z a_ b_ k_ h0 n0 v U'.heap L ∧ FrameEnd U o U' L ({ frames := 0, cells := 0, slots := 0, locals := 0 } : Room).cells ({ frames := 0, cells := 0, slots := 0, locals := 0 } : Room).slots) := by
  refine MetFree.of_bodySF (plainFor_of_name pn_farspeak_greeter_Times) hisR ?_
  intro p e s m args below meth c s₁ Bd hml0 hP hK
  obtain ⟨rfl, hZ, hh⟩ := hP
  have hx := Bd.exec
  have hby := Bd.bytes
  have hml : c.maxLocals = 5 := hml0
  have hown : s.vm.findClass "farspeak/greeter/Times" = some m.cls := findClass_of_methodNamed Bd.named
  have hnm := (name_of_methodNamed Bd.named Bd.method).1
  have X0 : Stand p l e ({ frames := 0, cells := 0, slots := 0, locals := 0 } : Room) s m #[(.ref a_), (.int (50 : Int32))] below meth c s₁ [] 0 0 := Stand.of_body Bd
  have e0 : s₁.heap = h0 := by rw [← hh, Bd.state]; rfl
  have N0 := Fr.nil n0
  have KP0 : Keep h0 h0 [] := Keep.refl h0 _
  have pre0 : ∀ t, Steps p.tables e below (s₁.setTop (mkF m 0 #[.val (.ref a_), .val (.int (50 : Int32)), .unset, .unset, .unset] [])) t → Steps p.tables e below (s₁.setTop (entryFrame m #[(.ref a_), (.int (50 : Int32))] 5)) t := fun t k => castTop (ef_7_RI m a_ (50 : Int32)) k
  obtain ⟨T128, X128, e128, st128⟩ := getF X0 hx hZ hown (host := "") (Or.inl (hw _ (List.mem_of_getElem? (i := 17) rfl))) Via.refl e0 F_size (g := (mkF m 1 #[.val (.ref a_), .val (.int (50 : Int32)), .unset, .unset, .unset] [(.ref a_)])) rfl rfl (hb hby d7_1)
  have pre129 : ∀ t, Steps p.tables e below (T128.setTop (mkF m 10 #[.val (.ref a_), .val (.int (50 : Int32)), .unset, .unset, .unset] [(.double (9221120237041090560 : UInt64))])) t → Steps p.tables e below (s₁.setTop (entryFrame m #[(.ref a_), (.int (50 : Int32))] 5)) t := by
    intro t kk
    refine pre0 t ?_
    show Steps p.tables e below (s₁.setTop (mkF m 0 #[.val (.ref a_), .val (.int (50 : Int32)), .unset, .unset, .unset] [])) _
    refine XS.aloadN X0.here hx rfl (hb hby d7_0) rfl rfl ?_
    show Steps p.tables e below (s₁.setTop (mkF m 1 #[.val (.ref a_), .val (.int (50 : Int32)), .unset, .unset, .unset] [(.ref a_)])) _
    refine st128 _ ?_
    show Steps p.tables e below (T128.setTop (mkF m 4 #[.val (.ref a_), .val (.int (50 : Int32)), .unset, .unset, .unset] [(.int (0 : Int32))])) _
    refine XS.ifNo X128.here hx rfl (hb hby d7_4) rfl ((if0 _ _).trans (teq (by decide : (0 : Int32) = (0 : Int32))).2) ?_
    show Steps p.tables e below (T128.setTop (mkF m 7 #[.val (.ref a_), .val (.int (50 : Int32)), .unset, .unset, .unset] [])) _
    refine X128.ldc2DoubleC hx hown (mvT hZ (hw _ (List.mem_of_getElem? (i := 68) rfl))) (g := (mkF m 7 #[.val (.ref a_), .val (.int (50 : Int32)), .unset, .unset, .unset] [])) rfl (hb hby d7_7) _ ?_
    exact kk
  obtain ⟨fs, hr, hrun, hended, hW, hsame⟩ := X128.leave (v := some (.double (9221120237041090560 : UInt64))) (fun h => by rw [Bd.returns] at h; cases h)
  refine ⟨_, _, pre129 _ ?_, hrun, hended, _, _, rfl, ?_, ⟨_, rfl⟩, hW, hsame.mono (by decide) (by decide)⟩
  · show Steps p.tables e below (T128.setTop (mkF m 10 #[.val (.ref a_), .val (.int (50 : Int32)), .unset, .unset, .unset] [(.double (9221120237041090560 : UInt64))])) _
    exact retOut X128 hx Bd.returns rfl (Or.inr (Or.inr (Or.inl ⟨rfl, rfl, _, rfl⟩))) (hb hby d7_10) hr
  · show Q7_0_50 Z a_ b_ k_ h0 n0 _ T128.heap _
    rw [e128]
    exact ⟨rfl, N0, KP0⟩
theorem pd__28I_29D : parseMethodDescriptor "(I)D" = some ⟨[.int], some .double⟩ := by decide +kernel
theorem d3_0 : decode prog_53_method_2_code 0 = .ok (.aload_n 0, 1) := by decide +kernel
theorem d3_1 : decode prog_53_method_2_code 1 = .ok (.getfield 13, 3) := by decide +kernel
theorem d3_4 : decode prog_53_method_2_code 4 = .ok (.aload_n 0, 1) := by decide +kernel
theorem d3_5 : decode prog_53_method_2_code 5 = .ok (.getfield 7, 3) := by decide +kernel
theorem d3_8 : decode prog_53_method_2_code 8 = .ok (.arraylength, 1) := by decide +kernel
theorem d3_9 : decode prog_53_method_2_code 9 = .ok (.if_icmp .ne 20, 3) := by decide +kernel
theorem d3_29 : decode prog_53_method_2_code 29 = .ok (.aload_n 0, 1) := by decide +kernel
theorem d3_30 : decode prog_53_method_2_code 30 = .ok (.getfield 7, 3) := by decide +kernel
theorem d3_33 : decode prog_53_method_2_code 33 = .ok (.aload_n 0, 1) := by decide +kernel
theorem d3_34 : decode prog_53_method_2_code 34 = .ok (.dup, 1) := by decide +kernel
theorem d3_35 : decode prog_53_method_2_code 35 = .ok (.getfield 13, 3) := by decide +kernel
theorem d3_38 : decode prog_53_method_2_code 38 = .ok (.dup_x1, 1) := by decide +kernel
theorem d3_39 : decode prog_53_method_2_code 39 = .ok (.iconst 1, 1) := by decide +kernel
theorem d3_40 : decode prog_53_method_2_code 40 = .ok (.iadd, 1) := by decide +kernel
theorem d3_41 : decode prog_53_method_2_code 41 = .ok (.putfield 13, 3) := by decide +kernel
theorem d3_44 : decode prog_53_method_2_code 44 = .ok (.lload_n 1, 1) := by decide +kernel
theorem d3_45 : decode prog_53_method_2_code 45 = .ok (.lastore, 1) := by decide +kernel
theorem d3_46 : decode prog_53_method_2_code 46 = .ok (.return_, 1) := by decide +kernel
theorem ef_3_RJ (m : MethodId) (x0 : Addr) (x1 : Int64) : entryFrame m #[(.ref x0), (.long x1)] 3 = mkF m 0 #[.val (.ref x0), .val (.long x1), .second] [] := by first | (simp [entryFrame, mkF, argsToLocals, Value.category]; done) | rfl
def Q3_0 (Z : State) (a_ : Addr) (q_ : Int64) (b_ : Addr) (k_ : ClassId) (h0 : Heap) (n0 : Nat) (v : Option Value) (h : Heap) (L : List Loc) : Prop := v = none ∧ Fr n0 L ∧ Keep h0 h [a_, b_] ∧ Exa Z h a_ "farspeak/greeter/Times" ∧ Fld Z h a_ "farspeak/greeter/Times" "nanos" "[J" (.ref b_) ∧ Fld Z h a_ "farspeak/greeter/Times" "size" "I" (.int (1 : Int32)) ∧ Arv Z h b_ k_ .long (1024 : Int32) [(.long q_)] (.long (0 : Int64))
set_option maxRecDepth 65536 in
set_option maxHeartbeats 40000000 in
theorem rm3_0 (l : Launch) (Z : State) (aA : Array Value) (hw : ∀ d ∈ tables_1, d.before aA Z = true) (ws : List Jvm.Cond) (a_ : Addr) (q_ : Int64) (b_ : Addr) (k_ : ClassId) (h0 : Heap) (n0 : Nat) (Z0 : n0 ≤ h0.size) (g_a_ : n0 ≤ a_) (g_b_ : n0 ≤ b_) (hne : a_ ≠ b_) (E_a : Exa Z h0 a_ "farspeak/greeter/Times") (F_nanos : Fld Z h0 a_ "farspeak/greeter/Times" "nanos" "[J" (.ref b_)) (F_size : Fld Z h0 a_ "farspeak/greeter/Times" "size" "I" (.int (0 : Int32))) (V_b : Arv Z h0 b_ k_ .long (1024 : Int32) [] (.long (0 : Int64))) :
    MetFree l (⟨"farspeak/greeter/Times", "add", "(J)V"⟩ : MethodName) (head1 (Jvm.Cond.code (⟨"farspeak/greeter/Times", "add", "(J)V"⟩ : MethodName) prog_53_method_2_code 3 none :: ws) ({ frames := 0, cells := 0, slots := 0, locals := 0 } : Room)) (fun a U => a = #[(.ref a_), (.long q_)] ∧ Z.Warmed39 U.vm ∧ U.heap = h0) (fun _ _ _ _ _ => True) (fun _ U o U' => ∃ v L, o = .returned v ∧ Q3_0 Z a_ q_ b_ k_ h0 n0 v U'.heap L ∧ FrameEnd U o U' L ({ frames := 0, cells := 0, slots := 0, locals := 0 } : Room).cells ({ frames := 0, cells := 0, slots := 0, locals := 0 } : Room).slots) := by
  refine MetFree.of_bodySF (plainFor_of_name pn_farspeak_greeter_Times) hisR ?_
  intro p e s m args below meth c s₁ Bd hml0 hP hK
  obtain ⟨rfl, hZ, hh⟩ := hP
  have hx := Bd.exec
  have hby := Bd.bytes
  have hml : c.maxLocals = 3 := hml0
  have hown : s.vm.findClass "farspeak/greeter/Times" = some m.cls := findClass_of_methodNamed Bd.named
  have hnm := (name_of_methodNamed Bd.named Bd.method).1
  have X0 : Stand p l e ({ frames := 0, cells := 0, slots := 0, locals := 0 } : Room) s m #[(.ref a_), (.long q_)] below meth c s₁ [] 0 0 := Stand.of_body Bd
  have e0 : s₁.heap = h0 := by rw [← hh, Bd.state]; rfl
  have N0 := Fr.nil n0
  have KP0 : Keep h0 h0 [a_, b_] := Keep.refl h0 _
  have pre0 : ∀ t, Steps p.tables e below (s₁.setTop (mkF m 0 #[.val (.ref a_), .val (.long q_), .second] [])) t → Steps p.tables e below (s₁.setTop (entryFrame m #[(.ref a_), (.long q_)] 3)) t := fun t k => castTop (ef_3_RJ m a_ q_) k
  obtain ⟨T136, X136, e136, st136⟩ := getF X0 hx hZ hown (host := "") (Or.inl (hw _ (List.mem_of_getElem? (i := 17) rfl))) Via.refl e0 F_size (g := (mkF m 1 #[.val (.ref a_), .val (.long q_), .second] [(.ref a_)])) rfl rfl (hb hby d3_1)
  obtain ⟨T137, X137, e137, st137⟩ := getF X136 hx hZ hown (host := "") (Or.inl (hw _ (List.mem_of_getElem? (i := 10) rfl))) Via.refl e136 F_nanos (g := (mkF m 5 #[.val (.ref a_), .val (.long q_), .second] [(.ref a_), (.int (0 : Int32))])) rfl rfl (hb hby d3_5)
  obtain ⟨cl138, Ar138, -, S138, N138v, -, -⟩ := id V_b
  obtain ⟨T139, X139, e139, st139⟩ := getF X137 hx hZ hown (host := "") (Or.inl (hw _ (List.mem_of_getElem? (i := 10) rfl))) Via.refl e137 F_nanos (g := (mkF m 30 #[.val (.ref a_), .val (.long q_), .second] [(.ref a_)])) rfl rfl (hb hby d3_30)
  obtain ⟨T140, X140, e140, st140⟩ := getF X139 hx hZ hown (host := "") (Or.inl (hw _ (List.mem_of_getElem? (i := 17) rfl))) Via.refl e139 F_size (g := (mkF m 35 #[.val (.ref a_), .val (.long q_), .second] [(.ref a_), (.ref a_), (.ref b_)])) rfl rfl (hb hby d3_35)
  obtain ⟨T141, h141, X141, e141, W141, st141⟩ := putF X140 hx hZ hown (host := "") (Or.inl (hw _ (List.mem_of_getElem? (i := 17) rfl))) Via.refl e140 F_size E_a (Or.inl (hw _ (List.mem_of_getElem? (i := 18) rfl))) (hw _ (List.mem_of_getElem? (i := 1) rfl)) (ty := .int) (by decide) rfl rfl (g := (mkF m 41 #[.val (.ref a_), .val (.long q_), .second] [(.int (1 : Int32)), (.ref a_), (.int (0 : Int32)), (.ref b_)])) rfl rfl (hb hby d3_41)
  have Fw141 := F_size.same W141
  have KP141 : Keep h0 h141 [a_, b_] := KP0.wr W141 (Or.inl (List.mem_of_getElem? (i := 0) rfl))
  have Z141 : n0 ≤ h141.size := Nat.le_trans Z0 (Nat.le_of_eq W141.size.symm)
  have N141 := Fr.snoc X141 N0 g_a_
  have E_a__142 : Exa Z h141 a_ "farspeak/greeter/Times" := E_a.wr W141
  have F_a__nanos_143 : Fld Z h141 a_ "farspeak/greeter/Times" "nanos" "[J" (.ref b_) := F_nanos.other W141 (Or.inr (slot_ne (Or.inl (hw _ (List.mem_of_getElem? (i := 11) rfl))) (Or.inl (hw _ (List.mem_of_getElem? (i := 18) rfl))) (by decide) (t := (.array .long)) (t' := .int) (by decide) (by decide)))
  have V_b__144 : Arv Z h141 b_ k_ .long (1024 : Int32) [] (.long (0 : Int64)) := V_b.other W141 (Ne.symm hne)
  have Vp145 : Arv Z h141 b_ k_ .long (1024 : Int32) [(.long (0 : Int64))] (.long (0 : Int64)) := V_b__144.pad (pad_rep [] (.long (0 : Int64)) 1)
  obtain ⟨cl145, Ar145, q145, S145, N145v, H145, G145⟩ := Vp145
  have hin145 : ¬ ((0 : Int32) < 0 ∨ cl145.slots.size ≤ ((0 : Int32)).toNatClampNeg) := inb_of S145 ⟨by decide, by decide⟩
  obtain ⟨T146, h146, X146, e146, W146, st146⟩ := stJ X141 hx hZ e141 Ar145 (j := (0 : Int32)) hin145 (g := (mkF m 45 #[.val (.ref a_), .val (.long q_), .second] [(.long q_), (.int (0 : Int32)), (.ref b_)])) rfl rfl (hb hby d3_45)
  have Vw146 : Arv Z h146 b_ k_ .long (1024 : Int32) [(.long q_)] (.long (0 : Int64)) := Arv.set Ar145 q145 S145 N145v H145 G145 rfl W146 0 rfl (Nat.le_of_ble_eq_true rfl)
  have KP146 : Keep h0 h146 [a_, b_] := KP141.wr W146 (Or.inl (List.mem_of_getElem? (i := 1) rfl))
  have Z146 : n0 ≤ h146.size := Nat.le_trans Z141 (Nat.le_of_eq W146.size.symm)
  have N146 := Fr.snoc X146 N141 g_b_
  have E_a__147 : Exa Z h146 a_ "farspeak/greeter/Times" := E_a__142.wr W146
  have F_a__nanos_148 : Fld Z h146 a_ "farspeak/greeter/Times" "nanos" "[J" (.ref b_) := F_a__nanos_143.other W146 (Or.inl hne)
  have F_a__size_149 : Fld Z h146 a_ "farspeak/greeter/Times" "size" "I" (.int (1 : Int32)) := Fw141.other W146 (Or.inl hne)
  have pre150 : ∀ t, Steps p.tables e below (T146.setTop (mkF m 46 #[.val (.ref a_), .val (.long q_), .second] [])) t → Steps p.tables e below (s₁.setTop (entryFrame m #[(.ref a_), (.long q_)] 3)) t := by
    intro t kk
    refine pre0 t ?_
    show Steps p.tables e below (s₁.setTop (mkF m 0 #[.val (.ref a_), .val (.long q_), .second] [])) _
    refine XS.aloadN X0.here hx rfl (hb hby d3_0) rfl rfl ?_
    show Steps p.tables e below (s₁.setTop (mkF m 1 #[.val (.ref a_), .val (.long q_), .second] [(.ref a_)])) _
    refine st136 _ ?_
    show Steps p.tables e below (T136.setTop (mkF m 4 #[.val (.ref a_), .val (.long q_), .second] [(.int (0 : Int32))])) _
    refine XS.aloadN X136.here hx rfl (hb hby d3_4) rfl rfl ?_
    show Steps p.tables e below (T136.setTop (mkF m 5 #[.val (.ref a_), .val (.long q_), .second] [(.ref a_), (.int (0 : Int32))])) _
    refine st137 _ ?_
    show Steps p.tables e below (T137.setTop (mkF m 8 #[.val (.ref a_), .val (.long q_), .second] [(.ref b_), (.int (0 : Int32))])) _
    refine X137.arraylength hx (by rw [e137]; exact Ar138.1) (State.isArrayOf_alike hZ.alike Ar138.2.1) (g := (mkF m 8 #[.val (.ref a_), .val (.long q_), .second] [(.ref b_), (.int (0 : Int32))])) rfl rfl (hb hby d3_8) _ ?_
    rw [len_of S138 N138v]
    show Steps p.tables e below (T137.setTop (mkF m 9 #[.val (.ref a_), .val (.long q_), .second] [(.int (1024 : Int32)), (.int (0 : Int32))])) _
    refine XS.icmpYes X137.here hx rfl (pc0 := 9) (pc' := 29) rfl (hb hby d3_9) rfl (feq (by decide : ¬ ((0 : Int32) = (1024 : Int32)))).2 (by decide) (by decide) ?_
    show Steps p.tables e below (T137.setTop (mkF m 29 #[.val (.ref a_), .val (.long q_), .second] [])) _
    refine XS.aloadN X137.here hx rfl (hb hby d3_29) rfl rfl ?_
    show Steps p.tables e below (T137.setTop (mkF m 30 #[.val (.ref a_), .val (.long q_), .second] [(.ref a_)])) _
    refine st139 _ ?_
    show Steps p.tables e below (T139.setTop (mkF m 33 #[.val (.ref a_), .val (.long q_), .second] [(.ref b_)])) _
    refine XS.aloadN X139.here hx rfl (hb hby d3_33) rfl rfl ?_
    show Steps p.tables e below (T139.setTop (mkF m 34 #[.val (.ref a_), .val (.long q_), .second] [(.ref a_), (.ref b_)])) _
    refine XS.dup X139.here hx rfl (hb hby d3_34) rfl rfl ?_
    show Steps p.tables e below (T139.setTop (mkF m 35 #[.val (.ref a_), .val (.long q_), .second] [(.ref a_), (.ref a_), (.ref b_)])) _
    refine st140 _ ?_
    show Steps p.tables e below (T140.setTop (mkF m 38 #[.val (.ref a_), .val (.long q_), .second] [(.int (0 : Int32)), (.ref a_), (.ref b_)])) _
    refine XS.dupX1 X140.here hx rfl (hb hby d3_38) rfl rfl rfl ?_
    show Steps p.tables e below (T140.setTop (mkF m 39 #[.val (.ref a_), .val (.long q_), .second] [(.int (0 : Int32)), (.ref a_), (.int (0 : Int32)), (.ref b_)])) _
    refine XS.iconst X140.here hx rfl (hb hby d3_39) ?_
    show Steps p.tables e below (T140.setTop (mkF m 40 #[.val (.ref a_), .val (.long q_), .second] [(.int (1 : Int32)), (.int (0 : Int32)), (.ref a_), (.int (0 : Int32)), (.ref b_)])) _
    refine XS.iadd X140.here hx rfl (hb hby d3_40) rfl ?_
    show Steps p.tables e below (T140.setTop (mkF m 41 #[.val (.ref a_), .val (.long q_), .second] [(.int (1 : Int32)), (.ref a_), (.int (0 : Int32)), (.ref b_)])) _
    refine st141 _ ?_
    show Steps p.tables e below (T141.setTop (mkF m 44 #[.val (.ref a_), .val (.long q_), .second] [(.int (0 : Int32)), (.ref b_)])) _
    refine XS.lloadN X141.here hx rfl (hb hby d3_44) rfl ?_
    show Steps p.tables e below (T141.setTop (mkF m 45 #[.val (.ref a_), .val (.long q_), .second] [(.long q_), (.int (0 : Int32)), (.ref b_)])) _
    refine st146 _ ?_
    exact kk
  obtain ⟨fs, hr, hrun, hended, hW, hsame⟩ := X146.leave (v := none) (fun _ => rfl)
  refine ⟨_, _, pre150 _ ?_, hrun, hended, _, _, rfl, ?_, ⟨_, rfl⟩, hW, hsame.mono (by decide) (by decide)⟩
  · show Steps p.tables e below (T146.setTop (mkF m 46 #[.val (.ref a_), .val (.long q_), .second] [])) _
    exact X146.returnOut hx Bd.returns (hb hby d3_46) hr
  · show Q3_0 Z a_ q_ b_ k_ h0 n0 _ T146.heap _
    rw [e146]
    exact ⟨rfl, N146, KP146, E_a__147, F_a__nanos_148, F_a__size_149, Vw146⟩
theorem pd__28J_29V : parseMethodDescriptor "(J)V" = some ⟨[.long], none⟩ := by decide +kernel
theorem pd__28II_29I : parseMethodDescriptor "(II)I" = some ⟨[.int, .int], some .int⟩ := by decide +kernel
theorem d8_0 : decode jdk_65_method_124_code 0 = .ok (.iload_n 1, 1) := by decide +kernel
theorem d8_1 : decode jdk_65_method_124_code 1 = .ok (.aload_n 0, 1) := by decide +kernel
theorem d8_2 : decode jdk_65_method_124_code 2 = .ok (.arraylength, 1) := by decide +kernel
theorem d8_3 : decode jdk_65_method_124_code 3 = .ok (.if_icmp .ne 11, 3) := by decide +kernel
theorem d8_14 : decode jdk_65_method_124_code 14 = .ok (.iload_n 1, 1) := by decide +kernel
theorem d8_15 : decode jdk_65_method_124_code 15 = .ok (.newarray .long, 2) := by decide +kernel
theorem d8_17 : decode jdk_65_method_124_code 17 = .ok (.astore_n 2, 1) := by decide +kernel
theorem d8_18 : decode jdk_65_method_124_code 18 = .ok (.aload_n 0, 1) := by decide +kernel
theorem d8_19 : decode jdk_65_method_124_code 19 = .ok (.iconst 0, 1) := by decide +kernel
theorem d8_20 : decode jdk_65_method_124_code 20 = .ok (.aload_n 2, 1) := by decide +kernel
theorem d8_21 : decode jdk_65_method_124_code 21 = .ok (.iconst 0, 1) := by decide +kernel
theorem d8_22 : decode jdk_65_method_124_code 22 = .ok (.aload_n 0, 1) := by decide +kernel
theorem d8_23 : decode jdk_65_method_124_code 23 = .ok (.arraylength, 1) := by decide +kernel
theorem d8_24 : decode jdk_65_method_124_code 24 = .ok (.iload_n 1, 1) := by decide +kernel
theorem d8_25 : decode jdk_65_method_124_code 25 = .ok (.invokestatic 304, 3) := by decide +kernel
theorem d8_28 : decode jdk_65_method_124_code 28 = .ok (.invokestatic 150, 3) := by decide +kernel
theorem d8_31 : decode jdk_65_method_124_code 31 = .ok (.aload_n 2, 1) := by decide +kernel
theorem d8_32 : decode jdk_65_method_124_code 32 = .ok (.areturn, 1) := by decide +kernel
theorem ef_8_RI (m : MethodId) (x0 : Addr) (x1 : Int32) : entryFrame m #[(.ref x0), (.int x1)] 3 = mkF m 0 #[.val (.ref x0), .val (.int x1), .unset] [] := by first | (simp [entryFrame, mkF, argsToLocals, Value.category]; done) | rfl
def Q8_1 (Z : State) (b_ : Addr) (k_ : ClassId) (x0 : Int64) (h0 : Heap) (n0 : Nat) (v : Option Value) (h : Heap) (L : List Loc) : Prop := ∃ (c : Addr) (kc : ClassId), v = some (.ref c) ∧ Fr n0 L ∧ Keep h0 h [] ∧ h0.size ≤ c ∧ Arv Z h c kc .long (1 : Int32) [(.long x0)] (.long (0 : Int64))
set_option maxRecDepth 65536 in
set_option maxHeartbeats 40000000 in
theorem rm8_1 (l : Launch) (Z : State) (aA : Array Value) (hw : ∀ d ∈ tables_1, d.before aA Z = true) (ws : List Jvm.Cond) (b_ : Addr) (k_ : ClassId) (x0 : Int64) (h0 : Heap) (n0 : Nat) (Z0 : n0 ≤ h0.size) (V_b : Arv Z h0 b_ k_ .long (1024 : Int32) [(.long x0)] (.long (0 : Int64))) :
    MetFree l (⟨"java/util/Arrays", "copyOf", "([JI)[J"⟩ : MethodName) (head1 (Jvm.Cond.code (⟨"java/util/Arrays", "copyOf", "([JI)[J"⟩ : MethodName) jdk_65_method_124_code 3 (some (.array .long)) :: ws) ({ frames := 1, cells := 1, slots := 1, locals := 40 } : Room)) (fun a U => a = #[(.ref b_), (.int (1 : Int32))] ∧ Z.Warmed39 U.vm ∧ U.heap = h0) (fun _ _ _ _ _ => True) (fun _ U o U' => ∃ v L, o = .returned v ∧ Q8_1 Z b_ k_ x0 h0 n0 v U'.heap L ∧ FrameEnd U o U' L ({ frames := 1, cells := 1, slots := 1, locals := 40 } : Room).cells ({ frames := 1, cells := 1, slots := 1, locals := 40 } : Room).slots) := by
  refine MetFree.of_bodySF (plainFor_of_name pn_java_util_Arrays) hisR ?_
  intro p e s m args below meth c s₁ Bd hml0 hP hK
  obtain ⟨rfl, hZ, hh⟩ := hP
  have hx := Bd.exec
  have hby := Bd.bytes
  have hml : c.maxLocals = 3 := hml0
  have hown : s.vm.findClass "java/util/Arrays" = some m.cls := findClass_of_methodNamed Bd.named
  have hnm := (name_of_methodNamed Bd.named Bd.method).1
  have X0 : Stand p l e ({ frames := 1, cells := 1, slots := 1, locals := 40 } : Room) s m #[(.ref b_), (.int (1 : Int32))] below meth c s₁ [] 0 0 := Stand.of_body Bd
  have e0 : s₁.heap = h0 := by rw [← hh, Bd.state]; rfl
  have N0 := Fr.nil n0
  have KP0 : Keep h0 h0 [] := Keep.refl h0 _
  have pre0 : ∀ t, Steps p.tables e below (s₁.setTop (mkF m 0 #[.val (.ref b_), .val (.int (1 : Int32)), .unset] [])) t → Steps p.tables e below (s₁.setTop (entryFrame m #[(.ref b_), (.int (1 : Int32))] 3)) t := fun t k => castTop (ef_8_RI m b_ (1 : Int32)) k
  obtain ⟨cl161, Ar161, -, S161, N161v, -, -⟩ := id V_b
  obtain ⟨T162, h162, k162, X162, e162, E162, A162, st162⟩ := newP X0 hx hZ (hw _ (List.mem_of_getElem? (i := 9) rfl)) e0 (g := (mkF m 15 #[.val (.ref b_), .val (.int (1 : Int32)), .unset] [(.int (1 : Int32))])) rfl (hb hby d8_15) rfl (by decide) (cap := 1) (by decide) (by decide) (by decide) (by decide)
  obtain ⟨b162, g162⟩ : ∃ z, z = h0.size := ⟨_, rfl⟩
  rw [← g162] at A162 st162
  have ne_b__b162 : b_ ≠ b162 := Nat.ne_of_lt (Nat.lt_of_lt_of_le V_b.lt (Nat.le_of_eq g162.symm))
  have sz_b162 : h0.size ≤ b162 := Nat.le_trans KP0.1 (Nat.le_of_eq g162.symm)
  have g_b162 : n0 ≤ b162 := Nat.le_trans Z0 (Nat.le_of_eq g162.symm)
  have KP162 : Keep h0 h162 [] := KP0.ext E162
  have Z162 : n0 ≤ h162.size := Nat.le_trans Z0 E162.1
  have V_b__163 : Arv Z h162 b_ k_ .long (1024 : Int32) [(.long x0)] (.long (0 : Int64)) := V_b.ext E162
  have V_b162 : Arv Z h162 b162 k162 .long (1 : Int32) [(.long (0 : Int64))] (.long (0 : Int64)) := (Arv.new A162 (by decide)).pad (pad_rep [] (.long (0 : Int64)) 1)
  obtain ⟨cl164, Ar164, -, S164, N164v, -, -⟩ := id V_b__163
  obtain ⟨_, _, ⟨T165, L165, k165, n165⟩, -, X165, ⟨Lc165, hQ165, l165, y165, z165⟩, st165⟩ := Jvm.LawKit.callS X162 hx (y := (⟨"java/lang/Math", "min", "(II)I"⟩ : MethodName)) hown (mvT hZ (hw _ (List.mem_of_getElem? (i := 40) rfl))) (mvT hZ (hw _ (List.mem_of_getElem? (i := 41) rfl))) (mvT hZ (hw _ (List.mem_of_getElem? (i := 26) rfl))) (mvT hZ (hw _ (List.mem_of_getElem? (i := 42) rfl))) (by decide) (backOf (W := 4) (rm9 l Z aA hw [] (1024 : Int32) (1 : Int32)  h162 n0 Z162 ) hZ (hw _ (List.mem_of_getElem? (i := 42) rfl)) (hw _ (List.mem_of_getElem? (i := 26) rfl)) (by decide) (by decide)) (g := (mkF m 25 #[.val (.ref b_), .val (.int (1 : Int32)), .val (.ref b162)] [(.int (1 : Int32)), (.int (1024 : Int32)), (.int (0 : Int32)), (.ref b162), (.int (0 : Int32)), (.ref b_)])) rfl (by rw [hml]; rfl) (argsL := [(.int (1024 : Int32)), (.int (1 : Int32))]) (rest := [(.int (0 : Int32)), (.ref b162), (.int (0 : Int32)), (.ref b_)]) (lenOf pd__28II_29I rfl) rfl (by show 2 * 0 + _ ≤ _; exact Nat.le_of_eq rfl) (hb hby d8_25) (fun _ _ => ⟨rfl, e162, (by decide : 1 + 0 ≤ _), (by decide : 1 + 0 ≤ _)⟩)
  dsimp only [Pt.U, Pt.locs, Pt.cells, Pt.slots] at X165 l165 y165 z165 st165 hQ165
  subst l165 y165 z165
  obtain ⟨rfl, N165q, e165⟩ := hQ165
  have N165 := Fr.app N0 N165q
  have pre166 : ∀ t, Steps p.tables e below (T165.setTop (mkF m 28 #[.val (.ref b_), .val (.int (1 : Int32)), .val (.ref b162)] [(.int (F9 (1024 : Int32) (1 : Int32))), (.int (0 : Int32)), (.ref b162), (.int (0 : Int32)), (.ref b_)])) t → Steps p.tables e below (s₁.setTop (entryFrame m #[(.ref b_), (.int (1 : Int32))] 3)) t := by
    intro t kk
    refine pre0 t ?_
    show Steps p.tables e below (s₁.setTop (mkF m 0 #[.val (.ref b_), .val (.int (1 : Int32)), .unset] [])) _
    refine XS.iloadN X0.here hx rfl (hb hby d8_0) rfl ?_
    show Steps p.tables e below (s₁.setTop (mkF m 1 #[.val (.ref b_), .val (.int (1 : Int32)), .unset] [(.int (1 : Int32))])) _
    refine XS.aloadN X0.here hx rfl (hb hby d8_1) rfl rfl ?_
    show Steps p.tables e below (s₁.setTop (mkF m 2 #[.val (.ref b_), .val (.int (1 : Int32)), .unset] [(.ref b_), (.int (1 : Int32))])) _
    refine X0.arraylength hx (by rw [e0]; exact Ar161.1) (State.isArrayOf_alike hZ.alike Ar161.2.1) (g := (mkF m 2 #[.val (.ref b_), .val (.int (1 : Int32)), .unset] [(.ref b_), (.int (1 : Int32))])) rfl rfl (hb hby d8_2) _ ?_
    rw [len_of S161 N161v]
    show Steps p.tables e below (s₁.setTop (mkF m 3 #[.val (.ref b_), .val (.int (1 : Int32)), .unset] [(.int (1024 : Int32)), (.int (1 : Int32))])) _
    refine XS.icmpYes X0.here hx rfl (pc0 := 3) (pc' := 14) rfl (hb hby d8_3) rfl (feq (by decide : ¬ ((1 : Int32) = (1024 : Int32)))).2 (by decide) (by decide) ?_
    show Steps p.tables e below (s₁.setTop (mkF m 14 #[.val (.ref b_), .val (.int (1 : Int32)), .unset] [])) _
    refine XS.iloadN X0.here hx rfl (hb hby d8_14) rfl ?_
    show Steps p.tables e below (s₁.setTop (mkF m 15 #[.val (.ref b_), .val (.int (1 : Int32)), .unset] [(.int (1 : Int32))])) _
    refine st162 _ ?_
    show Steps p.tables e below (T162.setTop (mkF m 17 #[.val (.ref b_), .val (.int (1 : Int32)), .unset] [(.ref b162)])) _
    refine XS.astoreN X162.here hx rfl (hb hby d8_17) rfl rfl (l' := #[.val (.ref b_), .val (.int (1 : Int32)), .val (.ref b162)]) rfl ?_
    show Steps p.tables e below (T162.setTop (mkF m 18 #[.val (.ref b_), .val (.int (1 : Int32)), .val (.ref b162)] [])) _
    refine XS.aloadN X162.here hx rfl (hb hby d8_18) rfl rfl ?_
    show Steps p.tables e below (T162.setTop (mkF m 19 #[.val (.ref b_), .val (.int (1 : Int32)), .val (.ref b162)] [(.ref b_)])) _
    refine XS.iconst X162.here hx rfl (hb hby d8_19) ?_
    show Steps p.tables e below (T162.setTop (mkF m 20 #[.val (.ref b_), .val (.int (1 : Int32)), .val (.ref b162)] [(.int (0 : Int32)), (.ref b_)])) _
    refine XS.aloadN X162.here hx rfl (hb hby d8_20) rfl rfl ?_
    show Steps p.tables e below (T162.setTop (mkF m 21 #[.val (.ref b_), .val (.int (1 : Int32)), .val (.ref b162)] [(.ref b162), (.int (0 : Int32)), (.ref b_)])) _
    refine XS.iconst X162.here hx rfl (hb hby d8_21) ?_
    show Steps p.tables e below (T162.setTop (mkF m 22 #[.val (.ref b_), .val (.int (1 : Int32)), .val (.ref b162)] [(.int (0 : Int32)), (.ref b162), (.int (0 : Int32)), (.ref b_)])) _
    refine XS.aloadN X162.here hx rfl (hb hby d8_22) rfl rfl ?_
    show Steps p.tables e below (T162.setTop (mkF m 23 #[.val (.ref b_), .val (.int (1 : Int32)), .val (.ref b162)] [(.ref b_), (.int (0 : Int32)), (.ref b162), (.int (0 : Int32)), (.ref b_)])) _
    refine X162.arraylength hx (by rw [e162]; exact Ar164.1) (State.isArrayOf_alike hZ.alike Ar164.2.1) (g := (mkF m 23 #[.val (.ref b_), .val (.int (1 : Int32)), .val (.ref b162)] [(.ref b_), (.int (0 : Int32)), (.ref b162), (.int (0 : Int32)), (.ref b_)])) rfl rfl (hb hby d8_23) _ ?_
    rw [len_of S164 N164v]
    show Steps p.tables e below (T162.setTop (mkF m 24 #[.val (.ref b_), .val (.int (1 : Int32)), .val (.ref b162)] [(.int (1024 : Int32)), (.int (0 : Int32)), (.ref b162), (.int (0 : Int32)), (.ref b_)])) _
    refine XS.iloadN X162.here hx rfl (hb hby d8_24) rfl ?_
    show Steps p.tables e below (T162.setTop (mkF m 25 #[.val (.ref b_), .val (.int (1 : Int32)), .val (.ref b162)] [(.int (1 : Int32)), (.int (1024 : Int32)), (.int (0 : Int32)), (.ref b162), (.int (0 : Int32)), (.ref b_)])) _
    refine st165 _ ?_
    exact kk
  have pre167 : ∀ t, Steps p.tables e below (T165.setTop (mkF m 28 #[.val (.ref b_), .val (.int (1 : Int32)), .val (.ref b162)] [(.int (1 : Int32)), (.int (0 : Int32)), (.ref b162), (.int (0 : Int32)), (.ref b_)])) t → Steps p.tables e below (s₁.setTop (entryFrame m #[(.ref b_), (.int (1 : Int32))] 3)) t := by
    intro t kk
    refine pre166 t ?_
    rw [(show (F9 (1024 : Int32) (1 : Int32)) = (1 : Int32) by decide)]
    exact kk
  obtain ⟨T168, h168, L168, X168, e168, N168, K168, Vc168, st168⟩ := cpA X165 hx hZ hown (hw _ (List.mem_of_getElem? (i := 43) rfl)) (hw _ (List.mem_of_getElem? (i := 46) rfl)) (hw _ (List.mem_of_getElem? (i := 44) rfl)) (hw _ (List.mem_of_getElem? (i := 45) rfl)) e165 V_b__163 V_b162 (Or.inl ⟨rfl, rfl⟩) (by decide) (by decide) (by decide) (by decide) (by decide) rfl (by decide) N165 g_b162 (g := (mkF m 28 #[.val (.ref b_), .val (.int (1 : Int32)), .val (.ref b162)] [(.int (1 : Int32)), (.int (0 : Int32)), (.ref b162), (.int (0 : Int32)), (.ref b_)])) rfl (by rw [hml]; rfl) rfl (hb hby d8_28) (by decide) (W := 0) (by show 2 * 0 + _ ≤ _; exact Nat.le_of_eq rfl) (by decide)
  have Vn168 : Arv Z h168 b162 k162 .long (1 : Int32) [(.long x0)] (.long (0 : Int64)) := Vc168
  have KP168 : Keep h0 h168 [] := KP162.trans K168 (allS (Or.inr sz_b162) all0)
  have Z168 : n0 ≤ h168.size := Nat.le_trans Z162 K168.1
  have pre169 : ∀ t, Steps p.tables e below (T168.setTop (mkF m 32 #[.val (.ref b_), .val (.int (1 : Int32)), .val (.ref b162)] [(.ref b162)])) t → Steps p.tables e below (s₁.setTop (entryFrame m #[(.ref b_), (.int (1 : Int32))] 3)) t := by
    intro t kk
    refine pre167 t ?_
    show Steps p.tables e below (T165.setTop (mkF m 28 #[.val (.ref b_), .val (.int (1 : Int32)), .val (.ref b162)] [(.int (1 : Int32)), (.int (0 : Int32)), (.ref b162), (.int (0 : Int32)), (.ref b_)])) _
    refine st168 _ ?_
    show Steps p.tables e below (T168.setTop (mkF m 31 #[.val (.ref b_), .val (.int (1 : Int32)), .val (.ref b162)] [])) _
    refine XS.aloadN X168.here hx rfl (hb hby d8_31) rfl rfl ?_
    exact kk
  obtain ⟨fs, hr, hrun, hended, hW, hsame⟩ := X168.leave (v := some (.ref b162)) (fun h => by rw [Bd.returns] at h; cases h)
  refine ⟨_, _, pre169 _ ?_, hrun, hended, _, _, rfl, ?_, ⟨_, rfl⟩, hW, hsame.mono (by decide) (by decide)⟩
  · show Steps p.tables e below (T168.setTop (mkF m 32 #[.val (.ref b_), .val (.int (1 : Int32)), .val (.ref b162)] [(.ref b162)])) _
    exact retOut X168 hx Bd.returns rfl (Or.inr (Or.inr (Or.inr (Or.inr ⟨rfl, rfl, rfl⟩)))) (hb hby d8_32) hr
  · show Q8_1 Z b_ k_ x0 h0 n0 _ T168.heap _
    rw [e168]
    exact ⟨_, _, rfl, N168, KP168, sz_b162, Vn168⟩
theorem pd__28_5bJI_29_5bJ : parseMethodDescriptor "([JI)[J" = some ⟨[(.array .long), .int], some (.array .long)⟩ := by decide +kernel
theorem pd__28_5bJ_29V : parseMethodDescriptor "([J)V" = some ⟨[(.array .long)], none⟩ := by decide +kernel
theorem d7_11 : decode prog_53_method_5_code 11 = .ok (.aload_n 0, 1) := by decide +kernel
theorem d7_12 : decode prog_53_method_5_code 12 = .ok (.getfield 7, 3) := by decide +kernel
theorem d7_15 : decode prog_53_method_5_code 15 = .ok (.aload_n 0, 1) := by decide +kernel
theorem d7_16 : decode prog_53_method_5_code 16 = .ok (.getfield 13, 3) := by decide +kernel
theorem d7_19 : decode prog_53_method_5_code 19 = .ok (.invokestatic 17, 3) := by decide +kernel
theorem d7_22 : decode prog_53_method_5_code 22 = .ok (.astore_n 2, 1) := by decide +kernel
theorem d7_23 : decode prog_53_method_5_code 23 = .ok (.aload_n 2, 1) := by decide +kernel
theorem d7_24 : decode prog_53_method_5_code 24 = .ok (.invokestatic 31, 3) := by decide +kernel
theorem d7_27 : decode prog_53_method_5_code 27 = .ok (.aload_n 0, 1) := by decide +kernel
theorem d7_28 : decode prog_53_method_5_code 28 = .ok (.getfield 13, 3) := by decide +kernel
theorem d7_31 : decode prog_53_method_5_code 31 = .ok (.i2l, 1) := by decide +kernel
theorem d7_32 : decode prog_53_method_5_code 32 = .ok (.iload_n 1, 1) := by decide +kernel
theorem d7_33 : decode prog_53_method_5_code 33 = .ok (.i2l, 1) := by decide +kernel
theorem d7_34 : decode prog_53_method_5_code 34 = .ok (.lmul, 1) := by decide +kernel
theorem d7_35 : decode prog_53_method_5_code 35 = .ok (.ldc2_w 35, 3) := by decide +kernel
theorem d7_38 : decode prog_53_method_5_code 38 = .ok (.ladd, 1) := by decide +kernel
theorem d7_39 : decode prog_53_method_5_code 39 = .ok (.ldc2_w 37, 3) := by decide +kernel
theorem d7_42 : decode prog_53_method_5_code 42 = .ok (.ldiv, 1) := by decide +kernel
theorem d7_43 : decode prog_53_method_5_code 43 = .ok (.lstore_n 3, 1) := by decide +kernel
theorem d7_44 : decode prog_53_method_5_code 44 = .ok (.aload_n 2, 1) := by decide +kernel
theorem d7_45 : decode prog_53_method_5_code 45 = .ok (.lload_n 3, 1) := by decide +kernel
theorem d7_46 : decode prog_53_method_5_code 46 = .ok (.l2i, 1) := by decide +kernel
theorem d7_47 : decode prog_53_method_5_code 47 = .ok (.iconst 1, 1) := by decide +kernel
theorem d7_48 : decode prog_53_method_5_code 48 = .ok (.isub, 1) := by decide +kernel
theorem d7_49 : decode prog_53_method_5_code 49 = .ok (.laload, 1) := by decide +kernel
theorem d7_50 : decode prog_53_method_5_code 50 = .ok (.l2d, 1) := by decide +kernel
theorem d7_51 : decode prog_53_method_5_code 51 = .ok (.ldc2_w 39, 3) := by decide +kernel
theorem d7_54 : decode prog_53_method_5_code 54 = .ok (.ddiv, 1) := by decide +kernel
theorem d7_55 : decode prog_53_method_5_code 55 = .ok (.dreturn, 1) := by decide +kernel
def Q7_1_1 (Z : State) (a_ : Addr) (b_ : Addr) (k_ : ClassId) (x0 : Int64) (h0 : Heap) (n0 : Nat) (v : Option Value) (h : Heap) (L : List Loc) : Prop := v = some (.double (FP.ddiv (FP.l2d x0) (4696837146684686336 : UInt64))) ∧ Fr n0 L ∧ Keep h0 h []
set_option maxRecDepth 65536 in
set_option maxHeartbeats 40000000 in
theorem rm7_1_1 (l : Launch) (Z : State) (aA : Array Value) (hw : ∀ d ∈ tables_1, d.before aA Z = true) (ws : List Jvm.Cond) (a_ : Addr) (b_ : Addr) (k_ : ClassId) (x0 : Int64) (h0 : Heap) (n0 : Nat) (Z0 : n0 ≤ h0.size) (hne : a_ ≠ b_) (E_a : Exa Z h0 a_ "farspeak/greeter/Times") (F_nanos : Fld Z h0 a_ "farspeak/greeter/Times" "nanos" "[J" (.ref b_)) (F_size : Fld Z h0 a_ "farspeak/greeter/Times" "size" "I" (.int (1 : Int32))) (V_b : Arv Z h0 b_ k_ .long (1024 : Int32) [(.long x0)] (.long (0 : Int64))) :
    MetFree l (⟨"farspeak/greeter/Times", "percentileMillis", "(I)D"⟩ : MethodName) (head1 (Jvm.Cond.code (⟨"farspeak/greeter/Times", "percentileMillis", "(I)D"⟩ : MethodName) prog_53_method_5_code 5 (some .double) :: ws) ({ frames := 4, cells := 1, slots := 1, locals := 84 } : Room)) (fun a U => a = #[(.ref a_), (.int (1 : Int32))] ∧ Z.Warmed39 U.vm ∧ U.heap = h0) (fun _ _ _ _ _ => True) (fun _ U o U' => ∃ v L, o = .returned v ∧ Q7_1_1 Z a_ b_ k_ x0 h0 n0 v U'.heap L ∧ FrameEnd U o U' L ({ frames := 4, cells := 1, slots := 1, locals := 84 } : Room).cells ({ frames := 4, cells := 1, slots := 1, locals := 84 } : Room).slots) := by
  refine MetFree.of_bodySF (plainFor_of_name pn_farspeak_greeter_Times) hisR ?_
  intro p e s m args below meth c s₁ Bd hml0 hP hK
  obtain ⟨rfl, hZ, hh⟩ := hP
  have hx := Bd.exec
  have hby := Bd.bytes
  have hml : c.maxLocals = 5 := hml0
  have hown : s.vm.findClass "farspeak/greeter/Times" = some m.cls := findClass_of_methodNamed Bd.named
  have hnm := (name_of_methodNamed Bd.named Bd.method).1
  have X0 : Stand p l e ({ frames := 4, cells := 1, slots := 1, locals := 84 } : Room) s m #[(.ref a_), (.int (1 : Int32))] below meth c s₁ [] 0 0 := Stand.of_body Bd
  have e0 : s₁.heap = h0 := by rw [← hh, Bd.state]; rfl
  have N0 := Fr.nil n0
  have KP0 : Keep h0 h0 [] := Keep.refl h0 _
  have pre0 : ∀ t, Steps p.tables e below (s₁.setTop (mkF m 0 #[.val (.ref a_), .val (.int (1 : Int32)), .unset, .unset, .unset] [])) t → Steps p.tables e below (s₁.setTop (entryFrame m #[(.ref a_), (.int (1 : Int32))] 5)) t := fun t k => castTop (ef_7_RI m a_ (1 : Int32)) k
  obtain ⟨T158, X158, e158, st158⟩ := getF X0 hx hZ hown (host := "") (Or.inl (hw _ (List.mem_of_getElem? (i := 17) rfl))) Via.refl e0 F_size (g := (mkF m 1 #[.val (.ref a_), .val (.int (1 : Int32)), .unset, .unset, .unset] [(.ref a_)])) rfl rfl (hb hby d7_1)
  obtain ⟨T159, X159, e159, st159⟩ := getF X158 hx hZ hown (host := "") (Or.inl (hw _ (List.mem_of_getElem? (i := 10) rfl))) Via.refl e158 F_nanos (g := (mkF m 12 #[.val (.ref a_), .val (.int (1 : Int32)), .unset, .unset, .unset] [(.ref a_)])) rfl rfl (hb hby d7_12)
  obtain ⟨T160, X160, e160, st160⟩ := getF X159 hx hZ hown (host := "") (Or.inl (hw _ (List.mem_of_getElem? (i := 17) rfl))) Via.refl e159 F_size (g := (mkF m 16 #[.val (.ref a_), .val (.int (1 : Int32)), .unset, .unset, .unset] [(.ref a_), (.ref b_)])) rfl rfl (hb hby d7_16)
  obtain ⟨_, _, ⟨T170, L170, k170, n170⟩, -, X170, ⟨Lc170, hQ170, l170, y170, z170⟩, st170⟩ := Jvm.LawKit.callS X160 hx (y := (⟨"java/util/Arrays", "copyOf", "([JI)[J"⟩ : MethodName)) hown (mvT hZ (hw _ (List.mem_of_getElem? (i := 36) rfl))) (mvT hZ (hw _ (List.mem_of_getElem? (i := 37) rfl))) (mvT hZ (hw _ (List.mem_of_getElem? (i := 38) rfl))) (mvT hZ (hw _ (List.mem_of_getElem? (i := 39) rfl))) (by decide) (backOf (W := 0) (rm8_1 l Z aA hw [] b_ k_ x0 h0 n0 Z0 V_b) hZ (hw _ (List.mem_of_getElem? (i := 39) rfl)) (hw _ (List.mem_of_getElem? (i := 38) rfl)) (by decide) (by decide)) (g := (mkF m 19 #[.val (.ref a_), .val (.int (1 : Int32)), .unset, .unset, .unset] [(.int (1 : Int32)), (.ref b_)])) rfl (by rw [hml]; rfl) (argsL := [(.ref b_), (.int (1 : Int32))]) (rest := []) (lenOf pd__28_5bJI_29_5bJ rfl) rfl (by show 2 * 0 + _ ≤ _; exact Nat.le_of_eq rfl) (hb hby d7_19) (fun _ _ => ⟨rfl, e160, (by decide : 0 + 1 ≤ _), (by decide : 0 + 1 ≤ _)⟩)
  dsimp only [Pt.U, Pt.locs, Pt.cells, Pt.slots] at X170 l170 y170 z170 st170 hQ170
  subst l170 y170 z170
  obtain ⟨b170, kk170, rfl, N170q, K170, sz170, Vq170⟩ := hQ170
  have N170 := Fr.app N0 N170q
  have sz_b170 : h0.size ≤ b170 := Nat.le_trans KP0.1 sz170
  have g_b170 : n0 ≤ b170 := Nat.le_trans Z0 sz170
  have ne_a__b170 : a_ ≠ b170 := Nat.ne_of_lt (Nat.lt_of_lt_of_le E_a.lt sz170)
  have ne_b__b170 : b_ ≠ b170 := Nat.ne_of_lt (Nat.lt_of_lt_of_le V_b.lt sz170)
  have KP170 : Keep h0 T170.heap [] := KP0.trans K170 all0
  have Z170 : n0 ≤ T170.heap.size := Nat.le_trans Z0 K170.1
  have E_a__171 : Exa Z T170.heap a_ "farspeak/greeter/Times" := E_a.keep K170
  have F_a__nanos_172 : Fld Z T170.heap a_ "farspeak/greeter/Times" "nanos" "[J" (.ref b_) := F_nanos.keep K170 nin0
  have F_a__size_173 : Fld Z T170.heap a_ "farspeak/greeter/Times" "size" "I" (.int (1 : Int32)) := F_size.keep K170 nin0
  have V_b__174 : Arv Z T170.heap b_ k_ .long (1024 : Int32) [(.long x0)] (.long (0 : Int64)) := V_b.keep K170 nin0
  obtain ⟨_, _, ⟨T175, L175, k175, n175⟩, -, X175, ⟨Lc175, hQ175, l175, y175, z175⟩, st175⟩ := Jvm.LawKit.callS X170 hx (y := (⟨"java/util/Arrays", "sort", "([J)V"⟩ : MethodName)) hown (mvT hZ (hw _ (List.mem_of_getElem? (i := 47) rfl))) (mvT hZ (hw _ (List.mem_of_getElem? (i := 48) rfl))) (mvT hZ (hw _ (List.mem_of_getElem? (i := 38) rfl))) (mvT hZ (hw _ (List.mem_of_getElem? (i := 49) rfl))) (by decide) (backOf (W := 0) (rm10_1 l Z aA hw [] b170 kk170 x0 T170.heap n0 Z170 g_b170 Vq170) hZ (hw _ (List.mem_of_getElem? (i := 49) rfl)) (hw _ (List.mem_of_getElem? (i := 38) rfl)) (by decide) (by decide)) (g := (mkF m 24 #[.val (.ref a_), .val (.int (1 : Int32)), .val (.ref b170), .unset, .unset] [(.ref b170)])) rfl (by rw [hml]; rfl) (argsL := [(.ref b170)]) (rest := []) (lenOf pd__28_5bJ_29V rfl) rfl (by show 2 * 0 + _ ≤ _; exact Nat.le_of_eq rfl) (hb hby d7_24) (fun _ _ => ⟨rfl, rfl, (by decide : 1 + 0 ≤ _), (by decide : 1 + 0 ≤ _)⟩)
  dsimp only [Pt.U, Pt.locs, Pt.cells, Pt.slots] at X175 l175 y175 z175 st175 hQ175
  subst l175 y175 z175
  obtain ⟨rfl, N175q, K175, Vq175⟩ := hQ175
  have N175 := Fr.app N170 N175q
  have KP175 : Keep h0 T175.heap [] := KP170.trans K175 (allS (Or.inr sz_b170) all0)
  have Z175 : n0 ≤ T175.heap.size := Nat.le_trans Z170 K175.1
  have E_a__176 : Exa Z T175.heap a_ "farspeak/greeter/Times" := E_a__171.keep K175
  have F_a__nanos_177 : Fld Z T175.heap a_ "farspeak/greeter/Times" "nanos" "[J" (.ref b_) := F_a__nanos_172.keep K175 (ninS ne_a__b170 nin0)
  have F_a__size_178 : Fld Z T175.heap a_ "farspeak/greeter/Times" "size" "I" (.int (1 : Int32)) := F_a__size_173.keep K175 (ninS ne_a__b170 nin0)
  have V_b__179 : Arv Z T175.heap b_ k_ .long (1024 : Int32) [(.long x0)] (.long (0 : Int64)) := V_b__174.keep K175 (ninS ne_b__b170 nin0)
  obtain ⟨T180, X180, e180, st180⟩ := getF X175 hx hZ hown (host := "") (Or.inl (hw _ (List.mem_of_getElem? (i := 17) rfl))) Via.refl rfl F_a__size_178 (g := (mkF m 28 #[.val (.ref a_), .val (.int (1 : Int32)), .val (.ref b170), .unset, .unset] [(.ref a_)])) rfl rfl (hb hby d7_28)
  have pre181 : ∀ t, Steps p.tables e below (T180.setTop (mkF m 49 #[.val (.ref a_), .val (.int (1 : Int32)), .val (.ref b170), .val (.long (((((1 : Int32).toInt64) * ((1 : Int32).toInt64)) + (99 : Int64)) / (100 : Int64))), .second] [(.int (((((((1 : Int32).toInt64) * ((1 : Int32).toInt64)) + (99 : Int64)) / (100 : Int64)).toInt32) - (1 : Int32))), (.ref b170)])) t → Steps p.tables e below (s₁.setTop (entryFrame m #[(.ref a_), (.int (1 : Int32))] 5)) t := by
    intro t kk
    refine pre0 t ?_
    show Steps p.tables e below (s₁.setTop (mkF m 0 #[.val (.ref a_), .val (.int (1 : Int32)), .unset, .unset, .unset] [])) _
    refine XS.aloadN X0.here hx rfl (hb hby d7_0) rfl rfl ?_
    show Steps p.tables e below (s₁.setTop (mkF m 1 #[.val (.ref a_), .val (.int (1 : Int32)), .unset, .unset, .unset] [(.ref a_)])) _
    refine st158 _ ?_
    show Steps p.tables e below (T158.setTop (mkF m 4 #[.val (.ref a_), .val (.int (1 : Int32)), .unset, .unset, .unset] [(.int (1 : Int32))])) _
    refine XS.ifYes X158.here hx rfl (pc0 := 4) (pc' := 11) rfl (hb hby d7_4) rfl ((if0 _ _).trans (feq (by decide : ¬ ((1 : Int32) = (0 : Int32)))).2) (by decide) (by decide) ?_
    show Steps p.tables e below (T158.setTop (mkF m 11 #[.val (.ref a_), .val (.int (1 : Int32)), .unset, .unset, .unset] [])) _
    refine XS.aloadN X158.here hx rfl (hb hby d7_11) rfl rfl ?_
    show Steps p.tables e below (T158.setTop (mkF m 12 #[.val (.ref a_), .val (.int (1 : Int32)), .unset, .unset, .unset] [(.ref a_)])) _
    refine st159 _ ?_
    show Steps p.tables e below (T159.setTop (mkF m 15 #[.val (.ref a_), .val (.int (1 : Int32)), .unset, .unset, .unset] [(.ref b_)])) _
    refine XS.aloadN X159.here hx rfl (hb hby d7_15) rfl rfl ?_
    show Steps p.tables e below (T159.setTop (mkF m 16 #[.val (.ref a_), .val (.int (1 : Int32)), .unset, .unset, .unset] [(.ref a_), (.ref b_)])) _
    refine st160 _ ?_
    show Steps p.tables e below (T160.setTop (mkF m 19 #[.val (.ref a_), .val (.int (1 : Int32)), .unset, .unset, .unset] [(.int (1 : Int32)), (.ref b_)])) _
    refine st170 _ ?_
    show Steps p.tables e below (T170.setTop (mkF m 22 #[.val (.ref a_), .val (.int (1 : Int32)), .unset, .unset, .unset] [(.ref b170)])) _
    refine XS.astoreN X170.here hx rfl (hb hby d7_22) rfl rfl (l' := #[.val (.ref a_), .val (.int (1 : Int32)), .val (.ref b170), .unset, .unset]) rfl ?_
    show Steps p.tables e below (T170.setTop (mkF m 23 #[.val (.ref a_), .val (.int (1 : Int32)), .val (.ref b170), .unset, .unset] [])) _
    refine XS.aloadN X170.here hx rfl (hb hby d7_23) rfl rfl ?_
    show Steps p.tables e below (T170.setTop (mkF m 24 #[.val (.ref a_), .val (.int (1 : Int32)), .val (.ref b170), .unset, .unset] [(.ref b170)])) _
    refine st175 _ ?_
    show Steps p.tables e below (T175.setTop (mkF m 27 #[.val (.ref a_), .val (.int (1 : Int32)), .val (.ref b170), .unset, .unset] [])) _
    refine XS.aloadN X175.here hx rfl (hb hby d7_27) rfl rfl ?_
    show Steps p.tables e below (T175.setTop (mkF m 28 #[.val (.ref a_), .val (.int (1 : Int32)), .val (.ref b170), .unset, .unset] [(.ref a_)])) _
    refine st180 _ ?_
    show Steps p.tables e below (T180.setTop (mkF m 31 #[.val (.ref a_), .val (.int (1 : Int32)), .val (.ref b170), .unset, .unset] [(.int (1 : Int32))])) _
    refine XS.i2l X180.here hx rfl (hb hby d7_31) rfl ?_
    show Steps p.tables e below (T180.setTop (mkF m 32 #[.val (.ref a_), .val (.int (1 : Int32)), .val (.ref b170), .unset, .unset] [(.long ((1 : Int32).toInt64))])) _
    refine XS.iloadN X180.here hx rfl (hb hby d7_32) rfl ?_
    show Steps p.tables e below (T180.setTop (mkF m 33 #[.val (.ref a_), .val (.int (1 : Int32)), .val (.ref b170), .unset, .unset] [(.int (1 : Int32)), (.long ((1 : Int32).toInt64))])) _
    refine XS.i2l X180.here hx rfl (hb hby d7_33) rfl ?_
    show Steps p.tables e below (T180.setTop (mkF m 34 #[.val (.ref a_), .val (.int (1 : Int32)), .val (.ref b170), .unset, .unset] [(.long ((1 : Int32).toInt64)), (.long ((1 : Int32).toInt64))])) _
    refine XS.lmul X180.here hx rfl (hb hby d7_34) rfl ?_
    show Steps p.tables e below (T180.setTop (mkF m 35 #[.val (.ref a_), .val (.int (1 : Int32)), .val (.ref b170), .unset, .unset] [(.long (((1 : Int32).toInt64) * ((1 : Int32).toInt64)))])) _
    refine X180.ldc2Long hx hown (mvT hZ (hw _ (List.mem_of_getElem? (i := 60) rfl))) (g := (mkF m 35 #[.val (.ref a_), .val (.int (1 : Int32)), .val (.ref b170), .unset, .unset] [(.long (((1 : Int32).toInt64) * ((1 : Int32).toInt64)))])) rfl (hb hby d7_35) _ ?_
    show Steps p.tables e below (T180.setTop (mkF m 38 #[.val (.ref a_), .val (.int (1 : Int32)), .val (.ref b170), .unset, .unset] [(.long (99 : Int64)), (.long (((1 : Int32).toInt64) * ((1 : Int32).toInt64)))])) _
    refine XS.ladd X180.here hx rfl (hb hby d7_38) rfl ?_
    show Steps p.tables e below (T180.setTop (mkF m 39 #[.val (.ref a_), .val (.int (1 : Int32)), .val (.ref b170), .unset, .unset] [(.long ((((1 : Int32).toInt64) * ((1 : Int32).toInt64)) + (99 : Int64)))])) _
    refine X180.ldc2Long hx hown (mvT hZ (hw _ (List.mem_of_getElem? (i := 61) rfl))) (g := (mkF m 39 #[.val (.ref a_), .val (.int (1 : Int32)), .val (.ref b170), .unset, .unset] [(.long ((((1 : Int32).toInt64) * ((1 : Int32).toInt64)) + (99 : Int64)))])) rfl (hb hby d7_39) _ ?_
    show Steps p.tables e below (T180.setTop (mkF m 42 #[.val (.ref a_), .val (.int (1 : Int32)), .val (.ref b170), .unset, .unset] [(.long (100 : Int64)), (.long ((((1 : Int32).toInt64) * ((1 : Int32).toInt64)) + (99 : Int64)))])) _
    refine XS.ldiv X180.here hx rfl (hb hby d7_42) rfl (by decide : ¬ ((100 : Int64) = (0 : Int64))) ?_
    show Steps p.tables e below (T180.setTop (mkF m 43 #[.val (.ref a_), .val (.int (1 : Int32)), .val (.ref b170), .unset, .unset] [(.long (((((1 : Int32).toInt64) * ((1 : Int32).toInt64)) + (99 : Int64)) / (100 : Int64)))])) _
    refine XS.lstoreN X180.here hx rfl (hb hby d7_43) rfl (l' := #[.val (.ref a_), .val (.int (1 : Int32)), .val (.ref b170), .val (.long (((((1 : Int32).toInt64) * ((1 : Int32).toInt64)) + (99 : Int64)) / (100 : Int64))), .second]) rfl ?_
    show Steps p.tables e below (T180.setTop (mkF m 44 #[.val (.ref a_), .val (.int (1 : Int32)), .val (.ref b170), .val (.long (((((1 : Int32).toInt64) * ((1 : Int32).toInt64)) + (99 : Int64)) / (100 : Int64))), .second] [])) _
    refine XS.aloadN X180.here hx rfl (hb hby d7_44) rfl rfl ?_
    show Steps p.tables e below (T180.setTop (mkF m 45 #[.val (.ref a_), .val (.int (1 : Int32)), .val (.ref b170), .val (.long (((((1 : Int32).toInt64) * ((1 : Int32).toInt64)) + (99 : Int64)) / (100 : Int64))), .second] [(.ref b170)])) _
    refine XS.lloadN X180.here hx rfl (hb hby d7_45) rfl ?_
    show Steps p.tables e below (T180.setTop (mkF m 46 #[.val (.ref a_), .val (.int (1 : Int32)), .val (.ref b170), .val (.long (((((1 : Int32).toInt64) * ((1 : Int32).toInt64)) + (99 : Int64)) / (100 : Int64))), .second] [(.long (((((1 : Int32).toInt64) * ((1 : Int32).toInt64)) + (99 : Int64)) / (100 : Int64))), (.ref b170)])) _
    refine XS.l2i X180.here hx rfl (hb hby d7_46) rfl ?_
    show Steps p.tables e below (T180.setTop (mkF m 47 #[.val (.ref a_), .val (.int (1 : Int32)), .val (.ref b170), .val (.long (((((1 : Int32).toInt64) * ((1 : Int32).toInt64)) + (99 : Int64)) / (100 : Int64))), .second] [(.int ((((((1 : Int32).toInt64) * ((1 : Int32).toInt64)) + (99 : Int64)) / (100 : Int64)).toInt32)), (.ref b170)])) _
    refine XS.iconst X180.here hx rfl (hb hby d7_47) ?_
    show Steps p.tables e below (T180.setTop (mkF m 48 #[.val (.ref a_), .val (.int (1 : Int32)), .val (.ref b170), .val (.long (((((1 : Int32).toInt64) * ((1 : Int32).toInt64)) + (99 : Int64)) / (100 : Int64))), .second] [(.int (1 : Int32)), (.int ((((((1 : Int32).toInt64) * ((1 : Int32).toInt64)) + (99 : Int64)) / (100 : Int64)).toInt32)), (.ref b170)])) _
    refine XS.isub X180.here hx rfl (hb hby d7_48) rfl ?_
    exact kk
  have pre182 : ∀ t, Steps p.tables e below (T180.setTop (mkF m 49 #[.val (.ref a_), .val (.int (1 : Int32)), .val (.ref b170), .val (.long (((((1 : Int32).toInt64) * ((1 : Int32).toInt64)) + (99 : Int64)) / (100 : Int64))), .second] [(.int (0 : Int32)), (.ref b170)])) t → Steps p.tables e below (s₁.setTop (entryFrame m #[(.ref a_), (.int (1 : Int32))] 5)) t := by
    intro t kk
    refine pre181 t ?_
    rw [(show (((((((1 : Int32).toInt64) * ((1 : Int32).toInt64)) + (99 : Int64)) / (100 : Int64)).toInt32) - (1 : Int32)) = (0 : Int32) by decide)]
    exact kk
  obtain ⟨cl183, Ar183, q183, S183, N183v, H183, G183⟩ := id Vq175
  have hin183 : ¬ ((0 : Int32) < 0 ∨ cl183.slots.size ≤ ((0 : Int32)).toNatClampNeg) := inb_of S183 ⟨by decide, by decide⟩
  have hat183 : cl183.slots[((0 : Int32)).toNatClampNeg]? = some (.long x0) := Has.at H183 hin183 rfl
  have pre184 : ∀ t, Steps p.tables e below (T180.setTop (mkF m 55 #[.val (.ref a_), .val (.int (1 : Int32)), .val (.ref b170), .val (.long (((((1 : Int32).toInt64) * ((1 : Int32).toInt64)) + (99 : Int64)) / (100 : Int64))), .second] [(.double (FP.ddiv (FP.l2d x0) (4696837146684686336 : UInt64)))])) t → Steps p.tables e below (s₁.setTop (entryFrame m #[(.ref a_), (.int (1 : Int32))] 5)) t := by
    intro t kk
    refine pre182 t ?_
    show Steps p.tables e below (T180.setTop (mkF m 49 #[.val (.ref a_), .val (.int (1 : Int32)), .val (.ref b170), .val (.long (((((1 : Int32).toInt64) * ((1 : Int32).toInt64)) + (99 : Int64)) / (100 : Int64))), .second] [(.int (0 : Int32)), (.ref b170)])) _
    refine X180.laload hx (j := (0 : Int32)) (v := (.long x0)) (by rw [e180]; exact Ar183.1) (State.isArrayOf_alike hZ.alike Ar183.2.1) Ar183.2.2 hin183 hat183 (g := (mkF m 49 #[.val (.ref a_), .val (.int (1 : Int32)), .val (.ref b170), .val (.long (((((1 : Int32).toInt64) * ((1 : Int32).toInt64)) + (99 : Int64)) / (100 : Int64))), .second] [(.int (0 : Int32)), (.ref b170)])) rfl rfl (hb hby d7_49) _ ?_
    show Steps p.tables e below (T180.setTop (mkF m 50 #[.val (.ref a_), .val (.int (1 : Int32)), .val (.ref b170), .val (.long (((((1 : Int32).toInt64) * ((1 : Int32).toInt64)) + (99 : Int64)) / (100 : Int64))), .second] [(.long x0)])) _
    refine own_l2d X180.here hx rfl (hb hby d7_50) rfl ?_
    show Steps p.tables e below (T180.setTop (mkF m 51 #[.val (.ref a_), .val (.int (1 : Int32)), .val (.ref b170), .val (.long (((((1 : Int32).toInt64) * ((1 : Int32).toInt64)) + (99 : Int64)) / (100 : Int64))), .second] [(.double (FP.l2d x0))])) _
    refine X180.ldc2DoubleC hx hown (mvT hZ (hw _ (List.mem_of_getElem? (i := 62) rfl))) (g := (mkF m 51 #[.val (.ref a_), .val (.int (1 : Int32)), .val (.ref b170), .val (.long (((((1 : Int32).toInt64) * ((1 : Int32).toInt64)) + (99 : Int64)) / (100 : Int64))), .second] [(.double (FP.l2d x0))])) rfl (hb hby d7_51) _ ?_
    show Steps p.tables e below (T180.setTop (mkF m 54 #[.val (.ref a_), .val (.int (1 : Int32)), .val (.ref b170), .val (.long (((((1 : Int32).toInt64) * ((1 : Int32).toInt64)) + (99 : Int64)) / (100 : Int64))), .second] [(.double (4696837146684686336 : UInt64)), (.double (FP.l2d x0))])) _
    refine own_ddiv X180.here hx rfl (hb hby d7_54) rfl (own_fin _) ?_
    exact kk
  obtain ⟨fs, hr, hrun, hended, hW, hsame⟩ := X180.leave (v := some (.double (FP.ddiv (FP.l2d x0) (4696837146684686336 : UInt64)))) (fun h => by rw [Bd.returns] at h; cases h)
  refine ⟨_, _, pre184 _ ?_, hrun, hended, _, _, rfl, ?_, ⟨_, rfl⟩, hW, hsame.mono (by decide) (by decide)⟩
  · show Steps p.tables e below (T180.setTop (mkF m 55 #[.val (.ref a_), .val (.int (1 : Int32)), .val (.ref b170), .val (.long (((((1 : Int32).toInt64) * ((1 : Int32).toInt64)) + (99 : Int64)) / (100 : Int64))), .second] [(.double (FP.ddiv (FP.l2d x0) (4696837146684686336 : UInt64)))])) _
    exact retOut X180 hx Bd.returns rfl (Or.inr (Or.inr (Or.inl ⟨rfl, rfl, _, rfl⟩))) (hb hby d7_55) hr
  · show Q7_1_1 Z a_ b_ k_ x0 h0 n0 _ T180.heap _
    rw [e180]
    exact ⟨rfl, N175, KP175⟩
theorem pd__28J_29D : parseMethodDescriptor "(J)D" = some ⟨[.long], some .double⟩ := by decide +kernel
def Q7_1_50 (Z : State) (a_ : Addr) (b_ : Addr) (k_ : ClassId) (x0 : Int64) (h0 : Heap) (n0 : Nat) (v : Option Value) (h : Heap) (L : List Loc) : Prop := v = some (.double (FP.ddiv (FP.l2d x0) (4696837146684686336 : UInt64))) ∧ Fr n0 L ∧ Keep h0 h []
set_option maxRecDepth 65536 in
set_option maxHeartbeats 40000000 in
theorem rm7_1_50 (l : Launch) (Z : State) (aA : Array Value) (hw : ∀ d ∈ tables_1, d.before aA Z = true) (ws : List Jvm.Cond) (a_ : Addr) (b_ : Addr) (k_ : ClassId) (x0 : Int64) (h0 : Heap) (n0 : Nat) (Z0 : n0 ≤ h0.size) (hne : a_ ≠ b_) (E_a : Exa Z h0 a_ "farspeak/greeter/Times") (F_nanos : Fld Z h0 a_ "farspeak/greeter/Times" "nanos" "[J" (.ref b_)) (F_size : Fld Z h0 a_ "farspeak/greeter/Times" "size" "I" (.int (1 : Int32))) (V_b : Arv Z h0 b_ k_ .long (1024 : Int32) [(.long x0)] (.long (0 : Int64))) :
    MetFree l (⟨"farspeak/greeter/Times", "percentileMillis", "(I)D"⟩ : MethodName) (head1 (Jvm.Cond.code (⟨"farspeak/greeter/Times", "percentileMillis", "(I)D"⟩ : MethodName) prog_53_method_5_code 5 (some .double) :: ws) ({ frames := 4, cells := 1, slots := 1, locals := 84 } : Room)) (fun a U => a = #[(.ref a_), (.int (50 : Int32))] ∧ Z.Warmed39 U.vm ∧ U.heap = h0) (fun _ _ _ _ _ => True) (fun _ U o U' => ∃ v L, o = .returned v ∧ Q7_1_50 Z a_ b_ k_ x0 h0 n0 v U'.heap L ∧ FrameEnd U o U' L ({ frames := 4, cells := 1, slots := 1, locals := 84 } : Room).cells ({ frames := 4, cells := 1, slots := 1, locals := 84 } : Room).slots) := by
  refine MetFree.of_bodySF (plainFor_of_name pn_farspeak_greeter_Times) hisR ?_
  intro p e s m args below meth c s₁ Bd hml0 hP hK
  obtain ⟨rfl, hZ, hh⟩ := hP
  have hx := Bd.exec
  have hby := Bd.bytes
  have hml : c.maxLocals = 5 := hml0
  have hown : s.vm.findClass "farspeak/greeter/Times" = some m.cls := findClass_of_methodNamed Bd.named
  have hnm := (name_of_methodNamed Bd.named Bd.method).1
  have X0 : Stand p l e ({ frames := 4, cells := 1, slots := 1, locals := 84 } : Room) s m #[(.ref a_), (.int (50 : Int32))] below meth c s₁ [] 0 0 := Stand.of_body Bd
  have e0 : s₁.heap = h0 := by rw [← hh, Bd.state]; rfl
  have N0 := Fr.nil n0
  have KP0 : Keep h0 h0 [] := Keep.refl h0 _
  have pre0 : ∀ t, Steps p.tables e below (s₁.setTop (mkF m 0 #[.val (.ref a_), .val (.int (50 : Int32)), .unset, .unset, .unset] [])) t → Steps p.tables e below (s₁.setTop (entryFrame m #[(.ref a_), (.int (50 : Int32))] 5)) t := fun t k => castTop (ef_7_RI m a_ (50 : Int32)) k
  obtain ⟨T191, X191, e191, st191⟩ := getF X0 hx hZ hown (host := "") (Or.inl (hw _ (List.mem_of_getElem? (i := 17) rfl))) Via.refl e0 F_size (g := (mkF m 1 #[.val (.ref a_), .val (.int (50 : Int32)), .unset, .unset, .unset] [(.ref a_)])) rfl rfl (hb hby d7_1)
  obtain ⟨T192, X192, e192, st192⟩ := getF X191 hx hZ hown (host := "") (Or.inl (hw _ (List.mem_of_getElem? (i := 10) rfl))) Via.refl e191 F_nanos (g := (mkF m 12 #[.val (.ref a_), .val (.int (50 : Int32)), .unset, .unset, .unset] [(.ref a_)])) rfl rfl (hb hby d7_12)
  obtain ⟨T193, X193, e193, st193⟩ := getF X192 hx hZ hown (host := "") (Or.inl (hw _ (List.mem_of_getElem? (i := 17) rfl))) Via.refl e192 F_size (g := (mkF m 16 #[.val (.ref a_), .val (.int (50 : Int32)), .unset, .unset, .unset] [(.ref a_), (.ref b_)])) rfl rfl (hb hby d7_16)
  obtain ⟨_, _, ⟨T194, L194, k194, n194⟩, -, X194, ⟨Lc194, hQ194, l194, y194, z194⟩, st194⟩ := Jvm.LawKit.callS X193 hx (y := (⟨"java/util/Arrays", "copyOf", "([JI)[J"⟩ : MethodName)) hown (mvT hZ (hw _ (List.mem_of_getElem? (i := 36) rfl))) (mvT hZ (hw _ (List.mem_of_getElem? (i := 37) rfl))) (mvT hZ (hw _ (List.mem_of_getElem? (i := 38) rfl))) (mvT hZ (hw _ (List.mem_of_getElem? (i := 39) rfl))) (by decide) (backOf (W := 0) (rm8_1 l Z aA hw [] b_ k_ x0 h0 n0 Z0 V_b) hZ (hw _ (List.mem_of_getElem? (i := 39) rfl)) (hw _ (List.mem_of_getElem? (i := 38) rfl)) (by decide) (by decide)) (g := (mkF m 19 #[.val (.ref a_), .val (.int (50 : Int32)), .unset, .unset, .unset] [(.int (1 : Int32)), (.ref b_)])) rfl (by rw [hml]; rfl) (argsL := [(.ref b_), (.int (1 : Int32))]) (rest := []) (lenOf pd__28_5bJI_29_5bJ rfl) rfl (by show 2 * 0 + _ ≤ _; exact Nat.le_of_eq rfl) (hb hby d7_19) (fun _ _ => ⟨rfl, e193, (by decide : 0 + 1 ≤ _), (by decide : 0 + 1 ≤ _)⟩)
  dsimp only [Pt.U, Pt.locs, Pt.cells, Pt.slots] at X194 l194 y194 z194 st194 hQ194
  subst l194 y194 z194
  obtain ⟨b194, kk194, rfl, N194q, K194, sz194, Vq194⟩ := hQ194
  have N194 := Fr.app N0 N194q
  have sz_b194 : h0.size ≤ b194 := Nat.le_trans KP0.1 sz194
  have g_b194 : n0 ≤ b194 := Nat.le_trans Z0 sz194
  have ne_a__b194 : a_ ≠ b194 := Nat.ne_of_lt (Nat.lt_of_lt_of_le E_a.lt sz194)
  have ne_b__b194 : b_ ≠ b194 := Nat.ne_of_lt (Nat.lt_of_lt_of_le V_b.lt sz194)
  have KP194 : Keep h0 T194.heap [] := KP0.trans K194 all0
  have Z194 : n0 ≤ T194.heap.size := Nat.le_trans Z0 K194.1
  have E_a__195 : Exa Z T194.heap a_ "farspeak/greeter/Times" := E_a.keep K194
  have F_a__nanos_196 : Fld Z T194.heap a_ "farspeak/greeter/Times" "nanos" "[J" (.ref b_) := F_nanos.keep K194 nin0
  have F_a__size_197 : Fld Z T194.heap a_ "farspeak/greeter/Times" "size" "I" (.int (1 : Int32)) := F_size.keep K194 nin0
  have V_b__198 : Arv Z T194.heap b_ k_ .long (1024 : Int32) [(.long x0)] (.long (0 : Int64)) := V_b.keep K194 nin0
  obtain ⟨_, _, ⟨T199, L199, k199, n199⟩, -, X199, ⟨Lc199, hQ199, l199, y199, z199⟩, st199⟩ := Jvm.LawKit.callS X194 hx (y := (⟨"java/util/Arrays", "sort", "([J)V"⟩ : MethodName)) hown (mvT hZ (hw _ (List.mem_of_getElem? (i := 47) rfl))) (mvT hZ (hw _ (List.mem_of_getElem? (i := 48) rfl))) (mvT hZ (hw _ (List.mem_of_getElem? (i := 38) rfl))) (mvT hZ (hw _ (List.mem_of_getElem? (i := 49) rfl))) (by decide) (backOf (W := 0) (rm10_1 l Z aA hw [] b194 kk194 x0 T194.heap n0 Z194 g_b194 Vq194) hZ (hw _ (List.mem_of_getElem? (i := 49) rfl)) (hw _ (List.mem_of_getElem? (i := 38) rfl)) (by decide) (by decide)) (g := (mkF m 24 #[.val (.ref a_), .val (.int (50 : Int32)), .val (.ref b194), .unset, .unset] [(.ref b194)])) rfl (by rw [hml]; rfl) (argsL := [(.ref b194)]) (rest := []) (lenOf pd__28_5bJ_29V rfl) rfl (by show 2 * 0 + _ ≤ _; exact Nat.le_of_eq rfl) (hb hby d7_24) (fun _ _ => ⟨rfl, rfl, (by decide : 1 + 0 ≤ _), (by decide : 1 + 0 ≤ _)⟩)
  dsimp only [Pt.U, Pt.locs, Pt.cells, Pt.slots] at X199 l199 y199 z199 st199 hQ199
  subst l199 y199 z199
  obtain ⟨rfl, N199q, K199, Vq199⟩ := hQ199
  have N199 := Fr.app N194 N199q
  have KP199 : Keep h0 T199.heap [] := KP194.trans K199 (allS (Or.inr sz_b194) all0)
  have Z199 : n0 ≤ T199.heap.size := Nat.le_trans Z194 K199.1
  have E_a__200 : Exa Z T199.heap a_ "farspeak/greeter/Times" := E_a__195.keep K199
  have F_a__nanos_201 : Fld Z T199.heap a_ "farspeak/greeter/Times" "nanos" "[J" (.ref b_) := F_a__nanos_196.keep K199 (ninS ne_a__b194 nin0)
  have F_a__size_202 : Fld Z T199.heap a_ "farspeak/greeter/Times" "size" "I" (.int (1 : Int32)) := F_a__size_197.keep K199 (ninS ne_a__b194 nin0)
  have V_b__203 : Arv Z T199.heap b_ k_ .long (1024 : Int32) [(.long x0)] (.long (0 : Int64)) := V_b__198.keep K199 (ninS ne_b__b194 nin0)
  obtain ⟨T204, X204, e204, st204⟩ := getF X199 hx hZ hown (host := "") (Or.inl (hw _ (List.mem_of_getElem? (i := 17) rfl))) Via.refl rfl F_a__size_202 (g := (mkF m 28 #[.val (.ref a_), .val (.int (50 : Int32)), .val (.ref b194), .unset, .unset] [(.ref a_)])) rfl rfl (hb hby d7_28)
  have pre205 : ∀ t, Steps p.tables e below (T204.setTop (mkF m 49 #[.val (.ref a_), .val (.int (50 : Int32)), .val (.ref b194), .val (.long (((((1 : Int32).toInt64) * ((50 : Int32).toInt64)) + (99 : Int64)) / (100 : Int64))), .second] [(.int (((((((1 : Int32).toInt64) * ((50 : Int32).toInt64)) + (99 : Int64)) / (100 : Int64)).toInt32) - (1 : Int32))), (.ref b194)])) t → Steps p.tables e below (s₁.setTop (entryFrame m #[(.ref a_), (.int (50 : Int32))] 5)) t := by
    intro t kk
    refine pre0 t ?_
    show Steps p.tables e below (s₁.setTop (mkF m 0 #[.val (.ref a_), .val (.int (50 : Int32)), .unset, .unset, .unset] [])) _
    refine XS.aloadN X0.here hx rfl (hb hby d7_0) rfl rfl ?_
    show Steps p.tables e below (s₁.setTop (mkF m 1 #[.val (.ref a_), .val (.int (50 : Int32)), .unset, .unset, .unset] [(.ref a_)])) _
    refine st191 _ ?_
    show Steps p.tables e below (T191.setTop (mkF m 4 #[.val (.ref a_), .val (.int (50 : Int32)), .unset, .unset, .unset] [(.int (1 : Int32))])) _
    refine XS.ifYes X191.here hx rfl (pc0 := 4) (pc' := 11) rfl (hb hby d7_4) rfl ((if0 _ _).trans (feq (by decide : ¬ ((1 : Int32) = (0 : Int32)))).2) (by decide) (by decide) ?_
    show Steps p.tables e below (T191.setTop (mkF m 11 #[.val (.ref a_), .val (.int (50 : Int32)), .unset, .unset, .unset] [])) _
    refine XS.aloadN X191.here hx rfl (hb hby d7_11) rfl rfl ?_
    show Steps p.tables e below (T191.setTop (mkF m 12 #[.val (.ref a_), .val (.int (50 : Int32)), .unset, .unset, .unset] [(.ref a_)])) _
    refine st192 _ ?_
    show Steps p.tables e below (T192.setTop (mkF m 15 #[.val (.ref a_), .val (.int (50 : Int32)), .unset, .unset, .unset] [(.ref b_)])) _
    refine XS.aloadN X192.here hx rfl (hb hby d7_15) rfl rfl ?_
    show Steps p.tables e below (T192.setTop (mkF m 16 #[.val (.ref a_), .val (.int (50 : Int32)), .unset, .unset, .unset] [(.ref a_), (.ref b_)])) _
    refine st193 _ ?_
    show Steps p.tables e below (T193.setTop (mkF m 19 #[.val (.ref a_), .val (.int (50 : Int32)), .unset, .unset, .unset] [(.int (1 : Int32)), (.ref b_)])) _
    refine st194 _ ?_
    show Steps p.tables e below (T194.setTop (mkF m 22 #[.val (.ref a_), .val (.int (50 : Int32)), .unset, .unset, .unset] [(.ref b194)])) _
    refine XS.astoreN X194.here hx rfl (hb hby d7_22) rfl rfl (l' := #[.val (.ref a_), .val (.int (50 : Int32)), .val (.ref b194), .unset, .unset]) rfl ?_
    show Steps p.tables e below (T194.setTop (mkF m 23 #[.val (.ref a_), .val (.int (50 : Int32)), .val (.ref b194), .unset, .unset] [])) _
    refine XS.aloadN X194.here hx rfl (hb hby d7_23) rfl rfl ?_
    show Steps p.tables e below (T194.setTop (mkF m 24 #[.val (.ref a_), .val (.int (50 : Int32)), .val (.ref b194), .unset, .unset] [(.ref b194)])) _
    refine st199 _ ?_
    show Steps p.tables e below (T199.setTop (mkF m 27 #[.val (.ref a_), .val (.int (50 : Int32)), .val (.ref b194), .unset, .unset] [])) _
    refine XS.aloadN X199.here hx rfl (hb hby d7_27) rfl rfl ?_
    show Steps p.tables e below (T199.setTop (mkF m 28 #[.val (.ref a_), .val (.int (50 : Int32)), .val (.ref b194), .unset, .unset] [(.ref a_)])) _
    refine st204 _ ?_
    show Steps p.tables e below (T204.setTop (mkF m 31 #[.val (.ref a_), .val (.int (50 : Int32)), .val (.ref b194), .unset, .unset] [(.int (1 : Int32))])) _
    refine XS.i2l X204.here hx rfl (hb hby d7_31) rfl ?_
    show Steps p.tables e below (T204.setTop (mkF m 32 #[.val (.ref a_), .val (.int (50 : Int32)), .val (.ref b194), .unset, .unset] [(.long ((1 : Int32).toInt64))])) _
    refine XS.iloadN X204.here hx rfl (hb hby d7_32) rfl ?_
    show Steps p.tables e below (T204.setTop (mkF m 33 #[.val (.ref a_), .val (.int (50 : Int32)), .val (.ref b194), .unset, .unset] [(.int (50 : Int32)), (.long ((1 : Int32).toInt64))])) _
    refine XS.i2l X204.here hx rfl (hb hby d7_33) rfl ?_
    show Steps p.tables e below (T204.setTop (mkF m 34 #[.val (.ref a_), .val (.int (50 : Int32)), .val (.ref b194), .unset, .unset] [(.long ((50 : Int32).toInt64)), (.long ((1 : Int32).toInt64))])) _
    refine XS.lmul X204.here hx rfl (hb hby d7_34) rfl ?_
    show Steps p.tables e below (T204.setTop (mkF m 35 #[.val (.ref a_), .val (.int (50 : Int32)), .val (.ref b194), .unset, .unset] [(.long (((1 : Int32).toInt64) * ((50 : Int32).toInt64)))])) _
    refine X204.ldc2Long hx hown (mvT hZ (hw _ (List.mem_of_getElem? (i := 60) rfl))) (g := (mkF m 35 #[.val (.ref a_), .val (.int (50 : Int32)), .val (.ref b194), .unset, .unset] [(.long (((1 : Int32).toInt64) * ((50 : Int32).toInt64)))])) rfl (hb hby d7_35) _ ?_
    show Steps p.tables e below (T204.setTop (mkF m 38 #[.val (.ref a_), .val (.int (50 : Int32)), .val (.ref b194), .unset, .unset] [(.long (99 : Int64)), (.long (((1 : Int32).toInt64) * ((50 : Int32).toInt64)))])) _
    refine XS.ladd X204.here hx rfl (hb hby d7_38) rfl ?_
    show Steps p.tables e below (T204.setTop (mkF m 39 #[.val (.ref a_), .val (.int (50 : Int32)), .val (.ref b194), .unset, .unset] [(.long ((((1 : Int32).toInt64) * ((50 : Int32).toInt64)) + (99 : Int64)))])) _
    refine X204.ldc2Long hx hown (mvT hZ (hw _ (List.mem_of_getElem? (i := 61) rfl))) (g := (mkF m 39 #[.val (.ref a_), .val (.int (50 : Int32)), .val (.ref b194), .unset, .unset] [(.long ((((1 : Int32).toInt64) * ((50 : Int32).toInt64)) + (99 : Int64)))])) rfl (hb hby d7_39) _ ?_
    show Steps p.tables e below (T204.setTop (mkF m 42 #[.val (.ref a_), .val (.int (50 : Int32)), .val (.ref b194), .unset, .unset] [(.long (100 : Int64)), (.long ((((1 : Int32).toInt64) * ((50 : Int32).toInt64)) + (99 : Int64)))])) _
    refine XS.ldiv X204.here hx rfl (hb hby d7_42) rfl (by decide : ¬ ((100 : Int64) = (0 : Int64))) ?_
    show Steps p.tables e below (T204.setTop (mkF m 43 #[.val (.ref a_), .val (.int (50 : Int32)), .val (.ref b194), .unset, .unset] [(.long (((((1 : Int32).toInt64) * ((50 : Int32).toInt64)) + (99 : Int64)) / (100 : Int64)))])) _
    refine XS.lstoreN X204.here hx rfl (hb hby d7_43) rfl (l' := #[.val (.ref a_), .val (.int (50 : Int32)), .val (.ref b194), .val (.long (((((1 : Int32).toInt64) * ((50 : Int32).toInt64)) + (99 : Int64)) / (100 : Int64))), .second]) rfl ?_
    show Steps p.tables e below (T204.setTop (mkF m 44 #[.val (.ref a_), .val (.int (50 : Int32)), .val (.ref b194), .val (.long (((((1 : Int32).toInt64) * ((50 : Int32).toInt64)) + (99 : Int64)) / (100 : Int64))), .second] [])) _
    refine XS.aloadN X204.here hx rfl (hb hby d7_44) rfl rfl ?_
    show Steps p.tables e below (T204.setTop (mkF m 45 #[.val (.ref a_), .val (.int (50 : Int32)), .val (.ref b194), .val (.long (((((1 : Int32).toInt64) * ((50 : Int32).toInt64)) + (99 : Int64)) / (100 : Int64))), .second] [(.ref b194)])) _
    refine XS.lloadN X204.here hx rfl (hb hby d7_45) rfl ?_
    show Steps p.tables e below (T204.setTop (mkF m 46 #[.val (.ref a_), .val (.int (50 : Int32)), .val (.ref b194), .val (.long (((((1 : Int32).toInt64) * ((50 : Int32).toInt64)) + (99 : Int64)) / (100 : Int64))), .second] [(.long (((((1 : Int32).toInt64) * ((50 : Int32).toInt64)) + (99 : Int64)) / (100 : Int64))), (.ref b194)])) _
    refine XS.l2i X204.here hx rfl (hb hby d7_46) rfl ?_
    show Steps p.tables e below (T204.setTop (mkF m 47 #[.val (.ref a_), .val (.int (50 : Int32)), .val (.ref b194), .val (.long (((((1 : Int32).toInt64) * ((50 : Int32).toInt64)) + (99 : Int64)) / (100 : Int64))), .second] [(.int ((((((1 : Int32).toInt64) * ((50 : Int32).toInt64)) + (99 : Int64)) / (100 : Int64)).toInt32)), (.ref b194)])) _
    refine XS.iconst X204.here hx rfl (hb hby d7_47) ?_
    show Steps p.tables e below (T204.setTop (mkF m 48 #[.val (.ref a_), .val (.int (50 : Int32)), .val (.ref b194), .val (.long (((((1 : Int32).toInt64) * ((50 : Int32).toInt64)) + (99 : Int64)) / (100 : Int64))), .second] [(.int (1 : Int32)), (.int ((((((1 : Int32).toInt64) * ((50 : Int32).toInt64)) + (99 : Int64)) / (100 : Int64)).toInt32)), (.ref b194)])) _
    refine XS.isub X204.here hx rfl (hb hby d7_48) rfl ?_
    exact kk
  have pre206 : ∀ t, Steps p.tables e below (T204.setTop (mkF m 49 #[.val (.ref a_), .val (.int (50 : Int32)), .val (.ref b194), .val (.long (((((1 : Int32).toInt64) * ((50 : Int32).toInt64)) + (99 : Int64)) / (100 : Int64))), .second] [(.int (0 : Int32)), (.ref b194)])) t → Steps p.tables e below (s₁.setTop (entryFrame m #[(.ref a_), (.int (50 : Int32))] 5)) t := by
    intro t kk
    refine pre205 t ?_
    rw [(show (((((((1 : Int32).toInt64) * ((50 : Int32).toInt64)) + (99 : Int64)) / (100 : Int64)).toInt32) - (1 : Int32)) = (0 : Int32) by decide)]
    exact kk
  obtain ⟨cl207, Ar207, q207, S207, N207v, H207, G207⟩ := id Vq199
  have hin207 : ¬ ((0 : Int32) < 0 ∨ cl207.slots.size ≤ ((0 : Int32)).toNatClampNeg) := inb_of S207 ⟨by decide, by decide⟩
  have hat207 : cl207.slots[((0 : Int32)).toNatClampNeg]? = some (.long x0) := Has.at H207 hin207 rfl
  have pre208 : ∀ t, Steps p.tables e below (T204.setTop (mkF m 55 #[.val (.ref a_), .val (.int (50 : Int32)), .val (.ref b194), .val (.long (((((1 : Int32).toInt64) * ((50 : Int32).toInt64)) + (99 : Int64)) / (100 : Int64))), .second] [(.double (FP.ddiv (FP.l2d x0) (4696837146684686336 : UInt64)))])) t → Steps p.tables e below (s₁.setTop (entryFrame m #[(.ref a_), (.int (50 : Int32))] 5)) t := by
    intro t kk
    refine pre206 t ?_
    show Steps p.tables e below (T204.setTop (mkF m 49 #[.val (.ref a_), .val (.int (50 : Int32)), .val (.ref b194), .val (.long (((((1 : Int32).toInt64) * ((50 : Int32).toInt64)) + (99 : Int64)) / (100 : Int64))), .second] [(.int (0 : Int32)), (.ref b194)])) _
    refine X204.laload hx (j := (0 : Int32)) (v := (.long x0)) (by rw [e204]; exact Ar207.1) (State.isArrayOf_alike hZ.alike Ar207.2.1) Ar207.2.2 hin207 hat207 (g := (mkF m 49 #[.val (.ref a_), .val (.int (50 : Int32)), .val (.ref b194), .val (.long (((((1 : Int32).toInt64) * ((50 : Int32).toInt64)) + (99 : Int64)) / (100 : Int64))), .second] [(.int (0 : Int32)), (.ref b194)])) rfl rfl (hb hby d7_49) _ ?_
    show Steps p.tables e below (T204.setTop (mkF m 50 #[.val (.ref a_), .val (.int (50 : Int32)), .val (.ref b194), .val (.long (((((1 : Int32).toInt64) * ((50 : Int32).toInt64)) + (99 : Int64)) / (100 : Int64))), .second] [(.long x0)])) _
    refine own_l2d X204.here hx rfl (hb hby d7_50) rfl ?_
    show Steps p.tables e below (T204.setTop (mkF m 51 #[.val (.ref a_), .val (.int (50 : Int32)), .val (.ref b194), .val (.long (((((1 : Int32).toInt64) * ((50 : Int32).toInt64)) + (99 : Int64)) / (100 : Int64))), .second] [(.double (FP.l2d x0))])) _
    refine X204.ldc2DoubleC hx hown (mvT hZ (hw _ (List.mem_of_getElem? (i := 62) rfl))) (g := (mkF m 51 #[.val (.ref a_), .val (.int (50 : Int32)), .val (.ref b194), .val (.long (((((1 : Int32).toInt64) * ((50 : Int32).toInt64)) + (99 : Int64)) / (100 : Int64))), .second] [(.double (FP.l2d x0))])) rfl (hb hby d7_51) _ ?_
    show Steps p.tables e below (T204.setTop (mkF m 54 #[.val (.ref a_), .val (.int (50 : Int32)), .val (.ref b194), .val (.long (((((1 : Int32).toInt64) * ((50 : Int32).toInt64)) + (99 : Int64)) / (100 : Int64))), .second] [(.double (4696837146684686336 : UInt64)), (.double (FP.l2d x0))])) _
    refine own_ddiv X204.here hx rfl (hb hby d7_54) rfl (own_fin _) ?_
    exact kk
  obtain ⟨fs, hr, hrun, hended, hW, hsame⟩ := X204.leave (v := some (.double (FP.ddiv (FP.l2d x0) (4696837146684686336 : UInt64)))) (fun h => by rw [Bd.returns] at h; cases h)
  refine ⟨_, _, pre208 _ ?_, hrun, hended, _, _, rfl, ?_, ⟨_, rfl⟩, hW, hsame.mono (by decide) (by decide)⟩
  · show Steps p.tables e below (T204.setTop (mkF m 55 #[.val (.ref a_), .val (.int (50 : Int32)), .val (.ref b194), .val (.long (((((1 : Int32).toInt64) * ((50 : Int32).toInt64)) + (99 : Int64)) / (100 : Int64))), .second] [(.double (FP.ddiv (FP.l2d x0) (4696837146684686336 : UInt64)))])) _
    exact retOut X204 hx Bd.returns rfl (Or.inr (Or.inr (Or.inl ⟨rfl, rfl, _, rfl⟩))) (hb hby d7_55) hr
  · show Q7_1_50 Z a_ b_ k_ x0 h0 n0 _ T204.heap _
    rw [e204]
    exact ⟨rfl, N199, KP199⟩
def Q7_1_100 (Z : State) (a_ : Addr) (b_ : Addr) (k_ : ClassId) (x0 : Int64) (h0 : Heap) (n0 : Nat) (v : Option Value) (h : Heap) (L : List Loc) : Prop := v = some (.double (FP.ddiv (FP.l2d x0) (4696837146684686336 : UInt64))) ∧ Fr n0 L ∧ Keep h0 h []
set_option maxRecDepth 65536 in
set_option maxHeartbeats 40000000 in
theorem rm7_1_100 (l : Launch) (Z : State) (aA : Array Value) (hw : ∀ d ∈ tables_1, d.before aA Z = true) (ws : List Jvm.Cond) (a_ : Addr) (b_ : Addr) (k_ : ClassId) (x0 : Int64) (h0 : Heap) (n0 : Nat) (Z0 : n0 ≤ h0.size) (hne : a_ ≠ b_) (E_a : Exa Z h0 a_ "farspeak/greeter/Times") (F_nanos : Fld Z h0 a_ "farspeak/greeter/Times" "nanos" "[J" (.ref b_)) (F_size : Fld Z h0 a_ "farspeak/greeter/Times" "size" "I" (.int (1 : Int32))) (V_b : Arv Z h0 b_ k_ .long (1024 : Int32) [(.long x0)] (.long (0 : Int64))) :
    MetFree l (⟨"farspeak/greeter/Times", "percentileMillis", "(I)D"⟩ : MethodName) (head1 (Jvm.Cond.code (⟨"farspeak/greeter/Times", "percentileMillis", "(I)D"⟩ : MethodName) prog_53_method_5_code 5 (some .double) :: ws) ({ frames := 4, cells := 1, slots := 1, locals := 84 } : Room)) (fun a U => a = #[(.ref a_), (.int (100 : Int32))] ∧ Z.Warmed39 U.vm ∧ U.heap = h0) (fun _ _ _ _ _ => True) (fun _ U o U' => ∃ v L, o = .returned v ∧ Q7_1_100 Z a_ b_ k_ x0 h0 n0 v U'.heap L ∧ FrameEnd U o U' L ({ frames := 4, cells := 1, slots := 1, locals := 84 } : Room).cells ({ frames := 4, cells := 1, slots := 1, locals := 84 } : Room).slots) := by
  refine MetFree.of_bodySF (plainFor_of_name pn_farspeak_greeter_Times) hisR ?_
  intro p e s m args below meth c s₁ Bd hml0 hP hK
  obtain ⟨rfl, hZ, hh⟩ := hP
  have hx := Bd.exec
  have hby := Bd.bytes
  have hml : c.maxLocals = 5 := hml0
  have hown : s.vm.findClass "farspeak/greeter/Times" = some m.cls := findClass_of_methodNamed Bd.named
  have hnm := (name_of_methodNamed Bd.named Bd.method).1
  have X0 : Stand p l e ({ frames := 4, cells := 1, slots := 1, locals := 84 } : Room) s m #[(.ref a_), (.int (100 : Int32))] below meth c s₁ [] 0 0 := Stand.of_body Bd
  have e0 : s₁.heap = h0 := by rw [← hh, Bd.state]; rfl
  have N0 := Fr.nil n0
  have KP0 : Keep h0 h0 [] := Keep.refl h0 _
  have pre0 : ∀ t, Steps p.tables e below (s₁.setTop (mkF m 0 #[.val (.ref a_), .val (.int (100 : Int32)), .unset, .unset, .unset] [])) t → Steps p.tables e below (s₁.setTop (entryFrame m #[(.ref a_), (.int (100 : Int32))] 5)) t := fun t k => castTop (ef_7_RI m a_ (100 : Int32)) k
  obtain ⟨T215, X215, e215, st215⟩ := getF X0 hx hZ hown (host := "") (Or.inl (hw _ (List.mem_of_getElem? (i := 17) rfl))) Via.refl e0 F_size (g := (mkF m 1 #[.val (.ref a_), .val (.int (100 : Int32)), .unset, .unset, .unset] [(.ref a_)])) rfl rfl (hb hby d7_1)
  obtain ⟨T216, X216, e216, st216⟩ := getF X215 hx hZ hown (host := "") (Or.inl (hw _ (List.mem_of_getElem? (i := 10) rfl))) Via.refl e215 F_nanos (g := (mkF m 12 #[.val (.ref a_), .val (.int (100 : Int32)), .unset, .unset, .unset] [(.ref a_)])) rfl rfl (hb hby d7_12)
  obtain ⟨T217, X217, e217, st217⟩ := getF X216 hx hZ hown (host := "") (Or.inl (hw _ (List.mem_of_getElem? (i := 17) rfl))) Via.refl e216 F_size (g := (mkF m 16 #[.val (.ref a_), .val (.int (100 : Int32)), .unset, .unset, .unset] [(.ref a_), (.ref b_)])) rfl rfl (hb hby d7_16)
  obtain ⟨_, _, ⟨T218, L218, k218, n218⟩, -, X218, ⟨Lc218, hQ218, l218, y218, z218⟩, st218⟩ := Jvm.LawKit.callS X217 hx (y := (⟨"java/util/Arrays", "copyOf", "([JI)[J"⟩ : MethodName)) hown (mvT hZ (hw _ (List.mem_of_getElem? (i := 36) rfl))) (mvT hZ (hw _ (List.mem_of_getElem? (i := 37) rfl))) (mvT hZ (hw _ (List.mem_of_getElem? (i := 38) rfl))) (mvT hZ (hw _ (List.mem_of_getElem? (i := 39) rfl))) (by decide) (backOf (W := 0) (rm8_1 l Z aA hw [] b_ k_ x0 h0 n0 Z0 V_b) hZ (hw _ (List.mem_of_getElem? (i := 39) rfl)) (hw _ (List.mem_of_getElem? (i := 38) rfl)) (by decide) (by decide)) (g := (mkF m 19 #[.val (.ref a_), .val (.int (100 : Int32)), .unset, .unset, .unset] [(.int (1 : Int32)), (.ref b_)])) rfl (by rw [hml]; rfl) (argsL := [(.ref b_), (.int (1 : Int32))]) (rest := []) (lenOf pd__28_5bJI_29_5bJ rfl) rfl (by show 2 * 0 + _ ≤ _; exact Nat.le_of_eq rfl) (hb hby d7_19) (fun _ _ => ⟨rfl, e217, (by decide : 0 + 1 ≤ _), (by decide : 0 + 1 ≤ _)⟩)
  dsimp only [Pt.U, Pt.locs, Pt.cells, Pt.slots] at X218 l218 y218 z218 st218 hQ218
  subst l218 y218 z218
  obtain ⟨b218, kk218, rfl, N218q, K218, sz218, Vq218⟩ := hQ218
  have N218 := Fr.app N0 N218q
  have sz_b218 : h0.size ≤ b218 := Nat.le_trans KP0.1 sz218
  have g_b218 : n0 ≤ b218 := Nat.le_trans Z0 sz218
  have ne_a__b218 : a_ ≠ b218 := Nat.ne_of_lt (Nat.lt_of_lt_of_le E_a.lt sz218)
  have ne_b__b218 : b_ ≠ b218 := Nat.ne_of_lt (Nat.lt_of_lt_of_le V_b.lt sz218)
  have KP218 : Keep h0 T218.heap [] := KP0.trans K218 all0
  have Z218 : n0 ≤ T218.heap.size := Nat.le_trans Z0 K218.1
  have E_a__219 : Exa Z T218.heap a_ "farspeak/greeter/Times" := E_a.keep K218
  have F_a__nanos_220 : Fld Z T218.heap a_ "farspeak/greeter/Times" "nanos" "[J" (.ref b_) := F_nanos.keep K218 nin0
  have F_a__size_221 : Fld Z T218.heap a_ "farspeak/greeter/Times" "size" "I" (.int (1 : Int32)) := F_size.keep K218 nin0
  have V_b__222 : Arv Z T218.heap b_ k_ .long (1024 : Int32) [(.long x0)] (.long (0 : Int64)) := V_b.keep K218 nin0
  obtain ⟨_, _, ⟨T223, L223, k223, n223⟩, -, X223, ⟨Lc223, hQ223, l223, y223, z223⟩, st223⟩ := Jvm.LawKit.callS X218 hx (y := (⟨"java/util/Arrays", "sort", "([J)V"⟩ : MethodName)) hown (mvT hZ (hw _ (List.mem_of_getElem? (i := 47) rfl))) (mvT hZ (hw _ (List.mem_of_getElem? (i := 48) rfl))) (mvT hZ (hw _ (List.mem_of_getElem? (i := 38) rfl))) (mvT hZ (hw _ (List.mem_of_getElem? (i := 49) rfl))) (by decide) (backOf (W := 0) (rm10_1 l Z aA hw [] b218 kk218 x0 T218.heap n0 Z218 g_b218 Vq218) hZ (hw _ (List.mem_of_getElem? (i := 49) rfl)) (hw _ (List.mem_of_getElem? (i := 38) rfl)) (by decide) (by decide)) (g := (mkF m 24 #[.val (.ref a_), .val (.int (100 : Int32)), .val (.ref b218), .unset, .unset] [(.ref b218)])) rfl (by rw [hml]; rfl) (argsL := [(.ref b218)]) (rest := []) (lenOf pd__28_5bJ_29V rfl) rfl (by show 2 * 0 + _ ≤ _; exact Nat.le_of_eq rfl) (hb hby d7_24) (fun _ _ => ⟨rfl, rfl, (by decide : 1 + 0 ≤ _), (by decide : 1 + 0 ≤ _)⟩)
  dsimp only [Pt.U, Pt.locs, Pt.cells, Pt.slots] at X223 l223 y223 z223 st223 hQ223
  subst l223 y223 z223
  obtain ⟨rfl, N223q, K223, Vq223⟩ := hQ223
  have N223 := Fr.app N218 N223q
  have KP223 : Keep h0 T223.heap [] := KP218.trans K223 (allS (Or.inr sz_b218) all0)
  have Z223 : n0 ≤ T223.heap.size := Nat.le_trans Z218 K223.1
  have E_a__224 : Exa Z T223.heap a_ "farspeak/greeter/Times" := E_a__219.keep K223
  have F_a__nanos_225 : Fld Z T223.heap a_ "farspeak/greeter/Times" "nanos" "[J" (.ref b_) := F_a__nanos_220.keep K223 (ninS ne_a__b218 nin0)
  have F_a__size_226 : Fld Z T223.heap a_ "farspeak/greeter/Times" "size" "I" (.int (1 : Int32)) := F_a__size_221.keep K223 (ninS ne_a__b218 nin0)
  have V_b__227 : Arv Z T223.heap b_ k_ .long (1024 : Int32) [(.long x0)] (.long (0 : Int64)) := V_b__222.keep K223 (ninS ne_b__b218 nin0)
  obtain ⟨T228, X228, e228, st228⟩ := getF X223 hx hZ hown (host := "") (Or.inl (hw _ (List.mem_of_getElem? (i := 17) rfl))) Via.refl rfl F_a__size_226 (g := (mkF m 28 #[.val (.ref a_), .val (.int (100 : Int32)), .val (.ref b218), .unset, .unset] [(.ref a_)])) rfl rfl (hb hby d7_28)
  have pre229 : ∀ t, Steps p.tables e below (T228.setTop (mkF m 49 #[.val (.ref a_), .val (.int (100 : Int32)), .val (.ref b218), .val (.long (((((1 : Int32).toInt64) * ((100 : Int32).toInt64)) + (99 : Int64)) / (100 : Int64))), .second] [(.int (((((((1 : Int32).toInt64) * ((100 : Int32).toInt64)) + (99 : Int64)) / (100 : Int64)).toInt32) - (1 : Int32))), (.ref b218)])) t → Steps p.tables e below (s₁.setTop (entryFrame m #[(.ref a_), (.int (100 : Int32))] 5)) t := by
    intro t kk
    refine pre0 t ?_
    show Steps p.tables e below (s₁.setTop (mkF m 0 #[.val (.ref a_), .val (.int (100 : Int32)), .unset, .unset, .unset] [])) _
    refine XS.aloadN X0.here hx rfl (hb hby d7_0) rfl rfl ?_
    show Steps p.tables e below (s₁.setTop (mkF m 1 #[.val (.ref a_), .val (.int (100 : Int32)), .unset, .unset, .unset] [(.ref a_)])) _
    refine st215 _ ?_
    show Steps p.tables e below (T215.setTop (mkF m 4 #[.val (.ref a_), .val (.int (100 : Int32)), .unset, .unset, .unset] [(.int (1 : Int32))])) _
    refine XS.ifYes X215.here hx rfl (pc0 := 4) (pc' := 11) rfl (hb hby d7_4) rfl ((if0 _ _).trans (feq (by decide : ¬ ((1 : Int32) = (0 : Int32)))).2) (by decide) (by decide) ?_
    show Steps p.tables e below (T215.setTop (mkF m 11 #[.val (.ref a_), .val (.int (100 : Int32)), .unset, .unset, .unset] [])) _
    refine XS.aloadN X215.here hx rfl (hb hby d7_11) rfl rfl ?_
    show Steps p.tables e below (T215.setTop (mkF m 12 #[.val (.ref a_), .val (.int (100 : Int32)), .unset, .unset, .unset] [(.ref a_)])) _
    refine st216 _ ?_
    show Steps p.tables e below (T216.setTop (mkF m 15 #[.val (.ref a_), .val (.int (100 : Int32)), .unset, .unset, .unset] [(.ref b_)])) _
    refine XS.aloadN X216.here hx rfl (hb hby d7_15) rfl rfl ?_
    show Steps p.tables e below (T216.setTop (mkF m 16 #[.val (.ref a_), .val (.int (100 : Int32)), .unset, .unset, .unset] [(.ref a_), (.ref b_)])) _
    refine st217 _ ?_
    show Steps p.tables e below (T217.setTop (mkF m 19 #[.val (.ref a_), .val (.int (100 : Int32)), .unset, .unset, .unset] [(.int (1 : Int32)), (.ref b_)])) _
    refine st218 _ ?_
    show Steps p.tables e below (T218.setTop (mkF m 22 #[.val (.ref a_), .val (.int (100 : Int32)), .unset, .unset, .unset] [(.ref b218)])) _
    refine XS.astoreN X218.here hx rfl (hb hby d7_22) rfl rfl (l' := #[.val (.ref a_), .val (.int (100 : Int32)), .val (.ref b218), .unset, .unset]) rfl ?_
    show Steps p.tables e below (T218.setTop (mkF m 23 #[.val (.ref a_), .val (.int (100 : Int32)), .val (.ref b218), .unset, .unset] [])) _
    refine XS.aloadN X218.here hx rfl (hb hby d7_23) rfl rfl ?_
    show Steps p.tables e below (T218.setTop (mkF m 24 #[.val (.ref a_), .val (.int (100 : Int32)), .val (.ref b218), .unset, .unset] [(.ref b218)])) _
    refine st223 _ ?_
    show Steps p.tables e below (T223.setTop (mkF m 27 #[.val (.ref a_), .val (.int (100 : Int32)), .val (.ref b218), .unset, .unset] [])) _
    refine XS.aloadN X223.here hx rfl (hb hby d7_27) rfl rfl ?_
    show Steps p.tables e below (T223.setTop (mkF m 28 #[.val (.ref a_), .val (.int (100 : Int32)), .val (.ref b218), .unset, .unset] [(.ref a_)])) _
    refine st228 _ ?_
    show Steps p.tables e below (T228.setTop (mkF m 31 #[.val (.ref a_), .val (.int (100 : Int32)), .val (.ref b218), .unset, .unset] [(.int (1 : Int32))])) _
    refine XS.i2l X228.here hx rfl (hb hby d7_31) rfl ?_
    show Steps p.tables e below (T228.setTop (mkF m 32 #[.val (.ref a_), .val (.int (100 : Int32)), .val (.ref b218), .unset, .unset] [(.long ((1 : Int32).toInt64))])) _
    refine XS.iloadN X228.here hx rfl (hb hby d7_32) rfl ?_
    show Steps p.tables e below (T228.setTop (mkF m 33 #[.val (.ref a_), .val (.int (100 : Int32)), .val (.ref b218), .unset, .unset] [(.int (100 : Int32)), (.long ((1 : Int32).toInt64))])) _
    refine XS.i2l X228.here hx rfl (hb hby d7_33) rfl ?_
    show Steps p.tables e below (T228.setTop (mkF m 34 #[.val (.ref a_), .val (.int (100 : Int32)), .val (.ref b218), .unset, .unset] [(.long ((100 : Int32).toInt64)), (.long ((1 : Int32).toInt64))])) _
    refine XS.lmul X228.here hx rfl (hb hby d7_34) rfl ?_
    show Steps p.tables e below (T228.setTop (mkF m 35 #[.val (.ref a_), .val (.int (100 : Int32)), .val (.ref b218), .unset, .unset] [(.long (((1 : Int32).toInt64) * ((100 : Int32).toInt64)))])) _
    refine X228.ldc2Long hx hown (mvT hZ (hw _ (List.mem_of_getElem? (i := 60) rfl))) (g := (mkF m 35 #[.val (.ref a_), .val (.int (100 : Int32)), .val (.ref b218), .unset, .unset] [(.long (((1 : Int32).toInt64) * ((100 : Int32).toInt64)))])) rfl (hb hby d7_35) _ ?_
    show Steps p.tables e below (T228.setTop (mkF m 38 #[.val (.ref a_), .val (.int (100 : Int32)), .val (.ref b218), .unset, .unset] [(.long (99 : Int64)), (.long (((1 : Int32).toInt64) * ((100 : Int32).toInt64)))])) _
    refine XS.ladd X228.here hx rfl (hb hby d7_38) rfl ?_
    show Steps p.tables e below (T228.setTop (mkF m 39 #[.val (.ref a_), .val (.int (100 : Int32)), .val (.ref b218), .unset, .unset] [(.long ((((1 : Int32).toInt64) * ((100 : Int32).toInt64)) + (99 : Int64)))])) _
    refine X228.ldc2Long hx hown (mvT hZ (hw _ (List.mem_of_getElem? (i := 61) rfl))) (g := (mkF m 39 #[.val (.ref a_), .val (.int (100 : Int32)), .val (.ref b218), .unset, .unset] [(.long ((((1 : Int32).toInt64) * ((100 : Int32).toInt64)) + (99 : Int64)))])) rfl (hb hby d7_39) _ ?_
    show Steps p.tables e below (T228.setTop (mkF m 42 #[.val (.ref a_), .val (.int (100 : Int32)), .val (.ref b218), .unset, .unset] [(.long (100 : Int64)), (.long ((((1 : Int32).toInt64) * ((100 : Int32).toInt64)) + (99 : Int64)))])) _
    refine XS.ldiv X228.here hx rfl (hb hby d7_42) rfl (by decide : ¬ ((100 : Int64) = (0 : Int64))) ?_
    show Steps p.tables e below (T228.setTop (mkF m 43 #[.val (.ref a_), .val (.int (100 : Int32)), .val (.ref b218), .unset, .unset] [(.long (((((1 : Int32).toInt64) * ((100 : Int32).toInt64)) + (99 : Int64)) / (100 : Int64)))])) _
    refine XS.lstoreN X228.here hx rfl (hb hby d7_43) rfl (l' := #[.val (.ref a_), .val (.int (100 : Int32)), .val (.ref b218), .val (.long (((((1 : Int32).toInt64) * ((100 : Int32).toInt64)) + (99 : Int64)) / (100 : Int64))), .second]) rfl ?_
    show Steps p.tables e below (T228.setTop (mkF m 44 #[.val (.ref a_), .val (.int (100 : Int32)), .val (.ref b218), .val (.long (((((1 : Int32).toInt64) * ((100 : Int32).toInt64)) + (99 : Int64)) / (100 : Int64))), .second] [])) _
    refine XS.aloadN X228.here hx rfl (hb hby d7_44) rfl rfl ?_
    show Steps p.tables e below (T228.setTop (mkF m 45 #[.val (.ref a_), .val (.int (100 : Int32)), .val (.ref b218), .val (.long (((((1 : Int32).toInt64) * ((100 : Int32).toInt64)) + (99 : Int64)) / (100 : Int64))), .second] [(.ref b218)])) _
    refine XS.lloadN X228.here hx rfl (hb hby d7_45) rfl ?_
    show Steps p.tables e below (T228.setTop (mkF m 46 #[.val (.ref a_), .val (.int (100 : Int32)), .val (.ref b218), .val (.long (((((1 : Int32).toInt64) * ((100 : Int32).toInt64)) + (99 : Int64)) / (100 : Int64))), .second] [(.long (((((1 : Int32).toInt64) * ((100 : Int32).toInt64)) + (99 : Int64)) / (100 : Int64))), (.ref b218)])) _
    refine XS.l2i X228.here hx rfl (hb hby d7_46) rfl ?_
    show Steps p.tables e below (T228.setTop (mkF m 47 #[.val (.ref a_), .val (.int (100 : Int32)), .val (.ref b218), .val (.long (((((1 : Int32).toInt64) * ((100 : Int32).toInt64)) + (99 : Int64)) / (100 : Int64))), .second] [(.int ((((((1 : Int32).toInt64) * ((100 : Int32).toInt64)) + (99 : Int64)) / (100 : Int64)).toInt32)), (.ref b218)])) _
    refine XS.iconst X228.here hx rfl (hb hby d7_47) ?_
    show Steps p.tables e below (T228.setTop (mkF m 48 #[.val (.ref a_), .val (.int (100 : Int32)), .val (.ref b218), .val (.long (((((1 : Int32).toInt64) * ((100 : Int32).toInt64)) + (99 : Int64)) / (100 : Int64))), .second] [(.int (1 : Int32)), (.int ((((((1 : Int32).toInt64) * ((100 : Int32).toInt64)) + (99 : Int64)) / (100 : Int64)).toInt32)), (.ref b218)])) _
    refine XS.isub X228.here hx rfl (hb hby d7_48) rfl ?_
    exact kk
  have pre230 : ∀ t, Steps p.tables e below (T228.setTop (mkF m 49 #[.val (.ref a_), .val (.int (100 : Int32)), .val (.ref b218), .val (.long (((((1 : Int32).toInt64) * ((100 : Int32).toInt64)) + (99 : Int64)) / (100 : Int64))), .second] [(.int (0 : Int32)), (.ref b218)])) t → Steps p.tables e below (s₁.setTop (entryFrame m #[(.ref a_), (.int (100 : Int32))] 5)) t := by
    intro t kk
    refine pre229 t ?_
    rw [(show (((((((1 : Int32).toInt64) * ((100 : Int32).toInt64)) + (99 : Int64)) / (100 : Int64)).toInt32) - (1 : Int32)) = (0 : Int32) by decide)]
    exact kk
  obtain ⟨cl231, Ar231, q231, S231, N231v, H231, G231⟩ := id Vq223
  have hin231 : ¬ ((0 : Int32) < 0 ∨ cl231.slots.size ≤ ((0 : Int32)).toNatClampNeg) := inb_of S231 ⟨by decide, by decide⟩
  have hat231 : cl231.slots[((0 : Int32)).toNatClampNeg]? = some (.long x0) := Has.at H231 hin231 rfl
  have pre232 : ∀ t, Steps p.tables e below (T228.setTop (mkF m 55 #[.val (.ref a_), .val (.int (100 : Int32)), .val (.ref b218), .val (.long (((((1 : Int32).toInt64) * ((100 : Int32).toInt64)) + (99 : Int64)) / (100 : Int64))), .second] [(.double (FP.ddiv (FP.l2d x0) (4696837146684686336 : UInt64)))])) t → Steps p.tables e below (s₁.setTop (entryFrame m #[(.ref a_), (.int (100 : Int32))] 5)) t := by
    intro t kk
    refine pre230 t ?_
    show Steps p.tables e below (T228.setTop (mkF m 49 #[.val (.ref a_), .val (.int (100 : Int32)), .val (.ref b218), .val (.long (((((1 : Int32).toInt64) * ((100 : Int32).toInt64)) + (99 : Int64)) / (100 : Int64))), .second] [(.int (0 : Int32)), (.ref b218)])) _
    refine X228.laload hx (j := (0 : Int32)) (v := (.long x0)) (by rw [e228]; exact Ar231.1) (State.isArrayOf_alike hZ.alike Ar231.2.1) Ar231.2.2 hin231 hat231 (g := (mkF m 49 #[.val (.ref a_), .val (.int (100 : Int32)), .val (.ref b218), .val (.long (((((1 : Int32).toInt64) * ((100 : Int32).toInt64)) + (99 : Int64)) / (100 : Int64))), .second] [(.int (0 : Int32)), (.ref b218)])) rfl rfl (hb hby d7_49) _ ?_
    show Steps p.tables e below (T228.setTop (mkF m 50 #[.val (.ref a_), .val (.int (100 : Int32)), .val (.ref b218), .val (.long (((((1 : Int32).toInt64) * ((100 : Int32).toInt64)) + (99 : Int64)) / (100 : Int64))), .second] [(.long x0)])) _
    refine own_l2d X228.here hx rfl (hb hby d7_50) rfl ?_
    show Steps p.tables e below (T228.setTop (mkF m 51 #[.val (.ref a_), .val (.int (100 : Int32)), .val (.ref b218), .val (.long (((((1 : Int32).toInt64) * ((100 : Int32).toInt64)) + (99 : Int64)) / (100 : Int64))), .second] [(.double (FP.l2d x0))])) _
    refine X228.ldc2DoubleC hx hown (mvT hZ (hw _ (List.mem_of_getElem? (i := 62) rfl))) (g := (mkF m 51 #[.val (.ref a_), .val (.int (100 : Int32)), .val (.ref b218), .val (.long (((((1 : Int32).toInt64) * ((100 : Int32).toInt64)) + (99 : Int64)) / (100 : Int64))), .second] [(.double (FP.l2d x0))])) rfl (hb hby d7_51) _ ?_
    show Steps p.tables e below (T228.setTop (mkF m 54 #[.val (.ref a_), .val (.int (100 : Int32)), .val (.ref b218), .val (.long (((((1 : Int32).toInt64) * ((100 : Int32).toInt64)) + (99 : Int64)) / (100 : Int64))), .second] [(.double (4696837146684686336 : UInt64)), (.double (FP.l2d x0))])) _
    refine own_ddiv X228.here hx rfl (hb hby d7_54) rfl (own_fin _) ?_
    exact kk
  obtain ⟨fs, hr, hrun, hended, hW, hsame⟩ := X228.leave (v := some (.double (FP.ddiv (FP.l2d x0) (4696837146684686336 : UInt64)))) (fun h => by rw [Bd.returns] at h; cases h)
  refine ⟨_, _, pre232 _ ?_, hrun, hended, _, _, rfl, ?_, ⟨_, rfl⟩, hW, hsame.mono (by decide) (by decide)⟩
  · show Steps p.tables e below (T228.setTop (mkF m 55 #[.val (.ref a_), .val (.int (100 : Int32)), .val (.ref b218), .val (.long (((((1 : Int32).toInt64) * ((100 : Int32).toInt64)) + (99 : Int64)) / (100 : Int64))), .second] [(.double (FP.ddiv (FP.l2d x0) (4696837146684686336 : UInt64)))])) _
    exact retOut X228 hx Bd.returns rfl (Or.inr (Or.inr (Or.inl ⟨rfl, rfl, _, rfl⟩))) (hb hby d7_55) hr
  · show Q7_1_100 Z a_ b_ k_ x0 h0 n0 _ T228.heap _
    rw [e228]
    exact ⟨rfl, N223, KP223⟩
def Q3_1 (Z : State) (a_ : Addr) (q_ : Int64) (b_ : Addr) (k_ : ClassId) (x0 : Int64) (h0 : Heap) (n0 : Nat) (v : Option Value) (h : Heap) (L : List Loc) : Prop := v = none ∧ Fr n0 L ∧ Keep h0 h [a_, b_] ∧ Exa Z h a_ "farspeak/greeter/Times" ∧ Fld Z h a_ "farspeak/greeter/Times" "nanos" "[J" (.ref b_) ∧ Fld Z h a_ "farspeak/greeter/Times" "size" "I" (.int (2 : Int32)) ∧ Arv Z h b_ k_ .long (1024 : Int32) [(.long x0), (.long q_)] (.long (0 : Int64))
set_option maxRecDepth 65536 in
set_option maxHeartbeats 40000000 in
theorem rm3_1 (l : Launch) (Z : State) (aA : Array Value) (hw : ∀ d ∈ tables_1, d.before aA Z = true) (ws : List Jvm.Cond) (a_ : Addr) (q_ : Int64) (b_ : Addr) (k_ : ClassId) (x0 : Int64) (h0 : Heap) (n0 : Nat) (Z0 : n0 ≤ h0.size) (g_a_ : n0 ≤ a_) (g_b_ : n0 ≤ b_) (hne : a_ ≠ b_) (E_a : Exa Z h0 a_ "farspeak/greeter/Times") (F_nanos : Fld Z h0 a_ "farspeak/greeter/Times" "nanos" "[J" (.ref b_)) (F_size : Fld Z h0 a_ "farspeak/greeter/Times" "size" "I" (.int (1 : Int32))) (V_b : Arv Z h0 b_ k_ .long (1024 : Int32) [(.long x0)] (.long (0 : Int64))) :
    MetFree l (⟨"farspeak/greeter/Times", "add", "(J)V"⟩ : MethodName) (head1 (Jvm.Cond.code (⟨"farspeak/greeter/Times", "add", "(J)V"⟩ : MethodName) prog_53_method_2_code 3 none :: ws) ({ frames := 0, cells := 0, slots := 0, locals := 0 } : Room)) (fun a U => a = #[(.ref a_), (.long q_)] ∧ Z.Warmed39 U.vm ∧ U.heap = h0) (fun _ _ _ _ _ => True) (fun _ U o U' => ∃ v L, o = .returned v ∧ Q3_1 Z a_ q_ b_ k_ x0 h0 n0 v U'.heap L ∧ FrameEnd U o U' L ({ frames := 0, cells := 0, slots := 0, locals := 0 } : Room).cells ({ frames := 0, cells := 0, slots := 0, locals := 0 } : Room).slots) := by
  refine MetFree.of_bodySF (plainFor_of_name pn_farspeak_greeter_Times) hisR ?_
  intro p e s m args below meth c s₁ Bd hml0 hP hK
  obtain ⟨rfl, hZ, hh⟩ := hP
  have hx := Bd.exec
  have hby := Bd.bytes
  have hml : c.maxLocals = 3 := hml0
  have hown : s.vm.findClass "farspeak/greeter/Times" = some m.cls := findClass_of_methodNamed Bd.named
  have hnm := (name_of_methodNamed Bd.named Bd.method).1
  have X0 : Stand p l e ({ frames := 0, cells := 0, slots := 0, locals := 0 } : Room) s m #[(.ref a_), (.long q_)] below meth c s₁ [] 0 0 := Stand.of_body Bd
  have e0 : s₁.heap = h0 := by rw [← hh, Bd.state]; rfl
  have N0 := Fr.nil n0
  have KP0 : Keep h0 h0 [a_, b_] := Keep.refl h0 _
  have pre0 : ∀ t, Steps p.tables e below (s₁.setTop (mkF m 0 #[.val (.ref a_), .val (.long q_), .second] [])) t → Steps p.tables e below (s₁.setTop (entryFrame m #[(.ref a_), (.long q_)] 3)) t := fun t k => castTop (ef_3_RJ m a_ q_) k
  obtain ⟨T240, X240, e240, st240⟩ := getF X0 hx hZ hown (host := "") (Or.inl (hw _ (List.mem_of_getElem? (i := 17) rfl))) Via.refl e0 F_size (g := (mkF m 1 #[.val (.ref a_), .val (.long q_), .second] [(.ref a_)])) rfl rfl (hb hby d3_1)
  obtain ⟨T241, X241, e241, st241⟩ := getF X240 hx hZ hown (host := "") (Or.inl (hw _ (List.mem_of_getElem? (i := 10) rfl))) Via.refl e240 F_nanos (g := (mkF m 5 #[.val (.ref a_), .val (.long q_), .second] [(.ref a_), (.int (1 : Int32))])) rfl rfl (hb hby d3_5)
  obtain ⟨cl242, Ar242, -, S242, N242v, -, -⟩ := id V_b
  obtain ⟨T243, X243, e243, st243⟩ := getF X241 hx hZ hown (host := "") (Or.inl (hw _ (List.mem_of_getElem? (i := 10) rfl))) Via.refl e241 F_nanos (g := (mkF m 30 #[.val (.ref a_), .val (.long q_), .second] [(.ref a_)])) rfl rfl (hb hby d3_30)
  obtain ⟨T244, X244, e244, st244⟩ := getF X243 hx hZ hown (host := "") (Or.inl (hw _ (List.mem_of_getElem? (i := 17) rfl))) Via.refl e243 F_size (g := (mkF m 35 #[.val (.ref a_), .val (.long q_), .second] [(.ref a_), (.ref a_), (.ref b_)])) rfl rfl (hb hby d3_35)
  obtain ⟨T245, h245, X245, e245, W245, st245⟩ := putF X244 hx hZ hown (host := "") (Or.inl (hw _ (List.mem_of_getElem? (i := 17) rfl))) Via.refl e244 F_size E_a (Or.inl (hw _ (List.mem_of_getElem? (i := 18) rfl))) (hw _ (List.mem_of_getElem? (i := 1) rfl)) (ty := .int) (by decide) rfl rfl (g := (mkF m 41 #[.val (.ref a_), .val (.long q_), .second] [(.int (2 : Int32)), (.ref a_), (.int (1 : Int32)), (.ref b_)])) rfl rfl (hb hby d3_41)
  have Fw245 := F_size.same W245
  have KP245 : Keep h0 h245 [a_, b_] := KP0.wr W245 (Or.inl (List.mem_of_getElem? (i := 0) rfl))
  have Z245 : n0 ≤ h245.size := Nat.le_trans Z0 (Nat.le_of_eq W245.size.symm)
  have N245 := Fr.snoc X245 N0 g_a_
  have E_a__246 : Exa Z h245 a_ "farspeak/greeter/Times" := E_a.wr W245
  have F_a__nanos_247 : Fld Z h245 a_ "farspeak/greeter/Times" "nanos" "[J" (.ref b_) := F_nanos.other W245 (Or.inr (slot_ne (Or.inl (hw _ (List.mem_of_getElem? (i := 11) rfl))) (Or.inl (hw _ (List.mem_of_getElem? (i := 18) rfl))) (by decide) (t := (.array .long)) (t' := .int) (by decide) (by decide)))
  have V_b__248 : Arv Z h245 b_ k_ .long (1024 : Int32) [(.long x0)] (.long (0 : Int64)) := V_b.other W245 (Ne.symm hne)
  have Vp249 : Arv Z h245 b_ k_ .long (1024 : Int32) [(.long x0), (.long (0 : Int64))] (.long (0 : Int64)) := V_b__248.pad (pad_rep [(.long x0)] (.long (0 : Int64)) 1)
  obtain ⟨cl249, Ar249, q249, S249, N249v, H249, G249⟩ := Vp249
  have hin249 : ¬ ((1 : Int32) < 0 ∨ cl249.slots.size ≤ ((1 : Int32)).toNatClampNeg) := inb_of S249 ⟨by decide, by decide⟩
  obtain ⟨T250, h250, X250, e250, W250, st250⟩ := stJ X245 hx hZ e245 Ar249 (j := (1 : Int32)) hin249 (g := (mkF m 45 #[.val (.ref a_), .val (.long q_), .second] [(.long q_), (.int (1 : Int32)), (.ref b_)])) rfl rfl (hb hby d3_45)
  have Vw250 : Arv Z h250 b_ k_ .long (1024 : Int32) [(.long x0), (.long q_)] (.long (0 : Int64)) := Arv.set Ar249 q249 S249 N249v H249 G249 rfl W250 1 rfl (Nat.le_of_ble_eq_true rfl)
  have KP250 : Keep h0 h250 [a_, b_] := KP245.wr W250 (Or.inl (List.mem_of_getElem? (i := 1) rfl))
  have Z250 : n0 ≤ h250.size := Nat.le_trans Z245 (Nat.le_of_eq W250.size.symm)
  have N250 := Fr.snoc X250 N245 g_b_
  have E_a__251 : Exa Z h250 a_ "farspeak/greeter/Times" := E_a__246.wr W250
  have F_a__nanos_252 : Fld Z h250 a_ "farspeak/greeter/Times" "nanos" "[J" (.ref b_) := F_a__nanos_247.other W250 (Or.inl hne)
  have F_a__size_253 : Fld Z h250 a_ "farspeak/greeter/Times" "size" "I" (.int (2 : Int32)) := Fw245.other W250 (Or.inl hne)
  have pre254 : ∀ t, Steps p.tables e below (T250.setTop (mkF m 46 #[.val (.ref a_), .val (.long q_), .second] [])) t → Steps p.tables e below (s₁.setTop (entryFrame m #[(.ref a_), (.long q_)] 3)) t := by
    intro t kk
    refine pre0 t ?_
    show Steps p.tables e below (s₁.setTop (mkF m 0 #[.val (.ref a_), .val (.long q_), .second] [])) _
    refine XS.aloadN X0.here hx rfl (hb hby d3_0) rfl rfl ?_
    show Steps p.tables e below (s₁.setTop (mkF m 1 #[.val (.ref a_), .val (.long q_), .second] [(.ref a_)])) _
    refine st240 _ ?_
    show Steps p.tables e below (T240.setTop (mkF m 4 #[.val (.ref a_), .val (.long q_), .second] [(.int (1 : Int32))])) _
    refine XS.aloadN X240.here hx rfl (hb hby d3_4) rfl rfl ?_
    show Steps p.tables e below (T240.setTop (mkF m 5 #[.val (.ref a_), .val (.long q_), .second] [(.ref a_), (.int (1 : Int32))])) _
    refine st241 _ ?_
    show Steps p.tables e below (T241.setTop (mkF m 8 #[.val (.ref a_), .val (.long q_), .second] [(.ref b_), (.int (1 : Int32))])) _
    refine X241.arraylength hx (by rw [e241]; exact Ar242.1) (State.isArrayOf_alike hZ.alike Ar242.2.1) (g := (mkF m 8 #[.val (.ref a_), .val (.long q_), .second] [(.ref b_), (.int (1 : Int32))])) rfl rfl (hb hby d3_8) _ ?_
    rw [len_of S242 N242v]
    show Steps p.tables e below (T241.setTop (mkF m 9 #[.val (.ref a_), .val (.long q_), .second] [(.int (1024 : Int32)), (.int (1 : Int32))])) _
    refine XS.icmpYes X241.here hx rfl (pc0 := 9) (pc' := 29) rfl (hb hby d3_9) rfl (feq (by decide : ¬ ((1 : Int32) = (1024 : Int32)))).2 (by decide) (by decide) ?_
    show Steps p.tables e below (T241.setTop (mkF m 29 #[.val (.ref a_), .val (.long q_), .second] [])) _
    refine XS.aloadN X241.here hx rfl (hb hby d3_29) rfl rfl ?_
    show Steps p.tables e below (T241.setTop (mkF m 30 #[.val (.ref a_), .val (.long q_), .second] [(.ref a_)])) _
    refine st243 _ ?_
    show Steps p.tables e below (T243.setTop (mkF m 33 #[.val (.ref a_), .val (.long q_), .second] [(.ref b_)])) _
    refine XS.aloadN X243.here hx rfl (hb hby d3_33) rfl rfl ?_
    show Steps p.tables e below (T243.setTop (mkF m 34 #[.val (.ref a_), .val (.long q_), .second] [(.ref a_), (.ref b_)])) _
    refine XS.dup X243.here hx rfl (hb hby d3_34) rfl rfl ?_
    show Steps p.tables e below (T243.setTop (mkF m 35 #[.val (.ref a_), .val (.long q_), .second] [(.ref a_), (.ref a_), (.ref b_)])) _
    refine st244 _ ?_
    show Steps p.tables e below (T244.setTop (mkF m 38 #[.val (.ref a_), .val (.long q_), .second] [(.int (1 : Int32)), (.ref a_), (.ref b_)])) _
    refine XS.dupX1 X244.here hx rfl (hb hby d3_38) rfl rfl rfl ?_
    show Steps p.tables e below (T244.setTop (mkF m 39 #[.val (.ref a_), .val (.long q_), .second] [(.int (1 : Int32)), (.ref a_), (.int (1 : Int32)), (.ref b_)])) _
    refine XS.iconst X244.here hx rfl (hb hby d3_39) ?_
    show Steps p.tables e below (T244.setTop (mkF m 40 #[.val (.ref a_), .val (.long q_), .second] [(.int (1 : Int32)), (.int (1 : Int32)), (.ref a_), (.int (1 : Int32)), (.ref b_)])) _
    refine XS.iadd X244.here hx rfl (hb hby d3_40) rfl ?_
    show Steps p.tables e below (T244.setTop (mkF m 41 #[.val (.ref a_), .val (.long q_), .second] [(.int (2 : Int32)), (.ref a_), (.int (1 : Int32)), (.ref b_)])) _
    refine st245 _ ?_
    show Steps p.tables e below (T245.setTop (mkF m 44 #[.val (.ref a_), .val (.long q_), .second] [(.int (1 : Int32)), (.ref b_)])) _
    refine XS.lloadN X245.here hx rfl (hb hby d3_44) rfl ?_
    show Steps p.tables e below (T245.setTop (mkF m 45 #[.val (.ref a_), .val (.long q_), .second] [(.long q_), (.int (1 : Int32)), (.ref b_)])) _
    refine st250 _ ?_
    exact kk
  obtain ⟨fs, hr, hrun, hended, hW, hsame⟩ := X250.leave (v := none) (fun _ => rfl)
  refine ⟨_, _, pre254 _ ?_, hrun, hended, _, _, rfl, ?_, ⟨_, rfl⟩, hW, hsame.mono (by decide) (by decide)⟩
  · show Steps p.tables e below (T250.setTop (mkF m 46 #[.val (.ref a_), .val (.long q_), .second] [])) _
    exact X250.returnOut hx Bd.returns (hb hby d3_46) hr
  · show Q3_1 Z a_ q_ b_ k_ x0 h0 n0 _ T250.heap _
    rw [e250]
    exact ⟨rfl, N250, KP250, E_a__251, F_a__nanos_252, F_a__size_253, Vw250⟩
theorem pd__28JJ_29J : parseMethodDescriptor "(JJ)J" = some ⟨[.long, .long], some .long⟩ := by decide +kernel
def Q8_2 (Z : State) (b_ : Addr) (k_ : ClassId) (x0 : Int64) (x1 : Int64) (h0 : Heap) (n0 : Nat) (v : Option Value) (h : Heap) (L : List Loc) : Prop := ∃ (c : Addr) (kc : ClassId), v = some (.ref c) ∧ Fr n0 L ∧ Keep h0 h [] ∧ h0.size ≤ c ∧ Arv Z h c kc .long (2 : Int32) [(.long x0), (.long x1)] (.long (0 : Int64))
set_option maxRecDepth 65536 in
set_option maxHeartbeats 40000000 in
theorem rm8_2 (l : Launch) (Z : State) (aA : Array Value) (hw : ∀ d ∈ tables_1, d.before aA Z = true) (ws : List Jvm.Cond) (b_ : Addr) (k_ : ClassId) (x0 : Int64) (x1 : Int64) (h0 : Heap) (n0 : Nat) (Z0 : n0 ≤ h0.size) (V_b : Arv Z h0 b_ k_ .long (1024 : Int32) [(.long x0), (.long x1)] (.long (0 : Int64))) :
    MetFree l (⟨"java/util/Arrays", "copyOf", "([JI)[J"⟩ : MethodName) (head1 (Jvm.Cond.code (⟨"java/util/Arrays", "copyOf", "([JI)[J"⟩ : MethodName) jdk_65_method_124_code 3 (some (.array .long)) :: ws) ({ frames := 1, cells := 1, slots := 2, locals := 40 } : Room)) (fun a U => a = #[(.ref b_), (.int (2 : Int32))] ∧ Z.Warmed39 U.vm ∧ U.heap = h0) (fun _ _ _ _ _ => True) (fun _ U o U' => ∃ v L, o = .returned v ∧ Q8_2 Z b_ k_ x0 x1 h0 n0 v U'.heap L ∧ FrameEnd U o U' L ({ frames := 1, cells := 1, slots := 2, locals := 40 } : Room).cells ({ frames := 1, cells := 1, slots := 2, locals := 40 } : Room).slots) := by
  refine MetFree.of_bodySF (plainFor_of_name pn_java_util_Arrays) hisR ?_
  intro p e s m args below meth c s₁ Bd hml0 hP hK
  obtain ⟨rfl, hZ, hh⟩ := hP
  have hx := Bd.exec
  have hby := Bd.bytes
  have hml : c.maxLocals = 3 := hml0
  have hown : s.vm.findClass "java/util/Arrays" = some m.cls := findClass_of_methodNamed Bd.named
  have hnm := (name_of_methodNamed Bd.named Bd.method).1
  have X0 : Stand p l e ({ frames := 1, cells := 1, slots := 2, locals := 40 } : Room) s m #[(.ref b_), (.int (2 : Int32))] below meth c s₁ [] 0 0 := Stand.of_body Bd
  have e0 : s₁.heap = h0 := by rw [← hh, Bd.state]; rfl
  have N0 := Fr.nil n0
  have KP0 : Keep h0 h0 [] := Keep.refl h0 _
  have pre0 : ∀ t, Steps p.tables e below (s₁.setTop (mkF m 0 #[.val (.ref b_), .val (.int (2 : Int32)), .unset] [])) t → Steps p.tables e below (s₁.setTop (entryFrame m #[(.ref b_), (.int (2 : Int32))] 3)) t := fun t k => castTop (ef_8_RI m b_ (2 : Int32)) k
  obtain ⟨cl267, Ar267, -, S267, N267v, -, -⟩ := id V_b
  obtain ⟨T268, h268, k268, X268, e268, E268, A268, st268⟩ := newP X0 hx hZ (hw _ (List.mem_of_getElem? (i := 9) rfl)) e0 (g := (mkF m 15 #[.val (.ref b_), .val (.int (2 : Int32)), .unset] [(.int (2 : Int32))])) rfl (hb hby d8_15) rfl (by decide) (cap := 2) (by decide) (by decide) (by decide) (by decide)
  obtain ⟨b268, g268⟩ : ∃ z, z = h0.size := ⟨_, rfl⟩
  rw [← g268] at A268 st268
  have ne_b__b268 : b_ ≠ b268 := Nat.ne_of_lt (Nat.lt_of_lt_of_le V_b.lt (Nat.le_of_eq g268.symm))
  have sz_b268 : h0.size ≤ b268 := Nat.le_trans KP0.1 (Nat.le_of_eq g268.symm)
  have g_b268 : n0 ≤ b268 := Nat.le_trans Z0 (Nat.le_of_eq g268.symm)
  have KP268 : Keep h0 h268 [] := KP0.ext E268
  have Z268 : n0 ≤ h268.size := Nat.le_trans Z0 E268.1
  have V_b__269 : Arv Z h268 b_ k_ .long (1024 : Int32) [(.long x0), (.long x1)] (.long (0 : Int64)) := V_b.ext E268
  have V_b268 : Arv Z h268 b268 k268 .long (2 : Int32) [(.long (0 : Int64)), (.long (0 : Int64))] (.long (0 : Int64)) := (Arv.new A268 (by decide)).pad (pad_rep [] (.long (0 : Int64)) 2)
  obtain ⟨cl270, Ar270, -, S270, N270v, -, -⟩ := id V_b__269
  obtain ⟨_, _, ⟨T271, L271, k271, n271⟩, -, X271, ⟨Lc271, hQ271, l271, y271, z271⟩, st271⟩ := Jvm.LawKit.callS X268 hx (y := (⟨"java/lang/Math", "min", "(II)I"⟩ : MethodName)) hown (mvT hZ (hw _ (List.mem_of_getElem? (i := 40) rfl))) (mvT hZ (hw _ (List.mem_of_getElem? (i := 41) rfl))) (mvT hZ (hw _ (List.mem_of_getElem? (i := 26) rfl))) (mvT hZ (hw _ (List.mem_of_getElem? (i := 42) rfl))) (by decide) (backOf (W := 4) (rm9 l Z aA hw [] (1024 : Int32) (2 : Int32)  h268 n0 Z268 ) hZ (hw _ (List.mem_of_getElem? (i := 42) rfl)) (hw _ (List.mem_of_getElem? (i := 26) rfl)) (by decide) (by decide)) (g := (mkF m 25 #[.val (.ref b_), .val (.int (2 : Int32)), .val (.ref b268)] [(.int (2 : Int32)), (.int (1024 : Int32)), (.int (0 : Int32)), (.ref b268), (.int (0 : Int32)), (.ref b_)])) rfl (by rw [hml]; rfl) (argsL := [(.int (1024 : Int32)), (.int (2 : Int32))]) (rest := [(.int (0 : Int32)), (.ref b268), (.int (0 : Int32)), (.ref b_)]) (lenOf pd__28II_29I rfl) rfl (by show 2 * 0 + _ ≤ _; exact Nat.le_of_eq rfl) (hb hby d8_25) (fun _ _ => ⟨rfl, e268, (by decide : 1 + 0 ≤ _), (by decide : 2 + 0 ≤ _)⟩)
  dsimp only [Pt.U, Pt.locs, Pt.cells, Pt.slots] at X271 l271 y271 z271 st271 hQ271
  subst l271 y271 z271
  obtain ⟨rfl, N271q, e271⟩ := hQ271
  have N271 := Fr.app N0 N271q
  have pre272 : ∀ t, Steps p.tables e below (T271.setTop (mkF m 28 #[.val (.ref b_), .val (.int (2 : Int32)), .val (.ref b268)] [(.int (F9 (1024 : Int32) (2 : Int32))), (.int (0 : Int32)), (.ref b268), (.int (0 : Int32)), (.ref b_)])) t → Steps p.tables e below (s₁.setTop (entryFrame m #[(.ref b_), (.int (2 : Int32))] 3)) t := by
    intro t kk
    refine pre0 t ?_
    show Steps p.tables e below (s₁.setTop (mkF m 0 #[.val (.ref b_), .val (.int (2 : Int32)), .unset] [])) _
    refine XS.iloadN X0.here hx rfl (hb hby d8_0) rfl ?_
    show Steps p.tables e below (s₁.setTop (mkF m 1 #[.val (.ref b_), .val (.int (2 : Int32)), .unset] [(.int (2 : Int32))])) _
    refine XS.aloadN X0.here hx rfl (hb hby d8_1) rfl rfl ?_
    show Steps p.tables e below (s₁.setTop (mkF m 2 #[.val (.ref b_), .val (.int (2 : Int32)), .unset] [(.ref b_), (.int (2 : Int32))])) _
    refine X0.arraylength hx (by rw [e0]; exact Ar267.1) (State.isArrayOf_alike hZ.alike Ar267.2.1) (g := (mkF m 2 #[.val (.ref b_), .val (.int (2 : Int32)), .unset] [(.ref b_), (.int (2 : Int32))])) rfl rfl (hb hby d8_2) _ ?_
    rw [len_of S267 N267v]
    show Steps p.tables e below (s₁.setTop (mkF m 3 #[.val (.ref b_), .val (.int (2 : Int32)), .unset] [(.int (1024 : Int32)), (.int (2 : Int32))])) _
    refine XS.icmpYes X0.here hx rfl (pc0 := 3) (pc' := 14) rfl (hb hby d8_3) rfl (feq (by decide : ¬ ((2 : Int32) = (1024 : Int32)))).2 (by decide) (by decide) ?_
    show Steps p.tables e below (s₁.setTop (mkF m 14 #[.val (.ref b_), .val (.int (2 : Int32)), .unset] [])) _
    refine XS.iloadN X0.here hx rfl (hb hby d8_14) rfl ?_
    show Steps p.tables e below (s₁.setTop (mkF m 15 #[.val (.ref b_), .val (.int (2 : Int32)), .unset] [(.int (2 : Int32))])) _
    refine st268 _ ?_
    show Steps p.tables e below (T268.setTop (mkF m 17 #[.val (.ref b_), .val (.int (2 : Int32)), .unset] [(.ref b268)])) _
    refine XS.astoreN X268.here hx rfl (hb hby d8_17) rfl rfl (l' := #[.val (.ref b_), .val (.int (2 : Int32)), .val (.ref b268)]) rfl ?_
    show Steps p.tables e below (T268.setTop (mkF m 18 #[.val (.ref b_), .val (.int (2 : Int32)), .val (.ref b268)] [])) _
    refine XS.aloadN X268.here hx rfl (hb hby d8_18) rfl rfl ?_
    show Steps p.tables e below (T268.setTop (mkF m 19 #[.val (.ref b_), .val (.int (2 : Int32)), .val (.ref b268)] [(.ref b_)])) _
    refine XS.iconst X268.here hx rfl (hb hby d8_19) ?_
    show Steps p.tables e below (T268.setTop (mkF m 20 #[.val (.ref b_), .val (.int (2 : Int32)), .val (.ref b268)] [(.int (0 : Int32)), (.ref b_)])) _
    refine XS.aloadN X268.here hx rfl (hb hby d8_20) rfl rfl ?_
    show Steps p.tables e below (T268.setTop (mkF m 21 #[.val (.ref b_), .val (.int (2 : Int32)), .val (.ref b268)] [(.ref b268), (.int (0 : Int32)), (.ref b_)])) _
    refine XS.iconst X268.here hx rfl (hb hby d8_21) ?_
    show Steps p.tables e below (T268.setTop (mkF m 22 #[.val (.ref b_), .val (.int (2 : Int32)), .val (.ref b268)] [(.int (0 : Int32)), (.ref b268), (.int (0 : Int32)), (.ref b_)])) _
    refine XS.aloadN X268.here hx rfl (hb hby d8_22) rfl rfl ?_
    show Steps p.tables e below (T268.setTop (mkF m 23 #[.val (.ref b_), .val (.int (2 : Int32)), .val (.ref b268)] [(.ref b_), (.int (0 : Int32)), (.ref b268), (.int (0 : Int32)), (.ref b_)])) _
    refine X268.arraylength hx (by rw [e268]; exact Ar270.1) (State.isArrayOf_alike hZ.alike Ar270.2.1) (g := (mkF m 23 #[.val (.ref b_), .val (.int (2 : Int32)), .val (.ref b268)] [(.ref b_), (.int (0 : Int32)), (.ref b268), (.int (0 : Int32)), (.ref b_)])) rfl rfl (hb hby d8_23) _ ?_
    rw [len_of S270 N270v]
    show Steps p.tables e below (T268.setTop (mkF m 24 #[.val (.ref b_), .val (.int (2 : Int32)), .val (.ref b268)] [(.int (1024 : Int32)), (.int (0 : Int32)), (.ref b268), (.int (0 : Int32)), (.ref b_)])) _
    refine XS.iloadN X268.here hx rfl (hb hby d8_24) rfl ?_
    show Steps p.tables e below (T268.setTop (mkF m 25 #[.val (.ref b_), .val (.int (2 : Int32)), .val (.ref b268)] [(.int (2 : Int32)), (.int (1024 : Int32)), (.int (0 : Int32)), (.ref b268), (.int (0 : Int32)), (.ref b_)])) _
    refine st271 _ ?_
    exact kk
  have pre273 : ∀ t, Steps p.tables e below (T271.setTop (mkF m 28 #[.val (.ref b_), .val (.int (2 : Int32)), .val (.ref b268)] [(.int (2 : Int32)), (.int (0 : Int32)), (.ref b268), (.int (0 : Int32)), (.ref b_)])) t → Steps p.tables e below (s₁.setTop (entryFrame m #[(.ref b_), (.int (2 : Int32))] 3)) t := by
    intro t kk
    refine pre272 t ?_
    rw [(show (F9 (1024 : Int32) (2 : Int32)) = (2 : Int32) by decide)]
    exact kk
  obtain ⟨T274, h274, L274, X274, e274, N274, K274, Vc274, st274⟩ := cpA X271 hx hZ hown (hw _ (List.mem_of_getElem? (i := 43) rfl)) (hw _ (List.mem_of_getElem? (i := 46) rfl)) (hw _ (List.mem_of_getElem? (i := 44) rfl)) (hw _ (List.mem_of_getElem? (i := 45) rfl)) e271 V_b__269 V_b268 (Or.inl ⟨rfl, rfl⟩) (by decide) (by decide) (by decide) (by decide) (by decide) rfl (by decide) N271 g_b268 (g := (mkF m 28 #[.val (.ref b_), .val (.int (2 : Int32)), .val (.ref b268)] [(.int (2 : Int32)), (.int (0 : Int32)), (.ref b268), (.int (0 : Int32)), (.ref b_)])) rfl (by rw [hml]; rfl) rfl (hb hby d8_28) (by decide) (W := 0) (by show 2 * 0 + _ ≤ _; exact Nat.le_of_eq rfl) (by decide)
  have Vn274 : Arv Z h274 b268 k268 .long (2 : Int32) [(.long x0), (.long x1)] (.long (0 : Int64)) := Vc274
  have KP274 : Keep h0 h274 [] := KP268.trans K274 (allS (Or.inr sz_b268) all0)
  have Z274 : n0 ≤ h274.size := Nat.le_trans Z268 K274.1
  have pre275 : ∀ t, Steps p.tables e below (T274.setTop (mkF m 32 #[.val (.ref b_), .val (.int (2 : Int32)), .val (.ref b268)] [(.ref b268)])) t → Steps p.tables e below (s₁.setTop (entryFrame m #[(.ref b_), (.int (2 : Int32))] 3)) t := by
    intro t kk
    refine pre273 t ?_
    show Steps p.tables e below (T271.setTop (mkF m 28 #[.val (.ref b_), .val (.int (2 : Int32)), .val (.ref b268)] [(.int (2 : Int32)), (.int (0 : Int32)), (.ref b268), (.int (0 : Int32)), (.ref b_)])) _
    refine st274 _ ?_
    show Steps p.tables e below (T274.setTop (mkF m 31 #[.val (.ref b_), .val (.int (2 : Int32)), .val (.ref b268)] [])) _
    refine XS.aloadN X274.here hx rfl (hb hby d8_31) rfl rfl ?_
    exact kk
  obtain ⟨fs, hr, hrun, hended, hW, hsame⟩ := X274.leave (v := some (.ref b268)) (fun h => by rw [Bd.returns] at h; cases h)
  refine ⟨_, _, pre275 _ ?_, hrun, hended, _, _, rfl, ?_, ⟨_, rfl⟩, hW, hsame.mono (by decide) (by decide)⟩
  · show Steps p.tables e below (T274.setTop (mkF m 32 #[.val (.ref b_), .val (.int (2 : Int32)), .val (.ref b268)] [(.ref b268)])) _
    exact retOut X274 hx Bd.returns rfl (Or.inr (Or.inr (Or.inr (Or.inr ⟨rfl, rfl, rfl⟩)))) (hb hby d8_32) hr
  · show Q8_2 Z b_ k_ x0 x1 h0 n0 _ T274.heap _
    rw [e274]
    exact ⟨_, _, rfl, N274, KP274, sz_b268, Vn274⟩
def Q7_2_1 (Z : State) (a_ : Addr) (b_ : Addr) (k_ : ClassId) (x0 : Int64) (x1 : Int64) (h0 : Heap) (n0 : Nat) (v : Option Value) (h : Heap) (L : List Loc) : Prop := v = some (.double (FP.ddiv (FP.l2d (own_s2_0 x0 x1)) (4696837146684686336 : UInt64))) ∧ Fr n0 L ∧ Keep h0 h []
set_option maxRecDepth 65536 in
set_option maxHeartbeats 40000000 in
theorem rm7_2_1 (l : Launch) (Z : State) (aA : Array Value) (hw : ∀ d ∈ tables_1, d.before aA Z = true) (ws : List Jvm.Cond) (a_ : Addr) (b_ : Addr) (k_ : ClassId) (x0 : Int64) (x1 : Int64) (h0 : Heap) (n0 : Nat) (Z0 : n0 ≤ h0.size) (hne : a_ ≠ b_) (E_a : Exa Z h0 a_ "farspeak/greeter/Times") (F_nanos : Fld Z h0 a_ "farspeak/greeter/Times" "nanos" "[J" (.ref b_)) (F_size : Fld Z h0 a_ "farspeak/greeter/Times" "size" "I" (.int (2 : Int32))) (V_b : Arv Z h0 b_ k_ .long (1024 : Int32) [(.long x0), (.long x1)] (.long (0 : Int64))) :
    MetFree l (⟨"farspeak/greeter/Times", "percentileMillis", "(I)D"⟩ : MethodName) (head1 (Jvm.Cond.code (⟨"farspeak/greeter/Times", "percentileMillis", "(I)D"⟩ : MethodName) prog_53_method_5_code 5 (some .double) :: ws) ({ frames := 4, cells := 1, slots := 2, locals := 84 } : Room)) (fun a U => a = #[(.ref a_), (.int (1 : Int32))] ∧ Z.Warmed39 U.vm ∧ U.heap = h0) (fun _ _ _ _ _ => True) (fun _ U o U' => ∃ v L, o = .returned v ∧ Q7_2_1 Z a_ b_ k_ x0 x1 h0 n0 v U'.heap L ∧ FrameEnd U o U' L ({ frames := 4, cells := 1, slots := 2, locals := 84 } : Room).cells ({ frames := 4, cells := 1, slots := 2, locals := 84 } : Room).slots) := by
  refine MetFree.of_bodySF (plainFor_of_name pn_farspeak_greeter_Times) hisR ?_
  intro p e s m args below meth c s₁ Bd hml0 hP hK
  obtain ⟨rfl, hZ, hh⟩ := hP
  have hx := Bd.exec
  have hby := Bd.bytes
  have hml : c.maxLocals = 5 := hml0
  have hown : s.vm.findClass "farspeak/greeter/Times" = some m.cls := findClass_of_methodNamed Bd.named
  have hnm := (name_of_methodNamed Bd.named Bd.method).1
  have X0 : Stand p l e ({ frames := 4, cells := 1, slots := 2, locals := 84 } : Room) s m #[(.ref a_), (.int (1 : Int32))] below meth c s₁ [] 0 0 := Stand.of_body Bd
  have e0 : s₁.heap = h0 := by rw [← hh, Bd.state]; rfl
  have N0 := Fr.nil n0
  have KP0 : Keep h0 h0 [] := Keep.refl h0 _
  have pre0 : ∀ t, Steps p.tables e below (s₁.setTop (mkF m 0 #[.val (.ref a_), .val (.int (1 : Int32)), .unset, .unset, .unset] [])) t → Steps p.tables e below (s₁.setTop (entryFrame m #[(.ref a_), (.int (1 : Int32))] 5)) t := fun t k => castTop (ef_7_RI m a_ (1 : Int32)) k
  obtain ⟨T264, X264, e264, st264⟩ := getF X0 hx hZ hown (host := "") (Or.inl (hw _ (List.mem_of_getElem? (i := 17) rfl))) Via.refl e0 F_size (g := (mkF m 1 #[.val (.ref a_), .val (.int (1 : Int32)), .unset, .unset, .unset] [(.ref a_)])) rfl rfl (hb hby d7_1)
  obtain ⟨T265, X265, e265, st265⟩ := getF X264 hx hZ hown (host := "") (Or.inl (hw _ (List.mem_of_getElem? (i := 10) rfl))) Via.refl e264 F_nanos (g := (mkF m 12 #[.val (.ref a_), .val (.int (1 : Int32)), .unset, .unset, .unset] [(.ref a_)])) rfl rfl (hb hby d7_12)
  obtain ⟨T266, X266, e266, st266⟩ := getF X265 hx hZ hown (host := "") (Or.inl (hw _ (List.mem_of_getElem? (i := 17) rfl))) Via.refl e265 F_size (g := (mkF m 16 #[.val (.ref a_), .val (.int (1 : Int32)), .unset, .unset, .unset] [(.ref a_), (.ref b_)])) rfl rfl (hb hby d7_16)
  obtain ⟨_, _, ⟨T276, L276, k276, n276⟩, -, X276, ⟨Lc276, hQ276, l276, y276, z276⟩, st276⟩ := Jvm.LawKit.callS X266 hx (y := (⟨"java/util/Arrays", "copyOf", "([JI)[J"⟩ : MethodName)) hown (mvT hZ (hw _ (List.mem_of_getElem? (i := 36) rfl))) (mvT hZ (hw _ (List.mem_of_getElem? (i := 37) rfl))) (mvT hZ (hw _ (List.mem_of_getElem? (i := 38) rfl))) (mvT hZ (hw _ (List.mem_of_getElem? (i := 39) rfl))) (by decide) (backOf (W := 0) (rm8_2 l Z aA hw [] b_ k_ x0 x1 h0 n0 Z0 V_b) hZ (hw _ (List.mem_of_getElem? (i := 39) rfl)) (hw _ (List.mem_of_getElem? (i := 38) rfl)) (by decide) (by decide)) (g := (mkF m 19 #[.val (.ref a_), .val (.int (1 : Int32)), .unset, .unset, .unset] [(.int (2 : Int32)), (.ref b_)])) rfl (by rw [hml]; rfl) (argsL := [(.ref b_), (.int (2 : Int32))]) (rest := []) (lenOf pd__28_5bJI_29_5bJ rfl) rfl (by show 2 * 0 + _ ≤ _; exact Nat.le_of_eq rfl) (hb hby d7_19) (fun _ _ => ⟨rfl, e266, (by decide : 0 + 1 ≤ _), (by decide : 0 + 2 ≤ _)⟩)
  dsimp only [Pt.U, Pt.locs, Pt.cells, Pt.slots] at X276 l276 y276 z276 st276 hQ276
  subst l276 y276 z276
  obtain ⟨b276, kk276, rfl, N276q, K276, sz276, Vq276⟩ := hQ276
  have N276 := Fr.app N0 N276q
  have sz_b276 : h0.size ≤ b276 := Nat.le_trans KP0.1 sz276
  have g_b276 : n0 ≤ b276 := Nat.le_trans Z0 sz276
  have ne_a__b276 : a_ ≠ b276 := Nat.ne_of_lt (Nat.lt_of_lt_of_le E_a.lt sz276)
  have ne_b__b276 : b_ ≠ b276 := Nat.ne_of_lt (Nat.lt_of_lt_of_le V_b.lt sz276)
  have KP276 : Keep h0 T276.heap [] := KP0.trans K276 all0
  have Z276 : n0 ≤ T276.heap.size := Nat.le_trans Z0 K276.1
  have E_a__277 : Exa Z T276.heap a_ "farspeak/greeter/Times" := E_a.keep K276
  have F_a__nanos_278 : Fld Z T276.heap a_ "farspeak/greeter/Times" "nanos" "[J" (.ref b_) := F_nanos.keep K276 nin0
  have F_a__size_279 : Fld Z T276.heap a_ "farspeak/greeter/Times" "size" "I" (.int (2 : Int32)) := F_size.keep K276 nin0
  have V_b__280 : Arv Z T276.heap b_ k_ .long (1024 : Int32) [(.long x0), (.long x1)] (.long (0 : Int64)) := V_b.keep K276 nin0
  obtain ⟨_, _, ⟨T281, L281, k281, n281⟩, -, X281, ⟨Lc281, hQ281, l281, y281, z281⟩, st281⟩ := Jvm.LawKit.callS X276 hx (y := (⟨"java/util/Arrays", "sort", "([J)V"⟩ : MethodName)) hown (mvT hZ (hw _ (List.mem_of_getElem? (i := 47) rfl))) (mvT hZ (hw _ (List.mem_of_getElem? (i := 48) rfl))) (mvT hZ (hw _ (List.mem_of_getElem? (i := 38) rfl))) (mvT hZ (hw _ (List.mem_of_getElem? (i := 49) rfl))) (by decide) (backOf (W := 0) (rm10_2 l Z aA hw [] b276 kk276 x0 x1 T276.heap n0 Z276 g_b276 Vq276) hZ (hw _ (List.mem_of_getElem? (i := 49) rfl)) (hw _ (List.mem_of_getElem? (i := 38) rfl)) (by decide) (by decide)) (g := (mkF m 24 #[.val (.ref a_), .val (.int (1 : Int32)), .val (.ref b276), .unset, .unset] [(.ref b276)])) rfl (by rw [hml]; rfl) (argsL := [(.ref b276)]) (rest := []) (lenOf pd__28_5bJ_29V rfl) rfl (by show 2 * 0 + _ ≤ _; exact Nat.le_of_eq rfl) (hb hby d7_24) (fun _ _ => ⟨rfl, rfl, (by decide : 1 + 0 ≤ _), (by decide : 2 + 0 ≤ _)⟩)
  dsimp only [Pt.U, Pt.locs, Pt.cells, Pt.slots] at X281 l281 y281 z281 st281 hQ281
  subst l281 y281 z281
  obtain ⟨rfl, N281q, K281, Vq281⟩ := hQ281
  have N281 := Fr.app N276 N281q
  have KP281 : Keep h0 T281.heap [] := KP276.trans K281 (allS (Or.inr sz_b276) all0)
  have Z281 : n0 ≤ T281.heap.size := Nat.le_trans Z276 K281.1
  have E_a__282 : Exa Z T281.heap a_ "farspeak/greeter/Times" := E_a__277.keep K281
  have F_a__nanos_283 : Fld Z T281.heap a_ "farspeak/greeter/Times" "nanos" "[J" (.ref b_) := F_a__nanos_278.keep K281 (ninS ne_a__b276 nin0)
  have F_a__size_284 : Fld Z T281.heap a_ "farspeak/greeter/Times" "size" "I" (.int (2 : Int32)) := F_a__size_279.keep K281 (ninS ne_a__b276 nin0)
  have V_b__285 : Arv Z T281.heap b_ k_ .long (1024 : Int32) [(.long x0), (.long x1)] (.long (0 : Int64)) := V_b__280.keep K281 (ninS ne_b__b276 nin0)
  obtain ⟨T286, X286, e286, st286⟩ := getF X281 hx hZ hown (host := "") (Or.inl (hw _ (List.mem_of_getElem? (i := 17) rfl))) Via.refl rfl F_a__size_284 (g := (mkF m 28 #[.val (.ref a_), .val (.int (1 : Int32)), .val (.ref b276), .unset, .unset] [(.ref a_)])) rfl rfl (hb hby d7_28)
  have pre287 : ∀ t, Steps p.tables e below (T286.setTop (mkF m 49 #[.val (.ref a_), .val (.int (1 : Int32)), .val (.ref b276), .val (.long (((((2 : Int32).toInt64) * ((1 : Int32).toInt64)) + (99 : Int64)) / (100 : Int64))), .second] [(.int (((((((2 : Int32).toInt64) * ((1 : Int32).toInt64)) + (99 : Int64)) / (100 : Int64)).toInt32) - (1 : Int32))), (.ref b276)])) t → Steps p.tables e below (s₁.setTop (entryFrame m #[(.ref a_), (.int (1 : Int32))] 5)) t := by
    intro t kk
    refine pre0 t ?_
    show Steps p.tables e below (s₁.setTop (mkF m 0 #[.val (.ref a_), .val (.int (1 : Int32)), .unset, .unset, .unset] [])) _
    refine XS.aloadN X0.here hx rfl (hb hby d7_0) rfl rfl ?_
    show Steps p.tables e below (s₁.setTop (mkF m 1 #[.val (.ref a_), .val (.int (1 : Int32)), .unset, .unset, .unset] [(.ref a_)])) _
    refine st264 _ ?_
    show Steps p.tables e below (T264.setTop (mkF m 4 #[.val (.ref a_), .val (.int (1 : Int32)), .unset, .unset, .unset] [(.int (2 : Int32))])) _
    refine XS.ifYes X264.here hx rfl (pc0 := 4) (pc' := 11) rfl (hb hby d7_4) rfl ((if0 _ _).trans (feq (by decide : ¬ ((2 : Int32) = (0 : Int32)))).2) (by decide) (by decide) ?_
    show Steps p.tables e below (T264.setTop (mkF m 11 #[.val (.ref a_), .val (.int (1 : Int32)), .unset, .unset, .unset] [])) _
    refine XS.aloadN X264.here hx rfl (hb hby d7_11) rfl rfl ?_
    show Steps p.tables e below (T264.setTop (mkF m 12 #[.val (.ref a_), .val (.int (1 : Int32)), .unset, .unset, .unset] [(.ref a_)])) _
    refine st265 _ ?_
    show Steps p.tables e below (T265.setTop (mkF m 15 #[.val (.ref a_), .val (.int (1 : Int32)), .unset, .unset, .unset] [(.ref b_)])) _
    refine XS.aloadN X265.here hx rfl (hb hby d7_15) rfl rfl ?_
    show Steps p.tables e below (T265.setTop (mkF m 16 #[.val (.ref a_), .val (.int (1 : Int32)), .unset, .unset, .unset] [(.ref a_), (.ref b_)])) _
    refine st266 _ ?_
    show Steps p.tables e below (T266.setTop (mkF m 19 #[.val (.ref a_), .val (.int (1 : Int32)), .unset, .unset, .unset] [(.int (2 : Int32)), (.ref b_)])) _
    refine st276 _ ?_
    show Steps p.tables e below (T276.setTop (mkF m 22 #[.val (.ref a_), .val (.int (1 : Int32)), .unset, .unset, .unset] [(.ref b276)])) _
    refine XS.astoreN X276.here hx rfl (hb hby d7_22) rfl rfl (l' := #[.val (.ref a_), .val (.int (1 : Int32)), .val (.ref b276), .unset, .unset]) rfl ?_
    show Steps p.tables e below (T276.setTop (mkF m 23 #[.val (.ref a_), .val (.int (1 : Int32)), .val (.ref b276), .unset, .unset] [])) _
    refine XS.aloadN X276.here hx rfl (hb hby d7_23) rfl rfl ?_
    show Steps p.tables e below (T276.setTop (mkF m 24 #[.val (.ref a_), .val (.int (1 : Int32)), .val (.ref b276), .unset, .unset] [(.ref b276)])) _
    refine st281 _ ?_
    show Steps p.tables e below (T281.setTop (mkF m 27 #[.val (.ref a_), .val (.int (1 : Int32)), .val (.ref b276), .unset, .unset] [])) _
    refine XS.aloadN X281.here hx rfl (hb hby d7_27) rfl rfl ?_
    show Steps p.tables e below (T281.setTop (mkF m 28 #[.val (.ref a_), .val (.int (1 : Int32)), .val (.ref b276), .unset, .unset] [(.ref a_)])) _
    refine st286 _ ?_
    show Steps p.tables e below (T286.setTop (mkF m 31 #[.val (.ref a_), .val (.int (1 : Int32)), .val (.ref b276), .unset, .unset] [(.int (2 : Int32))])) _
    refine XS.i2l X286.here hx rfl (hb hby d7_31) rfl ?_
    show Steps p.tables e below (T286.setTop (mkF m 32 #[.val (.ref a_), .val (.int (1 : Int32)), .val (.ref b276), .unset, .unset] [(.long ((2 : Int32).toInt64))])) _
    refine XS.iloadN X286.here hx rfl (hb hby d7_32) rfl ?_
    show Steps p.tables e below (T286.setTop (mkF m 33 #[.val (.ref a_), .val (.int (1 : Int32)), .val (.ref b276), .unset, .unset] [(.int (1 : Int32)), (.long ((2 : Int32).toInt64))])) _
    refine XS.i2l X286.here hx rfl (hb hby d7_33) rfl ?_
    show Steps p.tables e below (T286.setTop (mkF m 34 #[.val (.ref a_), .val (.int (1 : Int32)), .val (.ref b276), .unset, .unset] [(.long ((1 : Int32).toInt64)), (.long ((2 : Int32).toInt64))])) _
    refine XS.lmul X286.here hx rfl (hb hby d7_34) rfl ?_
    show Steps p.tables e below (T286.setTop (mkF m 35 #[.val (.ref a_), .val (.int (1 : Int32)), .val (.ref b276), .unset, .unset] [(.long (((2 : Int32).toInt64) * ((1 : Int32).toInt64)))])) _
    refine X286.ldc2Long hx hown (mvT hZ (hw _ (List.mem_of_getElem? (i := 60) rfl))) (g := (mkF m 35 #[.val (.ref a_), .val (.int (1 : Int32)), .val (.ref b276), .unset, .unset] [(.long (((2 : Int32).toInt64) * ((1 : Int32).toInt64)))])) rfl (hb hby d7_35) _ ?_
    show Steps p.tables e below (T286.setTop (mkF m 38 #[.val (.ref a_), .val (.int (1 : Int32)), .val (.ref b276), .unset, .unset] [(.long (99 : Int64)), (.long (((2 : Int32).toInt64) * ((1 : Int32).toInt64)))])) _
    refine XS.ladd X286.here hx rfl (hb hby d7_38) rfl ?_
    show Steps p.tables e below (T286.setTop (mkF m 39 #[.val (.ref a_), .val (.int (1 : Int32)), .val (.ref b276), .unset, .unset] [(.long ((((2 : Int32).toInt64) * ((1 : Int32).toInt64)) + (99 : Int64)))])) _
    refine X286.ldc2Long hx hown (mvT hZ (hw _ (List.mem_of_getElem? (i := 61) rfl))) (g := (mkF m 39 #[.val (.ref a_), .val (.int (1 : Int32)), .val (.ref b276), .unset, .unset] [(.long ((((2 : Int32).toInt64) * ((1 : Int32).toInt64)) + (99 : Int64)))])) rfl (hb hby d7_39) _ ?_
    show Steps p.tables e below (T286.setTop (mkF m 42 #[.val (.ref a_), .val (.int (1 : Int32)), .val (.ref b276), .unset, .unset] [(.long (100 : Int64)), (.long ((((2 : Int32).toInt64) * ((1 : Int32).toInt64)) + (99 : Int64)))])) _
    refine XS.ldiv X286.here hx rfl (hb hby d7_42) rfl (by decide : ¬ ((100 : Int64) = (0 : Int64))) ?_
    show Steps p.tables e below (T286.setTop (mkF m 43 #[.val (.ref a_), .val (.int (1 : Int32)), .val (.ref b276), .unset, .unset] [(.long (((((2 : Int32).toInt64) * ((1 : Int32).toInt64)) + (99 : Int64)) / (100 : Int64)))])) _
    refine XS.lstoreN X286.here hx rfl (hb hby d7_43) rfl (l' := #[.val (.ref a_), .val (.int (1 : Int32)), .val (.ref b276), .val (.long (((((2 : Int32).toInt64) * ((1 : Int32).toInt64)) + (99 : Int64)) / (100 : Int64))), .second]) rfl ?_
    show Steps p.tables e below (T286.setTop (mkF m 44 #[.val (.ref a_), .val (.int (1 : Int32)), .val (.ref b276), .val (.long (((((2 : Int32).toInt64) * ((1 : Int32).toInt64)) + (99 : Int64)) / (100 : Int64))), .second] [])) _
    refine XS.aloadN X286.here hx rfl (hb hby d7_44) rfl rfl ?_
    show Steps p.tables e below (T286.setTop (mkF m 45 #[.val (.ref a_), .val (.int (1 : Int32)), .val (.ref b276), .val (.long (((((2 : Int32).toInt64) * ((1 : Int32).toInt64)) + (99 : Int64)) / (100 : Int64))), .second] [(.ref b276)])) _
    refine XS.lloadN X286.here hx rfl (hb hby d7_45) rfl ?_
    show Steps p.tables e below (T286.setTop (mkF m 46 #[.val (.ref a_), .val (.int (1 : Int32)), .val (.ref b276), .val (.long (((((2 : Int32).toInt64) * ((1 : Int32).toInt64)) + (99 : Int64)) / (100 : Int64))), .second] [(.long (((((2 : Int32).toInt64) * ((1 : Int32).toInt64)) + (99 : Int64)) / (100 : Int64))), (.ref b276)])) _
    refine XS.l2i X286.here hx rfl (hb hby d7_46) rfl ?_
    show Steps p.tables e below (T286.setTop (mkF m 47 #[.val (.ref a_), .val (.int (1 : Int32)), .val (.ref b276), .val (.long (((((2 : Int32).toInt64) * ((1 : Int32).toInt64)) + (99 : Int64)) / (100 : Int64))), .second] [(.int ((((((2 : Int32).toInt64) * ((1 : Int32).toInt64)) + (99 : Int64)) / (100 : Int64)).toInt32)), (.ref b276)])) _
    refine XS.iconst X286.here hx rfl (hb hby d7_47) ?_
    show Steps p.tables e below (T286.setTop (mkF m 48 #[.val (.ref a_), .val (.int (1 : Int32)), .val (.ref b276), .val (.long (((((2 : Int32).toInt64) * ((1 : Int32).toInt64)) + (99 : Int64)) / (100 : Int64))), .second] [(.int (1 : Int32)), (.int ((((((2 : Int32).toInt64) * ((1 : Int32).toInt64)) + (99 : Int64)) / (100 : Int64)).toInt32)), (.ref b276)])) _
    refine XS.isub X286.here hx rfl (hb hby d7_48) rfl ?_
    exact kk
  have pre288 : ∀ t, Steps p.tables e below (T286.setTop (mkF m 49 #[.val (.ref a_), .val (.int (1 : Int32)), .val (.ref b276), .val (.long (((((2 : Int32).toInt64) * ((1 : Int32).toInt64)) + (99 : Int64)) / (100 : Int64))), .second] [(.int (0 : Int32)), (.ref b276)])) t → Steps p.tables e below (s₁.setTop (entryFrame m #[(.ref a_), (.int (1 : Int32))] 5)) t := by
    intro t kk
    refine pre287 t ?_
    rw [(show (((((((2 : Int32).toInt64) * ((1 : Int32).toInt64)) + (99 : Int64)) / (100 : Int64)).toInt32) - (1 : Int32)) = (0 : Int32) by decide)]
    exact kk
  obtain ⟨cl289, Ar289, q289, S289, N289v, H289, G289⟩ := id Vq281
  have hin289 : ¬ ((0 : Int32) < 0 ∨ cl289.slots.size ≤ ((0 : Int32)).toNatClampNeg) := inb_of S289 ⟨by decide, by decide⟩
  have hat289 : cl289.slots[((0 : Int32)).toNatClampNeg]? = some (.long (own_s2_0 x0 x1)) := Has.at H289 hin289 rfl
  have pre290 : ∀ t, Steps p.tables e below (T286.setTop (mkF m 55 #[.val (.ref a_), .val (.int (1 : Int32)), .val (.ref b276), .val (.long (((((2 : Int32).toInt64) * ((1 : Int32).toInt64)) + (99 : Int64)) / (100 : Int64))), .second] [(.double (FP.ddiv (FP.l2d (own_s2_0 x0 x1)) (4696837146684686336 : UInt64)))])) t → Steps p.tables e below (s₁.setTop (entryFrame m #[(.ref a_), (.int (1 : Int32))] 5)) t := by
    intro t kk
    refine pre288 t ?_
    show Steps p.tables e below (T286.setTop (mkF m 49 #[.val (.ref a_), .val (.int (1 : Int32)), .val (.ref b276), .val (.long (((((2 : Int32).toInt64) * ((1 : Int32).toInt64)) + (99 : Int64)) / (100 : Int64))), .second] [(.int (0 : Int32)), (.ref b276)])) _
    refine X286.laload hx (j := (0 : Int32)) (v := (.long (own_s2_0 x0 x1))) (by rw [e286]; exact Ar289.1) (State.isArrayOf_alike hZ.alike Ar289.2.1) Ar289.2.2 hin289 hat289 (g := (mkF m 49 #[.val (.ref a_), .val (.int (1 : Int32)), .val (.ref b276), .val (.long (((((2 : Int32).toInt64) * ((1 : Int32).toInt64)) + (99 : Int64)) / (100 : Int64))), .second] [(.int (0 : Int32)), (.ref b276)])) rfl rfl (hb hby d7_49) _ ?_
    show Steps p.tables e below (T286.setTop (mkF m 50 #[.val (.ref a_), .val (.int (1 : Int32)), .val (.ref b276), .val (.long (((((2 : Int32).toInt64) * ((1 : Int32).toInt64)) + (99 : Int64)) / (100 : Int64))), .second] [(.long (own_s2_0 x0 x1))])) _
    refine own_l2d X286.here hx rfl (hb hby d7_50) rfl ?_
    show Steps p.tables e below (T286.setTop (mkF m 51 #[.val (.ref a_), .val (.int (1 : Int32)), .val (.ref b276), .val (.long (((((2 : Int32).toInt64) * ((1 : Int32).toInt64)) + (99 : Int64)) / (100 : Int64))), .second] [(.double (FP.l2d (own_s2_0 x0 x1)))])) _
    refine X286.ldc2DoubleC hx hown (mvT hZ (hw _ (List.mem_of_getElem? (i := 62) rfl))) (g := (mkF m 51 #[.val (.ref a_), .val (.int (1 : Int32)), .val (.ref b276), .val (.long (((((2 : Int32).toInt64) * ((1 : Int32).toInt64)) + (99 : Int64)) / (100 : Int64))), .second] [(.double (FP.l2d (own_s2_0 x0 x1)))])) rfl (hb hby d7_51) _ ?_
    show Steps p.tables e below (T286.setTop (mkF m 54 #[.val (.ref a_), .val (.int (1 : Int32)), .val (.ref b276), .val (.long (((((2 : Int32).toInt64) * ((1 : Int32).toInt64)) + (99 : Int64)) / (100 : Int64))), .second] [(.double (4696837146684686336 : UInt64)), (.double (FP.l2d (own_s2_0 x0 x1)))])) _
    refine own_ddiv X286.here hx rfl (hb hby d7_54) rfl (own_fin _) ?_
    exact kk
  obtain ⟨fs, hr, hrun, hended, hW, hsame⟩ := X286.leave (v := some (.double (FP.ddiv (FP.l2d (own_s2_0 x0 x1)) (4696837146684686336 : UInt64)))) (fun h => by rw [Bd.returns] at h; cases h)
  refine ⟨_, _, pre290 _ ?_, hrun, hended, _, _, rfl, ?_, ⟨_, rfl⟩, hW, hsame.mono (by decide) (by decide)⟩
  · show Steps p.tables e below (T286.setTop (mkF m 55 #[.val (.ref a_), .val (.int (1 : Int32)), .val (.ref b276), .val (.long (((((2 : Int32).toInt64) * ((1 : Int32).toInt64)) + (99 : Int64)) / (100 : Int64))), .second] [(.double (FP.ddiv (FP.l2d (own_s2_0 x0 x1)) (4696837146684686336 : UInt64)))])) _
    exact retOut X286 hx Bd.returns rfl (Or.inr (Or.inr (Or.inl ⟨rfl, rfl, _, rfl⟩))) (hb hby d7_55) hr
  · show Q7_2_1 Z a_ b_ k_ x0 x1 h0 n0 _ T286.heap _
    rw [e286]
    exact ⟨rfl, N281, KP281⟩
def Q7_2_50 (Z : State) (a_ : Addr) (b_ : Addr) (k_ : ClassId) (x0 : Int64) (x1 : Int64) (h0 : Heap) (n0 : Nat) (v : Option Value) (h : Heap) (L : List Loc) : Prop := v = some (.double (FP.ddiv (FP.l2d (own_s2_0 x0 x1)) (4696837146684686336 : UInt64))) ∧ Fr n0 L ∧ Keep h0 h []
set_option maxRecDepth 65536 in
set_option maxHeartbeats 40000000 in
theorem rm7_2_50 (l : Launch) (Z : State) (aA : Array Value) (hw : ∀ d ∈ tables_1, d.before aA Z = true) (ws : List Jvm.Cond) (a_ : Addr) (b_ : Addr) (k_ : ClassId) (x0 : Int64) (x1 : Int64) (h0 : Heap) (n0 : Nat) (Z0 : n0 ≤ h0.size) (hne : a_ ≠ b_) (E_a : Exa Z h0 a_ "farspeak/greeter/Times") (F_nanos : Fld Z h0 a_ "farspeak/greeter/Times" "nanos" "[J" (.ref b_)) (F_size : Fld Z h0 a_ "farspeak/greeter/Times" "size" "I" (.int (2 : Int32))) (V_b : Arv Z h0 b_ k_ .long (1024 : Int32) [(.long x0), (.long x1)] (.long (0 : Int64))) :
    MetFree l (⟨"farspeak/greeter/Times", "percentileMillis", "(I)D"⟩ : MethodName) (head1 (Jvm.Cond.code (⟨"farspeak/greeter/Times", "percentileMillis", "(I)D"⟩ : MethodName) prog_53_method_5_code 5 (some .double) :: ws) ({ frames := 4, cells := 1, slots := 2, locals := 84 } : Room)) (fun a U => a = #[(.ref a_), (.int (50 : Int32))] ∧ Z.Warmed39 U.vm ∧ U.heap = h0) (fun _ _ _ _ _ => True) (fun _ U o U' => ∃ v L, o = .returned v ∧ Q7_2_50 Z a_ b_ k_ x0 x1 h0 n0 v U'.heap L ∧ FrameEnd U o U' L ({ frames := 4, cells := 1, slots := 2, locals := 84 } : Room).cells ({ frames := 4, cells := 1, slots := 2, locals := 84 } : Room).slots) := by
  refine MetFree.of_bodySF (plainFor_of_name pn_farspeak_greeter_Times) hisR ?_
  intro p e s m args below meth c s₁ Bd hml0 hP hK
  obtain ⟨rfl, hZ, hh⟩ := hP
  have hx := Bd.exec
  have hby := Bd.bytes
  have hml : c.maxLocals = 5 := hml0
  have hown : s.vm.findClass "farspeak/greeter/Times" = some m.cls := findClass_of_methodNamed Bd.named
  have hnm := (name_of_methodNamed Bd.named Bd.method).1
  have X0 : Stand p l e ({ frames := 4, cells := 1, slots := 2, locals := 84 } : Room) s m #[(.ref a_), (.int (50 : Int32))] below meth c s₁ [] 0 0 := Stand.of_body Bd
  have e0 : s₁.heap = h0 := by rw [← hh, Bd.state]; rfl
  have N0 := Fr.nil n0
  have KP0 : Keep h0 h0 [] := Keep.refl h0 _
  have pre0 : ∀ t, Steps p.tables e below (s₁.setTop (mkF m 0 #[.val (.ref a_), .val (.int (50 : Int32)), .unset, .unset, .unset] [])) t → Steps p.tables e below (s₁.setTop (entryFrame m #[(.ref a_), (.int (50 : Int32))] 5)) t := fun t k => castTop (ef_7_RI m a_ (50 : Int32)) k
  obtain ⟨T297, X297, e297, st297⟩ := getF X0 hx hZ hown (host := "") (Or.inl (hw _ (List.mem_of_getElem? (i := 17) rfl))) Via.refl e0 F_size (g := (mkF m 1 #[.val (.ref a_), .val (.int (50 : Int32)), .unset, .unset, .unset] [(.ref a_)])) rfl rfl (hb hby d7_1)
  obtain ⟨T298, X298, e298, st298⟩ := getF X297 hx hZ hown (host := "") (Or.inl (hw _ (List.mem_of_getElem? (i := 10) rfl))) Via.refl e297 F_nanos (g := (mkF m 12 #[.val (.ref a_), .val (.int (50 : Int32)), .unset, .unset, .unset] [(.ref a_)])) rfl rfl (hb hby d7_12)
  obtain ⟨T299, X299, e299, st299⟩ := getF X298 hx hZ hown (host := "") (Or.inl (hw _ (List.mem_of_getElem? (i := 17) rfl))) Via.refl e298 F_size (g := (mkF m 16 #[.val (.ref a_), .val (.int (50 : Int32)), .unset, .unset, .unset] [(.ref a_), (.ref b_)])) rfl rfl (hb hby d7_16)
  obtain ⟨_, _, ⟨T300, L300, k300, n300⟩, -, X300, ⟨Lc300, hQ300, l300, y300, z300⟩, st300⟩ := Jvm.LawKit.callS X299 hx (y := (⟨"java/util/Arrays", "copyOf", "([JI)[J"⟩ : MethodName)) hown (mvT hZ (hw _ (List.mem_of_getElem? (i := 36) rfl))) (mvT hZ (hw _ (List.mem_of_getElem? (i := 37) rfl))) (mvT hZ (hw _ (List.mem_of_getElem? (i := 38) rfl))) (mvT hZ (hw _ (List.mem_of_getElem? (i := 39) rfl))) (by decide) (backOf (W := 0) (rm8_2 l Z aA hw [] b_ k_ x0 x1 h0 n0 Z0 V_b) hZ (hw _ (List.mem_of_getElem? (i := 39) rfl)) (hw _ (List.mem_of_getElem? (i := 38) rfl)) (by decide) (by decide)) (g := (mkF m 19 #[.val (.ref a_), .val (.int (50 : Int32)), .unset, .unset, .unset] [(.int (2 : Int32)), (.ref b_)])) rfl (by rw [hml]; rfl) (argsL := [(.ref b_), (.int (2 : Int32))]) (rest := []) (lenOf pd__28_5bJI_29_5bJ rfl) rfl (by show 2 * 0 + _ ≤ _; exact Nat.le_of_eq rfl) (hb hby d7_19) (fun _ _ => ⟨rfl, e299, (by decide : 0 + 1 ≤ _), (by decide : 0 + 2 ≤ _)⟩)
  dsimp only [Pt.U, Pt.locs, Pt.cells, Pt.slots] at X300 l300 y300 z300 st300 hQ300
  subst l300 y300 z300
  obtain ⟨b300, kk300, rfl, N300q, K300, sz300, Vq300⟩ := hQ300
  have N300 := Fr.app N0 N300q
  have sz_b300 : h0.size ≤ b300 := Nat.le_trans KP0.1 sz300
  have g_b300 : n0 ≤ b300 := Nat.le_trans Z0 sz300
  have ne_a__b300 : a_ ≠ b300 := Nat.ne_of_lt (Nat.lt_of_lt_of_le E_a.lt sz300)
  have ne_b__b300 : b_ ≠ b300 := Nat.ne_of_lt (Nat.lt_of_lt_of_le V_b.lt sz300)
  have KP300 : Keep h0 T300.heap [] := KP0.trans K300 all0
  have Z300 : n0 ≤ T300.heap.size := Nat.le_trans Z0 K300.1
  have E_a__301 : Exa Z T300.heap a_ "farspeak/greeter/Times" := E_a.keep K300
  have F_a__nanos_302 : Fld Z T300.heap a_ "farspeak/greeter/Times" "nanos" "[J" (.ref b_) := F_nanos.keep K300 nin0
  have F_a__size_303 : Fld Z T300.heap a_ "farspeak/greeter/Times" "size" "I" (.int (2 : Int32)) := F_size.keep K300 nin0
  have V_b__304 : Arv Z T300.heap b_ k_ .long (1024 : Int32) [(.long x0), (.long x1)] (.long (0 : Int64)) := V_b.keep K300 nin0
  obtain ⟨_, _, ⟨T305, L305, k305, n305⟩, -, X305, ⟨Lc305, hQ305, l305, y305, z305⟩, st305⟩ := Jvm.LawKit.callS X300 hx (y := (⟨"java/util/Arrays", "sort", "([J)V"⟩ : MethodName)) hown (mvT hZ (hw _ (List.mem_of_getElem? (i := 47) rfl))) (mvT hZ (hw _ (List.mem_of_getElem? (i := 48) rfl))) (mvT hZ (hw _ (List.mem_of_getElem? (i := 38) rfl))) (mvT hZ (hw _ (List.mem_of_getElem? (i := 49) rfl))) (by decide) (backOf (W := 0) (rm10_2 l Z aA hw [] b300 kk300 x0 x1 T300.heap n0 Z300 g_b300 Vq300) hZ (hw _ (List.mem_of_getElem? (i := 49) rfl)) (hw _ (List.mem_of_getElem? (i := 38) rfl)) (by decide) (by decide)) (g := (mkF m 24 #[.val (.ref a_), .val (.int (50 : Int32)), .val (.ref b300), .unset, .unset] [(.ref b300)])) rfl (by rw [hml]; rfl) (argsL := [(.ref b300)]) (rest := []) (lenOf pd__28_5bJ_29V rfl) rfl (by show 2 * 0 + _ ≤ _; exact Nat.le_of_eq rfl) (hb hby d7_24) (fun _ _ => ⟨rfl, rfl, (by decide : 1 + 0 ≤ _), (by decide : 2 + 0 ≤ _)⟩)
  dsimp only [Pt.U, Pt.locs, Pt.cells, Pt.slots] at X305 l305 y305 z305 st305 hQ305
  subst l305 y305 z305
  obtain ⟨rfl, N305q, K305, Vq305⟩ := hQ305
  have N305 := Fr.app N300 N305q
  have KP305 : Keep h0 T305.heap [] := KP300.trans K305 (allS (Or.inr sz_b300) all0)
  have Z305 : n0 ≤ T305.heap.size := Nat.le_trans Z300 K305.1
  have E_a__306 : Exa Z T305.heap a_ "farspeak/greeter/Times" := E_a__301.keep K305
  have F_a__nanos_307 : Fld Z T305.heap a_ "farspeak/greeter/Times" "nanos" "[J" (.ref b_) := F_a__nanos_302.keep K305 (ninS ne_a__b300 nin0)
  have F_a__size_308 : Fld Z T305.heap a_ "farspeak/greeter/Times" "size" "I" (.int (2 : Int32)) := F_a__size_303.keep K305 (ninS ne_a__b300 nin0)
  have V_b__309 : Arv Z T305.heap b_ k_ .long (1024 : Int32) [(.long x0), (.long x1)] (.long (0 : Int64)) := V_b__304.keep K305 (ninS ne_b__b300 nin0)
  obtain ⟨T310, X310, e310, st310⟩ := getF X305 hx hZ hown (host := "") (Or.inl (hw _ (List.mem_of_getElem? (i := 17) rfl))) Via.refl rfl F_a__size_308 (g := (mkF m 28 #[.val (.ref a_), .val (.int (50 : Int32)), .val (.ref b300), .unset, .unset] [(.ref a_)])) rfl rfl (hb hby d7_28)
  have pre311 : ∀ t, Steps p.tables e below (T310.setTop (mkF m 49 #[.val (.ref a_), .val (.int (50 : Int32)), .val (.ref b300), .val (.long (((((2 : Int32).toInt64) * ((50 : Int32).toInt64)) + (99 : Int64)) / (100 : Int64))), .second] [(.int (((((((2 : Int32).toInt64) * ((50 : Int32).toInt64)) + (99 : Int64)) / (100 : Int64)).toInt32) - (1 : Int32))), (.ref b300)])) t → Steps p.tables e below (s₁.setTop (entryFrame m #[(.ref a_), (.int (50 : Int32))] 5)) t := by
    intro t kk
    refine pre0 t ?_
    show Steps p.tables e below (s₁.setTop (mkF m 0 #[.val (.ref a_), .val (.int (50 : Int32)), .unset, .unset, .unset] [])) _
    refine XS.aloadN X0.here hx rfl (hb hby d7_0) rfl rfl ?_
    show Steps p.tables e below (s₁.setTop (mkF m 1 #[.val (.ref a_), .val (.int (50 : Int32)), .unset, .unset, .unset] [(.ref a_)])) _
    refine st297 _ ?_
    show Steps p.tables e below (T297.setTop (mkF m 4 #[.val (.ref a_), .val (.int (50 : Int32)), .unset, .unset, .unset] [(.int (2 : Int32))])) _
    refine XS.ifYes X297.here hx rfl (pc0 := 4) (pc' := 11) rfl (hb hby d7_4) rfl ((if0 _ _).trans (feq (by decide : ¬ ((2 : Int32) = (0 : Int32)))).2) (by decide) (by decide) ?_
    show Steps p.tables e below (T297.setTop (mkF m 11 #[.val (.ref a_), .val (.int (50 : Int32)), .unset, .unset, .unset] [])) _
    refine XS.aloadN X297.here hx rfl (hb hby d7_11) rfl rfl ?_
    show Steps p.tables e below (T297.setTop (mkF m 12 #[.val (.ref a_), .val (.int (50 : Int32)), .unset, .unset, .unset] [(.ref a_)])) _
    refine st298 _ ?_
    show Steps p.tables e below (T298.setTop (mkF m 15 #[.val (.ref a_), .val (.int (50 : Int32)), .unset, .unset, .unset] [(.ref b_)])) _
    refine XS.aloadN X298.here hx rfl (hb hby d7_15) rfl rfl ?_
    show Steps p.tables e below (T298.setTop (mkF m 16 #[.val (.ref a_), .val (.int (50 : Int32)), .unset, .unset, .unset] [(.ref a_), (.ref b_)])) _
    refine st299 _ ?_
    show Steps p.tables e below (T299.setTop (mkF m 19 #[.val (.ref a_), .val (.int (50 : Int32)), .unset, .unset, .unset] [(.int (2 : Int32)), (.ref b_)])) _
    refine st300 _ ?_
    show Steps p.tables e below (T300.setTop (mkF m 22 #[.val (.ref a_), .val (.int (50 : Int32)), .unset, .unset, .unset] [(.ref b300)])) _
    refine XS.astoreN X300.here hx rfl (hb hby d7_22) rfl rfl (l' := #[.val (.ref a_), .val (.int (50 : Int32)), .val (.ref b300), .unset, .unset]) rfl ?_
    show Steps p.tables e below (T300.setTop (mkF m 23 #[.val (.ref a_), .val (.int (50 : Int32)), .val (.ref b300), .unset, .unset] [])) _
    refine XS.aloadN X300.here hx rfl (hb hby d7_23) rfl rfl ?_
    show Steps p.tables e below (T300.setTop (mkF m 24 #[.val (.ref a_), .val (.int (50 : Int32)), .val (.ref b300), .unset, .unset] [(.ref b300)])) _
    refine st305 _ ?_
    show Steps p.tables e below (T305.setTop (mkF m 27 #[.val (.ref a_), .val (.int (50 : Int32)), .val (.ref b300), .unset, .unset] [])) _
    refine XS.aloadN X305.here hx rfl (hb hby d7_27) rfl rfl ?_
    show Steps p.tables e below (T305.setTop (mkF m 28 #[.val (.ref a_), .val (.int (50 : Int32)), .val (.ref b300), .unset, .unset] [(.ref a_)])) _
    refine st310 _ ?_
    show Steps p.tables e below (T310.setTop (mkF m 31 #[.val (.ref a_), .val (.int (50 : Int32)), .val (.ref b300), .unset, .unset] [(.int (2 : Int32))])) _
    refine XS.i2l X310.here hx rfl (hb hby d7_31) rfl ?_
    show Steps p.tables e below (T310.setTop (mkF m 32 #[.val (.ref a_), .val (.int (50 : Int32)), .val (.ref b300), .unset, .unset] [(.long ((2 : Int32).toInt64))])) _
    refine XS.iloadN X310.here hx rfl (hb hby d7_32) rfl ?_
    show Steps p.tables e below (T310.setTop (mkF m 33 #[.val (.ref a_), .val (.int (50 : Int32)), .val (.ref b300), .unset, .unset] [(.int (50 : Int32)), (.long ((2 : Int32).toInt64))])) _
    refine XS.i2l X310.here hx rfl (hb hby d7_33) rfl ?_
    show Steps p.tables e below (T310.setTop (mkF m 34 #[.val (.ref a_), .val (.int (50 : Int32)), .val (.ref b300), .unset, .unset] [(.long ((50 : Int32).toInt64)), (.long ((2 : Int32).toInt64))])) _
    refine XS.lmul X310.here hx rfl (hb hby d7_34) rfl ?_
    show Steps p.tables e below (T310.setTop (mkF m 35 #[.val (.ref a_), .val (.int (50 : Int32)), .val (.ref b300), .unset, .unset] [(.long (((2 : Int32).toInt64) * ((50 : Int32).toInt64)))])) _
    refine X310.ldc2Long hx hown (mvT hZ (hw _ (List.mem_of_getElem? (i := 60) rfl))) (g := (mkF m 35 #[.val (.ref a_), .val (.int (50 : Int32)), .val (.ref b300), .unset, .unset] [(.long (((2 : Int32).toInt64) * ((50 : Int32).toInt64)))])) rfl (hb hby d7_35) _ ?_
    show Steps p.tables e below (T310.setTop (mkF m 38 #[.val (.ref a_), .val (.int (50 : Int32)), .val (.ref b300), .unset, .unset] [(.long (99 : Int64)), (.long (((2 : Int32).toInt64) * ((50 : Int32).toInt64)))])) _
    refine XS.ladd X310.here hx rfl (hb hby d7_38) rfl ?_
    show Steps p.tables e below (T310.setTop (mkF m 39 #[.val (.ref a_), .val (.int (50 : Int32)), .val (.ref b300), .unset, .unset] [(.long ((((2 : Int32).toInt64) * ((50 : Int32).toInt64)) + (99 : Int64)))])) _
    refine X310.ldc2Long hx hown (mvT hZ (hw _ (List.mem_of_getElem? (i := 61) rfl))) (g := (mkF m 39 #[.val (.ref a_), .val (.int (50 : Int32)), .val (.ref b300), .unset, .unset] [(.long ((((2 : Int32).toInt64) * ((50 : Int32).toInt64)) + (99 : Int64)))])) rfl (hb hby d7_39) _ ?_
    show Steps p.tables e below (T310.setTop (mkF m 42 #[.val (.ref a_), .val (.int (50 : Int32)), .val (.ref b300), .unset, .unset] [(.long (100 : Int64)), (.long ((((2 : Int32).toInt64) * ((50 : Int32).toInt64)) + (99 : Int64)))])) _
    refine XS.ldiv X310.here hx rfl (hb hby d7_42) rfl (by decide : ¬ ((100 : Int64) = (0 : Int64))) ?_
    show Steps p.tables e below (T310.setTop (mkF m 43 #[.val (.ref a_), .val (.int (50 : Int32)), .val (.ref b300), .unset, .unset] [(.long (((((2 : Int32).toInt64) * ((50 : Int32).toInt64)) + (99 : Int64)) / (100 : Int64)))])) _
    refine XS.lstoreN X310.here hx rfl (hb hby d7_43) rfl (l' := #[.val (.ref a_), .val (.int (50 : Int32)), .val (.ref b300), .val (.long (((((2 : Int32).toInt64) * ((50 : Int32).toInt64)) + (99 : Int64)) / (100 : Int64))), .second]) rfl ?_
    show Steps p.tables e below (T310.setTop (mkF m 44 #[.val (.ref a_), .val (.int (50 : Int32)), .val (.ref b300), .val (.long (((((2 : Int32).toInt64) * ((50 : Int32).toInt64)) + (99 : Int64)) / (100 : Int64))), .second] [])) _
    refine XS.aloadN X310.here hx rfl (hb hby d7_44) rfl rfl ?_
    show Steps p.tables e below (T310.setTop (mkF m 45 #[.val (.ref a_), .val (.int (50 : Int32)), .val (.ref b300), .val (.long (((((2 : Int32).toInt64) * ((50 : Int32).toInt64)) + (99 : Int64)) / (100 : Int64))), .second] [(.ref b300)])) _
    refine XS.lloadN X310.here hx rfl (hb hby d7_45) rfl ?_
    show Steps p.tables e below (T310.setTop (mkF m 46 #[.val (.ref a_), .val (.int (50 : Int32)), .val (.ref b300), .val (.long (((((2 : Int32).toInt64) * ((50 : Int32).toInt64)) + (99 : Int64)) / (100 : Int64))), .second] [(.long (((((2 : Int32).toInt64) * ((50 : Int32).toInt64)) + (99 : Int64)) / (100 : Int64))), (.ref b300)])) _
    refine XS.l2i X310.here hx rfl (hb hby d7_46) rfl ?_
    show Steps p.tables e below (T310.setTop (mkF m 47 #[.val (.ref a_), .val (.int (50 : Int32)), .val (.ref b300), .val (.long (((((2 : Int32).toInt64) * ((50 : Int32).toInt64)) + (99 : Int64)) / (100 : Int64))), .second] [(.int ((((((2 : Int32).toInt64) * ((50 : Int32).toInt64)) + (99 : Int64)) / (100 : Int64)).toInt32)), (.ref b300)])) _
    refine XS.iconst X310.here hx rfl (hb hby d7_47) ?_
    show Steps p.tables e below (T310.setTop (mkF m 48 #[.val (.ref a_), .val (.int (50 : Int32)), .val (.ref b300), .val (.long (((((2 : Int32).toInt64) * ((50 : Int32).toInt64)) + (99 : Int64)) / (100 : Int64))), .second] [(.int (1 : Int32)), (.int ((((((2 : Int32).toInt64) * ((50 : Int32).toInt64)) + (99 : Int64)) / (100 : Int64)).toInt32)), (.ref b300)])) _
    refine XS.isub X310.here hx rfl (hb hby d7_48) rfl ?_
    exact kk
  have pre312 : ∀ t, Steps p.tables e below (T310.setTop (mkF m 49 #[.val (.ref a_), .val (.int (50 : Int32)), .val (.ref b300), .val (.long (((((2 : Int32).toInt64) * ((50 : Int32).toInt64)) + (99 : Int64)) / (100 : Int64))), .second] [(.int (0 : Int32)), (.ref b300)])) t → Steps p.tables e below (s₁.setTop (entryFrame m #[(.ref a_), (.int (50 : Int32))] 5)) t := by
    intro t kk
    refine pre311 t ?_
    rw [(show (((((((2 : Int32).toInt64) * ((50 : Int32).toInt64)) + (99 : Int64)) / (100 : Int64)).toInt32) - (1 : Int32)) = (0 : Int32) by decide)]
    exact kk
  obtain ⟨cl313, Ar313, q313, S313, N313v, H313, G313⟩ := id Vq305
  have hin313 : ¬ ((0 : Int32) < 0 ∨ cl313.slots.size ≤ ((0 : Int32)).toNatClampNeg) := inb_of S313 ⟨by decide, by decide⟩
  have hat313 : cl313.slots[((0 : Int32)).toNatClampNeg]? = some (.long (own_s2_0 x0 x1)) := Has.at H313 hin313 rfl
  have pre314 : ∀ t, Steps p.tables e below (T310.setTop (mkF m 55 #[.val (.ref a_), .val (.int (50 : Int32)), .val (.ref b300), .val (.long (((((2 : Int32).toInt64) * ((50 : Int32).toInt64)) + (99 : Int64)) / (100 : Int64))), .second] [(.double (FP.ddiv (FP.l2d (own_s2_0 x0 x1)) (4696837146684686336 : UInt64)))])) t → Steps p.tables e below (s₁.setTop (entryFrame m #[(.ref a_), (.int (50 : Int32))] 5)) t := by
    intro t kk
    refine pre312 t ?_
    show Steps p.tables e below (T310.setTop (mkF m 49 #[.val (.ref a_), .val (.int (50 : Int32)), .val (.ref b300), .val (.long (((((2 : Int32).toInt64) * ((50 : Int32).toInt64)) + (99 : Int64)) / (100 : Int64))), .second] [(.int (0 : Int32)), (.ref b300)])) _
    refine X310.laload hx (j := (0 : Int32)) (v := (.long (own_s2_0 x0 x1))) (by rw [e310]; exact Ar313.1) (State.isArrayOf_alike hZ.alike Ar313.2.1) Ar313.2.2 hin313 hat313 (g := (mkF m 49 #[.val (.ref a_), .val (.int (50 : Int32)), .val (.ref b300), .val (.long (((((2 : Int32).toInt64) * ((50 : Int32).toInt64)) + (99 : Int64)) / (100 : Int64))), .second] [(.int (0 : Int32)), (.ref b300)])) rfl rfl (hb hby d7_49) _ ?_
    show Steps p.tables e below (T310.setTop (mkF m 50 #[.val (.ref a_), .val (.int (50 : Int32)), .val (.ref b300), .val (.long (((((2 : Int32).toInt64) * ((50 : Int32).toInt64)) + (99 : Int64)) / (100 : Int64))), .second] [(.long (own_s2_0 x0 x1))])) _
    refine own_l2d X310.here hx rfl (hb hby d7_50) rfl ?_
    show Steps p.tables e below (T310.setTop (mkF m 51 #[.val (.ref a_), .val (.int (50 : Int32)), .val (.ref b300), .val (.long (((((2 : Int32).toInt64) * ((50 : Int32).toInt64)) + (99 : Int64)) / (100 : Int64))), .second] [(.double (FP.l2d (own_s2_0 x0 x1)))])) _
    refine X310.ldc2DoubleC hx hown (mvT hZ (hw _ (List.mem_of_getElem? (i := 62) rfl))) (g := (mkF m 51 #[.val (.ref a_), .val (.int (50 : Int32)), .val (.ref b300), .val (.long (((((2 : Int32).toInt64) * ((50 : Int32).toInt64)) + (99 : Int64)) / (100 : Int64))), .second] [(.double (FP.l2d (own_s2_0 x0 x1)))])) rfl (hb hby d7_51) _ ?_
    show Steps p.tables e below (T310.setTop (mkF m 54 #[.val (.ref a_), .val (.int (50 : Int32)), .val (.ref b300), .val (.long (((((2 : Int32).toInt64) * ((50 : Int32).toInt64)) + (99 : Int64)) / (100 : Int64))), .second] [(.double (4696837146684686336 : UInt64)), (.double (FP.l2d (own_s2_0 x0 x1)))])) _
    refine own_ddiv X310.here hx rfl (hb hby d7_54) rfl (own_fin _) ?_
    exact kk
  obtain ⟨fs, hr, hrun, hended, hW, hsame⟩ := X310.leave (v := some (.double (FP.ddiv (FP.l2d (own_s2_0 x0 x1)) (4696837146684686336 : UInt64)))) (fun h => by rw [Bd.returns] at h; cases h)
  refine ⟨_, _, pre314 _ ?_, hrun, hended, _, _, rfl, ?_, ⟨_, rfl⟩, hW, hsame.mono (by decide) (by decide)⟩
  · show Steps p.tables e below (T310.setTop (mkF m 55 #[.val (.ref a_), .val (.int (50 : Int32)), .val (.ref b300), .val (.long (((((2 : Int32).toInt64) * ((50 : Int32).toInt64)) + (99 : Int64)) / (100 : Int64))), .second] [(.double (FP.ddiv (FP.l2d (own_s2_0 x0 x1)) (4696837146684686336 : UInt64)))])) _
    exact retOut X310 hx Bd.returns rfl (Or.inr (Or.inr (Or.inl ⟨rfl, rfl, _, rfl⟩))) (hb hby d7_55) hr
  · show Q7_2_50 Z a_ b_ k_ x0 x1 h0 n0 _ T310.heap _
    rw [e310]
    exact ⟨rfl, N305, KP305⟩
def Q7_2_100 (Z : State) (a_ : Addr) (b_ : Addr) (k_ : ClassId) (x0 : Int64) (x1 : Int64) (h0 : Heap) (n0 : Nat) (v : Option Value) (h : Heap) (L : List Loc) : Prop := v = some (.double (FP.ddiv (FP.l2d (own_s2_1 x0 x1)) (4696837146684686336 : UInt64))) ∧ Fr n0 L ∧ Keep h0 h []
set_option maxRecDepth 65536 in
set_option maxHeartbeats 40000000 in
theorem rm7_2_100 (l : Launch) (Z : State) (aA : Array Value) (hw : ∀ d ∈ tables_1, d.before aA Z = true) (ws : List Jvm.Cond) (a_ : Addr) (b_ : Addr) (k_ : ClassId) (x0 : Int64) (x1 : Int64) (h0 : Heap) (n0 : Nat) (Z0 : n0 ≤ h0.size) (hne : a_ ≠ b_) (E_a : Exa Z h0 a_ "farspeak/greeter/Times") (F_nanos : Fld Z h0 a_ "farspeak/greeter/Times" "nanos" "[J" (.ref b_)) (F_size : Fld Z h0 a_ "farspeak/greeter/Times" "size" "I" (.int (2 : Int32))) (V_b : Arv Z h0 b_ k_ .long (1024 : Int32) [(.long x0), (.long x1)] (.long (0 : Int64))) :
    MetFree l (⟨"farspeak/greeter/Times", "percentileMillis", "(I)D"⟩ : MethodName) (head1 (Jvm.Cond.code (⟨"farspeak/greeter/Times", "percentileMillis", "(I)D"⟩ : MethodName) prog_53_method_5_code 5 (some .double) :: ws) ({ frames := 4, cells := 1, slots := 2, locals := 84 } : Room)) (fun a U => a = #[(.ref a_), (.int (100 : Int32))] ∧ Z.Warmed39 U.vm ∧ U.heap = h0) (fun _ _ _ _ _ => True) (fun _ U o U' => ∃ v L, o = .returned v ∧ Q7_2_100 Z a_ b_ k_ x0 x1 h0 n0 v U'.heap L ∧ FrameEnd U o U' L ({ frames := 4, cells := 1, slots := 2, locals := 84 } : Room).cells ({ frames := 4, cells := 1, slots := 2, locals := 84 } : Room).slots) := by
  refine MetFree.of_bodySF (plainFor_of_name pn_farspeak_greeter_Times) hisR ?_
  intro p e s m args below meth c s₁ Bd hml0 hP hK
  obtain ⟨rfl, hZ, hh⟩ := hP
  have hx := Bd.exec
  have hby := Bd.bytes
  have hml : c.maxLocals = 5 := hml0
  have hown : s.vm.findClass "farspeak/greeter/Times" = some m.cls := findClass_of_methodNamed Bd.named
  have hnm := (name_of_methodNamed Bd.named Bd.method).1
  have X0 : Stand p l e ({ frames := 4, cells := 1, slots := 2, locals := 84 } : Room) s m #[(.ref a_), (.int (100 : Int32))] below meth c s₁ [] 0 0 := Stand.of_body Bd
  have e0 : s₁.heap = h0 := by rw [← hh, Bd.state]; rfl
  have N0 := Fr.nil n0
  have KP0 : Keep h0 h0 [] := Keep.refl h0 _
  have pre0 : ∀ t, Steps p.tables e below (s₁.setTop (mkF m 0 #[.val (.ref a_), .val (.int (100 : Int32)), .unset, .unset, .unset] [])) t → Steps p.tables e below (s₁.setTop (entryFrame m #[(.ref a_), (.int (100 : Int32))] 5)) t := fun t k => castTop (ef_7_RI m a_ (100 : Int32)) k
  obtain ⟨T321, X321, e321, st321⟩ := getF X0 hx hZ hown (host := "") (Or.inl (hw _ (List.mem_of_getElem? (i := 17) rfl))) Via.refl e0 F_size (g := (mkF m 1 #[.val (.ref a_), .val (.int (100 : Int32)), .unset, .unset, .unset] [(.ref a_)])) rfl rfl (hb hby d7_1)
  obtain ⟨T322, X322, e322, st322⟩ := getF X321 hx hZ hown (host := "") (Or.inl (hw _ (List.mem_of_getElem? (i := 10) rfl))) Via.refl e321 F_nanos (g := (mkF m 12 #[.val (.ref a_), .val (.int (100 : Int32)), .unset, .unset, .unset] [(.ref a_)])) rfl rfl (hb hby d7_12)
  obtain ⟨T323, X323, e323, st323⟩ := getF X322 hx hZ hown (host := "") (Or.inl (hw _ (List.mem_of_getElem? (i := 17) rfl))) Via.refl e322 F_size (g := (mkF m 16 #[.val (.ref a_), .val (.int (100 : Int32)), .unset, .unset, .unset] [(.ref a_), (.ref b_)])) rfl rfl (hb hby d7_16)
  obtain ⟨_, _, ⟨T324, L324, k324, n324⟩, -, X324, ⟨Lc324, hQ324, l324, y324, z324⟩, st324⟩ := Jvm.LawKit.callS X323 hx (y := (⟨"java/util/Arrays", "copyOf", "([JI)[J"⟩ : MethodName)) hown (mvT hZ (hw _ (List.mem_of_getElem? (i := 36) rfl))) (mvT hZ (hw _ (List.mem_of_getElem? (i := 37) rfl))) (mvT hZ (hw _ (List.mem_of_getElem? (i := 38) rfl))) (mvT hZ (hw _ (List.mem_of_getElem? (i := 39) rfl))) (by decide) (backOf (W := 0) (rm8_2 l Z aA hw [] b_ k_ x0 x1 h0 n0 Z0 V_b) hZ (hw _ (List.mem_of_getElem? (i := 39) rfl)) (hw _ (List.mem_of_getElem? (i := 38) rfl)) (by decide) (by decide)) (g := (mkF m 19 #[.val (.ref a_), .val (.int (100 : Int32)), .unset, .unset, .unset] [(.int (2 : Int32)), (.ref b_)])) rfl (by rw [hml]; rfl) (argsL := [(.ref b_), (.int (2 : Int32))]) (rest := []) (lenOf pd__28_5bJI_29_5bJ rfl) rfl (by show 2 * 0 + _ ≤ _; exact Nat.le_of_eq rfl) (hb hby d7_19) (fun _ _ => ⟨rfl, e323, (by decide : 0 + 1 ≤ _), (by decide : 0 + 2 ≤ _)⟩)
  dsimp only [Pt.U, Pt.locs, Pt.cells, Pt.slots] at X324 l324 y324 z324 st324 hQ324
  subst l324 y324 z324
  obtain ⟨b324, kk324, rfl, N324q, K324, sz324, Vq324⟩ := hQ324
  have N324 := Fr.app N0 N324q
  have sz_b324 : h0.size ≤ b324 := Nat.le_trans KP0.1 sz324
  have g_b324 : n0 ≤ b324 := Nat.le_trans Z0 sz324
  have ne_a__b324 : a_ ≠ b324 := Nat.ne_of_lt (Nat.lt_of_lt_of_le E_a.lt sz324)
  have ne_b__b324 : b_ ≠ b324 := Nat.ne_of_lt (Nat.lt_of_lt_of_le V_b.lt sz324)
  have KP324 : Keep h0 T324.heap [] := KP0.trans K324 all0
  have Z324 : n0 ≤ T324.heap.size := Nat.le_trans Z0 K324.1
  have E_a__325 : Exa Z T324.heap a_ "farspeak/greeter/Times" := E_a.keep K324
  have F_a__nanos_326 : Fld Z T324.heap a_ "farspeak/greeter/Times" "nanos" "[J" (.ref b_) := F_nanos.keep K324 nin0
  have F_a__size_327 : Fld Z T324.heap a_ "farspeak/greeter/Times" "size" "I" (.int (2 : Int32)) := F_size.keep K324 nin0
  have V_b__328 : Arv Z T324.heap b_ k_ .long (1024 : Int32) [(.long x0), (.long x1)] (.long (0 : Int64)) := V_b.keep K324 nin0
  obtain ⟨_, _, ⟨T329, L329, k329, n329⟩, -, X329, ⟨Lc329, hQ329, l329, y329, z329⟩, st329⟩ := Jvm.LawKit.callS X324 hx (y := (⟨"java/util/Arrays", "sort", "([J)V"⟩ : MethodName)) hown (mvT hZ (hw _ (List.mem_of_getElem? (i := 47) rfl))) (mvT hZ (hw _ (List.mem_of_getElem? (i := 48) rfl))) (mvT hZ (hw _ (List.mem_of_getElem? (i := 38) rfl))) (mvT hZ (hw _ (List.mem_of_getElem? (i := 49) rfl))) (by decide) (backOf (W := 0) (rm10_2 l Z aA hw [] b324 kk324 x0 x1 T324.heap n0 Z324 g_b324 Vq324) hZ (hw _ (List.mem_of_getElem? (i := 49) rfl)) (hw _ (List.mem_of_getElem? (i := 38) rfl)) (by decide) (by decide)) (g := (mkF m 24 #[.val (.ref a_), .val (.int (100 : Int32)), .val (.ref b324), .unset, .unset] [(.ref b324)])) rfl (by rw [hml]; rfl) (argsL := [(.ref b324)]) (rest := []) (lenOf pd__28_5bJ_29V rfl) rfl (by show 2 * 0 + _ ≤ _; exact Nat.le_of_eq rfl) (hb hby d7_24) (fun _ _ => ⟨rfl, rfl, (by decide : 1 + 0 ≤ _), (by decide : 2 + 0 ≤ _)⟩)
  dsimp only [Pt.U, Pt.locs, Pt.cells, Pt.slots] at X329 l329 y329 z329 st329 hQ329
  subst l329 y329 z329
  obtain ⟨rfl, N329q, K329, Vq329⟩ := hQ329
  have N329 := Fr.app N324 N329q
  have KP329 : Keep h0 T329.heap [] := KP324.trans K329 (allS (Or.inr sz_b324) all0)
  have Z329 : n0 ≤ T329.heap.size := Nat.le_trans Z324 K329.1
  have E_a__330 : Exa Z T329.heap a_ "farspeak/greeter/Times" := E_a__325.keep K329
  have F_a__nanos_331 : Fld Z T329.heap a_ "farspeak/greeter/Times" "nanos" "[J" (.ref b_) := F_a__nanos_326.keep K329 (ninS ne_a__b324 nin0)
  have F_a__size_332 : Fld Z T329.heap a_ "farspeak/greeter/Times" "size" "I" (.int (2 : Int32)) := F_a__size_327.keep K329 (ninS ne_a__b324 nin0)
  have V_b__333 : Arv Z T329.heap b_ k_ .long (1024 : Int32) [(.long x0), (.long x1)] (.long (0 : Int64)) := V_b__328.keep K329 (ninS ne_b__b324 nin0)
  obtain ⟨T334, X334, e334, st334⟩ := getF X329 hx hZ hown (host := "") (Or.inl (hw _ (List.mem_of_getElem? (i := 17) rfl))) Via.refl rfl F_a__size_332 (g := (mkF m 28 #[.val (.ref a_), .val (.int (100 : Int32)), .val (.ref b324), .unset, .unset] [(.ref a_)])) rfl rfl (hb hby d7_28)
  have pre335 : ∀ t, Steps p.tables e below (T334.setTop (mkF m 49 #[.val (.ref a_), .val (.int (100 : Int32)), .val (.ref b324), .val (.long (((((2 : Int32).toInt64) * ((100 : Int32).toInt64)) + (99 : Int64)) / (100 : Int64))), .second] [(.int (((((((2 : Int32).toInt64) * ((100 : Int32).toInt64)) + (99 : Int64)) / (100 : Int64)).toInt32) - (1 : Int32))), (.ref b324)])) t → Steps p.tables e below (s₁.setTop (entryFrame m #[(.ref a_), (.int (100 : Int32))] 5)) t := by
    intro t kk
    refine pre0 t ?_
    show Steps p.tables e below (s₁.setTop (mkF m 0 #[.val (.ref a_), .val (.int (100 : Int32)), .unset, .unset, .unset] [])) _
    refine XS.aloadN X0.here hx rfl (hb hby d7_0) rfl rfl ?_
    show Steps p.tables e below (s₁.setTop (mkF m 1 #[.val (.ref a_), .val (.int (100 : Int32)), .unset, .unset, .unset] [(.ref a_)])) _
    refine st321 _ ?_
    show Steps p.tables e below (T321.setTop (mkF m 4 #[.val (.ref a_), .val (.int (100 : Int32)), .unset, .unset, .unset] [(.int (2 : Int32))])) _
    refine XS.ifYes X321.here hx rfl (pc0 := 4) (pc' := 11) rfl (hb hby d7_4) rfl ((if0 _ _).trans (feq (by decide : ¬ ((2 : Int32) = (0 : Int32)))).2) (by decide) (by decide) ?_
    show Steps p.tables e below (T321.setTop (mkF m 11 #[.val (.ref a_), .val (.int (100 : Int32)), .unset, .unset, .unset] [])) _
    refine XS.aloadN X321.here hx rfl (hb hby d7_11) rfl rfl ?_
    show Steps p.tables e below (T321.setTop (mkF m 12 #[.val (.ref a_), .val (.int (100 : Int32)), .unset, .unset, .unset] [(.ref a_)])) _
    refine st322 _ ?_
    show Steps p.tables e below (T322.setTop (mkF m 15 #[.val (.ref a_), .val (.int (100 : Int32)), .unset, .unset, .unset] [(.ref b_)])) _
    refine XS.aloadN X322.here hx rfl (hb hby d7_15) rfl rfl ?_
    show Steps p.tables e below (T322.setTop (mkF m 16 #[.val (.ref a_), .val (.int (100 : Int32)), .unset, .unset, .unset] [(.ref a_), (.ref b_)])) _
    refine st323 _ ?_
    show Steps p.tables e below (T323.setTop (mkF m 19 #[.val (.ref a_), .val (.int (100 : Int32)), .unset, .unset, .unset] [(.int (2 : Int32)), (.ref b_)])) _
    refine st324 _ ?_
    show Steps p.tables e below (T324.setTop (mkF m 22 #[.val (.ref a_), .val (.int (100 : Int32)), .unset, .unset, .unset] [(.ref b324)])) _
    refine XS.astoreN X324.here hx rfl (hb hby d7_22) rfl rfl (l' := #[.val (.ref a_), .val (.int (100 : Int32)), .val (.ref b324), .unset, .unset]) rfl ?_
    show Steps p.tables e below (T324.setTop (mkF m 23 #[.val (.ref a_), .val (.int (100 : Int32)), .val (.ref b324), .unset, .unset] [])) _
    refine XS.aloadN X324.here hx rfl (hb hby d7_23) rfl rfl ?_
    show Steps p.tables e below (T324.setTop (mkF m 24 #[.val (.ref a_), .val (.int (100 : Int32)), .val (.ref b324), .unset, .unset] [(.ref b324)])) _
    refine st329 _ ?_
    show Steps p.tables e below (T329.setTop (mkF m 27 #[.val (.ref a_), .val (.int (100 : Int32)), .val (.ref b324), .unset, .unset] [])) _
    refine XS.aloadN X329.here hx rfl (hb hby d7_27) rfl rfl ?_
    show Steps p.tables e below (T329.setTop (mkF m 28 #[.val (.ref a_), .val (.int (100 : Int32)), .val (.ref b324), .unset, .unset] [(.ref a_)])) _
    refine st334 _ ?_
    show Steps p.tables e below (T334.setTop (mkF m 31 #[.val (.ref a_), .val (.int (100 : Int32)), .val (.ref b324), .unset, .unset] [(.int (2 : Int32))])) _
    refine XS.i2l X334.here hx rfl (hb hby d7_31) rfl ?_
    show Steps p.tables e below (T334.setTop (mkF m 32 #[.val (.ref a_), .val (.int (100 : Int32)), .val (.ref b324), .unset, .unset] [(.long ((2 : Int32).toInt64))])) _
    refine XS.iloadN X334.here hx rfl (hb hby d7_32) rfl ?_
    show Steps p.tables e below (T334.setTop (mkF m 33 #[.val (.ref a_), .val (.int (100 : Int32)), .val (.ref b324), .unset, .unset] [(.int (100 : Int32)), (.long ((2 : Int32).toInt64))])) _
    refine XS.i2l X334.here hx rfl (hb hby d7_33) rfl ?_
    show Steps p.tables e below (T334.setTop (mkF m 34 #[.val (.ref a_), .val (.int (100 : Int32)), .val (.ref b324), .unset, .unset] [(.long ((100 : Int32).toInt64)), (.long ((2 : Int32).toInt64))])) _
    refine XS.lmul X334.here hx rfl (hb hby d7_34) rfl ?_
    show Steps p.tables e below (T334.setTop (mkF m 35 #[.val (.ref a_), .val (.int (100 : Int32)), .val (.ref b324), .unset, .unset] [(.long (((2 : Int32).toInt64) * ((100 : Int32).toInt64)))])) _
    refine X334.ldc2Long hx hown (mvT hZ (hw _ (List.mem_of_getElem? (i := 60) rfl))) (g := (mkF m 35 #[.val (.ref a_), .val (.int (100 : Int32)), .val (.ref b324), .unset, .unset] [(.long (((2 : Int32).toInt64) * ((100 : Int32).toInt64)))])) rfl (hb hby d7_35) _ ?_
    show Steps p.tables e below (T334.setTop (mkF m 38 #[.val (.ref a_), .val (.int (100 : Int32)), .val (.ref b324), .unset, .unset] [(.long (99 : Int64)), (.long (((2 : Int32).toInt64) * ((100 : Int32).toInt64)))])) _
    refine XS.ladd X334.here hx rfl (hb hby d7_38) rfl ?_
    show Steps p.tables e below (T334.setTop (mkF m 39 #[.val (.ref a_), .val (.int (100 : Int32)), .val (.ref b324), .unset, .unset] [(.long ((((2 : Int32).toInt64) * ((100 : Int32).toInt64)) + (99 : Int64)))])) _
    refine X334.ldc2Long hx hown (mvT hZ (hw _ (List.mem_of_getElem? (i := 61) rfl))) (g := (mkF m 39 #[.val (.ref a_), .val (.int (100 : Int32)), .val (.ref b324), .unset, .unset] [(.long ((((2 : Int32).toInt64) * ((100 : Int32).toInt64)) + (99 : Int64)))])) rfl (hb hby d7_39) _ ?_
    show Steps p.tables e below (T334.setTop (mkF m 42 #[.val (.ref a_), .val (.int (100 : Int32)), .val (.ref b324), .unset, .unset] [(.long (100 : Int64)), (.long ((((2 : Int32).toInt64) * ((100 : Int32).toInt64)) + (99 : Int64)))])) _
    refine XS.ldiv X334.here hx rfl (hb hby d7_42) rfl (by decide : ¬ ((100 : Int64) = (0 : Int64))) ?_
    show Steps p.tables e below (T334.setTop (mkF m 43 #[.val (.ref a_), .val (.int (100 : Int32)), .val (.ref b324), .unset, .unset] [(.long (((((2 : Int32).toInt64) * ((100 : Int32).toInt64)) + (99 : Int64)) / (100 : Int64)))])) _
    refine XS.lstoreN X334.here hx rfl (hb hby d7_43) rfl (l' := #[.val (.ref a_), .val (.int (100 : Int32)), .val (.ref b324), .val (.long (((((2 : Int32).toInt64) * ((100 : Int32).toInt64)) + (99 : Int64)) / (100 : Int64))), .second]) rfl ?_
    show Steps p.tables e below (T334.setTop (mkF m 44 #[.val (.ref a_), .val (.int (100 : Int32)), .val (.ref b324), .val (.long (((((2 : Int32).toInt64) * ((100 : Int32).toInt64)) + (99 : Int64)) / (100 : Int64))), .second] [])) _
    refine XS.aloadN X334.here hx rfl (hb hby d7_44) rfl rfl ?_
    show Steps p.tables e below (T334.setTop (mkF m 45 #[.val (.ref a_), .val (.int (100 : Int32)), .val (.ref b324), .val (.long (((((2 : Int32).toInt64) * ((100 : Int32).toInt64)) + (99 : Int64)) / (100 : Int64))), .second] [(.ref b324)])) _
    refine XS.lloadN X334.here hx rfl (hb hby d7_45) rfl ?_
    show Steps p.tables e below (T334.setTop (mkF m 46 #[.val (.ref a_), .val (.int (100 : Int32)), .val (.ref b324), .val (.long (((((2 : Int32).toInt64) * ((100 : Int32).toInt64)) + (99 : Int64)) / (100 : Int64))), .second] [(.long (((((2 : Int32).toInt64) * ((100 : Int32).toInt64)) + (99 : Int64)) / (100 : Int64))), (.ref b324)])) _
    refine XS.l2i X334.here hx rfl (hb hby d7_46) rfl ?_
    show Steps p.tables e below (T334.setTop (mkF m 47 #[.val (.ref a_), .val (.int (100 : Int32)), .val (.ref b324), .val (.long (((((2 : Int32).toInt64) * ((100 : Int32).toInt64)) + (99 : Int64)) / (100 : Int64))), .second] [(.int ((((((2 : Int32).toInt64) * ((100 : Int32).toInt64)) + (99 : Int64)) / (100 : Int64)).toInt32)), (.ref b324)])) _
    refine XS.iconst X334.here hx rfl (hb hby d7_47) ?_
    show Steps p.tables e below (T334.setTop (mkF m 48 #[.val (.ref a_), .val (.int (100 : Int32)), .val (.ref b324), .val (.long (((((2 : Int32).toInt64) * ((100 : Int32).toInt64)) + (99 : Int64)) / (100 : Int64))), .second] [(.int (1 : Int32)), (.int ((((((2 : Int32).toInt64) * ((100 : Int32).toInt64)) + (99 : Int64)) / (100 : Int64)).toInt32)), (.ref b324)])) _
    refine XS.isub X334.here hx rfl (hb hby d7_48) rfl ?_
    exact kk
  have pre336 : ∀ t, Steps p.tables e below (T334.setTop (mkF m 49 #[.val (.ref a_), .val (.int (100 : Int32)), .val (.ref b324), .val (.long (((((2 : Int32).toInt64) * ((100 : Int32).toInt64)) + (99 : Int64)) / (100 : Int64))), .second] [(.int (1 : Int32)), (.ref b324)])) t → Steps p.tables e below (s₁.setTop (entryFrame m #[(.ref a_), (.int (100 : Int32))] 5)) t := by
    intro t kk
    refine pre335 t ?_
    rw [(show (((((((2 : Int32).toInt64) * ((100 : Int32).toInt64)) + (99 : Int64)) / (100 : Int64)).toInt32) - (1 : Int32)) = (1 : Int32) by decide)]
    exact kk
  obtain ⟨cl337, Ar337, q337, S337, N337v, H337, G337⟩ := id Vq329
  have hin337 : ¬ ((1 : Int32) < 0 ∨ cl337.slots.size ≤ ((1 : Int32)).toNatClampNeg) := inb_of S337 ⟨by decide, by decide⟩
  have hat337 : cl337.slots[((1 : Int32)).toNatClampNeg]? = some (.long (own_s2_1 x0 x1)) := Has.at H337 hin337 rfl
  have pre338 : ∀ t, Steps p.tables e below (T334.setTop (mkF m 55 #[.val (.ref a_), .val (.int (100 : Int32)), .val (.ref b324), .val (.long (((((2 : Int32).toInt64) * ((100 : Int32).toInt64)) + (99 : Int64)) / (100 : Int64))), .second] [(.double (FP.ddiv (FP.l2d (own_s2_1 x0 x1)) (4696837146684686336 : UInt64)))])) t → Steps p.tables e below (s₁.setTop (entryFrame m #[(.ref a_), (.int (100 : Int32))] 5)) t := by
    intro t kk
    refine pre336 t ?_
    show Steps p.tables e below (T334.setTop (mkF m 49 #[.val (.ref a_), .val (.int (100 : Int32)), .val (.ref b324), .val (.long (((((2 : Int32).toInt64) * ((100 : Int32).toInt64)) + (99 : Int64)) / (100 : Int64))), .second] [(.int (1 : Int32)), (.ref b324)])) _
    refine X334.laload hx (j := (1 : Int32)) (v := (.long (own_s2_1 x0 x1))) (by rw [e334]; exact Ar337.1) (State.isArrayOf_alike hZ.alike Ar337.2.1) Ar337.2.2 hin337 hat337 (g := (mkF m 49 #[.val (.ref a_), .val (.int (100 : Int32)), .val (.ref b324), .val (.long (((((2 : Int32).toInt64) * ((100 : Int32).toInt64)) + (99 : Int64)) / (100 : Int64))), .second] [(.int (1 : Int32)), (.ref b324)])) rfl rfl (hb hby d7_49) _ ?_
    show Steps p.tables e below (T334.setTop (mkF m 50 #[.val (.ref a_), .val (.int (100 : Int32)), .val (.ref b324), .val (.long (((((2 : Int32).toInt64) * ((100 : Int32).toInt64)) + (99 : Int64)) / (100 : Int64))), .second] [(.long (own_s2_1 x0 x1))])) _
    refine own_l2d X334.here hx rfl (hb hby d7_50) rfl ?_
    show Steps p.tables e below (T334.setTop (mkF m 51 #[.val (.ref a_), .val (.int (100 : Int32)), .val (.ref b324), .val (.long (((((2 : Int32).toInt64) * ((100 : Int32).toInt64)) + (99 : Int64)) / (100 : Int64))), .second] [(.double (FP.l2d (own_s2_1 x0 x1)))])) _
    refine X334.ldc2DoubleC hx hown (mvT hZ (hw _ (List.mem_of_getElem? (i := 62) rfl))) (g := (mkF m 51 #[.val (.ref a_), .val (.int (100 : Int32)), .val (.ref b324), .val (.long (((((2 : Int32).toInt64) * ((100 : Int32).toInt64)) + (99 : Int64)) / (100 : Int64))), .second] [(.double (FP.l2d (own_s2_1 x0 x1)))])) rfl (hb hby d7_51) _ ?_
    show Steps p.tables e below (T334.setTop (mkF m 54 #[.val (.ref a_), .val (.int (100 : Int32)), .val (.ref b324), .val (.long (((((2 : Int32).toInt64) * ((100 : Int32).toInt64)) + (99 : Int64)) / (100 : Int64))), .second] [(.double (4696837146684686336 : UInt64)), (.double (FP.l2d (own_s2_1 x0 x1)))])) _
    refine own_ddiv X334.here hx rfl (hb hby d7_54) rfl (own_fin _) ?_
    exact kk
  obtain ⟨fs, hr, hrun, hended, hW, hsame⟩ := X334.leave (v := some (.double (FP.ddiv (FP.l2d (own_s2_1 x0 x1)) (4696837146684686336 : UInt64)))) (fun h => by rw [Bd.returns] at h; cases h)
  refine ⟨_, _, pre338 _ ?_, hrun, hended, _, _, rfl, ?_, ⟨_, rfl⟩, hW, hsame.mono (by decide) (by decide)⟩
  · show Steps p.tables e below (T334.setTop (mkF m 55 #[.val (.ref a_), .val (.int (100 : Int32)), .val (.ref b324), .val (.long (((((2 : Int32).toInt64) * ((100 : Int32).toInt64)) + (99 : Int64)) / (100 : Int64))), .second] [(.double (FP.ddiv (FP.l2d (own_s2_1 x0 x1)) (4696837146684686336 : UInt64)))])) _
    exact retOut X334 hx Bd.returns rfl (Or.inr (Or.inr (Or.inl ⟨rfl, rfl, _, rfl⟩))) (hb hby d7_55) hr
  · show Q7_2_100 Z a_ b_ k_ x0 x1 h0 n0 _ T334.heap _
    rw [e334]
    exact ⟨rfl, N329, KP329⟩
def Q3_2 (Z : State) (a_ : Addr) (q_ : Int64) (b_ : Addr) (k_ : ClassId) (x0 : Int64) (x1 : Int64) (h0 : Heap) (n0 : Nat) (v : Option Value) (h : Heap) (L : List Loc) : Prop := v = none ∧ Fr n0 L ∧ Keep h0 h [a_, b_] ∧ Exa Z h a_ "farspeak/greeter/Times" ∧ Fld Z h a_ "farspeak/greeter/Times" "nanos" "[J" (.ref b_) ∧ Fld Z h a_ "farspeak/greeter/Times" "size" "I" (.int (3 : Int32)) ∧ Arv Z h b_ k_ .long (1024 : Int32) [(.long x0), (.long x1), (.long q_)] (.long (0 : Int64))
set_option maxRecDepth 65536 in
set_option maxHeartbeats 40000000 in
theorem rm3_2 (l : Launch) (Z : State) (aA : Array Value) (hw : ∀ d ∈ tables_1, d.before aA Z = true) (ws : List Jvm.Cond) (a_ : Addr) (q_ : Int64) (b_ : Addr) (k_ : ClassId) (x0 : Int64) (x1 : Int64) (h0 : Heap) (n0 : Nat) (Z0 : n0 ≤ h0.size) (g_a_ : n0 ≤ a_) (g_b_ : n0 ≤ b_) (hne : a_ ≠ b_) (E_a : Exa Z h0 a_ "farspeak/greeter/Times") (F_nanos : Fld Z h0 a_ "farspeak/greeter/Times" "nanos" "[J" (.ref b_)) (F_size : Fld Z h0 a_ "farspeak/greeter/Times" "size" "I" (.int (2 : Int32))) (V_b : Arv Z h0 b_ k_ .long (1024 : Int32) [(.long x0), (.long x1)] (.long (0 : Int64))) :
    MetFree l (⟨"farspeak/greeter/Times", "add", "(J)V"⟩ : MethodName) (head1 (Jvm.Cond.code (⟨"farspeak/greeter/Times", "add", "(J)V"⟩ : MethodName) prog_53_method_2_code 3 none :: ws) ({ frames := 0, cells := 0, slots := 0, locals := 0 } : Room)) (fun a U => a = #[(.ref a_), (.long q_)] ∧ Z.Warmed39 U.vm ∧ U.heap = h0) (fun _ _ _ _ _ => True) (fun _ U o U' => ∃ v L, o = .returned v ∧ Q3_2 Z a_ q_ b_ k_ x0 x1 h0 n0 v U'.heap L ∧ FrameEnd U o U' L ({ frames := 0, cells := 0, slots := 0, locals := 0 } : Room).cells ({ frames := 0, cells := 0, slots := 0, locals := 0 } : Room).slots) := by
  refine MetFree.of_bodySF (plainFor_of_name pn_farspeak_greeter_Times) hisR ?_
  intro p e s m args below meth c s₁ Bd hml0 hP hK
  obtain ⟨rfl, hZ, hh⟩ := hP
  have hx := Bd.exec
  have hby := Bd.bytes
  have hml : c.maxLocals = 3 := hml0
  have hown : s.vm.findClass "farspeak/greeter/Times" = some m.cls := findClass_of_methodNamed Bd.named
  have hnm := (name_of_methodNamed Bd.named Bd.method).1
  have X0 : Stand p l e ({ frames := 0, cells := 0, slots := 0, locals := 0 } : Room) s m #[(.ref a_), (.long q_)] below meth c s₁ [] 0 0 := Stand.of_body Bd
  have e0 : s₁.heap = h0 := by rw [← hh, Bd.state]; rfl
  have N0 := Fr.nil n0
  have KP0 : Keep h0 h0 [a_, b_] := Keep.refl h0 _
  have pre0 : ∀ t, Steps p.tables e below (s₁.setTop (mkF m 0 #[.val (.ref a_), .val (.long q_), .second] [])) t → Steps p.tables e below (s₁.setTop (entryFrame m #[(.ref a_), (.long q_)] 3)) t := fun t k => castTop (ef_3_RJ m a_ q_) k
  obtain ⟨T346, X346, e346, st346⟩ := getF X0 hx hZ hown (host := "") (Or.inl (hw _ (List.mem_of_getElem? (i := 17) rfl))) Via.refl e0 F_size (g := (mkF m 1 #[.val (.ref a_), .val (.long q_), .second] [(.ref a_)])) rfl rfl (hb hby d3_1)
  obtain ⟨T347, X347, e347, st347⟩ := getF X346 hx hZ hown (host := "") (Or.inl (hw _ (List.mem_of_getElem? (i := 10) rfl))) Via.refl e346 F_nanos (g := (mkF m 5 #[.val (.ref a_), .val (.long q_), .second] [(.ref a_), (.int (2 : Int32))])) rfl rfl (hb hby d3_5)
  obtain ⟨cl348, Ar348, -, S348, N348v, -, -⟩ := id V_b
  obtain ⟨T349, X349, e349, st349⟩ := getF X347 hx hZ hown (host := "") (Or.inl (hw _ (List.mem_of_getElem? (i := 10) rfl))) Via.refl e347 F_nanos (g := (mkF m 30 #[.val (.ref a_), .val (.long q_), .second] [(.ref a_)])) rfl rfl (hb hby d3_30)
  obtain ⟨T350, X350, e350, st350⟩ := getF X349 hx hZ hown (host := "") (Or.inl (hw _ (List.mem_of_getElem? (i := 17) rfl))) Via.refl e349 F_size (g := (mkF m 35 #[.val (.ref a_), .val (.long q_), .second] [(.ref a_), (.ref a_), (.ref b_)])) rfl rfl (hb hby d3_35)
  obtain ⟨T351, h351, X351, e351, W351, st351⟩ := putF X350 hx hZ hown (host := "") (Or.inl (hw _ (List.mem_of_getElem? (i := 17) rfl))) Via.refl e350 F_size E_a (Or.inl (hw _ (List.mem_of_getElem? (i := 18) rfl))) (hw _ (List.mem_of_getElem? (i := 1) rfl)) (ty := .int) (by decide) rfl rfl (g := (mkF m 41 #[.val (.ref a_), .val (.long q_), .second] [(.int (3 : Int32)), (.ref a_), (.int (2 : Int32)), (.ref b_)])) rfl rfl (hb hby d3_41)
  have Fw351 := F_size.same W351
  have KP351 : Keep h0 h351 [a_, b_] := KP0.wr W351 (Or.inl (List.mem_of_getElem? (i := 0) rfl))
  have Z351 : n0 ≤ h351.size := Nat.le_trans Z0 (Nat.le_of_eq W351.size.symm)
  have N351 := Fr.snoc X351 N0 g_a_
  have E_a__352 : Exa Z h351 a_ "farspeak/greeter/Times" := E_a.wr W351
  have F_a__nanos_353 : Fld Z h351 a_ "farspeak/greeter/Times" "nanos" "[J" (.ref b_) := F_nanos.other W351 (Or.inr (slot_ne (Or.inl (hw _ (List.mem_of_getElem? (i := 11) rfl))) (Or.inl (hw _ (List.mem_of_getElem? (i := 18) rfl))) (by decide) (t := (.array .long)) (t' := .int) (by decide) (by decide)))
  have V_b__354 : Arv Z h351 b_ k_ .long (1024 : Int32) [(.long x0), (.long x1)] (.long (0 : Int64)) := V_b.other W351 (Ne.symm hne)
  have Vp355 : Arv Z h351 b_ k_ .long (1024 : Int32) [(.long x0), (.long x1), (.long (0 : Int64))] (.long (0 : Int64)) := V_b__354.pad (pad_rep [(.long x0), (.long x1)] (.long (0 : Int64)) 1)
  obtain ⟨cl355, Ar355, q355, S355, N355v, H355, G355⟩ := Vp355
  have hin355 : ¬ ((2 : Int32) < 0 ∨ cl355.slots.size ≤ ((2 : Int32)).toNatClampNeg) := inb_of S355 ⟨by decide, by decide⟩
  obtain ⟨T356, h356, X356, e356, W356, st356⟩ := stJ X351 hx hZ e351 Ar355 (j := (2 : Int32)) hin355 (g := (mkF m 45 #[.val (.ref a_), .val (.long q_), .second] [(.long q_), (.int (2 : Int32)), (.ref b_)])) rfl rfl (hb hby d3_45)
  have Vw356 : Arv Z h356 b_ k_ .long (1024 : Int32) [(.long x0), (.long x1), (.long q_)] (.long (0 : Int64)) := Arv.set Ar355 q355 S355 N355v H355 G355 rfl W356 2 rfl (Nat.le_of_ble_eq_true rfl)
  have KP356 : Keep h0 h356 [a_, b_] := KP351.wr W356 (Or.inl (List.mem_of_getElem? (i := 1) rfl))
  have Z356 : n0 ≤ h356.size := Nat.le_trans Z351 (Nat.le_of_eq W356.size.symm)
  have N356 := Fr.snoc X356 N351 g_b_
  have E_a__357 : Exa Z h356 a_ "farspeak/greeter/Times" := E_a__352.wr W356
  have F_a__nanos_358 : Fld Z h356 a_ "farspeak/greeter/Times" "nanos" "[J" (.ref b_) := F_a__nanos_353.other W356 (Or.inl hne)
  have F_a__size_359 : Fld Z h356 a_ "farspeak/greeter/Times" "size" "I" (.int (3 : Int32)) := Fw351.other W356 (Or.inl hne)
  have pre360 : ∀ t, Steps p.tables e below (T356.setTop (mkF m 46 #[.val (.ref a_), .val (.long q_), .second] [])) t → Steps p.tables e below (s₁.setTop (entryFrame m #[(.ref a_), (.long q_)] 3)) t := by
    intro t kk
    refine pre0 t ?_
    show Steps p.tables e below (s₁.setTop (mkF m 0 #[.val (.ref a_), .val (.long q_), .second] [])) _
    refine XS.aloadN X0.here hx rfl (hb hby d3_0) rfl rfl ?_
    show Steps p.tables e below (s₁.setTop (mkF m 1 #[.val (.ref a_), .val (.long q_), .second] [(.ref a_)])) _
    refine st346 _ ?_
    show Steps p.tables e below (T346.setTop (mkF m 4 #[.val (.ref a_), .val (.long q_), .second] [(.int (2 : Int32))])) _
    refine XS.aloadN X346.here hx rfl (hb hby d3_4) rfl rfl ?_
    show Steps p.tables e below (T346.setTop (mkF m 5 #[.val (.ref a_), .val (.long q_), .second] [(.ref a_), (.int (2 : Int32))])) _
    refine st347 _ ?_
    show Steps p.tables e below (T347.setTop (mkF m 8 #[.val (.ref a_), .val (.long q_), .second] [(.ref b_), (.int (2 : Int32))])) _
    refine X347.arraylength hx (by rw [e347]; exact Ar348.1) (State.isArrayOf_alike hZ.alike Ar348.2.1) (g := (mkF m 8 #[.val (.ref a_), .val (.long q_), .second] [(.ref b_), (.int (2 : Int32))])) rfl rfl (hb hby d3_8) _ ?_
    rw [len_of S348 N348v]
    show Steps p.tables e below (T347.setTop (mkF m 9 #[.val (.ref a_), .val (.long q_), .second] [(.int (1024 : Int32)), (.int (2 : Int32))])) _
    refine XS.icmpYes X347.here hx rfl (pc0 := 9) (pc' := 29) rfl (hb hby d3_9) rfl (feq (by decide : ¬ ((2 : Int32) = (1024 : Int32)))).2 (by decide) (by decide) ?_
    show Steps p.tables e below (T347.setTop (mkF m 29 #[.val (.ref a_), .val (.long q_), .second] [])) _
    refine XS.aloadN X347.here hx rfl (hb hby d3_29) rfl rfl ?_
    show Steps p.tables e below (T347.setTop (mkF m 30 #[.val (.ref a_), .val (.long q_), .second] [(.ref a_)])) _
    refine st349 _ ?_
    show Steps p.tables e below (T349.setTop (mkF m 33 #[.val (.ref a_), .val (.long q_), .second] [(.ref b_)])) _
    refine XS.aloadN X349.here hx rfl (hb hby d3_33) rfl rfl ?_
    show Steps p.tables e below (T349.setTop (mkF m 34 #[.val (.ref a_), .val (.long q_), .second] [(.ref a_), (.ref b_)])) _
    refine XS.dup X349.here hx rfl (hb hby d3_34) rfl rfl ?_
    show Steps p.tables e below (T349.setTop (mkF m 35 #[.val (.ref a_), .val (.long q_), .second] [(.ref a_), (.ref a_), (.ref b_)])) _
    refine st350 _ ?_
    show Steps p.tables e below (T350.setTop (mkF m 38 #[.val (.ref a_), .val (.long q_), .second] [(.int (2 : Int32)), (.ref a_), (.ref b_)])) _
    refine XS.dupX1 X350.here hx rfl (hb hby d3_38) rfl rfl rfl ?_
    show Steps p.tables e below (T350.setTop (mkF m 39 #[.val (.ref a_), .val (.long q_), .second] [(.int (2 : Int32)), (.ref a_), (.int (2 : Int32)), (.ref b_)])) _
    refine XS.iconst X350.here hx rfl (hb hby d3_39) ?_
    show Steps p.tables e below (T350.setTop (mkF m 40 #[.val (.ref a_), .val (.long q_), .second] [(.int (1 : Int32)), (.int (2 : Int32)), (.ref a_), (.int (2 : Int32)), (.ref b_)])) _
    refine XS.iadd X350.here hx rfl (hb hby d3_40) rfl ?_
    show Steps p.tables e below (T350.setTop (mkF m 41 #[.val (.ref a_), .val (.long q_), .second] [(.int (3 : Int32)), (.ref a_), (.int (2 : Int32)), (.ref b_)])) _
    refine st351 _ ?_
    show Steps p.tables e below (T351.setTop (mkF m 44 #[.val (.ref a_), .val (.long q_), .second] [(.int (2 : Int32)), (.ref b_)])) _
    refine XS.lloadN X351.here hx rfl (hb hby d3_44) rfl ?_
    show Steps p.tables e below (T351.setTop (mkF m 45 #[.val (.ref a_), .val (.long q_), .second] [(.long q_), (.int (2 : Int32)), (.ref b_)])) _
    refine st356 _ ?_
    exact kk
  obtain ⟨fs, hr, hrun, hended, hW, hsame⟩ := X356.leave (v := none) (fun _ => rfl)
  refine ⟨_, _, pre360 _ ?_, hrun, hended, _, _, rfl, ?_, ⟨_, rfl⟩, hW, hsame.mono (by decide) (by decide)⟩
  · show Steps p.tables e below (T356.setTop (mkF m 46 #[.val (.ref a_), .val (.long q_), .second] [])) _
    exact X356.returnOut hx Bd.returns (hb hby d3_46) hr
  · show Q3_2 Z a_ q_ b_ k_ x0 x1 h0 n0 _ T356.heap _
    rw [e356]
    exact ⟨rfl, N356, KP356, E_a__357, F_a__nanos_358, F_a__size_359, Vw356⟩
def Q8_3 (Z : State) (b_ : Addr) (k_ : ClassId) (x0 : Int64) (x1 : Int64) (x2 : Int64) (h0 : Heap) (n0 : Nat) (v : Option Value) (h : Heap) (L : List Loc) : Prop := ∃ (c : Addr) (kc : ClassId), v = some (.ref c) ∧ Fr n0 L ∧ Keep h0 h [] ∧ h0.size ≤ c ∧ Arv Z h c kc .long (3 : Int32) [(.long x0), (.long x1), (.long x2)] (.long (0 : Int64))
set_option maxRecDepth 65536 in
set_option maxHeartbeats 40000000 in
theorem rm8_3 (l : Launch) (Z : State) (aA : Array Value) (hw : ∀ d ∈ tables_1, d.before aA Z = true) (ws : List Jvm.Cond) (b_ : Addr) (k_ : ClassId) (x0 : Int64) (x1 : Int64) (x2 : Int64) (h0 : Heap) (n0 : Nat) (Z0 : n0 ≤ h0.size) (V_b : Arv Z h0 b_ k_ .long (1024 : Int32) [(.long x0), (.long x1), (.long x2)] (.long (0 : Int64))) :
    MetFree l (⟨"java/util/Arrays", "copyOf", "([JI)[J"⟩ : MethodName) (head1 (Jvm.Cond.code (⟨"java/util/Arrays", "copyOf", "([JI)[J"⟩ : MethodName) jdk_65_method_124_code 3 (some (.array .long)) :: ws) ({ frames := 1, cells := 1, slots := 3, locals := 40 } : Room)) (fun a U => a = #[(.ref b_), (.int (3 : Int32))] ∧ Z.Warmed39 U.vm ∧ U.heap = h0) (fun _ _ _ _ _ => True) (fun _ U o U' => ∃ v L, o = .returned v ∧ Q8_3 Z b_ k_ x0 x1 x2 h0 n0 v U'.heap L ∧ FrameEnd U o U' L ({ frames := 1, cells := 1, slots := 3, locals := 40 } : Room).cells ({ frames := 1, cells := 1, slots := 3, locals := 40 } : Room).slots) := by
  refine MetFree.of_bodySF (plainFor_of_name pn_java_util_Arrays) hisR ?_
  intro p e s m args below meth c s₁ Bd hml0 hP hK
  obtain ⟨rfl, hZ, hh⟩ := hP
  have hx := Bd.exec
  have hby := Bd.bytes
  have hml : c.maxLocals = 3 := hml0
  have hown : s.vm.findClass "java/util/Arrays" = some m.cls := findClass_of_methodNamed Bd.named
  have hnm := (name_of_methodNamed Bd.named Bd.method).1
  have X0 : Stand p l e ({ frames := 1, cells := 1, slots := 3, locals := 40 } : Room) s m #[(.ref b_), (.int (3 : Int32))] below meth c s₁ [] 0 0 := Stand.of_body Bd
  have e0 : s₁.heap = h0 := by rw [← hh, Bd.state]; rfl
  have N0 := Fr.nil n0
  have KP0 : Keep h0 h0 [] := Keep.refl h0 _
  have pre0 : ∀ t, Steps p.tables e below (s₁.setTop (mkF m 0 #[.val (.ref b_), .val (.int (3 : Int32)), .unset] [])) t → Steps p.tables e below (s₁.setTop (entryFrame m #[(.ref b_), (.int (3 : Int32))] 3)) t := fun t k => castTop (ef_8_RI m b_ (3 : Int32)) k
  obtain ⟨cl377, Ar377, -, S377, N377v, -, -⟩ := id V_b
  obtain ⟨T378, h378, k378, X378, e378, E378, A378, st378⟩ := newP X0 hx hZ (hw _ (List.mem_of_getElem? (i := 9) rfl)) e0 (g := (mkF m 15 #[.val (.ref b_), .val (.int (3 : Int32)), .unset] [(.int (3 : Int32))])) rfl (hb hby d8_15) rfl (by decide) (cap := 3) (by decide) (by decide) (by decide) (by decide)
  obtain ⟨b378, g378⟩ : ∃ z, z = h0.size := ⟨_, rfl⟩
  rw [← g378] at A378 st378
  have ne_b__b378 : b_ ≠ b378 := Nat.ne_of_lt (Nat.lt_of_lt_of_le V_b.lt (Nat.le_of_eq g378.symm))
  have sz_b378 : h0.size ≤ b378 := Nat.le_trans KP0.1 (Nat.le_of_eq g378.symm)
  have g_b378 : n0 ≤ b378 := Nat.le_trans Z0 (Nat.le_of_eq g378.symm)
  have KP378 : Keep h0 h378 [] := KP0.ext E378
  have Z378 : n0 ≤ h378.size := Nat.le_trans Z0 E378.1
  have V_b__379 : Arv Z h378 b_ k_ .long (1024 : Int32) [(.long x0), (.long x1), (.long x2)] (.long (0 : Int64)) := V_b.ext E378
  have V_b378 : Arv Z h378 b378 k378 .long (3 : Int32) [(.long (0 : Int64)), (.long (0 : Int64)), (.long (0 : Int64))] (.long (0 : Int64)) := (Arv.new A378 (by decide)).pad (pad_rep [] (.long (0 : Int64)) 3)
  obtain ⟨cl380, Ar380, -, S380, N380v, -, -⟩ := id V_b__379
  obtain ⟨_, _, ⟨T381, L381, k381, n381⟩, -, X381, ⟨Lc381, hQ381, l381, y381, z381⟩, st381⟩ := Jvm.LawKit.callS X378 hx (y := (⟨"java/lang/Math", "min", "(II)I"⟩ : MethodName)) hown (mvT hZ (hw _ (List.mem_of_getElem? (i := 40) rfl))) (mvT hZ (hw _ (List.mem_of_getElem? (i := 41) rfl))) (mvT hZ (hw _ (List.mem_of_getElem? (i := 26) rfl))) (mvT hZ (hw _ (List.mem_of_getElem? (i := 42) rfl))) (by decide) (backOf (W := 4) (rm9 l Z aA hw [] (1024 : Int32) (3 : Int32)  h378 n0 Z378 ) hZ (hw _ (List.mem_of_getElem? (i := 42) rfl)) (hw _ (List.mem_of_getElem? (i := 26) rfl)) (by decide) (by decide)) (g := (mkF m 25 #[.val (.ref b_), .val (.int (3 : Int32)), .val (.ref b378)] [(.int (3 : Int32)), (.int (1024 : Int32)), (.int (0 : Int32)), (.ref b378), (.int (0 : Int32)), (.ref b_)])) rfl (by rw [hml]; rfl) (argsL := [(.int (1024 : Int32)), (.int (3 : Int32))]) (rest := [(.int (0 : Int32)), (.ref b378), (.int (0 : Int32)), (.ref b_)]) (lenOf pd__28II_29I rfl) rfl (by show 2 * 0 + _ ≤ _; exact Nat.le_of_eq rfl) (hb hby d8_25) (fun _ _ => ⟨rfl, e378, (by decide : 1 + 0 ≤ _), (by decide : 3 + 0 ≤ _)⟩)
  dsimp only [Pt.U, Pt.locs, Pt.cells, Pt.slots] at X381 l381 y381 z381 st381 hQ381
  subst l381 y381 z381
  obtain ⟨rfl, N381q, e381⟩ := hQ381
  have N381 := Fr.app N0 N381q
  have pre382 : ∀ t, Steps p.tables e below (T381.setTop (mkF m 28 #[.val (.ref b_), .val (.int (3 : Int32)), .val (.ref b378)] [(.int (F9 (1024 : Int32) (3 : Int32))), (.int (0 : Int32)), (.ref b378), (.int (0 : Int32)), (.ref b_)])) t → Steps p.tables e below (s₁.setTop (entryFrame m #[(.ref b_), (.int (3 : Int32))] 3)) t := by
    intro t kk
    refine pre0 t ?_
    show Steps p.tables e below (s₁.setTop (mkF m 0 #[.val (.ref b_), .val (.int (3 : Int32)), .unset] [])) _
    refine XS.iloadN X0.here hx rfl (hb hby d8_0) rfl ?_
    show Steps p.tables e below (s₁.setTop (mkF m 1 #[.val (.ref b_), .val (.int (3 : Int32)), .unset] [(.int (3 : Int32))])) _
    refine XS.aloadN X0.here hx rfl (hb hby d8_1) rfl rfl ?_
    show Steps p.tables e below (s₁.setTop (mkF m 2 #[.val (.ref b_), .val (.int (3 : Int32)), .unset] [(.ref b_), (.int (3 : Int32))])) _
    refine X0.arraylength hx (by rw [e0]; exact Ar377.1) (State.isArrayOf_alike hZ.alike Ar377.2.1) (g := (mkF m 2 #[.val (.ref b_), .val (.int (3 : Int32)), .unset] [(.ref b_), (.int (3 : Int32))])) rfl rfl (hb hby d8_2) _ ?_
    rw [len_of S377 N377v]
    show Steps p.tables e below (s₁.setTop (mkF m 3 #[.val (.ref b_), .val (.int (3 : Int32)), .unset] [(.int (1024 : Int32)), (.int (3 : Int32))])) _
    refine XS.icmpYes X0.here hx rfl (pc0 := 3) (pc' := 14) rfl (hb hby d8_3) rfl (feq (by decide : ¬ ((3 : Int32) = (1024 : Int32)))).2 (by decide) (by decide) ?_
    show Steps p.tables e below (s₁.setTop (mkF m 14 #[.val (.ref b_), .val (.int (3 : Int32)), .unset] [])) _
    refine XS.iloadN X0.here hx rfl (hb hby d8_14) rfl ?_
    show Steps p.tables e below (s₁.setTop (mkF m 15 #[.val (.ref b_), .val (.int (3 : Int32)), .unset] [(.int (3 : Int32))])) _
    refine st378 _ ?_
    show Steps p.tables e below (T378.setTop (mkF m 17 #[.val (.ref b_), .val (.int (3 : Int32)), .unset] [(.ref b378)])) _
    refine XS.astoreN X378.here hx rfl (hb hby d8_17) rfl rfl (l' := #[.val (.ref b_), .val (.int (3 : Int32)), .val (.ref b378)]) rfl ?_
    show Steps p.tables e below (T378.setTop (mkF m 18 #[.val (.ref b_), .val (.int (3 : Int32)), .val (.ref b378)] [])) _
    refine XS.aloadN X378.here hx rfl (hb hby d8_18) rfl rfl ?_
    show Steps p.tables e below (T378.setTop (mkF m 19 #[.val (.ref b_), .val (.int (3 : Int32)), .val (.ref b378)] [(.ref b_)])) _
    refine XS.iconst X378.here hx rfl (hb hby d8_19) ?_
    show Steps p.tables e below (T378.setTop (mkF m 20 #[.val (.ref b_), .val (.int (3 : Int32)), .val (.ref b378)] [(.int (0 : Int32)), (.ref b_)])) _
    refine XS.aloadN X378.here hx rfl (hb hby d8_20) rfl rfl ?_
    show Steps p.tables e below (T378.setTop (mkF m 21 #[.val (.ref b_), .val (.int (3 : Int32)), .val (.ref b378)] [(.ref b378), (.int (0 : Int32)), (.ref b_)])) _
    refine XS.iconst X378.here hx rfl (hb hby d8_21) ?_
    show Steps p.tables e below (T378.setTop (mkF m 22 #[.val (.ref b_), .val (.int (3 : Int32)), .val (.ref b378)] [(.int (0 : Int32)), (.ref b378), (.int (0 : Int32)), (.ref b_)])) _
    refine XS.aloadN X378.here hx rfl (hb hby d8_22) rfl rfl ?_
    show Steps p.tables e below (T378.setTop (mkF m 23 #[.val (.ref b_), .val (.int (3 : Int32)), .val (.ref b378)] [(.ref b_), (.int (0 : Int32)), (.ref b378), (.int (0 : Int32)), (.ref b_)])) _
    refine X378.arraylength hx (by rw [e378]; exact Ar380.1) (State.isArrayOf_alike hZ.alike Ar380.2.1) (g := (mkF m 23 #[.val (.ref b_), .val (.int (3 : Int32)), .val (.ref b378)] [(.ref b_), (.int (0 : Int32)), (.ref b378), (.int (0 : Int32)), (.ref b_)])) rfl rfl (hb hby d8_23) _ ?_
    rw [len_of S380 N380v]
    show Steps p.tables e below (T378.setTop (mkF m 24 #[.val (.ref b_), .val (.int (3 : Int32)), .val (.ref b378)] [(.int (1024 : Int32)), (.int (0 : Int32)), (.ref b378), (.int (0 : Int32)), (.ref b_)])) _
    refine XS.iloadN X378.here hx rfl (hb hby d8_24) rfl ?_
    show Steps p.tables e below (T378.setTop (mkF m 25 #[.val (.ref b_), .val (.int (3 : Int32)), .val (.ref b378)] [(.int (3 : Int32)), (.int (1024 : Int32)), (.int (0 : Int32)), (.ref b378), (.int (0 : Int32)), (.ref b_)])) _
    refine st381 _ ?_
    exact kk
  have pre383 : ∀ t, Steps p.tables e below (T381.setTop (mkF m 28 #[.val (.ref b_), .val (.int (3 : Int32)), .val (.ref b378)] [(.int (3 : Int32)), (.int (0 : Int32)), (.ref b378), (.int (0 : Int32)), (.ref b_)])) t → Steps p.tables e below (s₁.setTop (entryFrame m #[(.ref b_), (.int (3 : Int32))] 3)) t := by
    intro t kk
    refine pre382 t ?_
    rw [(show (F9 (1024 : Int32) (3 : Int32)) = (3 : Int32) by decide)]
    exact kk
  obtain ⟨T384, h384, L384, X384, e384, N384, K384, Vc384, st384⟩ := cpA X381 hx hZ hown (hw _ (List.mem_of_getElem? (i := 43) rfl)) (hw _ (List.mem_of_getElem? (i := 46) rfl)) (hw _ (List.mem_of_getElem? (i := 44) rfl)) (hw _ (List.mem_of_getElem? (i := 45) rfl)) e381 V_b__379 V_b378 (Or.inl ⟨rfl, rfl⟩) (by decide) (by decide) (by decide) (by decide) (by decide) rfl (by decide) N381 g_b378 (g := (mkF m 28 #[.val (.ref b_), .val (.int (3 : Int32)), .val (.ref b378)] [(.int (3 : Int32)), (.int (0 : Int32)), (.ref b378), (.int (0 : Int32)), (.ref b_)])) rfl (by rw [hml]; rfl) rfl (hb hby d8_28) (by decide) (W := 0) (by show 2 * 0 + _ ≤ _; exact Nat.le_of_eq rfl) (by decide)
  have Vn384 : Arv Z h384 b378 k378 .long (3 : Int32) [(.long x0), (.long x1), (.long x2)] (.long (0 : Int64)) := Vc384
  have KP384 : Keep h0 h384 [] := KP378.trans K384 (allS (Or.inr sz_b378) all0)
  have Z384 : n0 ≤ h384.size := Nat.le_trans Z378 K384.1
  have pre385 : ∀ t, Steps p.tables e below (T384.setTop (mkF m 32 #[.val (.ref b_), .val (.int (3 : Int32)), .val (.ref b378)] [(.ref b378)])) t → Steps p.tables e below (s₁.setTop (entryFrame m #[(.ref b_), (.int (3 : Int32))] 3)) t := by
    intro t kk
    refine pre383 t ?_
    show Steps p.tables e below (T381.setTop (mkF m 28 #[.val (.ref b_), .val (.int (3 : Int32)), .val (.ref b378)] [(.int (3 : Int32)), (.int (0 : Int32)), (.ref b378), (.int (0 : Int32)), (.ref b_)])) _
    refine st384 _ ?_
    show Steps p.tables e below (T384.setTop (mkF m 31 #[.val (.ref b_), .val (.int (3 : Int32)), .val (.ref b378)] [])) _
    refine XS.aloadN X384.here hx rfl (hb hby d8_31) rfl rfl ?_
    exact kk
  obtain ⟨fs, hr, hrun, hended, hW, hsame⟩ := X384.leave (v := some (.ref b378)) (fun h => by rw [Bd.returns] at h; cases h)
  refine ⟨_, _, pre385 _ ?_, hrun, hended, _, _, rfl, ?_, ⟨_, rfl⟩, hW, hsame.mono (by decide) (by decide)⟩
  · show Steps p.tables e below (T384.setTop (mkF m 32 #[.val (.ref b_), .val (.int (3 : Int32)), .val (.ref b378)] [(.ref b378)])) _
    exact retOut X384 hx Bd.returns rfl (Or.inr (Or.inr (Or.inr (Or.inr ⟨rfl, rfl, rfl⟩)))) (hb hby d8_32) hr
  · show Q8_3 Z b_ k_ x0 x1 x2 h0 n0 _ T384.heap _
    rw [e384]
    exact ⟨_, _, rfl, N384, KP384, sz_b378, Vn384⟩
def Q7_3_1 (Z : State) (a_ : Addr) (b_ : Addr) (k_ : ClassId) (x0 : Int64) (x1 : Int64) (x2 : Int64) (h0 : Heap) (n0 : Nat) (v : Option Value) (h : Heap) (L : List Loc) : Prop := v = some (.double (FP.ddiv (FP.l2d (own_s3_0 x0 x1 x2)) (4696837146684686336 : UInt64))) ∧ Fr n0 L ∧ Keep h0 h []
set_option maxRecDepth 65536 in
set_option maxHeartbeats 40000000 in
theorem rm7_3_1 (l : Launch) (Z : State) (aA : Array Value) (hw : ∀ d ∈ tables_1, d.before aA Z = true) (ws : List Jvm.Cond) (a_ : Addr) (b_ : Addr) (k_ : ClassId) (x0 : Int64) (x1 : Int64) (x2 : Int64) (h0 : Heap) (n0 : Nat) (Z0 : n0 ≤ h0.size) (hne : a_ ≠ b_) (E_a : Exa Z h0 a_ "farspeak/greeter/Times") (F_nanos : Fld Z h0 a_ "farspeak/greeter/Times" "nanos" "[J" (.ref b_)) (F_size : Fld Z h0 a_ "farspeak/greeter/Times" "size" "I" (.int (3 : Int32))) (V_b : Arv Z h0 b_ k_ .long (1024 : Int32) [(.long x0), (.long x1), (.long x2)] (.long (0 : Int64))) :
    MetFree l (⟨"farspeak/greeter/Times", "percentileMillis", "(I)D"⟩ : MethodName) (head1 (Jvm.Cond.code (⟨"farspeak/greeter/Times", "percentileMillis", "(I)D"⟩ : MethodName) prog_53_method_5_code 5 (some .double) :: ws) ({ frames := 4, cells := 1, slots := 3, locals := 84 } : Room)) (fun a U => a = #[(.ref a_), (.int (1 : Int32))] ∧ Z.Warmed39 U.vm ∧ U.heap = h0) (fun _ _ _ _ _ => True) (fun _ U o U' => ∃ v L, o = .returned v ∧ Q7_3_1 Z a_ b_ k_ x0 x1 x2 h0 n0 v U'.heap L ∧ FrameEnd U o U' L ({ frames := 4, cells := 1, slots := 3, locals := 84 } : Room).cells ({ frames := 4, cells := 1, slots := 3, locals := 84 } : Room).slots) := by
  refine MetFree.of_bodySF (plainFor_of_name pn_farspeak_greeter_Times) hisR ?_
  intro p e s m args below meth c s₁ Bd hml0 hP hK
  obtain ⟨rfl, hZ, hh⟩ := hP
  have hx := Bd.exec
  have hby := Bd.bytes
  have hml : c.maxLocals = 5 := hml0
  have hown : s.vm.findClass "farspeak/greeter/Times" = some m.cls := findClass_of_methodNamed Bd.named
  have hnm := (name_of_methodNamed Bd.named Bd.method).1
  have X0 : Stand p l e ({ frames := 4, cells := 1, slots := 3, locals := 84 } : Room) s m #[(.ref a_), (.int (1 : Int32))] below meth c s₁ [] 0 0 := Stand.of_body Bd
  have e0 : s₁.heap = h0 := by rw [← hh, Bd.state]; rfl
  have N0 := Fr.nil n0
  have KP0 : Keep h0 h0 [] := Keep.refl h0 _
  have pre0 : ∀ t, Steps p.tables e below (s₁.setTop (mkF m 0 #[.val (.ref a_), .val (.int (1 : Int32)), .unset, .unset, .unset] [])) t → Steps p.tables e below (s₁.setTop (entryFrame m #[(.ref a_), (.int (1 : Int32))] 5)) t := fun t k => castTop (ef_7_RI m a_ (1 : Int32)) k
  obtain ⟨T374, X374, e374, st374⟩ := getF X0 hx hZ hown (host := "") (Or.inl (hw _ (List.mem_of_getElem? (i := 17) rfl))) Via.refl e0 F_size (g := (mkF m 1 #[.val (.ref a_), .val (.int (1 : Int32)), .unset, .unset, .unset] [(.ref a_)])) rfl rfl (hb hby d7_1)
  obtain ⟨T375, X375, e375, st375⟩ := getF X374 hx hZ hown (host := "") (Or.inl (hw _ (List.mem_of_getElem? (i := 10) rfl))) Via.refl e374 F_nanos (g := (mkF m 12 #[.val (.ref a_), .val (.int (1 : Int32)), .unset, .unset, .unset] [(.ref a_)])) rfl rfl (hb hby d7_12)
  obtain ⟨T376, X376, e376, st376⟩ := getF X375 hx hZ hown (host := "") (Or.inl (hw _ (List.mem_of_getElem? (i := 17) rfl))) Via.refl e375 F_size (g := (mkF m 16 #[.val (.ref a_), .val (.int (1 : Int32)), .unset, .unset, .unset] [(.ref a_), (.ref b_)])) rfl rfl (hb hby d7_16)
  obtain ⟨_, _, ⟨T386, L386, k386, n386⟩, -, X386, ⟨Lc386, hQ386, l386, y386, z386⟩, st386⟩ := Jvm.LawKit.callS X376 hx (y := (⟨"java/util/Arrays", "copyOf", "([JI)[J"⟩ : MethodName)) hown (mvT hZ (hw _ (List.mem_of_getElem? (i := 36) rfl))) (mvT hZ (hw _ (List.mem_of_getElem? (i := 37) rfl))) (mvT hZ (hw _ (List.mem_of_getElem? (i := 38) rfl))) (mvT hZ (hw _ (List.mem_of_getElem? (i := 39) rfl))) (by decide) (backOf (W := 0) (rm8_3 l Z aA hw [] b_ k_ x0 x1 x2 h0 n0 Z0 V_b) hZ (hw _ (List.mem_of_getElem? (i := 39) rfl)) (hw _ (List.mem_of_getElem? (i := 38) rfl)) (by decide) (by decide)) (g := (mkF m 19 #[.val (.ref a_), .val (.int (1 : Int32)), .unset, .unset, .unset] [(.int (3 : Int32)), (.ref b_)])) rfl (by rw [hml]; rfl) (argsL := [(.ref b_), (.int (3 : Int32))]) (rest := []) (lenOf pd__28_5bJI_29_5bJ rfl) rfl (by show 2 * 0 + _ ≤ _; exact Nat.le_of_eq rfl) (hb hby d7_19) (fun _ _ => ⟨rfl, e376, (by decide : 0 + 1 ≤ _), (by decide : 0 + 3 ≤ _)⟩)
  dsimp only [Pt.U, Pt.locs, Pt.cells, Pt.slots] at X386 l386 y386 z386 st386 hQ386
  subst l386 y386 z386
  obtain ⟨b386, kk386, rfl, N386q, K386, sz386, Vq386⟩ := hQ386
  have N386 := Fr.app N0 N386q
  have sz_b386 : h0.size ≤ b386 := Nat.le_trans KP0.1 sz386
  have g_b386 : n0 ≤ b386 := Nat.le_trans Z0 sz386
  have ne_a__b386 : a_ ≠ b386 := Nat.ne_of_lt (Nat.lt_of_lt_of_le E_a.lt sz386)
  have ne_b__b386 : b_ ≠ b386 := Nat.ne_of_lt (Nat.lt_of_lt_of_le V_b.lt sz386)
  have KP386 : Keep h0 T386.heap [] := KP0.trans K386 all0
  have Z386 : n0 ≤ T386.heap.size := Nat.le_trans Z0 K386.1
  have E_a__387 : Exa Z T386.heap a_ "farspeak/greeter/Times" := E_a.keep K386
  have F_a__nanos_388 : Fld Z T386.heap a_ "farspeak/greeter/Times" "nanos" "[J" (.ref b_) := F_nanos.keep K386 nin0
  have F_a__size_389 : Fld Z T386.heap a_ "farspeak/greeter/Times" "size" "I" (.int (3 : Int32)) := F_size.keep K386 nin0
  have V_b__390 : Arv Z T386.heap b_ k_ .long (1024 : Int32) [(.long x0), (.long x1), (.long x2)] (.long (0 : Int64)) := V_b.keep K386 nin0
  obtain ⟨_, _, ⟨T391, L391, k391, n391⟩, -, X391, ⟨Lc391, hQ391, l391, y391, z391⟩, st391⟩ := Jvm.LawKit.callS X386 hx (y := (⟨"java/util/Arrays", "sort", "([J)V"⟩ : MethodName)) hown (mvT hZ (hw _ (List.mem_of_getElem? (i := 47) rfl))) (mvT hZ (hw _ (List.mem_of_getElem? (i := 48) rfl))) (mvT hZ (hw _ (List.mem_of_getElem? (i := 38) rfl))) (mvT hZ (hw _ (List.mem_of_getElem? (i := 49) rfl))) (by decide) (backOf (W := 0) (rm10_3 l Z aA hw [] b386 kk386 x0 x1 x2 T386.heap n0 Z386 g_b386 Vq386) hZ (hw _ (List.mem_of_getElem? (i := 49) rfl)) (hw _ (List.mem_of_getElem? (i := 38) rfl)) (by decide) (by decide)) (g := (mkF m 24 #[.val (.ref a_), .val (.int (1 : Int32)), .val (.ref b386), .unset, .unset] [(.ref b386)])) rfl (by rw [hml]; rfl) (argsL := [(.ref b386)]) (rest := []) (lenOf pd__28_5bJ_29V rfl) rfl (by show 2 * 0 + _ ≤ _; exact Nat.le_of_eq rfl) (hb hby d7_24) (fun _ _ => ⟨rfl, rfl, (by decide : 1 + 0 ≤ _), (by decide : 3 + 0 ≤ _)⟩)
  dsimp only [Pt.U, Pt.locs, Pt.cells, Pt.slots] at X391 l391 y391 z391 st391 hQ391
  subst l391 y391 z391
  obtain ⟨rfl, N391q, K391, Vq391⟩ := hQ391
  have N391 := Fr.app N386 N391q
  have KP391 : Keep h0 T391.heap [] := KP386.trans K391 (allS (Or.inr sz_b386) all0)
  have Z391 : n0 ≤ T391.heap.size := Nat.le_trans Z386 K391.1
  have E_a__392 : Exa Z T391.heap a_ "farspeak/greeter/Times" := E_a__387.keep K391
  have F_a__nanos_393 : Fld Z T391.heap a_ "farspeak/greeter/Times" "nanos" "[J" (.ref b_) := F_a__nanos_388.keep K391 (ninS ne_a__b386 nin0)
  have F_a__size_394 : Fld Z T391.heap a_ "farspeak/greeter/Times" "size" "I" (.int (3 : Int32)) := F_a__size_389.keep K391 (ninS ne_a__b386 nin0)
  have V_b__395 : Arv Z T391.heap b_ k_ .long (1024 : Int32) [(.long x0), (.long x1), (.long x2)] (.long (0 : Int64)) := V_b__390.keep K391 (ninS ne_b__b386 nin0)
  obtain ⟨T396, X396, e396, st396⟩ := getF X391 hx hZ hown (host := "") (Or.inl (hw _ (List.mem_of_getElem? (i := 17) rfl))) Via.refl rfl F_a__size_394 (g := (mkF m 28 #[.val (.ref a_), .val (.int (1 : Int32)), .val (.ref b386), .unset, .unset] [(.ref a_)])) rfl rfl (hb hby d7_28)
  have pre397 : ∀ t, Steps p.tables e below (T396.setTop (mkF m 49 #[.val (.ref a_), .val (.int (1 : Int32)), .val (.ref b386), .val (.long (((((3 : Int32).toInt64) * ((1 : Int32).toInt64)) + (99 : Int64)) / (100 : Int64))), .second] [(.int (((((((3 : Int32).toInt64) * ((1 : Int32).toInt64)) + (99 : Int64)) / (100 : Int64)).toInt32) - (1 : Int32))), (.ref b386)])) t → Steps p.tables e below (s₁.setTop (entryFrame m #[(.ref a_), (.int (1 : Int32))] 5)) t := by
    intro t kk
    refine pre0 t ?_
    show Steps p.tables e below (s₁.setTop (mkF m 0 #[.val (.ref a_), .val (.int (1 : Int32)), .unset, .unset, .unset] [])) _
    refine XS.aloadN X0.here hx rfl (hb hby d7_0) rfl rfl ?_
    show Steps p.tables e below (s₁.setTop (mkF m 1 #[.val (.ref a_), .val (.int (1 : Int32)), .unset, .unset, .unset] [(.ref a_)])) _
    refine st374 _ ?_
    show Steps p.tables e below (T374.setTop (mkF m 4 #[.val (.ref a_), .val (.int (1 : Int32)), .unset, .unset, .unset] [(.int (3 : Int32))])) _
    refine XS.ifYes X374.here hx rfl (pc0 := 4) (pc' := 11) rfl (hb hby d7_4) rfl ((if0 _ _).trans (feq (by decide : ¬ ((3 : Int32) = (0 : Int32)))).2) (by decide) (by decide) ?_
    show Steps p.tables e below (T374.setTop (mkF m 11 #[.val (.ref a_), .val (.int (1 : Int32)), .unset, .unset, .unset] [])) _
    refine XS.aloadN X374.here hx rfl (hb hby d7_11) rfl rfl ?_
    show Steps p.tables e below (T374.setTop (mkF m 12 #[.val (.ref a_), .val (.int (1 : Int32)), .unset, .unset, .unset] [(.ref a_)])) _
    refine st375 _ ?_
    show Steps p.tables e below (T375.setTop (mkF m 15 #[.val (.ref a_), .val (.int (1 : Int32)), .unset, .unset, .unset] [(.ref b_)])) _
    refine XS.aloadN X375.here hx rfl (hb hby d7_15) rfl rfl ?_
    show Steps p.tables e below (T375.setTop (mkF m 16 #[.val (.ref a_), .val (.int (1 : Int32)), .unset, .unset, .unset] [(.ref a_), (.ref b_)])) _
    refine st376 _ ?_
    show Steps p.tables e below (T376.setTop (mkF m 19 #[.val (.ref a_), .val (.int (1 : Int32)), .unset, .unset, .unset] [(.int (3 : Int32)), (.ref b_)])) _
    refine st386 _ ?_
    show Steps p.tables e below (T386.setTop (mkF m 22 #[.val (.ref a_), .val (.int (1 : Int32)), .unset, .unset, .unset] [(.ref b386)])) _
    refine XS.astoreN X386.here hx rfl (hb hby d7_22) rfl rfl (l' := #[.val (.ref a_), .val (.int (1 : Int32)), .val (.ref b386), .unset, .unset]) rfl ?_
    show Steps p.tables e below (T386.setTop (mkF m 23 #[.val (.ref a_), .val (.int (1 : Int32)), .val (.ref b386), .unset, .unset] [])) _
    refine XS.aloadN X386.here hx rfl (hb hby d7_23) rfl rfl ?_
    show Steps p.tables e below (T386.setTop (mkF m 24 #[.val (.ref a_), .val (.int (1 : Int32)), .val (.ref b386), .unset, .unset] [(.ref b386)])) _
    refine st391 _ ?_
    show Steps p.tables e below (T391.setTop (mkF m 27 #[.val (.ref a_), .val (.int (1 : Int32)), .val (.ref b386), .unset, .unset] [])) _
    refine XS.aloadN X391.here hx rfl (hb hby d7_27) rfl rfl ?_
    show Steps p.tables e below (T391.setTop (mkF m 28 #[.val (.ref a_), .val (.int (1 : Int32)), .val (.ref b386), .unset, .unset] [(.ref a_)])) _
    refine st396 _ ?_
    show Steps p.tables e below (T396.setTop (mkF m 31 #[.val (.ref a_), .val (.int (1 : Int32)), .val (.ref b386), .unset, .unset] [(.int (3 : Int32))])) _
    refine XS.i2l X396.here hx rfl (hb hby d7_31) rfl ?_
    show Steps p.tables e below (T396.setTop (mkF m 32 #[.val (.ref a_), .val (.int (1 : Int32)), .val (.ref b386), .unset, .unset] [(.long ((3 : Int32).toInt64))])) _
    refine XS.iloadN X396.here hx rfl (hb hby d7_32) rfl ?_
    show Steps p.tables e below (T396.setTop (mkF m 33 #[.val (.ref a_), .val (.int (1 : Int32)), .val (.ref b386), .unset, .unset] [(.int (1 : Int32)), (.long ((3 : Int32).toInt64))])) _
    refine XS.i2l X396.here hx rfl (hb hby d7_33) rfl ?_
    show Steps p.tables e below (T396.setTop (mkF m 34 #[.val (.ref a_), .val (.int (1 : Int32)), .val (.ref b386), .unset, .unset] [(.long ((1 : Int32).toInt64)), (.long ((3 : Int32).toInt64))])) _
    refine XS.lmul X396.here hx rfl (hb hby d7_34) rfl ?_
    show Steps p.tables e below (T396.setTop (mkF m 35 #[.val (.ref a_), .val (.int (1 : Int32)), .val (.ref b386), .unset, .unset] [(.long (((3 : Int32).toInt64) * ((1 : Int32).toInt64)))])) _
    refine X396.ldc2Long hx hown (mvT hZ (hw _ (List.mem_of_getElem? (i := 60) rfl))) (g := (mkF m 35 #[.val (.ref a_), .val (.int (1 : Int32)), .val (.ref b386), .unset, .unset] [(.long (((3 : Int32).toInt64) * ((1 : Int32).toInt64)))])) rfl (hb hby d7_35) _ ?_
    show Steps p.tables e below (T396.setTop (mkF m 38 #[.val (.ref a_), .val (.int (1 : Int32)), .val (.ref b386), .unset, .unset] [(.long (99 : Int64)), (.long (((3 : Int32).toInt64) * ((1 : Int32).toInt64)))])) _
    refine XS.ladd X396.here hx rfl (hb hby d7_38) rfl ?_
    show Steps p.tables e below (T396.setTop (mkF m 39 #[.val (.ref a_), .val (.int (1 : Int32)), .val (.ref b386), .unset, .unset] [(.long ((((3 : Int32).toInt64) * ((1 : Int32).toInt64)) + (99 : Int64)))])) _
    refine X396.ldc2Long hx hown (mvT hZ (hw _ (List.mem_of_getElem? (i := 61) rfl))) (g := (mkF m 39 #[.val (.ref a_), .val (.int (1 : Int32)), .val (.ref b386), .unset, .unset] [(.long ((((3 : Int32).toInt64) * ((1 : Int32).toInt64)) + (99 : Int64)))])) rfl (hb hby d7_39) _ ?_
    show Steps p.tables e below (T396.setTop (mkF m 42 #[.val (.ref a_), .val (.int (1 : Int32)), .val (.ref b386), .unset, .unset] [(.long (100 : Int64)), (.long ((((3 : Int32).toInt64) * ((1 : Int32).toInt64)) + (99 : Int64)))])) _
    refine XS.ldiv X396.here hx rfl (hb hby d7_42) rfl (by decide : ¬ ((100 : Int64) = (0 : Int64))) ?_
    show Steps p.tables e below (T396.setTop (mkF m 43 #[.val (.ref a_), .val (.int (1 : Int32)), .val (.ref b386), .unset, .unset] [(.long (((((3 : Int32).toInt64) * ((1 : Int32).toInt64)) + (99 : Int64)) / (100 : Int64)))])) _
    refine XS.lstoreN X396.here hx rfl (hb hby d7_43) rfl (l' := #[.val (.ref a_), .val (.int (1 : Int32)), .val (.ref b386), .val (.long (((((3 : Int32).toInt64) * ((1 : Int32).toInt64)) + (99 : Int64)) / (100 : Int64))), .second]) rfl ?_
    show Steps p.tables e below (T396.setTop (mkF m 44 #[.val (.ref a_), .val (.int (1 : Int32)), .val (.ref b386), .val (.long (((((3 : Int32).toInt64) * ((1 : Int32).toInt64)) + (99 : Int64)) / (100 : Int64))), .second] [])) _
    refine XS.aloadN X396.here hx rfl (hb hby d7_44) rfl rfl ?_
    show Steps p.tables e below (T396.setTop (mkF m 45 #[.val (.ref a_), .val (.int (1 : Int32)), .val (.ref b386), .val (.long (((((3 : Int32).toInt64) * ((1 : Int32).toInt64)) + (99 : Int64)) / (100 : Int64))), .second] [(.ref b386)])) _
    refine XS.lloadN X396.here hx rfl (hb hby d7_45) rfl ?_
    show Steps p.tables e below (T396.setTop (mkF m 46 #[.val (.ref a_), .val (.int (1 : Int32)), .val (.ref b386), .val (.long (((((3 : Int32).toInt64) * ((1 : Int32).toInt64)) + (99 : Int64)) / (100 : Int64))), .second] [(.long (((((3 : Int32).toInt64) * ((1 : Int32).toInt64)) + (99 : Int64)) / (100 : Int64))), (.ref b386)])) _
    refine XS.l2i X396.here hx rfl (hb hby d7_46) rfl ?_
    show Steps p.tables e below (T396.setTop (mkF m 47 #[.val (.ref a_), .val (.int (1 : Int32)), .val (.ref b386), .val (.long (((((3 : Int32).toInt64) * ((1 : Int32).toInt64)) + (99 : Int64)) / (100 : Int64))), .second] [(.int ((((((3 : Int32).toInt64) * ((1 : Int32).toInt64)) + (99 : Int64)) / (100 : Int64)).toInt32)), (.ref b386)])) _
    refine XS.iconst X396.here hx rfl (hb hby d7_47) ?_
    show Steps p.tables e below (T396.setTop (mkF m 48 #[.val (.ref a_), .val (.int (1 : Int32)), .val (.ref b386), .val (.long (((((3 : Int32).toInt64) * ((1 : Int32).toInt64)) + (99 : Int64)) / (100 : Int64))), .second] [(.int (1 : Int32)), (.int ((((((3 : Int32).toInt64) * ((1 : Int32).toInt64)) + (99 : Int64)) / (100 : Int64)).toInt32)), (.ref b386)])) _
    refine XS.isub X396.here hx rfl (hb hby d7_48) rfl ?_
    exact kk
  have pre398 : ∀ t, Steps p.tables e below (T396.setTop (mkF m 49 #[.val (.ref a_), .val (.int (1 : Int32)), .val (.ref b386), .val (.long (((((3 : Int32).toInt64) * ((1 : Int32).toInt64)) + (99 : Int64)) / (100 : Int64))), .second] [(.int (0 : Int32)), (.ref b386)])) t → Steps p.tables e below (s₁.setTop (entryFrame m #[(.ref a_), (.int (1 : Int32))] 5)) t := by
    intro t kk
    refine pre397 t ?_
    rw [(show (((((((3 : Int32).toInt64) * ((1 : Int32).toInt64)) + (99 : Int64)) / (100 : Int64)).toInt32) - (1 : Int32)) = (0 : Int32) by decide)]
    exact kk
  obtain ⟨cl399, Ar399, q399, S399, N399v, H399, G399⟩ := id Vq391
  have hin399 : ¬ ((0 : Int32) < 0 ∨ cl399.slots.size ≤ ((0 : Int32)).toNatClampNeg) := inb_of S399 ⟨by decide, by decide⟩
  have hat399 : cl399.slots[((0 : Int32)).toNatClampNeg]? = some (.long (own_s3_0 x0 x1 x2)) := Has.at H399 hin399 rfl
  have pre400 : ∀ t, Steps p.tables e below (T396.setTop (mkF m 55 #[.val (.ref a_), .val (.int (1 : Int32)), .val (.ref b386), .val (.long (((((3 : Int32).toInt64) * ((1 : Int32).toInt64)) + (99 : Int64)) / (100 : Int64))), .second] [(.double (FP.ddiv (FP.l2d (own_s3_0 x0 x1 x2)) (4696837146684686336 : UInt64)))])) t → Steps p.tables e below (s₁.setTop (entryFrame m #[(.ref a_), (.int (1 : Int32))] 5)) t := by
    intro t kk
    refine pre398 t ?_
    show Steps p.tables e below (T396.setTop (mkF m 49 #[.val (.ref a_), .val (.int (1 : Int32)), .val (.ref b386), .val (.long (((((3 : Int32).toInt64) * ((1 : Int32).toInt64)) + (99 : Int64)) / (100 : Int64))), .second] [(.int (0 : Int32)), (.ref b386)])) _
    refine X396.laload hx (j := (0 : Int32)) (v := (.long (own_s3_0 x0 x1 x2))) (by rw [e396]; exact Ar399.1) (State.isArrayOf_alike hZ.alike Ar399.2.1) Ar399.2.2 hin399 hat399 (g := (mkF m 49 #[.val (.ref a_), .val (.int (1 : Int32)), .val (.ref b386), .val (.long (((((3 : Int32).toInt64) * ((1 : Int32).toInt64)) + (99 : Int64)) / (100 : Int64))), .second] [(.int (0 : Int32)), (.ref b386)])) rfl rfl (hb hby d7_49) _ ?_
    show Steps p.tables e below (T396.setTop (mkF m 50 #[.val (.ref a_), .val (.int (1 : Int32)), .val (.ref b386), .val (.long (((((3 : Int32).toInt64) * ((1 : Int32).toInt64)) + (99 : Int64)) / (100 : Int64))), .second] [(.long (own_s3_0 x0 x1 x2))])) _
    refine own_l2d X396.here hx rfl (hb hby d7_50) rfl ?_
    show Steps p.tables e below (T396.setTop (mkF m 51 #[.val (.ref a_), .val (.int (1 : Int32)), .val (.ref b386), .val (.long (((((3 : Int32).toInt64) * ((1 : Int32).toInt64)) + (99 : Int64)) / (100 : Int64))), .second] [(.double (FP.l2d (own_s3_0 x0 x1 x2)))])) _
    refine X396.ldc2DoubleC hx hown (mvT hZ (hw _ (List.mem_of_getElem? (i := 62) rfl))) (g := (mkF m 51 #[.val (.ref a_), .val (.int (1 : Int32)), .val (.ref b386), .val (.long (((((3 : Int32).toInt64) * ((1 : Int32).toInt64)) + (99 : Int64)) / (100 : Int64))), .second] [(.double (FP.l2d (own_s3_0 x0 x1 x2)))])) rfl (hb hby d7_51) _ ?_
    show Steps p.tables e below (T396.setTop (mkF m 54 #[.val (.ref a_), .val (.int (1 : Int32)), .val (.ref b386), .val (.long (((((3 : Int32).toInt64) * ((1 : Int32).toInt64)) + (99 : Int64)) / (100 : Int64))), .second] [(.double (4696837146684686336 : UInt64)), (.double (FP.l2d (own_s3_0 x0 x1 x2)))])) _
    refine own_ddiv X396.here hx rfl (hb hby d7_54) rfl (own_fin _) ?_
    exact kk
  obtain ⟨fs, hr, hrun, hended, hW, hsame⟩ := X396.leave (v := some (.double (FP.ddiv (FP.l2d (own_s3_0 x0 x1 x2)) (4696837146684686336 : UInt64)))) (fun h => by rw [Bd.returns] at h; cases h)
  refine ⟨_, _, pre400 _ ?_, hrun, hended, _, _, rfl, ?_, ⟨_, rfl⟩, hW, hsame.mono (by decide) (by decide)⟩
  · show Steps p.tables e below (T396.setTop (mkF m 55 #[.val (.ref a_), .val (.int (1 : Int32)), .val (.ref b386), .val (.long (((((3 : Int32).toInt64) * ((1 : Int32).toInt64)) + (99 : Int64)) / (100 : Int64))), .second] [(.double (FP.ddiv (FP.l2d (own_s3_0 x0 x1 x2)) (4696837146684686336 : UInt64)))])) _
    exact retOut X396 hx Bd.returns rfl (Or.inr (Or.inr (Or.inl ⟨rfl, rfl, _, rfl⟩))) (hb hby d7_55) hr
  · show Q7_3_1 Z a_ b_ k_ x0 x1 x2 h0 n0 _ T396.heap _
    rw [e396]
    exact ⟨rfl, N391, KP391⟩
def Q7_3_50 (Z : State) (a_ : Addr) (b_ : Addr) (k_ : ClassId) (x0 : Int64) (x1 : Int64) (x2 : Int64) (h0 : Heap) (n0 : Nat) (v : Option Value) (h : Heap) (L : List Loc) : Prop := v = some (.double (FP.ddiv (FP.l2d (own_s3_1 x0 x1 x2)) (4696837146684686336 : UInt64))) ∧ Fr n0 L ∧ Keep h0 h []
set_option maxRecDepth 65536 in
set_option maxHeartbeats 40000000 in
theorem rm7_3_50 (l : Launch) (Z : State) (aA : Array Value) (hw : ∀ d ∈ tables_1, d.before aA Z = true) (ws : List Jvm.Cond) (a_ : Addr) (b_ : Addr) (k_ : ClassId) (x0 : Int64) (x1 : Int64) (x2 : Int64) (h0 : Heap) (n0 : Nat) (Z0 : n0 ≤ h0.size) (hne : a_ ≠ b_) (E_a : Exa Z h0 a_ "farspeak/greeter/Times") (F_nanos : Fld Z h0 a_ "farspeak/greeter/Times" "nanos" "[J" (.ref b_)) (F_size : Fld Z h0 a_ "farspeak/greeter/Times" "size" "I" (.int (3 : Int32))) (V_b : Arv Z h0 b_ k_ .long (1024 : Int32) [(.long x0), (.long x1), (.long x2)] (.long (0 : Int64))) :
    MetFree l (⟨"farspeak/greeter/Times", "percentileMillis", "(I)D"⟩ : MethodName) (head1 (Jvm.Cond.code (⟨"farspeak/greeter/Times", "percentileMillis", "(I)D"⟩ : MethodName) prog_53_method_5_code 5 (some .double) :: ws) ({ frames := 4, cells := 1, slots := 3, locals := 84 } : Room)) (fun a U => a = #[(.ref a_), (.int (50 : Int32))] ∧ Z.Warmed39 U.vm ∧ U.heap = h0) (fun _ _ _ _ _ => True) (fun _ U o U' => ∃ v L, o = .returned v ∧ Q7_3_50 Z a_ b_ k_ x0 x1 x2 h0 n0 v U'.heap L ∧ FrameEnd U o U' L ({ frames := 4, cells := 1, slots := 3, locals := 84 } : Room).cells ({ frames := 4, cells := 1, slots := 3, locals := 84 } : Room).slots) := by
  refine MetFree.of_bodySF (plainFor_of_name pn_farspeak_greeter_Times) hisR ?_
  intro p e s m args below meth c s₁ Bd hml0 hP hK
  obtain ⟨rfl, hZ, hh⟩ := hP
  have hx := Bd.exec
  have hby := Bd.bytes
  have hml : c.maxLocals = 5 := hml0
  have hown : s.vm.findClass "farspeak/greeter/Times" = some m.cls := findClass_of_methodNamed Bd.named
  have hnm := (name_of_methodNamed Bd.named Bd.method).1
  have X0 : Stand p l e ({ frames := 4, cells := 1, slots := 3, locals := 84 } : Room) s m #[(.ref a_), (.int (50 : Int32))] below meth c s₁ [] 0 0 := Stand.of_body Bd
  have e0 : s₁.heap = h0 := by rw [← hh, Bd.state]; rfl
  have N0 := Fr.nil n0
  have KP0 : Keep h0 h0 [] := Keep.refl h0 _
  have pre0 : ∀ t, Steps p.tables e below (s₁.setTop (mkF m 0 #[.val (.ref a_), .val (.int (50 : Int32)), .unset, .unset, .unset] [])) t → Steps p.tables e below (s₁.setTop (entryFrame m #[(.ref a_), (.int (50 : Int32))] 5)) t := fun t k => castTop (ef_7_RI m a_ (50 : Int32)) k
  obtain ⟨T407, X407, e407, st407⟩ := getF X0 hx hZ hown (host := "") (Or.inl (hw _ (List.mem_of_getElem? (i := 17) rfl))) Via.refl e0 F_size (g := (mkF m 1 #[.val (.ref a_), .val (.int (50 : Int32)), .unset, .unset, .unset] [(.ref a_)])) rfl rfl (hb hby d7_1)
  obtain ⟨T408, X408, e408, st408⟩ := getF X407 hx hZ hown (host := "") (Or.inl (hw _ (List.mem_of_getElem? (i := 10) rfl))) Via.refl e407 F_nanos (g := (mkF m 12 #[.val (.ref a_), .val (.int (50 : Int32)), .unset, .unset, .unset] [(.ref a_)])) rfl rfl (hb hby d7_12)
  obtain ⟨T409, X409, e409, st409⟩ := getF X408 hx hZ hown (host := "") (Or.inl (hw _ (List.mem_of_getElem? (i := 17) rfl))) Via.refl e408 F_size (g := (mkF m 16 #[.val (.ref a_), .val (.int (50 : Int32)), .unset, .unset, .unset] [(.ref a_), (.ref b_)])) rfl rfl (hb hby d7_16)
  obtain ⟨_, _, ⟨T410, L410, k410, n410⟩, -, X410, ⟨Lc410, hQ410, l410, y410, z410⟩, st410⟩ := Jvm.LawKit.callS X409 hx (y := (⟨"java/util/Arrays", "copyOf", "([JI)[J"⟩ : MethodName)) hown (mvT hZ (hw _ (List.mem_of_getElem? (i := 36) rfl))) (mvT hZ (hw _ (List.mem_of_getElem? (i := 37) rfl))) (mvT hZ (hw _ (List.mem_of_getElem? (i := 38) rfl))) (mvT hZ (hw _ (List.mem_of_getElem? (i := 39) rfl))) (by decide) (backOf (W := 0) (rm8_3 l Z aA hw [] b_ k_ x0 x1 x2 h0 n0 Z0 V_b) hZ (hw _ (List.mem_of_getElem? (i := 39) rfl)) (hw _ (List.mem_of_getElem? (i := 38) rfl)) (by decide) (by decide)) (g := (mkF m 19 #[.val (.ref a_), .val (.int (50 : Int32)), .unset, .unset, .unset] [(.int (3 : Int32)), (.ref b_)])) rfl (by rw [hml]; rfl) (argsL := [(.ref b_), (.int (3 : Int32))]) (rest := []) (lenOf pd__28_5bJI_29_5bJ rfl) rfl (by show 2 * 0 + _ ≤ _; exact Nat.le_of_eq rfl) (hb hby d7_19) (fun _ _ => ⟨rfl, e409, (by decide : 0 + 1 ≤ _), (by decide : 0 + 3 ≤ _)⟩)
  dsimp only [Pt.U, Pt.locs, Pt.cells, Pt.slots] at X410 l410 y410 z410 st410 hQ410
  subst l410 y410 z410
  obtain ⟨b410, kk410, rfl, N410q, K410, sz410, Vq410⟩ := hQ410
  have N410 := Fr.app N0 N410q
  have sz_b410 : h0.size ≤ b410 := Nat.le_trans KP0.1 sz410
  have g_b410 : n0 ≤ b410 := Nat.le_trans Z0 sz410
  have ne_a__b410 : a_ ≠ b410 := Nat.ne_of_lt (Nat.lt_of_lt_of_le E_a.lt sz410)
  have ne_b__b410 : b_ ≠ b410 := Nat.ne_of_lt (Nat.lt_of_lt_of_le V_b.lt sz410)
  have KP410 : Keep h0 T410.heap [] := KP0.trans K410 all0
  have Z410 : n0 ≤ T410.heap.size := Nat.le_trans Z0 K410.1
  have E_a__411 : Exa Z T410.heap a_ "farspeak/greeter/Times" := E_a.keep K410
  have F_a__nanos_412 : Fld Z T410.heap a_ "farspeak/greeter/Times" "nanos" "[J" (.ref b_) := F_nanos.keep K410 nin0
  have F_a__size_413 : Fld Z T410.heap a_ "farspeak/greeter/Times" "size" "I" (.int (3 : Int32)) := F_size.keep K410 nin0
  have V_b__414 : Arv Z T410.heap b_ k_ .long (1024 : Int32) [(.long x0), (.long x1), (.long x2)] (.long (0 : Int64)) := V_b.keep K410 nin0
  obtain ⟨_, _, ⟨T415, L415, k415, n415⟩, -, X415, ⟨Lc415, hQ415, l415, y415, z415⟩, st415⟩ := Jvm.LawKit.callS X410 hx (y := (⟨"java/util/Arrays", "sort", "([J)V"⟩ : MethodName)) hown (mvT hZ (hw _ (List.mem_of_getElem? (i := 47) rfl))) (mvT hZ (hw _ (List.mem_of_getElem? (i := 48) rfl))) (mvT hZ (hw _ (List.mem_of_getElem? (i := 38) rfl))) (mvT hZ (hw _ (List.mem_of_getElem? (i := 49) rfl))) (by decide) (backOf (W := 0) (rm10_3 l Z aA hw [] b410 kk410 x0 x1 x2 T410.heap n0 Z410 g_b410 Vq410) hZ (hw _ (List.mem_of_getElem? (i := 49) rfl)) (hw _ (List.mem_of_getElem? (i := 38) rfl)) (by decide) (by decide)) (g := (mkF m 24 #[.val (.ref a_), .val (.int (50 : Int32)), .val (.ref b410), .unset, .unset] [(.ref b410)])) rfl (by rw [hml]; rfl) (argsL := [(.ref b410)]) (rest := []) (lenOf pd__28_5bJ_29V rfl) rfl (by show 2 * 0 + _ ≤ _; exact Nat.le_of_eq rfl) (hb hby d7_24) (fun _ _ => ⟨rfl, rfl, (by decide : 1 + 0 ≤ _), (by decide : 3 + 0 ≤ _)⟩)
  dsimp only [Pt.U, Pt.locs, Pt.cells, Pt.slots] at X415 l415 y415 z415 st415 hQ415
  subst l415 y415 z415
  obtain ⟨rfl, N415q, K415, Vq415⟩ := hQ415
  have N415 := Fr.app N410 N415q
  have KP415 : Keep h0 T415.heap [] := KP410.trans K415 (allS (Or.inr sz_b410) all0)
  have Z415 : n0 ≤ T415.heap.size := Nat.le_trans Z410 K415.1
  have E_a__416 : Exa Z T415.heap a_ "farspeak/greeter/Times" := E_a__411.keep K415
  have F_a__nanos_417 : Fld Z T415.heap a_ "farspeak/greeter/Times" "nanos" "[J" (.ref b_) := F_a__nanos_412.keep K415 (ninS ne_a__b410 nin0)
  have F_a__size_418 : Fld Z T415.heap a_ "farspeak/greeter/Times" "size" "I" (.int (3 : Int32)) := F_a__size_413.keep K415 (ninS ne_a__b410 nin0)
  have V_b__419 : Arv Z T415.heap b_ k_ .long (1024 : Int32) [(.long x0), (.long x1), (.long x2)] (.long (0 : Int64)) := V_b__414.keep K415 (ninS ne_b__b410 nin0)
  obtain ⟨T420, X420, e420, st420⟩ := getF X415 hx hZ hown (host := "") (Or.inl (hw _ (List.mem_of_getElem? (i := 17) rfl))) Via.refl rfl F_a__size_418 (g := (mkF m 28 #[.val (.ref a_), .val (.int (50 : Int32)), .val (.ref b410), .unset, .unset] [(.ref a_)])) rfl rfl (hb hby d7_28)
  have pre421 : ∀ t, Steps p.tables e below (T420.setTop (mkF m 49 #[.val (.ref a_), .val (.int (50 : Int32)), .val (.ref b410), .val (.long (((((3 : Int32).toInt64) * ((50 : Int32).toInt64)) + (99 : Int64)) / (100 : Int64))), .second] [(.int (((((((3 : Int32).toInt64) * ((50 : Int32).toInt64)) + (99 : Int64)) / (100 : Int64)).toInt32) - (1 : Int32))), (.ref b410)])) t → Steps p.tables e below (s₁.setTop (entryFrame m #[(.ref a_), (.int (50 : Int32))] 5)) t := by
    intro t kk
    refine pre0 t ?_
    show Steps p.tables e below (s₁.setTop (mkF m 0 #[.val (.ref a_), .val (.int (50 : Int32)), .unset, .unset, .unset] [])) _
    refine XS.aloadN X0.here hx rfl (hb hby d7_0) rfl rfl ?_
    show Steps p.tables e below (s₁.setTop (mkF m 1 #[.val (.ref a_), .val (.int (50 : Int32)), .unset, .unset, .unset] [(.ref a_)])) _
    refine st407 _ ?_
    show Steps p.tables e below (T407.setTop (mkF m 4 #[.val (.ref a_), .val (.int (50 : Int32)), .unset, .unset, .unset] [(.int (3 : Int32))])) _
    refine XS.ifYes X407.here hx rfl (pc0 := 4) (pc' := 11) rfl (hb hby d7_4) rfl ((if0 _ _).trans (feq (by decide : ¬ ((3 : Int32) = (0 : Int32)))).2) (by decide) (by decide) ?_
    show Steps p.tables e below (T407.setTop (mkF m 11 #[.val (.ref a_), .val (.int (50 : Int32)), .unset, .unset, .unset] [])) _
    refine XS.aloadN X407.here hx rfl (hb hby d7_11) rfl rfl ?_
    show Steps p.tables e below (T407.setTop (mkF m 12 #[.val (.ref a_), .val (.int (50 : Int32)), .unset, .unset, .unset] [(.ref a_)])) _
    refine st408 _ ?_
    show Steps p.tables e below (T408.setTop (mkF m 15 #[.val (.ref a_), .val (.int (50 : Int32)), .unset, .unset, .unset] [(.ref b_)])) _
    refine XS.aloadN X408.here hx rfl (hb hby d7_15) rfl rfl ?_
    show Steps p.tables e below (T408.setTop (mkF m 16 #[.val (.ref a_), .val (.int (50 : Int32)), .unset, .unset, .unset] [(.ref a_), (.ref b_)])) _
    refine st409 _ ?_
    show Steps p.tables e below (T409.setTop (mkF m 19 #[.val (.ref a_), .val (.int (50 : Int32)), .unset, .unset, .unset] [(.int (3 : Int32)), (.ref b_)])) _
    refine st410 _ ?_
    show Steps p.tables e below (T410.setTop (mkF m 22 #[.val (.ref a_), .val (.int (50 : Int32)), .unset, .unset, .unset] [(.ref b410)])) _
    refine XS.astoreN X410.here hx rfl (hb hby d7_22) rfl rfl (l' := #[.val (.ref a_), .val (.int (50 : Int32)), .val (.ref b410), .unset, .unset]) rfl ?_
    show Steps p.tables e below (T410.setTop (mkF m 23 #[.val (.ref a_), .val (.int (50 : Int32)), .val (.ref b410), .unset, .unset] [])) _
    refine XS.aloadN X410.here hx rfl (hb hby d7_23) rfl rfl ?_
    show Steps p.tables e below (T410.setTop (mkF m 24 #[.val (.ref a_), .val (.int (50 : Int32)), .val (.ref b410), .unset, .unset] [(.ref b410)])) _
    refine st415 _ ?_
    show Steps p.tables e below (T415.setTop (mkF m 27 #[.val (.ref a_), .val (.int (50 : Int32)), .val (.ref b410), .unset, .unset] [])) _
    refine XS.aloadN X415.here hx rfl (hb hby d7_27) rfl rfl ?_
    show Steps p.tables e below (T415.setTop (mkF m 28 #[.val (.ref a_), .val (.int (50 : Int32)), .val (.ref b410), .unset, .unset] [(.ref a_)])) _
    refine st420 _ ?_
    show Steps p.tables e below (T420.setTop (mkF m 31 #[.val (.ref a_), .val (.int (50 : Int32)), .val (.ref b410), .unset, .unset] [(.int (3 : Int32))])) _
    refine XS.i2l X420.here hx rfl (hb hby d7_31) rfl ?_
    show Steps p.tables e below (T420.setTop (mkF m 32 #[.val (.ref a_), .val (.int (50 : Int32)), .val (.ref b410), .unset, .unset] [(.long ((3 : Int32).toInt64))])) _
    refine XS.iloadN X420.here hx rfl (hb hby d7_32) rfl ?_
    show Steps p.tables e below (T420.setTop (mkF m 33 #[.val (.ref a_), .val (.int (50 : Int32)), .val (.ref b410), .unset, .unset] [(.int (50 : Int32)), (.long ((3 : Int32).toInt64))])) _
    refine XS.i2l X420.here hx rfl (hb hby d7_33) rfl ?_
    show Steps p.tables e below (T420.setTop (mkF m 34 #[.val (.ref a_), .val (.int (50 : Int32)), .val (.ref b410), .unset, .unset] [(.long ((50 : Int32).toInt64)), (.long ((3 : Int32).toInt64))])) _
    refine XS.lmul X420.here hx rfl (hb hby d7_34) rfl ?_
    show Steps p.tables e below (T420.setTop (mkF m 35 #[.val (.ref a_), .val (.int (50 : Int32)), .val (.ref b410), .unset, .unset] [(.long (((3 : Int32).toInt64) * ((50 : Int32).toInt64)))])) _
    refine X420.ldc2Long hx hown (mvT hZ (hw _ (List.mem_of_getElem? (i := 60) rfl))) (g := (mkF m 35 #[.val (.ref a_), .val (.int (50 : Int32)), .val (.ref b410), .unset, .unset] [(.long (((3 : Int32).toInt64) * ((50 : Int32).toInt64)))])) rfl (hb hby d7_35) _ ?_
    show Steps p.tables e below (T420.setTop (mkF m 38 #[.val (.ref a_), .val (.int (50 : Int32)), .val (.ref b410), .unset, .unset] [(.long (99 : Int64)), (.long (((3 : Int32).toInt64) * ((50 : Int32).toInt64)))])) _
    refine XS.ladd X420.here hx rfl (hb hby d7_38) rfl ?_
    show Steps p.tables e below (T420.setTop (mkF m 39 #[.val (.ref a_), .val (.int (50 : Int32)), .val (.ref b410), .unset, .unset] [(.long ((((3 : Int32).toInt64) * ((50 : Int32).toInt64)) + (99 : Int64)))])) _
    refine X420.ldc2Long hx hown (mvT hZ (hw _ (List.mem_of_getElem? (i := 61) rfl))) (g := (mkF m 39 #[.val (.ref a_), .val (.int (50 : Int32)), .val (.ref b410), .unset, .unset] [(.long ((((3 : Int32).toInt64) * ((50 : Int32).toInt64)) + (99 : Int64)))])) rfl (hb hby d7_39) _ ?_
    show Steps p.tables e below (T420.setTop (mkF m 42 #[.val (.ref a_), .val (.int (50 : Int32)), .val (.ref b410), .unset, .unset] [(.long (100 : Int64)), (.long ((((3 : Int32).toInt64) * ((50 : Int32).toInt64)) + (99 : Int64)))])) _
    refine XS.ldiv X420.here hx rfl (hb hby d7_42) rfl (by decide : ¬ ((100 : Int64) = (0 : Int64))) ?_
    show Steps p.tables e below (T420.setTop (mkF m 43 #[.val (.ref a_), .val (.int (50 : Int32)), .val (.ref b410), .unset, .unset] [(.long (((((3 : Int32).toInt64) * ((50 : Int32).toInt64)) + (99 : Int64)) / (100 : Int64)))])) _
    refine XS.lstoreN X420.here hx rfl (hb hby d7_43) rfl (l' := #[.val (.ref a_), .val (.int (50 : Int32)), .val (.ref b410), .val (.long (((((3 : Int32).toInt64) * ((50 : Int32).toInt64)) + (99 : Int64)) / (100 : Int64))), .second]) rfl ?_
    show Steps p.tables e below (T420.setTop (mkF m 44 #[.val (.ref a_), .val (.int (50 : Int32)), .val (.ref b410), .val (.long (((((3 : Int32).toInt64) * ((50 : Int32).toInt64)) + (99 : Int64)) / (100 : Int64))), .second] [])) _
    refine XS.aloadN X420.here hx rfl (hb hby d7_44) rfl rfl ?_
    show Steps p.tables e below (T420.setTop (mkF m 45 #[.val (.ref a_), .val (.int (50 : Int32)), .val (.ref b410), .val (.long (((((3 : Int32).toInt64) * ((50 : Int32).toInt64)) + (99 : Int64)) / (100 : Int64))), .second] [(.ref b410)])) _
    refine XS.lloadN X420.here hx rfl (hb hby d7_45) rfl ?_
    show Steps p.tables e below (T420.setTop (mkF m 46 #[.val (.ref a_), .val (.int (50 : Int32)), .val (.ref b410), .val (.long (((((3 : Int32).toInt64) * ((50 : Int32).toInt64)) + (99 : Int64)) / (100 : Int64))), .second] [(.long (((((3 : Int32).toInt64) * ((50 : Int32).toInt64)) + (99 : Int64)) / (100 : Int64))), (.ref b410)])) _
    refine XS.l2i X420.here hx rfl (hb hby d7_46) rfl ?_
    show Steps p.tables e below (T420.setTop (mkF m 47 #[.val (.ref a_), .val (.int (50 : Int32)), .val (.ref b410), .val (.long (((((3 : Int32).toInt64) * ((50 : Int32).toInt64)) + (99 : Int64)) / (100 : Int64))), .second] [(.int ((((((3 : Int32).toInt64) * ((50 : Int32).toInt64)) + (99 : Int64)) / (100 : Int64)).toInt32)), (.ref b410)])) _
    refine XS.iconst X420.here hx rfl (hb hby d7_47) ?_
    show Steps p.tables e below (T420.setTop (mkF m 48 #[.val (.ref a_), .val (.int (50 : Int32)), .val (.ref b410), .val (.long (((((3 : Int32).toInt64) * ((50 : Int32).toInt64)) + (99 : Int64)) / (100 : Int64))), .second] [(.int (1 : Int32)), (.int ((((((3 : Int32).toInt64) * ((50 : Int32).toInt64)) + (99 : Int64)) / (100 : Int64)).toInt32)), (.ref b410)])) _
    refine XS.isub X420.here hx rfl (hb hby d7_48) rfl ?_
    exact kk
  have pre422 : ∀ t, Steps p.tables e below (T420.setTop (mkF m 49 #[.val (.ref a_), .val (.int (50 : Int32)), .val (.ref b410), .val (.long (((((3 : Int32).toInt64) * ((50 : Int32).toInt64)) + (99 : Int64)) / (100 : Int64))), .second] [(.int (1 : Int32)), (.ref b410)])) t → Steps p.tables e below (s₁.setTop (entryFrame m #[(.ref a_), (.int (50 : Int32))] 5)) t := by
    intro t kk
    refine pre421 t ?_
    rw [(show (((((((3 : Int32).toInt64) * ((50 : Int32).toInt64)) + (99 : Int64)) / (100 : Int64)).toInt32) - (1 : Int32)) = (1 : Int32) by decide)]
    exact kk
  obtain ⟨cl423, Ar423, q423, S423, N423v, H423, G423⟩ := id Vq415
  have hin423 : ¬ ((1 : Int32) < 0 ∨ cl423.slots.size ≤ ((1 : Int32)).toNatClampNeg) := inb_of S423 ⟨by decide, by decide⟩
  have hat423 : cl423.slots[((1 : Int32)).toNatClampNeg]? = some (.long (own_s3_1 x0 x1 x2)) := Has.at H423 hin423 rfl
  have pre424 : ∀ t, Steps p.tables e below (T420.setTop (mkF m 55 #[.val (.ref a_), .val (.int (50 : Int32)), .val (.ref b410), .val (.long (((((3 : Int32).toInt64) * ((50 : Int32).toInt64)) + (99 : Int64)) / (100 : Int64))), .second] [(.double (FP.ddiv (FP.l2d (own_s3_1 x0 x1 x2)) (4696837146684686336 : UInt64)))])) t → Steps p.tables e below (s₁.setTop (entryFrame m #[(.ref a_), (.int (50 : Int32))] 5)) t := by
    intro t kk
    refine pre422 t ?_
    show Steps p.tables e below (T420.setTop (mkF m 49 #[.val (.ref a_), .val (.int (50 : Int32)), .val (.ref b410), .val (.long (((((3 : Int32).toInt64) * ((50 : Int32).toInt64)) + (99 : Int64)) / (100 : Int64))), .second] [(.int (1 : Int32)), (.ref b410)])) _
    refine X420.laload hx (j := (1 : Int32)) (v := (.long (own_s3_1 x0 x1 x2))) (by rw [e420]; exact Ar423.1) (State.isArrayOf_alike hZ.alike Ar423.2.1) Ar423.2.2 hin423 hat423 (g := (mkF m 49 #[.val (.ref a_), .val (.int (50 : Int32)), .val (.ref b410), .val (.long (((((3 : Int32).toInt64) * ((50 : Int32).toInt64)) + (99 : Int64)) / (100 : Int64))), .second] [(.int (1 : Int32)), (.ref b410)])) rfl rfl (hb hby d7_49) _ ?_
    show Steps p.tables e below (T420.setTop (mkF m 50 #[.val (.ref a_), .val (.int (50 : Int32)), .val (.ref b410), .val (.long (((((3 : Int32).toInt64) * ((50 : Int32).toInt64)) + (99 : Int64)) / (100 : Int64))), .second] [(.long (own_s3_1 x0 x1 x2))])) _
    refine own_l2d X420.here hx rfl (hb hby d7_50) rfl ?_
    show Steps p.tables e below (T420.setTop (mkF m 51 #[.val (.ref a_), .val (.int (50 : Int32)), .val (.ref b410), .val (.long (((((3 : Int32).toInt64) * ((50 : Int32).toInt64)) + (99 : Int64)) / (100 : Int64))), .second] [(.double (FP.l2d (own_s3_1 x0 x1 x2)))])) _
    refine X420.ldc2DoubleC hx hown (mvT hZ (hw _ (List.mem_of_getElem? (i := 62) rfl))) (g := (mkF m 51 #[.val (.ref a_), .val (.int (50 : Int32)), .val (.ref b410), .val (.long (((((3 : Int32).toInt64) * ((50 : Int32).toInt64)) + (99 : Int64)) / (100 : Int64))), .second] [(.double (FP.l2d (own_s3_1 x0 x1 x2)))])) rfl (hb hby d7_51) _ ?_
    show Steps p.tables e below (T420.setTop (mkF m 54 #[.val (.ref a_), .val (.int (50 : Int32)), .val (.ref b410), .val (.long (((((3 : Int32).toInt64) * ((50 : Int32).toInt64)) + (99 : Int64)) / (100 : Int64))), .second] [(.double (4696837146684686336 : UInt64)), (.double (FP.l2d (own_s3_1 x0 x1 x2)))])) _
    refine own_ddiv X420.here hx rfl (hb hby d7_54) rfl (own_fin _) ?_
    exact kk
  obtain ⟨fs, hr, hrun, hended, hW, hsame⟩ := X420.leave (v := some (.double (FP.ddiv (FP.l2d (own_s3_1 x0 x1 x2)) (4696837146684686336 : UInt64)))) (fun h => by rw [Bd.returns] at h; cases h)
  refine ⟨_, _, pre424 _ ?_, hrun, hended, _, _, rfl, ?_, ⟨_, rfl⟩, hW, hsame.mono (by decide) (by decide)⟩
  · show Steps p.tables e below (T420.setTop (mkF m 55 #[.val (.ref a_), .val (.int (50 : Int32)), .val (.ref b410), .val (.long (((((3 : Int32).toInt64) * ((50 : Int32).toInt64)) + (99 : Int64)) / (100 : Int64))), .second] [(.double (FP.ddiv (FP.l2d (own_s3_1 x0 x1 x2)) (4696837146684686336 : UInt64)))])) _
    exact retOut X420 hx Bd.returns rfl (Or.inr (Or.inr (Or.inl ⟨rfl, rfl, _, rfl⟩))) (hb hby d7_55) hr
  · show Q7_3_50 Z a_ b_ k_ x0 x1 x2 h0 n0 _ T420.heap _
    rw [e420]
    exact ⟨rfl, N415, KP415⟩
def Q7_3_100 (Z : State) (a_ : Addr) (b_ : Addr) (k_ : ClassId) (x0 : Int64) (x1 : Int64) (x2 : Int64) (h0 : Heap) (n0 : Nat) (v : Option Value) (h : Heap) (L : List Loc) : Prop := v = some (.double (FP.ddiv (FP.l2d (own_s3_2 x0 x1 x2)) (4696837146684686336 : UInt64))) ∧ Fr n0 L ∧ Keep h0 h []
set_option maxRecDepth 65536 in
set_option maxHeartbeats 40000000 in
theorem rm7_3_100 (l : Launch) (Z : State) (aA : Array Value) (hw : ∀ d ∈ tables_1, d.before aA Z = true) (ws : List Jvm.Cond) (a_ : Addr) (b_ : Addr) (k_ : ClassId) (x0 : Int64) (x1 : Int64) (x2 : Int64) (h0 : Heap) (n0 : Nat) (Z0 : n0 ≤ h0.size) (hne : a_ ≠ b_) (E_a : Exa Z h0 a_ "farspeak/greeter/Times") (F_nanos : Fld Z h0 a_ "farspeak/greeter/Times" "nanos" "[J" (.ref b_)) (F_size : Fld Z h0 a_ "farspeak/greeter/Times" "size" "I" (.int (3 : Int32))) (V_b : Arv Z h0 b_ k_ .long (1024 : Int32) [(.long x0), (.long x1), (.long x2)] (.long (0 : Int64))) :
    MetFree l (⟨"farspeak/greeter/Times", "percentileMillis", "(I)D"⟩ : MethodName) (head1 (Jvm.Cond.code (⟨"farspeak/greeter/Times", "percentileMillis", "(I)D"⟩ : MethodName) prog_53_method_5_code 5 (some .double) :: ws) ({ frames := 4, cells := 1, slots := 3, locals := 84 } : Room)) (fun a U => a = #[(.ref a_), (.int (100 : Int32))] ∧ Z.Warmed39 U.vm ∧ U.heap = h0) (fun _ _ _ _ _ => True) (fun _ U o U' => ∃ v L, o = .returned v ∧ Q7_3_100 Z a_ b_ k_ x0 x1 x2 h0 n0 v U'.heap L ∧ FrameEnd U o U' L ({ frames := 4, cells := 1, slots := 3, locals := 84 } : Room).cells ({ frames := 4, cells := 1, slots := 3, locals := 84 } : Room).slots) := by
  refine MetFree.of_bodySF (plainFor_of_name pn_farspeak_greeter_Times) hisR ?_
  intro p e s m args below meth c s₁ Bd hml0 hP hK
  obtain ⟨rfl, hZ, hh⟩ := hP
  have hx := Bd.exec
  have hby := Bd.bytes
  have hml : c.maxLocals = 5 := hml0
  have hown : s.vm.findClass "farspeak/greeter/Times" = some m.cls := findClass_of_methodNamed Bd.named
  have hnm := (name_of_methodNamed Bd.named Bd.method).1
  have X0 : Stand p l e ({ frames := 4, cells := 1, slots := 3, locals := 84 } : Room) s m #[(.ref a_), (.int (100 : Int32))] below meth c s₁ [] 0 0 := Stand.of_body Bd
  have e0 : s₁.heap = h0 := by rw [← hh, Bd.state]; rfl
  have N0 := Fr.nil n0
  have KP0 : Keep h0 h0 [] := Keep.refl h0 _
  have pre0 : ∀ t, Steps p.tables e below (s₁.setTop (mkF m 0 #[.val (.ref a_), .val (.int (100 : Int32)), .unset, .unset, .unset] [])) t → Steps p.tables e below (s₁.setTop (entryFrame m #[(.ref a_), (.int (100 : Int32))] 5)) t := fun t k => castTop (ef_7_RI m a_ (100 : Int32)) k
  obtain ⟨T431, X431, e431, st431⟩ := getF X0 hx hZ hown (host := "") (Or.inl (hw _ (List.mem_of_getElem? (i := 17) rfl))) Via.refl e0 F_size (g := (mkF m 1 #[.val (.ref a_), .val (.int (100 : Int32)), .unset, .unset, .unset] [(.ref a_)])) rfl rfl (hb hby d7_1)
  obtain ⟨T432, X432, e432, st432⟩ := getF X431 hx hZ hown (host := "") (Or.inl (hw _ (List.mem_of_getElem? (i := 10) rfl))) Via.refl e431 F_nanos (g := (mkF m 12 #[.val (.ref a_), .val (.int (100 : Int32)), .unset, .unset, .unset] [(.ref a_)])) rfl rfl (hb hby d7_12)
  obtain ⟨T433, X433, e433, st433⟩ := getF X432 hx hZ hown (host := "") (Or.inl (hw _ (List.mem_of_getElem? (i := 17) rfl))) Via.refl e432 F_size (g := (mkF m 16 #[.val (.ref a_), .val (.int (100 : Int32)), .unset, .unset, .unset] [(.ref a_), (.ref b_)])) rfl rfl (hb hby d7_16)
  obtain ⟨_, _, ⟨T434, L434, k434, n434⟩, -, X434, ⟨Lc434, hQ434, l434, y434, z434⟩, st434⟩ := Jvm.LawKit.callS X433 hx (y := (⟨"java/util/Arrays", "copyOf", "([JI)[J"⟩ : MethodName)) hown (mvT hZ (hw _ (List.mem_of_getElem? (i := 36) rfl))) (mvT hZ (hw _ (List.mem_of_getElem? (i := 37) rfl))) (mvT hZ (hw _ (List.mem_of_getElem? (i := 38) rfl))) (mvT hZ (hw _ (List.mem_of_getElem? (i := 39) rfl))) (by decide) (backOf (W := 0) (rm8_3 l Z aA hw [] b_ k_ x0 x1 x2 h0 n0 Z0 V_b) hZ (hw _ (List.mem_of_getElem? (i := 39) rfl)) (hw _ (List.mem_of_getElem? (i := 38) rfl)) (by decide) (by decide)) (g := (mkF m 19 #[.val (.ref a_), .val (.int (100 : Int32)), .unset, .unset, .unset] [(.int (3 : Int32)), (.ref b_)])) rfl (by rw [hml]; rfl) (argsL := [(.ref b_), (.int (3 : Int32))]) (rest := []) (lenOf pd__28_5bJI_29_5bJ rfl) rfl (by show 2 * 0 + _ ≤ _; exact Nat.le_of_eq rfl) (hb hby d7_19) (fun _ _ => ⟨rfl, e433, (by decide : 0 + 1 ≤ _), (by decide : 0 + 3 ≤ _)⟩)
  dsimp only [Pt.U, Pt.locs, Pt.cells, Pt.slots] at X434 l434 y434 z434 st434 hQ434
  subst l434 y434 z434
  obtain ⟨b434, kk434, rfl, N434q, K434, sz434, Vq434⟩ := hQ434
  have N434 := Fr.app N0 N434q
  have sz_b434 : h0.size ≤ b434 := Nat.le_trans KP0.1 sz434
  have g_b434 : n0 ≤ b434 := Nat.le_trans Z0 sz434
  have ne_a__b434 : a_ ≠ b434 := Nat.ne_of_lt (Nat.lt_of_lt_of_le E_a.lt sz434)
  have ne_b__b434 : b_ ≠ b434 := Nat.ne_of_lt (Nat.lt_of_lt_of_le V_b.lt sz434)
  have KP434 : Keep h0 T434.heap [] := KP0.trans K434 all0
  have Z434 : n0 ≤ T434.heap.size := Nat.le_trans Z0 K434.1
  have E_a__435 : Exa Z T434.heap a_ "farspeak/greeter/Times" := E_a.keep K434
  have F_a__nanos_436 : Fld Z T434.heap a_ "farspeak/greeter/Times" "nanos" "[J" (.ref b_) := F_nanos.keep K434 nin0
  have F_a__size_437 : Fld Z T434.heap a_ "farspeak/greeter/Times" "size" "I" (.int (3 : Int32)) := F_size.keep K434 nin0
  have V_b__438 : Arv Z T434.heap b_ k_ .long (1024 : Int32) [(.long x0), (.long x1), (.long x2)] (.long (0 : Int64)) := V_b.keep K434 nin0
  obtain ⟨_, _, ⟨T439, L439, k439, n439⟩, -, X439, ⟨Lc439, hQ439, l439, y439, z439⟩, st439⟩ := Jvm.LawKit.callS X434 hx (y := (⟨"java/util/Arrays", "sort", "([J)V"⟩ : MethodName)) hown (mvT hZ (hw _ (List.mem_of_getElem? (i := 47) rfl))) (mvT hZ (hw _ (List.mem_of_getElem? (i := 48) rfl))) (mvT hZ (hw _ (List.mem_of_getElem? (i := 38) rfl))) (mvT hZ (hw _ (List.mem_of_getElem? (i := 49) rfl))) (by decide) (backOf (W := 0) (rm10_3 l Z aA hw [] b434 kk434 x0 x1 x2 T434.heap n0 Z434 g_b434 Vq434) hZ (hw _ (List.mem_of_getElem? (i := 49) rfl)) (hw _ (List.mem_of_getElem? (i := 38) rfl)) (by decide) (by decide)) (g := (mkF m 24 #[.val (.ref a_), .val (.int (100 : Int32)), .val (.ref b434), .unset, .unset] [(.ref b434)])) rfl (by rw [hml]; rfl) (argsL := [(.ref b434)]) (rest := []) (lenOf pd__28_5bJ_29V rfl) rfl (by show 2 * 0 + _ ≤ _; exact Nat.le_of_eq rfl) (hb hby d7_24) (fun _ _ => ⟨rfl, rfl, (by decide : 1 + 0 ≤ _), (by decide : 3 + 0 ≤ _)⟩)
  dsimp only [Pt.U, Pt.locs, Pt.cells, Pt.slots] at X439 l439 y439 z439 st439 hQ439
  subst l439 y439 z439
  obtain ⟨rfl, N439q, K439, Vq439⟩ := hQ439
  have N439 := Fr.app N434 N439q
  have KP439 : Keep h0 T439.heap [] := KP434.trans K439 (allS (Or.inr sz_b434) all0)
  have Z439 : n0 ≤ T439.heap.size := Nat.le_trans Z434 K439.1
  have E_a__440 : Exa Z T439.heap a_ "farspeak/greeter/Times" := E_a__435.keep K439
  have F_a__nanos_441 : Fld Z T439.heap a_ "farspeak/greeter/Times" "nanos" "[J" (.ref b_) := F_a__nanos_436.keep K439 (ninS ne_a__b434 nin0)
  have F_a__size_442 : Fld Z T439.heap a_ "farspeak/greeter/Times" "size" "I" (.int (3 : Int32)) := F_a__size_437.keep K439 (ninS ne_a__b434 nin0)
  have V_b__443 : Arv Z T439.heap b_ k_ .long (1024 : Int32) [(.long x0), (.long x1), (.long x2)] (.long (0 : Int64)) := V_b__438.keep K439 (ninS ne_b__b434 nin0)
  obtain ⟨T444, X444, e444, st444⟩ := getF X439 hx hZ hown (host := "") (Or.inl (hw _ (List.mem_of_getElem? (i := 17) rfl))) Via.refl rfl F_a__size_442 (g := (mkF m 28 #[.val (.ref a_), .val (.int (100 : Int32)), .val (.ref b434), .unset, .unset] [(.ref a_)])) rfl rfl (hb hby d7_28)
  have pre445 : ∀ t, Steps p.tables e below (T444.setTop (mkF m 49 #[.val (.ref a_), .val (.int (100 : Int32)), .val (.ref b434), .val (.long (((((3 : Int32).toInt64) * ((100 : Int32).toInt64)) + (99 : Int64)) / (100 : Int64))), .second] [(.int (((((((3 : Int32).toInt64) * ((100 : Int32).toInt64)) + (99 : Int64)) / (100 : Int64)).toInt32) - (1 : Int32))), (.ref b434)])) t → Steps p.tables e below (s₁.setTop (entryFrame m #[(.ref a_), (.int (100 : Int32))] 5)) t := by
    intro t kk
    refine pre0 t ?_
    show Steps p.tables e below (s₁.setTop (mkF m 0 #[.val (.ref a_), .val (.int (100 : Int32)), .unset, .unset, .unset] [])) _
    refine XS.aloadN X0.here hx rfl (hb hby d7_0) rfl rfl ?_
    show Steps p.tables e below (s₁.setTop (mkF m 1 #[.val (.ref a_), .val (.int (100 : Int32)), .unset, .unset, .unset] [(.ref a_)])) _
    refine st431 _ ?_
    show Steps p.tables e below (T431.setTop (mkF m 4 #[.val (.ref a_), .val (.int (100 : Int32)), .unset, .unset, .unset] [(.int (3 : Int32))])) _
    refine XS.ifYes X431.here hx rfl (pc0 := 4) (pc' := 11) rfl (hb hby d7_4) rfl ((if0 _ _).trans (feq (by decide : ¬ ((3 : Int32) = (0 : Int32)))).2) (by decide) (by decide) ?_
    show Steps p.tables e below (T431.setTop (mkF m 11 #[.val (.ref a_), .val (.int (100 : Int32)), .unset, .unset, .unset] [])) _
    refine XS.aloadN X431.here hx rfl (hb hby d7_11) rfl rfl ?_
    show Steps p.tables e below (T431.setTop (mkF m 12 #[.val (.ref a_), .val (.int (100 : Int32)), .unset, .unset, .unset] [(.ref a_)])) _
    refine st432 _ ?_
    show Steps p.tables e below (T432.setTop (mkF m 15 #[.val (.ref a_), .val (.int (100 : Int32)), .unset, .unset, .unset] [(.ref b_)])) _
    refine XS.aloadN X432.here hx rfl (hb hby d7_15) rfl rfl ?_
    show Steps p.tables e below (T432.setTop (mkF m 16 #[.val (.ref a_), .val (.int (100 : Int32)), .unset, .unset, .unset] [(.ref a_), (.ref b_)])) _
    refine st433 _ ?_
    show Steps p.tables e below (T433.setTop (mkF m 19 #[.val (.ref a_), .val (.int (100 : Int32)), .unset, .unset, .unset] [(.int (3 : Int32)), (.ref b_)])) _
    refine st434 _ ?_
    show Steps p.tables e below (T434.setTop (mkF m 22 #[.val (.ref a_), .val (.int (100 : Int32)), .unset, .unset, .unset] [(.ref b434)])) _
    refine XS.astoreN X434.here hx rfl (hb hby d7_22) rfl rfl (l' := #[.val (.ref a_), .val (.int (100 : Int32)), .val (.ref b434), .unset, .unset]) rfl ?_
    show Steps p.tables e below (T434.setTop (mkF m 23 #[.val (.ref a_), .val (.int (100 : Int32)), .val (.ref b434), .unset, .unset] [])) _
    refine XS.aloadN X434.here hx rfl (hb hby d7_23) rfl rfl ?_
    show Steps p.tables e below (T434.setTop (mkF m 24 #[.val (.ref a_), .val (.int (100 : Int32)), .val (.ref b434), .unset, .unset] [(.ref b434)])) _
    refine st439 _ ?_
    show Steps p.tables e below (T439.setTop (mkF m 27 #[.val (.ref a_), .val (.int (100 : Int32)), .val (.ref b434), .unset, .unset] [])) _
    refine XS.aloadN X439.here hx rfl (hb hby d7_27) rfl rfl ?_
    show Steps p.tables e below (T439.setTop (mkF m 28 #[.val (.ref a_), .val (.int (100 : Int32)), .val (.ref b434), .unset, .unset] [(.ref a_)])) _
    refine st444 _ ?_
    show Steps p.tables e below (T444.setTop (mkF m 31 #[.val (.ref a_), .val (.int (100 : Int32)), .val (.ref b434), .unset, .unset] [(.int (3 : Int32))])) _
    refine XS.i2l X444.here hx rfl (hb hby d7_31) rfl ?_
    show Steps p.tables e below (T444.setTop (mkF m 32 #[.val (.ref a_), .val (.int (100 : Int32)), .val (.ref b434), .unset, .unset] [(.long ((3 : Int32).toInt64))])) _
    refine XS.iloadN X444.here hx rfl (hb hby d7_32) rfl ?_
    show Steps p.tables e below (T444.setTop (mkF m 33 #[.val (.ref a_), .val (.int (100 : Int32)), .val (.ref b434), .unset, .unset] [(.int (100 : Int32)), (.long ((3 : Int32).toInt64))])) _
    refine XS.i2l X444.here hx rfl (hb hby d7_33) rfl ?_
    show Steps p.tables e below (T444.setTop (mkF m 34 #[.val (.ref a_), .val (.int (100 : Int32)), .val (.ref b434), .unset, .unset] [(.long ((100 : Int32).toInt64)), (.long ((3 : Int32).toInt64))])) _
    refine XS.lmul X444.here hx rfl (hb hby d7_34) rfl ?_
    show Steps p.tables e below (T444.setTop (mkF m 35 #[.val (.ref a_), .val (.int (100 : Int32)), .val (.ref b434), .unset, .unset] [(.long (((3 : Int32).toInt64) * ((100 : Int32).toInt64)))])) _
    refine X444.ldc2Long hx hown (mvT hZ (hw _ (List.mem_of_getElem? (i := 60) rfl))) (g := (mkF m 35 #[.val (.ref a_), .val (.int (100 : Int32)), .val (.ref b434), .unset, .unset] [(.long (((3 : Int32).toInt64) * ((100 : Int32).toInt64)))])) rfl (hb hby d7_35) _ ?_
    show Steps p.tables e below (T444.setTop (mkF m 38 #[.val (.ref a_), .val (.int (100 : Int32)), .val (.ref b434), .unset, .unset] [(.long (99 : Int64)), (.long (((3 : Int32).toInt64) * ((100 : Int32).toInt64)))])) _
    refine XS.ladd X444.here hx rfl (hb hby d7_38) rfl ?_
    show Steps p.tables e below (T444.setTop (mkF m 39 #[.val (.ref a_), .val (.int (100 : Int32)), .val (.ref b434), .unset, .unset] [(.long ((((3 : Int32).toInt64) * ((100 : Int32).toInt64)) + (99 : Int64)))])) _
    refine X444.ldc2Long hx hown (mvT hZ (hw _ (List.mem_of_getElem? (i := 61) rfl))) (g := (mkF m 39 #[.val (.ref a_), .val (.int (100 : Int32)), .val (.ref b434), .unset, .unset] [(.long ((((3 : Int32).toInt64) * ((100 : Int32).toInt64)) + (99 : Int64)))])) rfl (hb hby d7_39) _ ?_
    show Steps p.tables e below (T444.setTop (mkF m 42 #[.val (.ref a_), .val (.int (100 : Int32)), .val (.ref b434), .unset, .unset] [(.long (100 : Int64)), (.long ((((3 : Int32).toInt64) * ((100 : Int32).toInt64)) + (99 : Int64)))])) _
    refine XS.ldiv X444.here hx rfl (hb hby d7_42) rfl (by decide : ¬ ((100 : Int64) = (0 : Int64))) ?_
    show Steps p.tables e below (T444.setTop (mkF m 43 #[.val (.ref a_), .val (.int (100 : Int32)), .val (.ref b434), .unset, .unset] [(.long (((((3 : Int32).toInt64) * ((100 : Int32).toInt64)) + (99 : Int64)) / (100 : Int64)))])) _
    refine XS.lstoreN X444.here hx rfl (hb hby d7_43) rfl (l' := #[.val (.ref a_), .val (.int (100 : Int32)), .val (.ref b434), .val (.long (((((3 : Int32).toInt64) * ((100 : Int32).toInt64)) + (99 : Int64)) / (100 : Int64))), .second]) rfl ?_
    show Steps p.tables e below (T444.setTop (mkF m 44 #[.val (.ref a_), .val (.int (100 : Int32)), .val (.ref b434), .val (.long (((((3 : Int32).toInt64) * ((100 : Int32).toInt64)) + (99 : Int64)) / (100 : Int64))), .second] [])) _
    refine XS.aloadN X444.here hx rfl (hb hby d7_44) rfl rfl ?_
    show Steps p.tables e below (T444.setTop (mkF m 45 #[.val (.ref a_), .val (.int (100 : Int32)), .val (.ref b434), .val (.long (((((3 : Int32).toInt64) * ((100 : Int32).toInt64)) + (99 : Int64)) / (100 : Int64))), .second] [(.ref b434)])) _
    refine XS.lloadN X444.here hx rfl (hb hby d7_45) rfl ?_
    show Steps p.tables e below (T444.setTop (mkF m 46 #[.val (.ref a_), .val (.int (100 : Int32)), .val (.ref b434), .val (.long (((((3 : Int32).toInt64) * ((100 : Int32).toInt64)) + (99 : Int64)) / (100 : Int64))), .second] [(.long (((((3 : Int32).toInt64) * ((100 : Int32).toInt64)) + (99 : Int64)) / (100 : Int64))), (.ref b434)])) _
    refine XS.l2i X444.here hx rfl (hb hby d7_46) rfl ?_
    show Steps p.tables e below (T444.setTop (mkF m 47 #[.val (.ref a_), .val (.int (100 : Int32)), .val (.ref b434), .val (.long (((((3 : Int32).toInt64) * ((100 : Int32).toInt64)) + (99 : Int64)) / (100 : Int64))), .second] [(.int ((((((3 : Int32).toInt64) * ((100 : Int32).toInt64)) + (99 : Int64)) / (100 : Int64)).toInt32)), (.ref b434)])) _
    refine XS.iconst X444.here hx rfl (hb hby d7_47) ?_
    show Steps p.tables e below (T444.setTop (mkF m 48 #[.val (.ref a_), .val (.int (100 : Int32)), .val (.ref b434), .val (.long (((((3 : Int32).toInt64) * ((100 : Int32).toInt64)) + (99 : Int64)) / (100 : Int64))), .second] [(.int (1 : Int32)), (.int ((((((3 : Int32).toInt64) * ((100 : Int32).toInt64)) + (99 : Int64)) / (100 : Int64)).toInt32)), (.ref b434)])) _
    refine XS.isub X444.here hx rfl (hb hby d7_48) rfl ?_
    exact kk
  have pre446 : ∀ t, Steps p.tables e below (T444.setTop (mkF m 49 #[.val (.ref a_), .val (.int (100 : Int32)), .val (.ref b434), .val (.long (((((3 : Int32).toInt64) * ((100 : Int32).toInt64)) + (99 : Int64)) / (100 : Int64))), .second] [(.int (2 : Int32)), (.ref b434)])) t → Steps p.tables e below (s₁.setTop (entryFrame m #[(.ref a_), (.int (100 : Int32))] 5)) t := by
    intro t kk
    refine pre445 t ?_
    rw [(show (((((((3 : Int32).toInt64) * ((100 : Int32).toInt64)) + (99 : Int64)) / (100 : Int64)).toInt32) - (1 : Int32)) = (2 : Int32) by decide)]
    exact kk
  obtain ⟨cl447, Ar447, q447, S447, N447v, H447, G447⟩ := id Vq439
  have hin447 : ¬ ((2 : Int32) < 0 ∨ cl447.slots.size ≤ ((2 : Int32)).toNatClampNeg) := inb_of S447 ⟨by decide, by decide⟩
  have hat447 : cl447.slots[((2 : Int32)).toNatClampNeg]? = some (.long (own_s3_2 x0 x1 x2)) := Has.at H447 hin447 rfl
  have pre448 : ∀ t, Steps p.tables e below (T444.setTop (mkF m 55 #[.val (.ref a_), .val (.int (100 : Int32)), .val (.ref b434), .val (.long (((((3 : Int32).toInt64) * ((100 : Int32).toInt64)) + (99 : Int64)) / (100 : Int64))), .second] [(.double (FP.ddiv (FP.l2d (own_s3_2 x0 x1 x2)) (4696837146684686336 : UInt64)))])) t → Steps p.tables e below (s₁.setTop (entryFrame m #[(.ref a_), (.int (100 : Int32))] 5)) t := by
    intro t kk
    refine pre446 t ?_
    show Steps p.tables e below (T444.setTop (mkF m 49 #[.val (.ref a_), .val (.int (100 : Int32)), .val (.ref b434), .val (.long (((((3 : Int32).toInt64) * ((100 : Int32).toInt64)) + (99 : Int64)) / (100 : Int64))), .second] [(.int (2 : Int32)), (.ref b434)])) _
    refine X444.laload hx (j := (2 : Int32)) (v := (.long (own_s3_2 x0 x1 x2))) (by rw [e444]; exact Ar447.1) (State.isArrayOf_alike hZ.alike Ar447.2.1) Ar447.2.2 hin447 hat447 (g := (mkF m 49 #[.val (.ref a_), .val (.int (100 : Int32)), .val (.ref b434), .val (.long (((((3 : Int32).toInt64) * ((100 : Int32).toInt64)) + (99 : Int64)) / (100 : Int64))), .second] [(.int (2 : Int32)), (.ref b434)])) rfl rfl (hb hby d7_49) _ ?_
    show Steps p.tables e below (T444.setTop (mkF m 50 #[.val (.ref a_), .val (.int (100 : Int32)), .val (.ref b434), .val (.long (((((3 : Int32).toInt64) * ((100 : Int32).toInt64)) + (99 : Int64)) / (100 : Int64))), .second] [(.long (own_s3_2 x0 x1 x2))])) _
    refine own_l2d X444.here hx rfl (hb hby d7_50) rfl ?_
    show Steps p.tables e below (T444.setTop (mkF m 51 #[.val (.ref a_), .val (.int (100 : Int32)), .val (.ref b434), .val (.long (((((3 : Int32).toInt64) * ((100 : Int32).toInt64)) + (99 : Int64)) / (100 : Int64))), .second] [(.double (FP.l2d (own_s3_2 x0 x1 x2)))])) _
    refine X444.ldc2DoubleC hx hown (mvT hZ (hw _ (List.mem_of_getElem? (i := 62) rfl))) (g := (mkF m 51 #[.val (.ref a_), .val (.int (100 : Int32)), .val (.ref b434), .val (.long (((((3 : Int32).toInt64) * ((100 : Int32).toInt64)) + (99 : Int64)) / (100 : Int64))), .second] [(.double (FP.l2d (own_s3_2 x0 x1 x2)))])) rfl (hb hby d7_51) _ ?_
    show Steps p.tables e below (T444.setTop (mkF m 54 #[.val (.ref a_), .val (.int (100 : Int32)), .val (.ref b434), .val (.long (((((3 : Int32).toInt64) * ((100 : Int32).toInt64)) + (99 : Int64)) / (100 : Int64))), .second] [(.double (4696837146684686336 : UInt64)), (.double (FP.l2d (own_s3_2 x0 x1 x2)))])) _
    refine own_ddiv X444.here hx rfl (hb hby d7_54) rfl (own_fin _) ?_
    exact kk
  obtain ⟨fs, hr, hrun, hended, hW, hsame⟩ := X444.leave (v := some (.double (FP.ddiv (FP.l2d (own_s3_2 x0 x1 x2)) (4696837146684686336 : UInt64)))) (fun h => by rw [Bd.returns] at h; cases h)
  refine ⟨_, _, pre448 _ ?_, hrun, hended, _, _, rfl, ?_, ⟨_, rfl⟩, hW, hsame.mono (by decide) (by decide)⟩
  · show Steps p.tables e below (T444.setTop (mkF m 55 #[.val (.ref a_), .val (.int (100 : Int32)), .val (.ref b434), .val (.long (((((3 : Int32).toInt64) * ((100 : Int32).toInt64)) + (99 : Int64)) / (100 : Int64))), .second] [(.double (FP.ddiv (FP.l2d (own_s3_2 x0 x1 x2)) (4696837146684686336 : UInt64)))])) _
    exact retOut X444 hx Bd.returns rfl (Or.inr (Or.inr (Or.inl ⟨rfl, rfl, _, rfl⟩))) (hb hby d7_55) hr
  · show Q7_3_100 Z a_ b_ k_ x0 x1 x2 h0 n0 _ T444.heap _
    rw [e444]
    exact ⟨rfl, N439, KP439⟩
theorem ef_0_JJJI (m : MethodId) (x0 : Int64) (x1 : Int64) (x2 : Int64) (x3 : Int32) : entryFrame m #[(.long x0), (.long x1), (.long x2), (.int x3)] maxLocals = mkF m 0 #[.val (.long x0), .second, .val (.long x1), .second, .val (.long x2), .second, .val (.int x3), .unset, .unset, .unset, .unset, .unset, .unset, .unset, .unset] [] := by first | (simp [entryFrame, mkF, argsToLocals, Value.category, maxLocals]; done) | rfl
def Q0 (Z : State) (q0 : Int64) (q1 : Int64) (q2 : Int64) (p3 : Int32) (h0 : Heap) (n0 : Nat) (v : Option Value) (h : Heap) (L : List Loc) : Prop := v = some (.int 1) ∧ Fr n0 L
set_option maxRecDepth 65536 in
set_option maxHeartbeats 40000000 in
theorem rm0 (l : Launch) (Z : State) (aA : Array Value) (hw : ∀ d ∈ tables_1, d.before aA Z = true) (ws : List Jvm.Cond) (q0 : Int64) (q1 : Int64) (q2 : Int64) (p3 : Int32) (h0 : Heap) (n0 : Nat) (Z0 : n0 ≤ h0.size) :
    MetFree l x (head1 (Jvm.Cond.code x code maxLocals ret :: ws) room_1) (fun a U => a = #[(.long q0), (.long q1), (.long q2), (.int p3)] ∧ Z.Warmed39 U.vm ∧ U.heap = h0) (fun _ _ _ _ _ => True) (fun _ U o U' => ∃ v L, o = .returned v ∧ Q0 Z q0 q1 q2 p3 h0 n0 v U'.heap L ∧ FrameEnd U o U' L room_1.cells room_1.slots) := by
  refine MetFree.of_bodySF (plainFor_of_name pn_farspeak_greeter_TimesAddPinLaw) hisR ?_
  intro p e s m args below meth c s₁ Bd hml0 hP hK
  obtain ⟨rfl, hZ, hh⟩ := hP
  have hx := Bd.exec
  have hby := Bd.bytes
  have hml : c.maxLocals = 15 := hml0
  have hown : s.vm.findClass "farspeak/greeter/TimesAddPinLaw" = some m.cls := findClass_of_methodNamed Bd.named
  have hnm := (name_of_methodNamed Bd.named Bd.method).1
  have X0 : Stand p l e room_1 s m #[(.long q0), (.long q1), (.long q2), (.int p3)] below meth c s₁ [] 0 0 := Stand.of_body Bd
  have e0 : s₁.heap = h0 := by rw [← hh, Bd.state]; rfl
  have N0 := Fr.nil n0
  have KP0 : Keep h0 h0 [] := Keep.refl h0 _
  have pre0 : ∀ t, Steps p.tables e below (s₁.setTop (mkF m 0 #[.val (.long q0), .second, .val (.long q1), .second, .val (.long q2), .second, .val (.int p3), .unset, .unset, .unset, .unset, .unset, .unset, .unset, .unset] [])) t → Steps p.tables e below (s₁.setTop (entryFrame m #[(.long q0), (.long q1), (.long q2), (.int p3)] maxLocals)) t := fun t k => castTop (ef_0_JJJI m q0 q1 q2 p3) k
  obtain ⟨kv, h_kv⟩ : ∃ z : Int32, z = (p3 &&& (3 : Int32)) := ⟨_, rfl⟩
  have pre118 : ∀ t, Steps p.tables e below (s₁.setTop (mkF m 6 #[.val (.long q0), .second, .val (.long q1), .second, .val (.long q2), .second, .val (.int p3), .val (.int (p3 &&& (3 : Int32))), .unset, .unset, .unset, .unset, .unset, .unset, .unset] [])) t → Steps p.tables e below (s₁.setTop (entryFrame m #[(.long q0), (.long q1), (.long q2), (.int p3)] maxLocals)) t := by
    intro t kk
    refine pre0 t ?_
    show Steps p.tables e below (s₁.setTop (mkF m 0 #[.val (.long q0), .second, .val (.long q1), .second, .val (.long q2), .second, .val (.int p3), .unset, .unset, .unset, .unset, .unset, .unset, .unset, .unset] [])) _
    refine XS.iload X0.here hx rfl (hb hby at_0) rfl ?_
    show Steps p.tables e below (s₁.setTop (mkF m 2 #[.val (.long q0), .second, .val (.long q1), .second, .val (.long q2), .second, .val (.int p3), .unset, .unset, .unset, .unset, .unset, .unset, .unset, .unset] [(.int p3)])) _
    refine XS.iconst X0.here hx rfl (hb hby at_2) ?_
    show Steps p.tables e below (s₁.setTop (mkF m 3 #[.val (.long q0), .second, .val (.long q1), .second, .val (.long q2), .second, .val (.int p3), .unset, .unset, .unset, .unset, .unset, .unset, .unset, .unset] [(.int (3 : Int32)), (.int p3)])) _
    refine XS.iand X0.here hx rfl (hb hby at_3) rfl ?_
    show Steps p.tables e below (s₁.setTop (mkF m 4 #[.val (.long q0), .second, .val (.long q1), .second, .val (.long q2), .second, .val (.int p3), .unset, .unset, .unset, .unset, .unset, .unset, .unset, .unset] [(.int (p3 &&& (3 : Int32)))])) _
    refine XS.istore X0.here hx rfl (hb hby at_4) rfl (l' := #[.val (.long q0), .second, .val (.long q1), .second, .val (.long q2), .second, .val (.int p3), .val (.int (p3 &&& (3 : Int32))), .unset, .unset, .unset, .unset, .unset, .unset, .unset]) rfl ?_
    exact kk
  have pre119 : ∀ t, Steps p.tables e below (s₁.setTop (mkF m 6 #[.val (.long q0), .second, .val (.long q1), .second, .val (.long q2), .second, .val (.int p3), .val (.int kv), .unset, .unset, .unset, .unset, .unset, .unset, .unset] [])) t → Steps p.tables e below (s₁.setTop (entryFrame m #[(.long q0), (.long q1), (.long q2), (.int p3)] maxLocals)) t := by
    intro t kk
    refine pre118 t ?_
    rw [← h_kv]
    exact kk
  obtain ⟨T120, h120, X120, e120, E120, A120, D120, -, st120⟩ := newO X0 hx hZ hown (hw _ (List.mem_of_getElem? (i := 0) rfl)) (hw _ (List.mem_of_getElem? (i := 1) rfl)) (hw _ (List.mem_of_getElem? (i := 2) rfl)) e0 (g := (mkF m 6 #[.val (.long q0), .second, .val (.long q1), .second, .val (.long q2), .second, .val (.int p3), .val (.int kv), .unset, .unset, .unset, .unset, .unset, .unset, .unset] [])) rfl (hb hby at_6) (by decide) (by decide)
  obtain ⟨b120, g120⟩ : ∃ z, z = h0.size := ⟨_, rfl⟩
  rw [← g120] at A120 D120 st120
  have sz_b120 : h0.size ≤ b120 := Nat.le_trans KP0.1 (Nat.le_of_eq g120.symm)
  have g_b120 : n0 ≤ b120 := Nat.le_trans Z0 (Nat.le_of_eq g120.symm)
  have KP120 : Keep h0 h120 [] := KP0.ext E120
  have Z120 : n0 ≤ h120.size := Nat.le_trans Z0 E120.1
  have F_nanos_b120 : Fld Z h120 b120 "farspeak/greeter/Times" "nanos" "[J" .null := D120 (Or.inl (hw _ (List.mem_of_getElem? (i := 11) rfl))) (ty := (.array .long)) (by decide)
  have F_size_b120 : Fld Z h120 b120 "farspeak/greeter/Times" "size" "I" (.int (0 : Int32)) := D120 (Or.inl (hw _ (List.mem_of_getElem? (i := 18) rfl))) (ty := .int) (by decide)
  obtain ⟨_, _, ⟨T121, L121, k121, n121⟩, -, X121, ⟨Lc121, hQ121, l121, y121, z121⟩, st121⟩ := X120.specialBack hx (y := (⟨"farspeak/greeter/Times", "<init>", "()V"⟩ : MethodName)) rfl hown (mvT hZ (hw _ (List.mem_of_getElem? (i := 3) rfl))) (mvT hZ (hw _ (List.mem_of_getElem? (i := 4) rfl))) (mvT hZ (hw _ (List.mem_of_getElem? (i := 5) rfl))) (by decide) (backOf (W := 1) (rm1 l Z aA hw [] b120 h120 n0 Z120 A120 g_b120 F_nanos_b120 F_size_b120) hZ (hw _ (List.mem_of_getElem? (i := 5) rfl)) (hw _ (List.mem_of_getElem? (i := 2) rfl)) (by decide) (by decide)) (g := (mkF m 10 #[.val (.long q0), .second, .val (.long q1), .second, .val (.long q2), .second, .val (.int p3), .val (.int kv), .unset, .unset, .unset, .unset, .unset, .unset, .unset] [(.ref b120), (.ref b120)])) rfl (by rw [hml]; rfl) (Steps.refl _) (a := b120) (argsL := []) (rest := [(.ref b120)]) (lenOf pd__28_29V rfl) rfl (by show 2 * 0 + _ ≤ _; exact Nat.le_of_eq rfl) (hb hby at_10) (fun _ _ => ⟨rfl, e120, (by decide : 1 + 1 ≤ _), (by decide : 2 + 1024 ≤ _)⟩)
  dsimp only [Pt.U, Pt.locs, Pt.cells, Pt.slots] at X121 l121 y121 z121 st121 hQ121
  subst l121 y121 z121
  obtain ⟨rfl, N121q, K121, b121, kk121, sz121, Eq121, Fn121, Fs121, Vq121⟩ := hQ121
  have N121 := Fr.app N0 N121q
  have sz_b121 : h0.size ≤ b121 := Nat.le_trans KP120.1 sz121
  have g_b121 : n0 ≤ b121 := Nat.le_trans Z120 sz121
  have ne_b120_b121 : b120 ≠ b121 := Nat.ne_of_lt (Nat.lt_of_lt_of_le A120.lt sz121)
  have KP121 : Keep h0 T121.heap [] := KP120.trans K121 (allS (Or.inr sz_b120) all0)
  have Z121 : n0 ≤ T121.heap.size := Nat.le_trans Z120 K121.1
  have E_b120_122 : Exa Z T121.heap b120 "farspeak/greeter/Times" := A120.keep K121
  have pre124 : ∀ t, Steps p.tables e below (T121.setTop (mkF m 18 #[.val (.long q0), .second, .val (.long q1), .second, .val (.long q2), .second, .val (.int p3), .val (.int kv), .val (.ref b120), .unset, .unset, .unset, .unset, .unset, .unset] [(.int (1 : Int32)), (.int kv)])) t → Steps p.tables e below (s₁.setTop (entryFrame m #[(.long q0), (.long q1), (.long q2), (.int p3)] maxLocals)) t := by
    intro t kk
    refine pre119 t ?_
    show Steps p.tables e below (s₁.setTop (mkF m 6 #[.val (.long q0), .second, .val (.long q1), .second, .val (.long q2), .second, .val (.int p3), .val (.int kv), .unset, .unset, .unset, .unset, .unset, .unset, .unset] [])) _
    refine st120 _ ?_
    show Steps p.tables e below (T120.setTop (mkF m 9 #[.val (.long q0), .second, .val (.long q1), .second, .val (.long q2), .second, .val (.int p3), .val (.int kv), .unset, .unset, .unset, .unset, .unset, .unset, .unset] [(.ref b120)])) _
    refine XS.dup X120.here hx rfl (hb hby at_9) rfl rfl ?_
    show Steps p.tables e below (T120.setTop (mkF m 10 #[.val (.long q0), .second, .val (.long q1), .second, .val (.long q2), .second, .val (.int p3), .val (.int kv), .unset, .unset, .unset, .unset, .unset, .unset, .unset] [(.ref b120), (.ref b120)])) _
    refine st121.trans ?_
    show Steps p.tables e below (T121.setTop (mkF m 13 #[.val (.long q0), .second, .val (.long q1), .second, .val (.long q2), .second, .val (.int p3), .val (.int kv), .unset, .unset, .unset, .unset, .unset, .unset, .unset] [(.ref b120)])) _
    refine XS.astore X121.here hx rfl (hb hby at_13) rfl rfl (l' := #[.val (.long q0), .second, .val (.long q1), .second, .val (.long q2), .second, .val (.int p3), .val (.int kv), .val (.ref b120), .unset, .unset, .unset, .unset, .unset, .unset]) rfl ?_
    show Steps p.tables e below (T121.setTop (mkF m 15 #[.val (.long q0), .second, .val (.long q1), .second, .val (.long q2), .second, .val (.int p3), .val (.int kv), .val (.ref b120), .unset, .unset, .unset, .unset, .unset, .unset] [])) _
    refine XS.iload X121.here hx rfl (hb hby at_15) rfl ?_
    show Steps p.tables e below (T121.setTop (mkF m 17 #[.val (.long q0), .second, .val (.long q1), .second, .val (.long q2), .second, .val (.int p3), .val (.int kv), .val (.ref b120), .unset, .unset, .unset, .unset, .unset, .unset] [(.int kv)])) _
    refine XS.iconst X121.here hx rfl (hb hby at_17) ?_
    exact kk
  by_cases hc18_123 : kv < (1 : Int32)
  · have pre125 : ∀ t, Steps p.tables e below (T121.setTop (mkF m 52 #[.val (.long q0), .second, .val (.long q1), .second, .val (.long q2), .second, .val (.int p3), .val (.int kv), .val (.ref b120), .unset, .unset, .unset, .unset, .unset, .unset] [])) t → Steps p.tables e below (s₁.setTop (entryFrame m #[(.long q0), (.long q1), (.long q2), (.int p3)] maxLocals)) t := by
      intro t kk
      refine pre124 t ?_
      show Steps p.tables e below (T121.setTop (mkF m 18 #[.val (.long q0), .second, .val (.long q1), .second, .val (.long q2), .second, .val (.int p3), .val (.int kv), .val (.ref b120), .unset, .unset, .unset, .unset, .unset, .unset] [(.int (1 : Int32)), (.int kv)])) _
      refine XS.icmpYes X121.here hx rfl (pc0 := 18) (pc' := 27) rfl (hb hby at_18) rfl (tlt hc18_123).1 (by decide) (by decide) ?_
      show Steps p.tables e below (T121.setTop (mkF m 27 #[.val (.long q0), .second, .val (.long q1), .second, .val (.long q2), .second, .val (.int p3), .val (.int kv), .val (.ref b120), .unset, .unset, .unset, .unset, .unset, .unset] [])) _
      refine XS.iload X121.here hx rfl (hb hby at_27) rfl ?_
      show Steps p.tables e below (T121.setTop (mkF m 29 #[.val (.long q0), .second, .val (.long q1), .second, .val (.long q2), .second, .val (.int p3), .val (.int kv), .val (.ref b120), .unset, .unset, .unset, .unset, .unset, .unset] [(.int kv)])) _
      refine XS.iconst X121.here hx rfl (hb hby at_29) ?_
      show Steps p.tables e below (T121.setTop (mkF m 30 #[.val (.long q0), .second, .val (.long q1), .second, .val (.long q2), .second, .val (.int p3), .val (.int kv), .val (.ref b120), .unset, .unset, .unset, .unset, .unset, .unset] [(.int (2 : Int32)), (.int kv)])) _
      refine XS.icmpYes X121.here hx rfl (pc0 := 30) (pc' := 39) rfl (hb hby at_30) rfl (tlt (own_lt hc18_123 (by decide))).1 (by decide) (by decide) ?_
      show Steps p.tables e below (T121.setTop (mkF m 39 #[.val (.long q0), .second, .val (.long q1), .second, .val (.long q2), .second, .val (.int p3), .val (.int kv), .val (.ref b120), .unset, .unset, .unset, .unset, .unset, .unset] [])) _
      refine XS.iload X121.here hx rfl (hb hby at_39) rfl ?_
      show Steps p.tables e below (T121.setTop (mkF m 41 #[.val (.long q0), .second, .val (.long q1), .second, .val (.long q2), .second, .val (.int p3), .val (.int kv), .val (.ref b120), .unset, .unset, .unset, .unset, .unset, .unset] [(.int kv)])) _
      refine XS.iconst X121.here hx rfl (hb hby at_41) ?_
      show Steps p.tables e below (T121.setTop (mkF m 42 #[.val (.long q0), .second, .val (.long q1), .second, .val (.long q2), .second, .val (.int p3), .val (.int kv), .val (.ref b120), .unset, .unset, .unset, .unset, .unset, .unset] [(.int (3 : Int32)), (.int kv)])) _
      refine XS.icmpYes X121.here hx rfl (pc0 := 42) (pc' := 52) rfl (hb hby at_42) rfl (tlt (own_lt hc18_123 (by decide))).1 (by decide) (by decide) ?_
      exact kk
    have pre126 : ∀ t, Steps p.tables e below (T121.setTop (mkF m 52 #[.val (.long q0), .second, .val (.long q1), .second, .val (.long q2), .second, .val (.int p3), .val (.int (0 : Int32)), .val (.ref b120), .unset, .unset, .unset, .unset, .unset, .unset] [])) t → Steps p.tables e below (s₁.setTop (entryFrame m #[(.long q0), (.long q1), (.long q2), (.int p3)] maxLocals)) t := by
      intro t kk
      refine pre125 t ?_
      rw [(own_k0 p3 kv h_kv hc18_123)]
      exact kk
    obtain ⟨cq127, kq127, q127a, q127b, q127c⟩ := isOf hZ rfl Eq121
    obtain ⟨_, _, ⟨T127, L127, k127, n127⟩, -, X127, ⟨Lc127, hQ127, l127, y127, z127⟩, st127⟩ := X121.virtualBack hx (y := (⟨"farspeak/greeter/Times", "size", "()I"⟩ : MethodName)) (z := (⟨"farspeak/greeter/Times", "size", "()I"⟩ : MethodName)) hown (mvT hZ (hw _ (List.mem_of_getElem? (i := 19) rfl))) (mvT hZ (hw _ (List.mem_of_getElem? (i := 20) rfl))) (notFace_of_selects (args := #[]) (mvT hZ (hw _ (List.mem_of_getElem? (i := 22) rfl)))) (mvT hZ (hw _ (List.mem_of_getElem? (i := 22) rfl))) (mvT hZ (hw _ (List.mem_of_getElem? (i := 21) rfl))) (by decide) (backOf (W := 0) (rm4 l Z aA hw [] b120 (0 : Int32) T121.heap n0 Z121 Fs121) hZ (hw _ (List.mem_of_getElem? (i := 23) rfl)) (hw _ (List.mem_of_getElem? (i := 2) rfl)) (by decide) (by decide)) q127a q127c (g := (mkF m 54 #[.val (.long q0), .second, .val (.long q1), .second, .val (.long q2), .second, .val (.int p3), .val (.int (0 : Int32)), .val (.ref b120), .unset, .unset, .unset, .unset, .unset, .unset] [(.ref b120)])) rfl (by rw [hml]; rfl) (Steps.refl _) (argsL := []) (rest := []) (lenOf pd__28_29I rfl) rfl (by show 2 * 0 + _ ≤ _; exact Nat.le_of_eq rfl) (hb hby at_54) (fun _ _ => ⟨rfl, rfl, (by decide : 2 + 0 ≤ _), (by decide : 1026 + 0 ≤ _)⟩)
    dsimp only [Pt.U, Pt.locs, Pt.cells, Pt.slots] at X127 l127 y127 z127 st127 hQ127
    subst l127 y127 z127
    obtain ⟨rfl, N127q, e127⟩ := hQ127
    have N127 := Fr.app N121 N127q
    obtain ⟨cq130, kq130, q130a, q130b, q130c⟩ := isOf hZ e127 Eq121
    obtain ⟨_, _, ⟨T130, L130, k130, n130⟩, -, X130, ⟨Lc130, hQ130, l130, y130, z130⟩, st130⟩ := X127.virtualBack hx (y := (⟨"farspeak/greeter/Times", "percentileMillis", "(I)D"⟩ : MethodName)) (z := (⟨"farspeak/greeter/Times", "percentileMillis", "(I)D"⟩ : MethodName)) hown (mvT hZ (hw _ (List.mem_of_getElem? (i := 31) rfl))) (mvT hZ (hw _ (List.mem_of_getElem? (i := 32) rfl))) (notFace_of_selects (args := #[]) (mvT hZ (hw _ (List.mem_of_getElem? (i := 34) rfl)))) (mvT hZ (hw _ (List.mem_of_getElem? (i := 34) rfl))) (mvT hZ (hw _ (List.mem_of_getElem? (i := 33) rfl))) (by decide) (backOf (W := 0) (rm7_0_50 l Z aA hw [] b120 b121 kk121  T121.heap n0 Z121 ne_b120_b121 Eq121 Fn121 Fs121 Vq121) hZ (hw _ (List.mem_of_getElem? (i := 35) rfl)) (hw _ (List.mem_of_getElem? (i := 2) rfl)) (by decide) (by decide)) q130a q130c (g := (mkF m 73 #[.val (.long q0), .second, .val (.long q1), .second, .val (.long q2), .second, .val (.int p3), .val (.int (0 : Int32)), .val (.ref b120), .unset, .unset, .unset, .unset, .unset, .unset] [(.int (50 : Int32)), (.ref b120)])) rfl (by rw [hml]; rfl) (Steps.refl _) (argsL := [(.int (50 : Int32))]) (rest := []) (lenOf pd__28I_29D rfl) rfl (by show 2 * 0 + _ ≤ _; exact Nat.le_of_eq rfl) (hb hby at_73) (fun _ _ => ⟨rfl, e127, (by decide : 2 + 0 ≤ _), (by decide : 1026 + 0 ≤ _)⟩)
    dsimp only [Pt.U, Pt.locs, Pt.cells, Pt.slots] at X130 l130 y130 z130 st130 hQ130
    subst l130 y130 z130
    obtain ⟨rfl, N130q, K130⟩ := hQ130
    have N130 := Fr.app N127 N130q
    have KP130 : Keep h0 T130.heap [] := KP121.trans K130 all0
    have Z130 : n0 ≤ T130.heap.size := Nat.le_trans Z121 K130.1
    have E_b120_131 : Exa Z T130.heap b120 "farspeak/greeter/Times" := Eq121.keep K130
    have F_b120_nanos_132 : Fld Z T130.heap b120 "farspeak/greeter/Times" "nanos" "[J" (.ref b121) := Fn121.keep K130 nin0
    have F_b120_size_133 : Fld Z T130.heap b120 "farspeak/greeter/Times" "size" "I" (.int (0 : Int32)) := Fs121.keep K130 nin0
    have V_b121_134 : Arv Z T130.heap b121 kk121 .long (1024 : Int32) [] (.long (0 : Int64)) := Vq121.keep K130 nin0
    have pre135 : ∀ t, Steps p.tables e below (T130.setTop (mkF m 91 #[.val (.long q0), .second, .val (.long q1), .second, .val (.long q2), .second, .val (.int p3), .val (.int (0 : Int32)), .val (.ref b120), .val (.double (9221120237041090560 : UInt64)), .second, .unset, .unset, .unset, .unset] [(.int (1 : Int32))])) t → Steps p.tables e below (s₁.setTop (entryFrame m #[(.long q0), (.long q1), (.long q2), (.int p3)] maxLocals)) t := by
      intro t kk
      refine pre126 t ?_
      show Steps p.tables e below (T121.setTop (mkF m 52 #[.val (.long q0), .second, .val (.long q1), .second, .val (.long q2), .second, .val (.int p3), .val (.int (0 : Int32)), .val (.ref b120), .unset, .unset, .unset, .unset, .unset, .unset] [])) _
      refine XS.aload X121.here hx rfl (hb hby at_52) rfl rfl ?_
      show Steps p.tables e below (T121.setTop (mkF m 54 #[.val (.long q0), .second, .val (.long q1), .second, .val (.long q2), .second, .val (.int p3), .val (.int (0 : Int32)), .val (.ref b120), .unset, .unset, .unset, .unset, .unset, .unset] [(.ref b120)])) _
      refine st127.trans ?_
      show Steps p.tables e below (T127.setTop (mkF m 57 #[.val (.long q0), .second, .val (.long q1), .second, .val (.long q2), .second, .val (.int p3), .val (.int (0 : Int32)), .val (.ref b120), .unset, .unset, .unset, .unset, .unset, .unset] [(.int (0 : Int32))])) _
      refine XS.iload X127.here hx rfl (hb hby at_57) rfl ?_
      show Steps p.tables e below (T127.setTop (mkF m 59 #[.val (.long q0), .second, .val (.long q1), .second, .val (.long q2), .second, .val (.int p3), .val (.int (0 : Int32)), .val (.ref b120), .unset, .unset, .unset, .unset, .unset, .unset] [(.int (0 : Int32)), (.int (0 : Int32))])) _
      refine XS.icmpYes X127.here hx rfl (pc0 := 59) (pc' := 64) rfl (hb hby at_59) rfl (teq (by decide : (0 : Int32) = (0 : Int32))).1 (by decide) (by decide) ?_
      show Steps p.tables e below (T127.setTop (mkF m 64 #[.val (.long q0), .second, .val (.long q1), .second, .val (.long q2), .second, .val (.int p3), .val (.int (0 : Int32)), .val (.ref b120), .unset, .unset, .unset, .unset, .unset, .unset] [])) _
      refine XS.iload X127.here hx rfl (hb hby at_64) rfl ?_
      show Steps p.tables e below (T127.setTop (mkF m 66 #[.val (.long q0), .second, .val (.long q1), .second, .val (.long q2), .second, .val (.int p3), .val (.int (0 : Int32)), .val (.ref b120), .unset, .unset, .unset, .unset, .unset, .unset] [(.int (0 : Int32))])) _
      refine XS.ifNo X127.here hx rfl (hb hby at_66) rfl ((if0 _ _).trans (teq (by decide : (0 : Int32) = (0 : Int32))).2) ?_
      show Steps p.tables e below (T127.setTop (mkF m 69 #[.val (.long q0), .second, .val (.long q1), .second, .val (.long q2), .second, .val (.int p3), .val (.int (0 : Int32)), .val (.ref b120), .unset, .unset, .unset, .unset, .unset, .unset] [])) _
      refine XS.aload X127.here hx rfl (hb hby at_69) rfl rfl ?_
      show Steps p.tables e below (T127.setTop (mkF m 71 #[.val (.long q0), .second, .val (.long q1), .second, .val (.long q2), .second, .val (.int p3), .val (.int (0 : Int32)), .val (.ref b120), .unset, .unset, .unset, .unset, .unset, .unset] [(.ref b120)])) _
      refine XS.bipush X127.here hx rfl (hb hby at_71) ?_
      show Steps p.tables e below (T127.setTop (mkF m 73 #[.val (.long q0), .second, .val (.long q1), .second, .val (.long q2), .second, .val (.int p3), .val (.int (0 : Int32)), .val (.ref b120), .unset, .unset, .unset, .unset, .unset, .unset] [(.int (50 : Int32)), (.ref b120)])) _
      refine st130.trans ?_
      show Steps p.tables e below (T130.setTop (mkF m 76 #[.val (.long q0), .second, .val (.long q1), .second, .val (.long q2), .second, .val (.int p3), .val (.int (0 : Int32)), .val (.ref b120), .unset, .unset, .unset, .unset, .unset, .unset] [(.double (9221120237041090560 : UInt64))])) _
      refine own_dstore X130.here hx rfl (hb hby at_76) rfl (l' := #[.val (.long q0), .second, .val (.long q1), .second, .val (.long q2), .second, .val (.int p3), .val (.int (0 : Int32)), .val (.ref b120), .val (.double (9221120237041090560 : UInt64)), .second, .unset, .unset, .unset, .unset]) rfl ?_
      show Steps p.tables e below (T130.setTop (mkF m 78 #[.val (.long q0), .second, .val (.long q1), .second, .val (.long q2), .second, .val (.int p3), .val (.int (0 : Int32)), .val (.ref b120), .val (.double (9221120237041090560 : UInt64)), .second, .unset, .unset, .unset, .unset] [])) _
      refine own_dload X130.here hx rfl (hb hby at_78) rfl ?_
      show Steps p.tables e below (T130.setTop (mkF m 80 #[.val (.long q0), .second, .val (.long q1), .second, .val (.long q2), .second, .val (.int p3), .val (.int (0 : Int32)), .val (.ref b120), .val (.double (9221120237041090560 : UInt64)), .second, .unset, .unset, .unset, .unset] [(.double (9221120237041090560 : UInt64))])) _
      refine own_dload X130.here hx rfl (hb hby at_80) rfl ?_
      show Steps p.tables e below (T130.setTop (mkF m 82 #[.val (.long q0), .second, .val (.long q1), .second, .val (.long q2), .second, .val (.int p3), .val (.int (0 : Int32)), .val (.ref b120), .val (.double (9221120237041090560 : UInt64)), .second, .unset, .unset, .unset, .unset] [(.double (9221120237041090560 : UInt64)), (.double (9221120237041090560 : UInt64))])) _
      refine own_dcmplN X130.here hx rfl (hb hby at_82) rfl own_nan ?_
      show Steps p.tables e below (T130.setTop (mkF m 83 #[.val (.long q0), .second, .val (.long q1), .second, .val (.long q2), .second, .val (.int p3), .val (.int (0 : Int32)), .val (.ref b120), .val (.double (9221120237041090560 : UInt64)), .second, .unset, .unset, .unset, .unset] [(.int (-1 : Int32))])) _
      refine XS.ifNo X130.here hx rfl (hb hby at_83) rfl ((if0 _ _).trans (feq (by decide : ¬ ((-1 : Int32) = (0 : Int32)))).1) ?_
      show Steps p.tables e below (T130.setTop (mkF m 86 #[.val (.long q0), .second, .val (.long q1), .second, .val (.long q2), .second, .val (.int p3), .val (.int (0 : Int32)), .val (.ref b120), .val (.double (9221120237041090560 : UInt64)), .second, .unset, .unset, .unset, .unset] [])) _
      refine XS.iconst X130.here hx rfl (hb hby at_86) ?_
      show Steps p.tables e below (T130.setTop (mkF m 87 #[.val (.long q0), .second, .val (.long q1), .second, .val (.long q2), .second, .val (.int p3), .val (.int (0 : Int32)), .val (.ref b120), .val (.double (9221120237041090560 : UInt64)), .second, .unset, .unset, .unset, .unset] [(.int (1 : Int32))])) _
      refine XS.goto X130.here hx rfl (pc0 := 87) (pc' := 91) rfl (hb hby at_87) (by decide) (by decide) ?_
      exact kk
    obtain ⟨fs, hr, hrun, hended, hW, hsame⟩ := X130.leave (v := some (.int (1 : Int32))) (fun h => by rw [Bd.returns] at h; cases h)
    refine ⟨_, _, pre135 _ ?_, hrun, hended, _, _, rfl, ?_, ⟨_, rfl⟩, hW, hsame.mono (by decide) (by decide)⟩
    · show Steps p.tables e below (T130.setTop (mkF m 91 #[.val (.long q0), .second, .val (.long q1), .second, .val (.long q2), .second, .val (.int p3), .val (.int (0 : Int32)), .val (.ref b120), .val (.double (9221120237041090560 : UInt64)), .second, .unset, .unset, .unset, .unset] [(.int (1 : Int32))])) _
      exact retN X130 hx (t := .boolean) Bd.returns (by simp) (hb hby at_91) hr
    · show Q0 Z q0 q1 q2 p3 h0 n0 _ T130.heap _
      exact ⟨rfl, N130⟩
  · obtain ⟨cq151, kq151, q151a, q151b, q151c⟩ := isOf hZ rfl Eq121
    obtain ⟨_, _, ⟨T151, L151, k151, n151⟩, -, X151, ⟨Lc151, hQ151, l151, y151, z151⟩, st151⟩ := X121.virtualBack hx (y := (⟨"farspeak/greeter/Times", "add", "(J)V"⟩ : MethodName)) (z := (⟨"farspeak/greeter/Times", "add", "(J)V"⟩ : MethodName)) hown (mvT hZ (hw _ (List.mem_of_getElem? (i := 12) rfl))) (mvT hZ (hw _ (List.mem_of_getElem? (i := 13) rfl))) (notFace_of_selects (args := #[]) (mvT hZ (hw _ (List.mem_of_getElem? (i := 15) rfl)))) (mvT hZ (hw _ (List.mem_of_getElem? (i := 15) rfl))) (mvT hZ (hw _ (List.mem_of_getElem? (i := 14) rfl))) (by decide) (backOf (W := 0) (rm3_0 l Z aA hw [] b120 q0 b121 kk121  T121.heap n0 Z121 g_b120 g_b121 ne_b120_b121 Eq121 Fn121 Fs121 Vq121) hZ (hw _ (List.mem_of_getElem? (i := 16) rfl)) (hw _ (List.mem_of_getElem? (i := 2) rfl)) (by decide) (by decide)) q151a q151c (g := (mkF m 24 #[.val (.long q0), .second, .val (.long q1), .second, .val (.long q2), .second, .val (.int p3), .val (.int kv), .val (.ref b120), .unset, .unset, .unset, .unset, .unset, .unset] [(.long q0), (.ref b120)])) rfl (by rw [hml]; rfl) (Steps.refl _) (argsL := [(.long q0)]) (rest := []) (lenOf pd__28J_29V rfl) rfl (by show 2 * 0 + _ ≤ _; exact Nat.le_of_eq rfl) (hb hby at_24) (fun _ _ => ⟨rfl, rfl, (by decide : 2 + 0 ≤ _), (by decide : 1026 + 0 ≤ _)⟩)
    dsimp only [Pt.U, Pt.locs, Pt.cells, Pt.slots] at X151 l151 y151 z151 st151 hQ151
    subst l151 y151 z151
    obtain ⟨rfl, N151q, K151, Eq151, Fn151, Fs151, Vq151⟩ := hQ151
    have N151 := Fr.app N121 N151q
    have KP151 : Keep h0 T151.heap [] := KP121.trans K151 (allS (Or.inr sz_b120) (allS (Or.inr sz_b121) all0))
    have Z151 : n0 ≤ T151.heap.size := Nat.le_trans Z121 K151.1
    have E_b120_152 : Exa Z T151.heap b120 "farspeak/greeter/Times" := Eq121.keep K151
    have pre154 : ∀ t, Steps p.tables e below (T151.setTop (mkF m 30 #[.val (.long q0), .second, .val (.long q1), .second, .val (.long q2), .second, .val (.int p3), .val (.int kv), .val (.ref b120), .unset, .unset, .unset, .unset, .unset, .unset] [(.int (2 : Int32)), (.int kv)])) t → Steps p.tables e below (s₁.setTop (entryFrame m #[(.long q0), (.long q1), (.long q2), (.int p3)] maxLocals)) t := by
      intro t kk
      refine pre124 t ?_
      show Steps p.tables e below (T121.setTop (mkF m 18 #[.val (.long q0), .second, .val (.long q1), .second, .val (.long q2), .second, .val (.int p3), .val (.int kv), .val (.ref b120), .unset, .unset, .unset, .unset, .unset, .unset] [(.int (1 : Int32)), (.int kv)])) _
      refine XS.icmpNo X121.here hx rfl (hb hby at_18) rfl (flt hc18_123).1 ?_
      show Steps p.tables e below (T121.setTop (mkF m 21 #[.val (.long q0), .second, .val (.long q1), .second, .val (.long q2), .second, .val (.int p3), .val (.int kv), .val (.ref b120), .unset, .unset, .unset, .unset, .unset, .unset] [])) _
      refine XS.aload X121.here hx rfl (hb hby at_21) rfl rfl ?_
      show Steps p.tables e below (T121.setTop (mkF m 23 #[.val (.long q0), .second, .val (.long q1), .second, .val (.long q2), .second, .val (.int p3), .val (.int kv), .val (.ref b120), .unset, .unset, .unset, .unset, .unset, .unset] [(.ref b120)])) _
      refine XS.lloadN X121.here hx rfl (hb hby at_23) rfl ?_
      show Steps p.tables e below (T121.setTop (mkF m 24 #[.val (.long q0), .second, .val (.long q1), .second, .val (.long q2), .second, .val (.int p3), .val (.int kv), .val (.ref b120), .unset, .unset, .unset, .unset, .unset, .unset] [(.long q0), (.ref b120)])) _
      refine st151.trans ?_
      show Steps p.tables e below (T151.setTop (mkF m 27 #[.val (.long q0), .second, .val (.long q1), .second, .val (.long q2), .second, .val (.int p3), .val (.int kv), .val (.ref b120), .unset, .unset, .unset, .unset, .unset, .unset] [])) _
      refine XS.iload X151.here hx rfl (hb hby at_27) rfl ?_
      show Steps p.tables e below (T151.setTop (mkF m 29 #[.val (.long q0), .second, .val (.long q1), .second, .val (.long q2), .second, .val (.int p3), .val (.int kv), .val (.ref b120), .unset, .unset, .unset, .unset, .unset, .unset] [(.int kv)])) _
      refine XS.iconst X151.here hx rfl (hb hby at_29) ?_
      exact kk
    by_cases hc30_153 : kv < (2 : Int32)
    · have pre155 : ∀ t, Steps p.tables e below (T151.setTop (mkF m 52 #[.val (.long q0), .second, .val (.long q1), .second, .val (.long q2), .second, .val (.int p3), .val (.int kv), .val (.ref b120), .unset, .unset, .unset, .unset, .unset, .unset] [])) t → Steps p.tables e below (s₁.setTop (entryFrame m #[(.long q0), (.long q1), (.long q2), (.int p3)] maxLocals)) t := by
        intro t kk
        refine pre154 t ?_
        show Steps p.tables e below (T151.setTop (mkF m 30 #[.val (.long q0), .second, .val (.long q1), .second, .val (.long q2), .second, .val (.int p3), .val (.int kv), .val (.ref b120), .unset, .unset, .unset, .unset, .unset, .unset] [(.int (2 : Int32)), (.int kv)])) _
        refine XS.icmpYes X151.here hx rfl (pc0 := 30) (pc' := 39) rfl (hb hby at_30) rfl (tlt hc30_153).1 (by decide) (by decide) ?_
        show Steps p.tables e below (T151.setTop (mkF m 39 #[.val (.long q0), .second, .val (.long q1), .second, .val (.long q2), .second, .val (.int p3), .val (.int kv), .val (.ref b120), .unset, .unset, .unset, .unset, .unset, .unset] [])) _
        refine XS.iload X151.here hx rfl (hb hby at_39) rfl ?_
        show Steps p.tables e below (T151.setTop (mkF m 41 #[.val (.long q0), .second, .val (.long q1), .second, .val (.long q2), .second, .val (.int p3), .val (.int kv), .val (.ref b120), .unset, .unset, .unset, .unset, .unset, .unset] [(.int kv)])) _
        refine XS.iconst X151.here hx rfl (hb hby at_41) ?_
        show Steps p.tables e below (T151.setTop (mkF m 42 #[.val (.long q0), .second, .val (.long q1), .second, .val (.long q2), .second, .val (.int p3), .val (.int kv), .val (.ref b120), .unset, .unset, .unset, .unset, .unset, .unset] [(.int (3 : Int32)), (.int kv)])) _
        refine XS.icmpYes X151.here hx rfl (pc0 := 42) (pc' := 52) rfl (hb hby at_42) rfl (tlt (own_lt hc30_153 (by decide))).1 (by decide) (by decide) ?_
        exact kk
      have pre156 : ∀ t, Steps p.tables e below (T151.setTop (mkF m 52 #[.val (.long q0), .second, .val (.long q1), .second, .val (.long q2), .second, .val (.int p3), .val (.int (1 : Int32)), .val (.ref b120), .unset, .unset, .unset, .unset, .unset, .unset] [])) t → Steps p.tables e below (s₁.setTop (entryFrame m #[(.long q0), (.long q1), (.long q2), (.int p3)] maxLocals)) t := by
        intro t kk
        refine pre155 t ?_
        rw [(own_k1 kv hc18_123 hc30_153)]
        exact kk
      obtain ⟨cq157, kq157, q157a, q157b, q157c⟩ := isOf hZ rfl Eq151
      obtain ⟨_, _, ⟨T157, L157, k157, n157⟩, -, X157, ⟨Lc157, hQ157, l157, y157, z157⟩, st157⟩ := X151.virtualBack hx (y := (⟨"farspeak/greeter/Times", "size", "()I"⟩ : MethodName)) (z := (⟨"farspeak/greeter/Times", "size", "()I"⟩ : MethodName)) hown (mvT hZ (hw _ (List.mem_of_getElem? (i := 19) rfl))) (mvT hZ (hw _ (List.mem_of_getElem? (i := 20) rfl))) (notFace_of_selects (args := #[]) (mvT hZ (hw _ (List.mem_of_getElem? (i := 22) rfl)))) (mvT hZ (hw _ (List.mem_of_getElem? (i := 22) rfl))) (mvT hZ (hw _ (List.mem_of_getElem? (i := 21) rfl))) (by decide) (backOf (W := 0) (rm4 l Z aA hw [] b120 (1 : Int32) T151.heap n0 Z151 Fs151) hZ (hw _ (List.mem_of_getElem? (i := 23) rfl)) (hw _ (List.mem_of_getElem? (i := 2) rfl)) (by decide) (by decide)) q157a q157c (g := (mkF m 54 #[.val (.long q0), .second, .val (.long q1), .second, .val (.long q2), .second, .val (.int p3), .val (.int (1 : Int32)), .val (.ref b120), .unset, .unset, .unset, .unset, .unset, .unset] [(.ref b120)])) rfl (by rw [hml]; rfl) (Steps.refl _) (argsL := []) (rest := []) (lenOf pd__28_29I rfl) rfl (by show 2 * 0 + _ ≤ _; exact Nat.le_of_eq rfl) (hb hby at_54) (fun _ _ => ⟨rfl, rfl, (by decide : 2 + 0 ≤ _), (by decide : 1026 + 0 ≤ _)⟩)
      dsimp only [Pt.U, Pt.locs, Pt.cells, Pt.slots] at X157 l157 y157 z157 st157 hQ157
      subst l157 y157 z157
      obtain ⟨rfl, N157q, e157⟩ := hQ157
      have N157 := Fr.app N151 N157q
      obtain ⟨cq185, kq185, q185a, q185b, q185c⟩ := isOf hZ e157 Eq151
      obtain ⟨_, _, ⟨T185, L185, k185, n185⟩, -, X185, ⟨Lc185, hQ185, l185, y185, z185⟩, st185⟩ := X157.virtualBack hx (y := (⟨"farspeak/greeter/Times", "percentileMillis", "(I)D"⟩ : MethodName)) (z := (⟨"farspeak/greeter/Times", "percentileMillis", "(I)D"⟩ : MethodName)) hown (mvT hZ (hw _ (List.mem_of_getElem? (i := 31) rfl))) (mvT hZ (hw _ (List.mem_of_getElem? (i := 32) rfl))) (notFace_of_selects (args := #[]) (mvT hZ (hw _ (List.mem_of_getElem? (i := 34) rfl)))) (mvT hZ (hw _ (List.mem_of_getElem? (i := 34) rfl))) (mvT hZ (hw _ (List.mem_of_getElem? (i := 33) rfl))) (by decide) (backOf (W := 0) (rm7_1_1 l Z aA hw [] b120 b121 kk121 q0 T151.heap n0 Z151 ne_b120_b121 Eq151 Fn151 Fs151 Vq151) hZ (hw _ (List.mem_of_getElem? (i := 35) rfl)) (hw _ (List.mem_of_getElem? (i := 2) rfl)) (by decide) (by decide)) q185a q185c (g := (mkF m 184 #[.val (.long q0), .second, .val (.long q1), .second, .val (.long q2), .second, .val (.int p3), .val (.int (1 : Int32)), .val (.ref b120), .val (.long q0), .second, .val (.long q0), .second, .val (.long q0), .second] [(.int (1 : Int32)), (.ref b120)])) rfl (by rw [hml]; rfl) (Steps.refl _) (argsL := [(.int (1 : Int32))]) (rest := []) (lenOf pd__28I_29D rfl) rfl (by show 2 * 0 + _ ≤ _; exact Nat.le_of_eq rfl) (hb hby at_184) (fun _ _ => ⟨rfl, e157, (by decide : 2 + 1 ≤ _), (by decide : 1026 + 1 ≤ _)⟩)
      dsimp only [Pt.U, Pt.locs, Pt.cells, Pt.slots] at X185 l185 y185 z185 st185 hQ185
      subst l185 y185 z185
      obtain ⟨rfl, N185q, K185⟩ := hQ185
      have N185 := Fr.app N157 N185q
      have KP185 : Keep h0 T185.heap [] := KP151.trans K185 all0
      have Z185 : n0 ≤ T185.heap.size := Nat.le_trans Z151 K185.1
      have E_b120_186 : Exa Z T185.heap b120 "farspeak/greeter/Times" := Eq151.keep K185
      have F_b120_nanos_187 : Fld Z T185.heap b120 "farspeak/greeter/Times" "nanos" "[J" (.ref b121) := Fn151.keep K185 nin0
      have F_b120_size_188 : Fld Z T185.heap b120 "farspeak/greeter/Times" "size" "I" (.int (1 : Int32)) := Fs151.keep K185 nin0
      have V_b121_189 : Arv Z T185.heap b121 kk121 .long (1024 : Int32) [(.long q0)] (.long (0 : Int64)) := Vq151.keep K185 nin0
      obtain ⟨_, _, ⟨T190, L190, k190, n190⟩, -, X190, ⟨Lc190, hQ190, l190, y190, z190⟩, st190⟩ := Jvm.LawKit.callS X185 hx (y := (⟨"farspeak/greeter/TimesAddPinLaw", "ms", "(J)D"⟩ : MethodName)) hown (mvT hZ (hw _ (List.mem_of_getElem? (i := 63) rfl))) (mvT hZ (hw _ (List.mem_of_getElem? (i := 64) rfl))) (mvT hZ (hw _ (List.mem_of_getElem? (i := 65) rfl))) (mvT hZ (hw _ (List.mem_of_getElem? (i := 66) rfl))) (by decide) (backOf (W := 2) (rm14 l Z aA hw [] q0 T185.heap n0 Z185) hZ (hw _ (List.mem_of_getElem? (i := 66) rfl)) (hw _ (List.mem_of_getElem? (i := 65) rfl)) (by decide) (by decide)) (g := (mkF m 189 #[.val (.long q0), .second, .val (.long q1), .second, .val (.long q2), .second, .val (.int p3), .val (.int (1 : Int32)), .val (.ref b120), .val (.long q0), .second, .val (.long q0), .second, .val (.long q0), .second] [(.long q0), (.double (FP.ddiv (FP.l2d q0) (4696837146684686336 : UInt64)))])) rfl (by rw [hml]; rfl) (argsL := [(.long q0)]) (rest := [(.double (FP.ddiv (FP.l2d q0) (4696837146684686336 : UInt64)))]) (lenOf pd__28J_29D rfl) rfl (by show 2 * 0 + _ ≤ _; exact Nat.le_of_eq rfl) (hb hby at_189) (fun _ _ => ⟨rfl, rfl, (by decide : 3 + 0 ≤ _), (by decide : 1027 + 0 ≤ _)⟩)
      dsimp only [Pt.U, Pt.locs, Pt.cells, Pt.slots] at X190 l190 y190 z190 st190 hQ190
      subst l190 y190 z190
      obtain ⟨rfl, N190q, e190⟩ := hQ190
      have N190 := Fr.app N185 N190q
      obtain ⟨cq209, kq209, q209a, q209b, q209c⟩ := isOf hZ e190 E_b120_186
      obtain ⟨_, _, ⟨T209, L209, k209, n209⟩, -, X209, ⟨Lc209, hQ209, l209, y209, z209⟩, st209⟩ := X190.virtualBack hx (y := (⟨"farspeak/greeter/Times", "percentileMillis", "(I)D"⟩ : MethodName)) (z := (⟨"farspeak/greeter/Times", "percentileMillis", "(I)D"⟩ : MethodName)) hown (mvT hZ (hw _ (List.mem_of_getElem? (i := 31) rfl))) (mvT hZ (hw _ (List.mem_of_getElem? (i := 32) rfl))) (notFace_of_selects (args := #[]) (mvT hZ (hw _ (List.mem_of_getElem? (i := 34) rfl)))) (mvT hZ (hw _ (List.mem_of_getElem? (i := 34) rfl))) (mvT hZ (hw _ (List.mem_of_getElem? (i := 33) rfl))) (by decide) (backOf (W := 0) (rm7_1_50 l Z aA hw [] b120 b121 kk121 q0 T185.heap n0 Z185 ne_b120_b121 E_b120_186 F_b120_nanos_187 F_b120_size_188 V_b121_189) hZ (hw _ (List.mem_of_getElem? (i := 35) rfl)) (hw _ (List.mem_of_getElem? (i := 2) rfl)) (by decide) (by decide)) q209a q209c (g := (mkF m 200 #[.val (.long q0), .second, .val (.long q1), .second, .val (.long q2), .second, .val (.int p3), .val (.int (1 : Int32)), .val (.ref b120), .val (.long q0), .second, .val (.long q0), .second, .val (.long q0), .second] [(.int (50 : Int32)), (.ref b120)])) rfl (by rw [hml]; rfl) (Steps.refl _) (argsL := [(.int (50 : Int32))]) (rest := []) (lenOf pd__28I_29D rfl) rfl (by show 2 * 0 + _ ≤ _; exact Nat.le_of_eq rfl) (hb hby at_200) (fun _ _ => ⟨rfl, e190, (by decide : 3 + 1 ≤ _), (by decide : 1027 + 1 ≤ _)⟩)
      dsimp only [Pt.U, Pt.locs, Pt.cells, Pt.slots] at X209 l209 y209 z209 st209 hQ209
      subst l209 y209 z209
      obtain ⟨rfl, N209q, K209⟩ := hQ209
      have N209 := Fr.app N190 N209q
      have KP209 : Keep h0 T209.heap [] := KP185.trans K209 all0
      have Z209 : n0 ≤ T209.heap.size := Nat.le_trans Z185 K209.1
      have E_b120_210 : Exa Z T209.heap b120 "farspeak/greeter/Times" := E_b120_186.keep K209
      have F_b120_nanos_211 : Fld Z T209.heap b120 "farspeak/greeter/Times" "nanos" "[J" (.ref b121) := F_b120_nanos_187.keep K209 nin0
      have F_b120_size_212 : Fld Z T209.heap b120 "farspeak/greeter/Times" "size" "I" (.int (1 : Int32)) := F_b120_size_188.keep K209 nin0
      have V_b121_213 : Arv Z T209.heap b121 kk121 .long (1024 : Int32) [(.long q0)] (.long (0 : Int64)) := V_b121_189.keep K209 nin0
      obtain ⟨_, _, ⟨T214, L214, k214, n214⟩, -, X214, ⟨Lc214, hQ214, l214, y214, z214⟩, st214⟩ := Jvm.LawKit.callS X209 hx (y := (⟨"farspeak/greeter/TimesAddPinLaw", "ms", "(J)D"⟩ : MethodName)) hown (mvT hZ (hw _ (List.mem_of_getElem? (i := 63) rfl))) (mvT hZ (hw _ (List.mem_of_getElem? (i := 64) rfl))) (mvT hZ (hw _ (List.mem_of_getElem? (i := 65) rfl))) (mvT hZ (hw _ (List.mem_of_getElem? (i := 66) rfl))) (by decide) (backOf (W := 2) (rm14 l Z aA hw [] q0 T209.heap n0 Z209) hZ (hw _ (List.mem_of_getElem? (i := 66) rfl)) (hw _ (List.mem_of_getElem? (i := 65) rfl)) (by decide) (by decide)) (g := (mkF m 205 #[.val (.long q0), .second, .val (.long q1), .second, .val (.long q2), .second, .val (.int p3), .val (.int (1 : Int32)), .val (.ref b120), .val (.long q0), .second, .val (.long q0), .second, .val (.long q0), .second] [(.long q0), (.double (FP.ddiv (FP.l2d q0) (4696837146684686336 : UInt64)))])) rfl (by rw [hml]; rfl) (argsL := [(.long q0)]) (rest := [(.double (FP.ddiv (FP.l2d q0) (4696837146684686336 : UInt64)))]) (lenOf pd__28J_29D rfl) rfl (by show 2 * 0 + _ ≤ _; exact Nat.le_of_eq rfl) (hb hby at_205) (fun _ _ => ⟨rfl, rfl, (by decide : 4 + 0 ≤ _), (by decide : 1028 + 0 ≤ _)⟩)
      dsimp only [Pt.U, Pt.locs, Pt.cells, Pt.slots] at X214 l214 y214 z214 st214 hQ214
      subst l214 y214 z214
      obtain ⟨rfl, N214q, e214⟩ := hQ214
      have N214 := Fr.app N209 N214q
      obtain ⟨cq233, kq233, q233a, q233b, q233c⟩ := isOf hZ e214 E_b120_210
      obtain ⟨_, _, ⟨T233, L233, k233, n233⟩, -, X233, ⟨Lc233, hQ233, l233, y233, z233⟩, st233⟩ := X214.virtualBack hx (y := (⟨"farspeak/greeter/Times", "percentileMillis", "(I)D"⟩ : MethodName)) (z := (⟨"farspeak/greeter/Times", "percentileMillis", "(I)D"⟩ : MethodName)) hown (mvT hZ (hw _ (List.mem_of_getElem? (i := 31) rfl))) (mvT hZ (hw _ (List.mem_of_getElem? (i := 32) rfl))) (notFace_of_selects (args := #[]) (mvT hZ (hw _ (List.mem_of_getElem? (i := 34) rfl)))) (mvT hZ (hw _ (List.mem_of_getElem? (i := 34) rfl))) (mvT hZ (hw _ (List.mem_of_getElem? (i := 33) rfl))) (by decide) (backOf (W := 0) (rm7_1_100 l Z aA hw [] b120 b121 kk121 q0 T209.heap n0 Z209 ne_b120_b121 E_b120_210 F_b120_nanos_211 F_b120_size_212 V_b121_213) hZ (hw _ (List.mem_of_getElem? (i := 35) rfl)) (hw _ (List.mem_of_getElem? (i := 2) rfl)) (by decide) (by decide)) q233a q233c (g := (mkF m 216 #[.val (.long q0), .second, .val (.long q1), .second, .val (.long q2), .second, .val (.int p3), .val (.int (1 : Int32)), .val (.ref b120), .val (.long q0), .second, .val (.long q0), .second, .val (.long q0), .second] [(.int (100 : Int32)), (.ref b120)])) rfl (by rw [hml]; rfl) (Steps.refl _) (argsL := [(.int (100 : Int32))]) (rest := []) (lenOf pd__28I_29D rfl) rfl (by show 2 * 0 + _ ≤ _; exact Nat.le_of_eq rfl) (hb hby at_216) (fun _ _ => ⟨rfl, e214, (by decide : 4 + 1 ≤ _), (by decide : 1028 + 1 ≤ _)⟩)
      dsimp only [Pt.U, Pt.locs, Pt.cells, Pt.slots] at X233 l233 y233 z233 st233 hQ233
      subst l233 y233 z233
      obtain ⟨rfl, N233q, K233⟩ := hQ233
      have N233 := Fr.app N214 N233q
      have KP233 : Keep h0 T233.heap [] := KP209.trans K233 all0
      have Z233 : n0 ≤ T233.heap.size := Nat.le_trans Z209 K233.1
      have E_b120_234 : Exa Z T233.heap b120 "farspeak/greeter/Times" := E_b120_210.keep K233
      have F_b120_nanos_235 : Fld Z T233.heap b120 "farspeak/greeter/Times" "nanos" "[J" (.ref b121) := F_b120_nanos_211.keep K233 nin0
      have F_b120_size_236 : Fld Z T233.heap b120 "farspeak/greeter/Times" "size" "I" (.int (1 : Int32)) := F_b120_size_212.keep K233 nin0
      have V_b121_237 : Arv Z T233.heap b121 kk121 .long (1024 : Int32) [(.long q0)] (.long (0 : Int64)) := V_b121_213.keep K233 nin0
      obtain ⟨_, _, ⟨T238, L238, k238, n238⟩, -, X238, ⟨Lc238, hQ238, l238, y238, z238⟩, st238⟩ := Jvm.LawKit.callS X233 hx (y := (⟨"farspeak/greeter/TimesAddPinLaw", "ms", "(J)D"⟩ : MethodName)) hown (mvT hZ (hw _ (List.mem_of_getElem? (i := 63) rfl))) (mvT hZ (hw _ (List.mem_of_getElem? (i := 64) rfl))) (mvT hZ (hw _ (List.mem_of_getElem? (i := 65) rfl))) (mvT hZ (hw _ (List.mem_of_getElem? (i := 66) rfl))) (by decide) (backOf (W := 2) (rm14 l Z aA hw [] q0 T233.heap n0 Z233) hZ (hw _ (List.mem_of_getElem? (i := 66) rfl)) (hw _ (List.mem_of_getElem? (i := 65) rfl)) (by decide) (by decide)) (g := (mkF m 221 #[.val (.long q0), .second, .val (.long q1), .second, .val (.long q2), .second, .val (.int p3), .val (.int (1 : Int32)), .val (.ref b120), .val (.long q0), .second, .val (.long q0), .second, .val (.long q0), .second] [(.long q0), (.double (FP.ddiv (FP.l2d q0) (4696837146684686336 : UInt64)))])) rfl (by rw [hml]; rfl) (argsL := [(.long q0)]) (rest := [(.double (FP.ddiv (FP.l2d q0) (4696837146684686336 : UInt64)))]) (lenOf pd__28J_29D rfl) rfl (by show 2 * 0 + _ ≤ _; exact Nat.le_of_eq rfl) (hb hby at_221) (fun _ _ => ⟨rfl, rfl, (by decide : 5 + 0 ≤ _), (by decide : 1029 + 0 ≤ _)⟩)
      dsimp only [Pt.U, Pt.locs, Pt.cells, Pt.slots] at X238 l238 y238 z238 st238 hQ238
      subst l238 y238 z238
      obtain ⟨rfl, N238q, e238⟩ := hQ238
      have N238 := Fr.app N233 N238q
      have pre239 : ∀ t, Steps p.tables e below (T238.setTop (mkF m 233 #[.val (.long q0), .second, .val (.long q1), .second, .val (.long q2), .second, .val (.int p3), .val (.int (1 : Int32)), .val (.ref b120), .val (.long q0), .second, .val (.long q0), .second, .val (.long q0), .second] [(.int (1 : Int32))])) t → Steps p.tables e below (s₁.setTop (entryFrame m #[(.long q0), (.long q1), (.long q2), (.int p3)] maxLocals)) t := by
        intro t kk
        refine pre156 t ?_
        show Steps p.tables e below (T151.setTop (mkF m 52 #[.val (.long q0), .second, .val (.long q1), .second, .val (.long q2), .second, .val (.int p3), .val (.int (1 : Int32)), .val (.ref b120), .unset, .unset, .unset, .unset, .unset, .unset] [])) _
        refine XS.aload X151.here hx rfl (hb hby at_52) rfl rfl ?_
        show Steps p.tables e below (T151.setTop (mkF m 54 #[.val (.long q0), .second, .val (.long q1), .second, .val (.long q2), .second, .val (.int p3), .val (.int (1 : Int32)), .val (.ref b120), .unset, .unset, .unset, .unset, .unset, .unset] [(.ref b120)])) _
        refine st157.trans ?_
        show Steps p.tables e below (T157.setTop (mkF m 57 #[.val (.long q0), .second, .val (.long q1), .second, .val (.long q2), .second, .val (.int p3), .val (.int (1 : Int32)), .val (.ref b120), .unset, .unset, .unset, .unset, .unset, .unset] [(.int (1 : Int32))])) _
        refine XS.iload X157.here hx rfl (hb hby at_57) rfl ?_
        show Steps p.tables e below (T157.setTop (mkF m 59 #[.val (.long q0), .second, .val (.long q1), .second, .val (.long q2), .second, .val (.int p3), .val (.int (1 : Int32)), .val (.ref b120), .unset, .unset, .unset, .unset, .unset, .unset] [(.int (1 : Int32)), (.int (1 : Int32))])) _
        refine XS.icmpYes X157.here hx rfl (pc0 := 59) (pc' := 64) rfl (hb hby at_59) rfl (teq (by decide : (1 : Int32) = (1 : Int32))).1 (by decide) (by decide) ?_
        show Steps p.tables e below (T157.setTop (mkF m 64 #[.val (.long q0), .second, .val (.long q1), .second, .val (.long q2), .second, .val (.int p3), .val (.int (1 : Int32)), .val (.ref b120), .unset, .unset, .unset, .unset, .unset, .unset] [])) _
        refine XS.iload X157.here hx rfl (hb hby at_64) rfl ?_
        show Steps p.tables e below (T157.setTop (mkF m 66 #[.val (.long q0), .second, .val (.long q1), .second, .val (.long q2), .second, .val (.int p3), .val (.int (1 : Int32)), .val (.ref b120), .unset, .unset, .unset, .unset, .unset, .unset] [(.int (1 : Int32))])) _
        refine XS.ifYes X157.here hx rfl (pc0 := 66) (pc' := 92) rfl (hb hby at_66) rfl ((if0 _ _).trans (feq (by decide : ¬ ((1 : Int32) = (0 : Int32)))).2) (by decide) (by decide) ?_
        show Steps p.tables e below (T157.setTop (mkF m 92 #[.val (.long q0), .second, .val (.long q1), .second, .val (.long q2), .second, .val (.int p3), .val (.int (1 : Int32)), .val (.ref b120), .unset, .unset, .unset, .unset, .unset, .unset] [])) _
        refine XS.iload X157.here hx rfl (hb hby at_92) rfl ?_
        show Steps p.tables e below (T157.setTop (mkF m 94 #[.val (.long q0), .second, .val (.long q1), .second, .val (.long q2), .second, .val (.int p3), .val (.int (1 : Int32)), .val (.ref b120), .unset, .unset, .unset, .unset, .unset, .unset] [(.int (1 : Int32))])) _
        refine XS.iconst X157.here hx rfl (hb hby at_94) ?_
        show Steps p.tables e below (T157.setTop (mkF m 95 #[.val (.long q0), .second, .val (.long q1), .second, .val (.long q2), .second, .val (.int p3), .val (.int (1 : Int32)), .val (.ref b120), .unset, .unset, .unset, .unset, .unset, .unset] [(.int (1 : Int32)), (.int (1 : Int32))])) _
        refine XS.icmpNo X157.here hx rfl (hb hby at_95) rfl (teq (by decide : (1 : Int32) = (1 : Int32))).2 ?_
        show Steps p.tables e below (T157.setTop (mkF m 98 #[.val (.long q0), .second, .val (.long q1), .second, .val (.long q2), .second, .val (.int p3), .val (.int (1 : Int32)), .val (.ref b120), .unset, .unset, .unset, .unset, .unset, .unset] [])) _
        refine XS.lloadN X157.here hx rfl (hb hby at_98) rfl ?_
        show Steps p.tables e below (T157.setTop (mkF m 99 #[.val (.long q0), .second, .val (.long q1), .second, .val (.long q2), .second, .val (.int p3), .val (.int (1 : Int32)), .val (.ref b120), .unset, .unset, .unset, .unset, .unset, .unset] [(.long q0)])) _
        refine XS.lstore X157.here hx rfl (hb hby at_99) rfl (l' := #[.val (.long q0), .second, .val (.long q1), .second, .val (.long q2), .second, .val (.int p3), .val (.int (1 : Int32)), .val (.ref b120), .val (.long q0), .second, .unset, .unset, .unset, .unset]) rfl ?_
        show Steps p.tables e below (T157.setTop (mkF m 101 #[.val (.long q0), .second, .val (.long q1), .second, .val (.long q2), .second, .val (.int p3), .val (.int (1 : Int32)), .val (.ref b120), .val (.long q0), .second, .unset, .unset, .unset, .unset] [])) _
        refine XS.lloadN X157.here hx rfl (hb hby at_101) rfl ?_
        show Steps p.tables e below (T157.setTop (mkF m 102 #[.val (.long q0), .second, .val (.long q1), .second, .val (.long q2), .second, .val (.int p3), .val (.int (1 : Int32)), .val (.ref b120), .val (.long q0), .second, .unset, .unset, .unset, .unset] [(.long q0)])) _
        refine XS.lstore X157.here hx rfl (hb hby at_102) rfl (l' := #[.val (.long q0), .second, .val (.long q1), .second, .val (.long q2), .second, .val (.int p3), .val (.int (1 : Int32)), .val (.ref b120), .val (.long q0), .second, .val (.long q0), .second, .unset, .unset]) rfl ?_
        show Steps p.tables e below (T157.setTop (mkF m 104 #[.val (.long q0), .second, .val (.long q1), .second, .val (.long q2), .second, .val (.int p3), .val (.int (1 : Int32)), .val (.ref b120), .val (.long q0), .second, .val (.long q0), .second, .unset, .unset] [])) _
        refine XS.lloadN X157.here hx rfl (hb hby at_104) rfl ?_
        show Steps p.tables e below (T157.setTop (mkF m 105 #[.val (.long q0), .second, .val (.long q1), .second, .val (.long q2), .second, .val (.int p3), .val (.int (1 : Int32)), .val (.ref b120), .val (.long q0), .second, .val (.long q0), .second, .unset, .unset] [(.long q0)])) _
        refine XS.lstore X157.here hx rfl (hb hby at_105) rfl (l' := #[.val (.long q0), .second, .val (.long q1), .second, .val (.long q2), .second, .val (.int p3), .val (.int (1 : Int32)), .val (.ref b120), .val (.long q0), .second, .val (.long q0), .second, .val (.long q0), .second]) rfl ?_
        show Steps p.tables e below (T157.setTop (mkF m 107 #[.val (.long q0), .second, .val (.long q1), .second, .val (.long q2), .second, .val (.int p3), .val (.int (1 : Int32)), .val (.ref b120), .val (.long q0), .second, .val (.long q0), .second, .val (.long q0), .second] [])) _
        refine XS.goto X157.here hx rfl (pc0 := 107) (pc' := 181) rfl (hb hby at_107) (by decide) (by decide) ?_
        show Steps p.tables e below (T157.setTop (mkF m 181 #[.val (.long q0), .second, .val (.long q1), .second, .val (.long q2), .second, .val (.int p3), .val (.int (1 : Int32)), .val (.ref b120), .val (.long q0), .second, .val (.long q0), .second, .val (.long q0), .second] [])) _
        refine XS.aload X157.here hx rfl (hb hby at_181) rfl rfl ?_
        show Steps p.tables e below (T157.setTop (mkF m 183 #[.val (.long q0), .second, .val (.long q1), .second, .val (.long q2), .second, .val (.int p3), .val (.int (1 : Int32)), .val (.ref b120), .val (.long q0), .second, .val (.long q0), .second, .val (.long q0), .second] [(.ref b120)])) _
        refine XS.iconst X157.here hx rfl (hb hby at_183) ?_
        show Steps p.tables e below (T157.setTop (mkF m 184 #[.val (.long q0), .second, .val (.long q1), .second, .val (.long q2), .second, .val (.int p3), .val (.int (1 : Int32)), .val (.ref b120), .val (.long q0), .second, .val (.long q0), .second, .val (.long q0), .second] [(.int (1 : Int32)), (.ref b120)])) _
        refine st185.trans ?_
        show Steps p.tables e below (T185.setTop (mkF m 187 #[.val (.long q0), .second, .val (.long q1), .second, .val (.long q2), .second, .val (.int p3), .val (.int (1 : Int32)), .val (.ref b120), .val (.long q0), .second, .val (.long q0), .second, .val (.long q0), .second] [(.double (FP.ddiv (FP.l2d q0) (4696837146684686336 : UInt64)))])) _
        refine XS.lload X185.here hx rfl (hb hby at_187) rfl ?_
        show Steps p.tables e below (T185.setTop (mkF m 189 #[.val (.long q0), .second, .val (.long q1), .second, .val (.long q2), .second, .val (.int p3), .val (.int (1 : Int32)), .val (.ref b120), .val (.long q0), .second, .val (.long q0), .second, .val (.long q0), .second] [(.long q0), (.double (FP.ddiv (FP.l2d q0) (4696837146684686336 : UInt64)))])) _
        refine st190 _ ?_
        show Steps p.tables e below (T190.setTop (mkF m 192 #[.val (.long q0), .second, .val (.long q1), .second, .val (.long q2), .second, .val (.int p3), .val (.int (1 : Int32)), .val (.ref b120), .val (.long q0), .second, .val (.long q0), .second, .val (.long q0), .second] [(.double (FP.ddiv (FP.l2d q0) (4696837146684686336 : UInt64))), (.double (FP.ddiv (FP.l2d q0) (4696837146684686336 : UInt64)))])) _
        refine own_dcmplE X190.here hx rfl (hb hby at_192) rfl (own_self q0) ?_
        show Steps p.tables e below (T190.setTop (mkF m 193 #[.val (.long q0), .second, .val (.long q1), .second, .val (.long q2), .second, .val (.int p3), .val (.int (1 : Int32)), .val (.ref b120), .val (.long q0), .second, .val (.long q0), .second, .val (.long q0), .second] [(.int (0 : Int32))])) _
        refine XS.ifNo X190.here hx rfl (hb hby at_193) rfl ((if0 _ _).trans (teq (by decide : (0 : Int32) = (0 : Int32))).2) ?_
        show Steps p.tables e below (T190.setTop (mkF m 196 #[.val (.long q0), .second, .val (.long q1), .second, .val (.long q2), .second, .val (.int p3), .val (.int (1 : Int32)), .val (.ref b120), .val (.long q0), .second, .val (.long q0), .second, .val (.long q0), .second] [])) _
        refine XS.aload X190.here hx rfl (hb hby at_196) rfl rfl ?_
        show Steps p.tables e below (T190.setTop (mkF m 198 #[.val (.long q0), .second, .val (.long q1), .second, .val (.long q2), .second, .val (.int p3), .val (.int (1 : Int32)), .val (.ref b120), .val (.long q0), .second, .val (.long q0), .second, .val (.long q0), .second] [(.ref b120)])) _
        refine XS.bipush X190.here hx rfl (hb hby at_198) ?_
        show Steps p.tables e below (T190.setTop (mkF m 200 #[.val (.long q0), .second, .val (.long q1), .second, .val (.long q2), .second, .val (.int p3), .val (.int (1 : Int32)), .val (.ref b120), .val (.long q0), .second, .val (.long q0), .second, .val (.long q0), .second] [(.int (50 : Int32)), (.ref b120)])) _
        refine st209.trans ?_
        show Steps p.tables e below (T209.setTop (mkF m 203 #[.val (.long q0), .second, .val (.long q1), .second, .val (.long q2), .second, .val (.int p3), .val (.int (1 : Int32)), .val (.ref b120), .val (.long q0), .second, .val (.long q0), .second, .val (.long q0), .second] [(.double (FP.ddiv (FP.l2d q0) (4696837146684686336 : UInt64)))])) _
        refine XS.lload X209.here hx rfl (hb hby at_203) rfl ?_
        show Steps p.tables e below (T209.setTop (mkF m 205 #[.val (.long q0), .second, .val (.long q1), .second, .val (.long q2), .second, .val (.int p3), .val (.int (1 : Int32)), .val (.ref b120), .val (.long q0), .second, .val (.long q0), .second, .val (.long q0), .second] [(.long q0), (.double (FP.ddiv (FP.l2d q0) (4696837146684686336 : UInt64)))])) _
        refine st214 _ ?_
        show Steps p.tables e below (T214.setTop (mkF m 208 #[.val (.long q0), .second, .val (.long q1), .second, .val (.long q2), .second, .val (.int p3), .val (.int (1 : Int32)), .val (.ref b120), .val (.long q0), .second, .val (.long q0), .second, .val (.long q0), .second] [(.double (FP.ddiv (FP.l2d q0) (4696837146684686336 : UInt64))), (.double (FP.ddiv (FP.l2d q0) (4696837146684686336 : UInt64)))])) _
        refine own_dcmplE X214.here hx rfl (hb hby at_208) rfl (own_self q0) ?_
        show Steps p.tables e below (T214.setTop (mkF m 209 #[.val (.long q0), .second, .val (.long q1), .second, .val (.long q2), .second, .val (.int p3), .val (.int (1 : Int32)), .val (.ref b120), .val (.long q0), .second, .val (.long q0), .second, .val (.long q0), .second] [(.int (0 : Int32))])) _
        refine XS.ifNo X214.here hx rfl (hb hby at_209) rfl ((if0 _ _).trans (teq (by decide : (0 : Int32) = (0 : Int32))).2) ?_
        show Steps p.tables e below (T214.setTop (mkF m 212 #[.val (.long q0), .second, .val (.long q1), .second, .val (.long q2), .second, .val (.int p3), .val (.int (1 : Int32)), .val (.ref b120), .val (.long q0), .second, .val (.long q0), .second, .val (.long q0), .second] [])) _
        refine XS.aload X214.here hx rfl (hb hby at_212) rfl rfl ?_
        show Steps p.tables e below (T214.setTop (mkF m 214 #[.val (.long q0), .second, .val (.long q1), .second, .val (.long q2), .second, .val (.int p3), .val (.int (1 : Int32)), .val (.ref b120), .val (.long q0), .second, .val (.long q0), .second, .val (.long q0), .second] [(.ref b120)])) _
        refine XS.bipush X214.here hx rfl (hb hby at_214) ?_
        show Steps p.tables e below (T214.setTop (mkF m 216 #[.val (.long q0), .second, .val (.long q1), .second, .val (.long q2), .second, .val (.int p3), .val (.int (1 : Int32)), .val (.ref b120), .val (.long q0), .second, .val (.long q0), .second, .val (.long q0), .second] [(.int (100 : Int32)), (.ref b120)])) _
        refine st233.trans ?_
        show Steps p.tables e below (T233.setTop (mkF m 219 #[.val (.long q0), .second, .val (.long q1), .second, .val (.long q2), .second, .val (.int p3), .val (.int (1 : Int32)), .val (.ref b120), .val (.long q0), .second, .val (.long q0), .second, .val (.long q0), .second] [(.double (FP.ddiv (FP.l2d q0) (4696837146684686336 : UInt64)))])) _
        refine XS.lload X233.here hx rfl (hb hby at_219) rfl ?_
        show Steps p.tables e below (T233.setTop (mkF m 221 #[.val (.long q0), .second, .val (.long q1), .second, .val (.long q2), .second, .val (.int p3), .val (.int (1 : Int32)), .val (.ref b120), .val (.long q0), .second, .val (.long q0), .second, .val (.long q0), .second] [(.long q0), (.double (FP.ddiv (FP.l2d q0) (4696837146684686336 : UInt64)))])) _
        refine st238 _ ?_
        show Steps p.tables e below (T238.setTop (mkF m 224 #[.val (.long q0), .second, .val (.long q1), .second, .val (.long q2), .second, .val (.int p3), .val (.int (1 : Int32)), .val (.ref b120), .val (.long q0), .second, .val (.long q0), .second, .val (.long q0), .second] [(.double (FP.ddiv (FP.l2d q0) (4696837146684686336 : UInt64))), (.double (FP.ddiv (FP.l2d q0) (4696837146684686336 : UInt64)))])) _
        refine own_dcmplE X238.here hx rfl (hb hby at_224) rfl (own_self q0) ?_
        show Steps p.tables e below (T238.setTop (mkF m 225 #[.val (.long q0), .second, .val (.long q1), .second, .val (.long q2), .second, .val (.int p3), .val (.int (1 : Int32)), .val (.ref b120), .val (.long q0), .second, .val (.long q0), .second, .val (.long q0), .second] [(.int (0 : Int32))])) _
        refine XS.ifNo X238.here hx rfl (hb hby at_225) rfl ((if0 _ _).trans (teq (by decide : (0 : Int32) = (0 : Int32))).2) ?_
        show Steps p.tables e below (T238.setTop (mkF m 228 #[.val (.long q0), .second, .val (.long q1), .second, .val (.long q2), .second, .val (.int p3), .val (.int (1 : Int32)), .val (.ref b120), .val (.long q0), .second, .val (.long q0), .second, .val (.long q0), .second] [])) _
        refine XS.iconst X238.here hx rfl (hb hby at_228) ?_
        show Steps p.tables e below (T238.setTop (mkF m 229 #[.val (.long q0), .second, .val (.long q1), .second, .val (.long q2), .second, .val (.int p3), .val (.int (1 : Int32)), .val (.ref b120), .val (.long q0), .second, .val (.long q0), .second, .val (.long q0), .second] [(.int (1 : Int32))])) _
        refine XS.goto X238.here hx rfl (pc0 := 229) (pc' := 233) rfl (hb hby at_229) (by decide) (by decide) ?_
        exact kk
      obtain ⟨fs, hr, hrun, hended, hW, hsame⟩ := X238.leave (v := some (.int (1 : Int32))) (fun h => by rw [Bd.returns] at h; cases h)
      refine ⟨_, _, pre239 _ ?_, hrun, hended, _, _, rfl, ?_, ⟨_, rfl⟩, hW, hsame.mono (by decide) (by decide)⟩
      · show Steps p.tables e below (T238.setTop (mkF m 233 #[.val (.long q0), .second, .val (.long q1), .second, .val (.long q2), .second, .val (.int p3), .val (.int (1 : Int32)), .val (.ref b120), .val (.long q0), .second, .val (.long q0), .second, .val (.long q0), .second] [(.int (1 : Int32))])) _
        exact retN X238 hx (t := .boolean) Bd.returns (by simp) (hb hby at_233) hr
      · show Q0 Z q0 q1 q2 p3 h0 n0 _ T238.heap _
        rw [e238]
        exact ⟨rfl, N238⟩
    · obtain ⟨cq255, kq255, q255a, q255b, q255c⟩ := isOf hZ rfl Eq151
      obtain ⟨_, _, ⟨T255, L255, k255, n255⟩, -, X255, ⟨Lc255, hQ255, l255, y255, z255⟩, st255⟩ := X151.virtualBack hx (y := (⟨"farspeak/greeter/Times", "add", "(J)V"⟩ : MethodName)) (z := (⟨"farspeak/greeter/Times", "add", "(J)V"⟩ : MethodName)) hown (mvT hZ (hw _ (List.mem_of_getElem? (i := 12) rfl))) (mvT hZ (hw _ (List.mem_of_getElem? (i := 13) rfl))) (notFace_of_selects (args := #[]) (mvT hZ (hw _ (List.mem_of_getElem? (i := 15) rfl)))) (mvT hZ (hw _ (List.mem_of_getElem? (i := 15) rfl))) (mvT hZ (hw _ (List.mem_of_getElem? (i := 14) rfl))) (by decide) (backOf (W := 0) (rm3_1 l Z aA hw [] b120 q1 b121 kk121 q0 T151.heap n0 Z151 g_b120 g_b121 ne_b120_b121 Eq151 Fn151 Fs151 Vq151) hZ (hw _ (List.mem_of_getElem? (i := 16) rfl)) (hw _ (List.mem_of_getElem? (i := 2) rfl)) (by decide) (by decide)) q255a q255c (g := (mkF m 36 #[.val (.long q0), .second, .val (.long q1), .second, .val (.long q2), .second, .val (.int p3), .val (.int kv), .val (.ref b120), .unset, .unset, .unset, .unset, .unset, .unset] [(.long q1), (.ref b120)])) rfl (by rw [hml]; rfl) (Steps.refl _) (argsL := [(.long q1)]) (rest := []) (lenOf pd__28J_29V rfl) rfl (by show 2 * 0 + _ ≤ _; exact Nat.le_of_eq rfl) (hb hby at_36) (fun _ _ => ⟨rfl, rfl, (by decide : 2 + 0 ≤ _), (by decide : 1026 + 0 ≤ _)⟩)
      dsimp only [Pt.U, Pt.locs, Pt.cells, Pt.slots] at X255 l255 y255 z255 st255 hQ255
      subst l255 y255 z255
      obtain ⟨rfl, N255q, K255, Eq255, Fn255, Fs255, Vq255⟩ := hQ255
      have N255 := Fr.app N151 N255q
      have KP255 : Keep h0 T255.heap [] := KP151.trans K255 (allS (Or.inr sz_b120) (allS (Or.inr sz_b121) all0))
      have Z255 : n0 ≤ T255.heap.size := Nat.le_trans Z151 K255.1
      have E_b120_256 : Exa Z T255.heap b120 "farspeak/greeter/Times" := Eq151.keep K255
      have pre258 : ∀ t, Steps p.tables e below (T255.setTop (mkF m 42 #[.val (.long q0), .second, .val (.long q1), .second, .val (.long q2), .second, .val (.int p3), .val (.int kv), .val (.ref b120), .unset, .unset, .unset, .unset, .unset, .unset] [(.int (3 : Int32)), (.int kv)])) t → Steps p.tables e below (s₁.setTop (entryFrame m #[(.long q0), (.long q1), (.long q2), (.int p3)] maxLocals)) t := by
        intro t kk
        refine pre154 t ?_
        show Steps p.tables e below (T151.setTop (mkF m 30 #[.val (.long q0), .second, .val (.long q1), .second, .val (.long q2), .second, .val (.int p3), .val (.int kv), .val (.ref b120), .unset, .unset, .unset, .unset, .unset, .unset] [(.int (2 : Int32)), (.int kv)])) _
        refine XS.icmpNo X151.here hx rfl (hb hby at_30) rfl (flt hc30_153).1 ?_
        show Steps p.tables e below (T151.setTop (mkF m 33 #[.val (.long q0), .second, .val (.long q1), .second, .val (.long q2), .second, .val (.int p3), .val (.int kv), .val (.ref b120), .unset, .unset, .unset, .unset, .unset, .unset] [])) _
        refine XS.aload X151.here hx rfl (hb hby at_33) rfl rfl ?_
        show Steps p.tables e below (T151.setTop (mkF m 35 #[.val (.long q0), .second, .val (.long q1), .second, .val (.long q2), .second, .val (.int p3), .val (.int kv), .val (.ref b120), .unset, .unset, .unset, .unset, .unset, .unset] [(.ref b120)])) _
        refine XS.lloadN X151.here hx rfl (hb hby at_35) rfl ?_
        show Steps p.tables e below (T151.setTop (mkF m 36 #[.val (.long q0), .second, .val (.long q1), .second, .val (.long q2), .second, .val (.int p3), .val (.int kv), .val (.ref b120), .unset, .unset, .unset, .unset, .unset, .unset] [(.long q1), (.ref b120)])) _
        refine st255.trans ?_
        show Steps p.tables e below (T255.setTop (mkF m 39 #[.val (.long q0), .second, .val (.long q1), .second, .val (.long q2), .second, .val (.int p3), .val (.int kv), .val (.ref b120), .unset, .unset, .unset, .unset, .unset, .unset] [])) _
        refine XS.iload X255.here hx rfl (hb hby at_39) rfl ?_
        show Steps p.tables e below (T255.setTop (mkF m 41 #[.val (.long q0), .second, .val (.long q1), .second, .val (.long q2), .second, .val (.int p3), .val (.int kv), .val (.ref b120), .unset, .unset, .unset, .unset, .unset, .unset] [(.int kv)])) _
        refine XS.iconst X255.here hx rfl (hb hby at_41) ?_
        exact kk
      by_cases hc42_257 : kv < (3 : Int32)
      · have pre259 : ∀ t, Steps p.tables e below (T255.setTop (mkF m 52 #[.val (.long q0), .second, .val (.long q1), .second, .val (.long q2), .second, .val (.int p3), .val (.int kv), .val (.ref b120), .unset, .unset, .unset, .unset, .unset, .unset] [])) t → Steps p.tables e below (s₁.setTop (entryFrame m #[(.long q0), (.long q1), (.long q2), (.int p3)] maxLocals)) t := by
          intro t kk
          refine pre258 t ?_
          show Steps p.tables e below (T255.setTop (mkF m 42 #[.val (.long q0), .second, .val (.long q1), .second, .val (.long q2), .second, .val (.int p3), .val (.int kv), .val (.ref b120), .unset, .unset, .unset, .unset, .unset, .unset] [(.int (3 : Int32)), (.int kv)])) _
          refine XS.icmpYes X255.here hx rfl (pc0 := 42) (pc' := 52) rfl (hb hby at_42) rfl (tlt hc42_257).1 (by decide) (by decide) ?_
          exact kk
        have pre260 : ∀ t, Steps p.tables e below (T255.setTop (mkF m 52 #[.val (.long q0), .second, .val (.long q1), .second, .val (.long q2), .second, .val (.int p3), .val (.int (2 : Int32)), .val (.ref b120), .unset, .unset, .unset, .unset, .unset, .unset] [])) t → Steps p.tables e below (s₁.setTop (entryFrame m #[(.long q0), (.long q1), (.long q2), (.int p3)] maxLocals)) t := by
          intro t kk
          refine pre259 t ?_
          rw [(own_k2 kv hc30_153 hc42_257)]
          exact kk
        obtain ⟨cq261, kq261, q261a, q261b, q261c⟩ := isOf hZ rfl Eq255
        obtain ⟨_, _, ⟨T261, L261, k261, n261⟩, -, X261, ⟨Lc261, hQ261, l261, y261, z261⟩, st261⟩ := X255.virtualBack hx (y := (⟨"farspeak/greeter/Times", "size", "()I"⟩ : MethodName)) (z := (⟨"farspeak/greeter/Times", "size", "()I"⟩ : MethodName)) hown (mvT hZ (hw _ (List.mem_of_getElem? (i := 19) rfl))) (mvT hZ (hw _ (List.mem_of_getElem? (i := 20) rfl))) (notFace_of_selects (args := #[]) (mvT hZ (hw _ (List.mem_of_getElem? (i := 22) rfl)))) (mvT hZ (hw _ (List.mem_of_getElem? (i := 22) rfl))) (mvT hZ (hw _ (List.mem_of_getElem? (i := 21) rfl))) (by decide) (backOf (W := 0) (rm4 l Z aA hw [] b120 (2 : Int32) T255.heap n0 Z255 Fs255) hZ (hw _ (List.mem_of_getElem? (i := 23) rfl)) (hw _ (List.mem_of_getElem? (i := 2) rfl)) (by decide) (by decide)) q261a q261c (g := (mkF m 54 #[.val (.long q0), .second, .val (.long q1), .second, .val (.long q2), .second, .val (.int p3), .val (.int (2 : Int32)), .val (.ref b120), .unset, .unset, .unset, .unset, .unset, .unset] [(.ref b120)])) rfl (by rw [hml]; rfl) (Steps.refl _) (argsL := []) (rest := []) (lenOf pd__28_29I rfl) rfl (by show 2 * 0 + _ ≤ _; exact Nat.le_of_eq rfl) (hb hby at_54) (fun _ _ => ⟨rfl, rfl, (by decide : 2 + 0 ≤ _), (by decide : 1026 + 0 ≤ _)⟩)
        dsimp only [Pt.U, Pt.locs, Pt.cells, Pt.slots] at X261 l261 y261 z261 st261 hQ261
        subst l261 y261 z261
        obtain ⟨rfl, N261q, e261⟩ := hQ261
        have N261 := Fr.app N255 N261q
        obtain ⟨_, _, ⟨T262, L262, k262, n262⟩, -, X262, ⟨Lc262, hQ262, l262, y262, z262⟩, st262⟩ := Jvm.LawKit.callS X261 hx (y := (⟨"java/lang/Math", "min", "(JJ)J"⟩ : MethodName)) hown (mvT hZ (hw _ (List.mem_of_getElem? (i := 24) rfl))) (mvT hZ (hw _ (List.mem_of_getElem? (i := 25) rfl))) (mvT hZ (hw _ (List.mem_of_getElem? (i := 26) rfl))) (mvT hZ (hw _ (List.mem_of_getElem? (i := 27) rfl))) (by decide) (backOf (W := 0) (rm5 l Z aA hw [] q0 q1  T255.heap n0 Z255 ) hZ (hw _ (List.mem_of_getElem? (i := 27) rfl)) (hw _ (List.mem_of_getElem? (i := 26) rfl)) (by decide) (by decide)) (g := (mkF m 118 #[.val (.long q0), .second, .val (.long q1), .second, .val (.long q2), .second, .val (.int p3), .val (.int (2 : Int32)), .val (.ref b120), .unset, .unset, .unset, .unset, .unset, .unset] [(.long q1), (.long q0)])) rfl (by rw [hml]; rfl) (argsL := [(.long q0), (.long q1)]) (rest := []) (lenOf pd__28JJ_29J rfl) rfl (by show 2 * 0 + _ ≤ _; exact Nat.le_of_eq rfl) (hb hby at_118) (fun _ _ => ⟨rfl, e261, (by decide : 2 + 0 ≤ _), (by decide : 1026 + 0 ≤ _)⟩)
        dsimp only [Pt.U, Pt.locs, Pt.cells, Pt.slots] at X262 l262 y262 z262 st262 hQ262
        subst l262 y262 z262
        obtain ⟨rfl, N262q, e262⟩ := hQ262
        have N262 := Fr.app N261 N262q
        obtain ⟨_, _, ⟨T263, L263, k263, n263⟩, -, X263, ⟨Lc263, hQ263, l263, y263, z263⟩, st263⟩ := Jvm.LawKit.callS X262 hx (y := (⟨"java/lang/Math", "max", "(JJ)J"⟩ : MethodName)) hown (mvT hZ (hw _ (List.mem_of_getElem? (i := 28) rfl))) (mvT hZ (hw _ (List.mem_of_getElem? (i := 29) rfl))) (mvT hZ (hw _ (List.mem_of_getElem? (i := 26) rfl))) (mvT hZ (hw _ (List.mem_of_getElem? (i := 30) rfl))) (by decide) (backOf (W := 0) (rm6 l Z aA hw [] q0 q1  T255.heap n0 Z255 ) hZ (hw _ (List.mem_of_getElem? (i := 30) rfl)) (hw _ (List.mem_of_getElem? (i := 26) rfl)) (by decide) (by decide)) (g := (mkF m 129 #[.val (.long q0), .second, .val (.long q1), .second, .val (.long q2), .second, .val (.int p3), .val (.int (2 : Int32)), .val (.ref b120), .val (.long (F5 q0 q1)), .second, .val (.long (F5 q0 q1)), .second, .unset, .unset] [(.long q1), (.long q0)])) rfl (by rw [hml]; rfl) (argsL := [(.long q0), (.long q1)]) (rest := []) (lenOf pd__28JJ_29J rfl) rfl (by show 2 * 0 + _ ≤ _; exact Nat.le_of_eq rfl) (hb hby at_129) (fun _ _ => ⟨rfl, e262, (by decide : 2 + 0 ≤ _), (by decide : 1026 + 0 ≤ _)⟩)
        dsimp only [Pt.U, Pt.locs, Pt.cells, Pt.slots] at X263 l263 y263 z263 st263 hQ263
        subst l263 y263 z263
        obtain ⟨rfl, N263q, e263⟩ := hQ263
        have N263 := Fr.app N262 N263q
        obtain ⟨cq291, kq291, q291a, q291b, q291c⟩ := isOf hZ e263 Eq255
        obtain ⟨_, _, ⟨T291, L291, k291, n291⟩, -, X291, ⟨Lc291, hQ291, l291, y291, z291⟩, st291⟩ := X263.virtualBack hx (y := (⟨"farspeak/greeter/Times", "percentileMillis", "(I)D"⟩ : MethodName)) (z := (⟨"farspeak/greeter/Times", "percentileMillis", "(I)D"⟩ : MethodName)) hown (mvT hZ (hw _ (List.mem_of_getElem? (i := 31) rfl))) (mvT hZ (hw _ (List.mem_of_getElem? (i := 32) rfl))) (notFace_of_selects (args := #[]) (mvT hZ (hw _ (List.mem_of_getElem? (i := 34) rfl)))) (mvT hZ (hw _ (List.mem_of_getElem? (i := 34) rfl))) (mvT hZ (hw _ (List.mem_of_getElem? (i := 33) rfl))) (by decide) (backOf (W := 0) (rm7_2_1 l Z aA hw [] b120 b121 kk121 q0 q1 T255.heap n0 Z255 ne_b120_b121 Eq255 Fn255 Fs255 Vq255) hZ (hw _ (List.mem_of_getElem? (i := 35) rfl)) (hw _ (List.mem_of_getElem? (i := 2) rfl)) (by decide) (by decide)) q291a q291c (g := (mkF m 184 #[.val (.long q0), .second, .val (.long q1), .second, .val (.long q2), .second, .val (.int p3), .val (.int (2 : Int32)), .val (.ref b120), .val (.long (F5 q0 q1)), .second, .val (.long (F5 q0 q1)), .second, .val (.long (F6 q0 q1)), .second] [(.int (1 : Int32)), (.ref b120)])) rfl (by rw [hml]; rfl) (Steps.refl _) (argsL := [(.int (1 : Int32))]) (rest := []) (lenOf pd__28I_29D rfl) rfl (by show 2 * 0 + _ ≤ _; exact Nat.le_of_eq rfl) (hb hby at_184) (fun _ _ => ⟨rfl, e263, (by decide : 2 + 1 ≤ _), (by decide : 1026 + 2 ≤ _)⟩)
        dsimp only [Pt.U, Pt.locs, Pt.cells, Pt.slots] at X291 l291 y291 z291 st291 hQ291
        subst l291 y291 z291
        obtain ⟨rfl, N291q, K291⟩ := hQ291
        have N291 := Fr.app N263 N291q
        have KP291 : Keep h0 T291.heap [] := KP255.trans K291 all0
        have Z291 : n0 ≤ T291.heap.size := Nat.le_trans Z255 K291.1
        have E_b120_292 : Exa Z T291.heap b120 "farspeak/greeter/Times" := Eq255.keep K291
        have F_b120_nanos_293 : Fld Z T291.heap b120 "farspeak/greeter/Times" "nanos" "[J" (.ref b121) := Fn255.keep K291 nin0
        have F_b120_size_294 : Fld Z T291.heap b120 "farspeak/greeter/Times" "size" "I" (.int (2 : Int32)) := Fs255.keep K291 nin0
        have V_b121_295 : Arv Z T291.heap b121 kk121 .long (1024 : Int32) [(.long q0), (.long q1)] (.long (0 : Int64)) := Vq255.keep K291 nin0
        obtain ⟨_, _, ⟨T296, L296, k296, n296⟩, -, X296, ⟨Lc296, hQ296, l296, y296, z296⟩, st296⟩ := Jvm.LawKit.callS X291 hx (y := (⟨"farspeak/greeter/TimesAddPinLaw", "ms", "(J)D"⟩ : MethodName)) hown (mvT hZ (hw _ (List.mem_of_getElem? (i := 63) rfl))) (mvT hZ (hw _ (List.mem_of_getElem? (i := 64) rfl))) (mvT hZ (hw _ (List.mem_of_getElem? (i := 65) rfl))) (mvT hZ (hw _ (List.mem_of_getElem? (i := 66) rfl))) (by decide) (backOf (W := 2) (rm14 l Z aA hw [] (F5 q0 q1) T291.heap n0 Z291) hZ (hw _ (List.mem_of_getElem? (i := 66) rfl)) (hw _ (List.mem_of_getElem? (i := 65) rfl)) (by decide) (by decide)) (g := (mkF m 189 #[.val (.long q0), .second, .val (.long q1), .second, .val (.long q2), .second, .val (.int p3), .val (.int (2 : Int32)), .val (.ref b120), .val (.long (F5 q0 q1)), .second, .val (.long (F5 q0 q1)), .second, .val (.long (F6 q0 q1)), .second] [(.long (F5 q0 q1)), (.double (FP.ddiv (FP.l2d (own_s2_0 q0 q1)) (4696837146684686336 : UInt64)))])) rfl (by rw [hml]; rfl) (argsL := [(.long (F5 q0 q1))]) (rest := [(.double (FP.ddiv (FP.l2d (own_s2_0 q0 q1)) (4696837146684686336 : UInt64)))]) (lenOf pd__28J_29D rfl) rfl (by show 2 * 0 + _ ≤ _; exact Nat.le_of_eq rfl) (hb hby at_189) (fun _ _ => ⟨rfl, rfl, (by decide : 3 + 0 ≤ _), (by decide : 1028 + 0 ≤ _)⟩)
        dsimp only [Pt.U, Pt.locs, Pt.cells, Pt.slots] at X296 l296 y296 z296 st296 hQ296
        subst l296 y296 z296
        obtain ⟨rfl, N296q, e296⟩ := hQ296
        have N296 := Fr.app N291 N296q
        obtain ⟨cq315, kq315, q315a, q315b, q315c⟩ := isOf hZ e296 E_b120_292
        obtain ⟨_, _, ⟨T315, L315, k315, n315⟩, -, X315, ⟨Lc315, hQ315, l315, y315, z315⟩, st315⟩ := X296.virtualBack hx (y := (⟨"farspeak/greeter/Times", "percentileMillis", "(I)D"⟩ : MethodName)) (z := (⟨"farspeak/greeter/Times", "percentileMillis", "(I)D"⟩ : MethodName)) hown (mvT hZ (hw _ (List.mem_of_getElem? (i := 31) rfl))) (mvT hZ (hw _ (List.mem_of_getElem? (i := 32) rfl))) (notFace_of_selects (args := #[]) (mvT hZ (hw _ (List.mem_of_getElem? (i := 34) rfl)))) (mvT hZ (hw _ (List.mem_of_getElem? (i := 34) rfl))) (mvT hZ (hw _ (List.mem_of_getElem? (i := 33) rfl))) (by decide) (backOf (W := 0) (rm7_2_50 l Z aA hw [] b120 b121 kk121 q0 q1 T291.heap n0 Z291 ne_b120_b121 E_b120_292 F_b120_nanos_293 F_b120_size_294 V_b121_295) hZ (hw _ (List.mem_of_getElem? (i := 35) rfl)) (hw _ (List.mem_of_getElem? (i := 2) rfl)) (by decide) (by decide)) q315a q315c (g := (mkF m 200 #[.val (.long q0), .second, .val (.long q1), .second, .val (.long q2), .second, .val (.int p3), .val (.int (2 : Int32)), .val (.ref b120), .val (.long (F5 q0 q1)), .second, .val (.long (F5 q0 q1)), .second, .val (.long (F6 q0 q1)), .second] [(.int (50 : Int32)), (.ref b120)])) rfl (by rw [hml]; rfl) (Steps.refl _) (argsL := [(.int (50 : Int32))]) (rest := []) (lenOf pd__28I_29D rfl) rfl (by show 2 * 0 + _ ≤ _; exact Nat.le_of_eq rfl) (hb hby at_200) (fun _ _ => ⟨rfl, e296, (by decide : 3 + 1 ≤ _), (by decide : 1028 + 2 ≤ _)⟩)
        dsimp only [Pt.U, Pt.locs, Pt.cells, Pt.slots] at X315 l315 y315 z315 st315 hQ315
        subst l315 y315 z315
        obtain ⟨rfl, N315q, K315⟩ := hQ315
        have N315 := Fr.app N296 N315q
        have KP315 : Keep h0 T315.heap [] := KP291.trans K315 all0
        have Z315 : n0 ≤ T315.heap.size := Nat.le_trans Z291 K315.1
        have E_b120_316 : Exa Z T315.heap b120 "farspeak/greeter/Times" := E_b120_292.keep K315
        have F_b120_nanos_317 : Fld Z T315.heap b120 "farspeak/greeter/Times" "nanos" "[J" (.ref b121) := F_b120_nanos_293.keep K315 nin0
        have F_b120_size_318 : Fld Z T315.heap b120 "farspeak/greeter/Times" "size" "I" (.int (2 : Int32)) := F_b120_size_294.keep K315 nin0
        have V_b121_319 : Arv Z T315.heap b121 kk121 .long (1024 : Int32) [(.long q0), (.long q1)] (.long (0 : Int64)) := V_b121_295.keep K315 nin0
        obtain ⟨_, _, ⟨T320, L320, k320, n320⟩, -, X320, ⟨Lc320, hQ320, l320, y320, z320⟩, st320⟩ := Jvm.LawKit.callS X315 hx (y := (⟨"farspeak/greeter/TimesAddPinLaw", "ms", "(J)D"⟩ : MethodName)) hown (mvT hZ (hw _ (List.mem_of_getElem? (i := 63) rfl))) (mvT hZ (hw _ (List.mem_of_getElem? (i := 64) rfl))) (mvT hZ (hw _ (List.mem_of_getElem? (i := 65) rfl))) (mvT hZ (hw _ (List.mem_of_getElem? (i := 66) rfl))) (by decide) (backOf (W := 2) (rm14 l Z aA hw [] (F5 q0 q1) T315.heap n0 Z315) hZ (hw _ (List.mem_of_getElem? (i := 66) rfl)) (hw _ (List.mem_of_getElem? (i := 65) rfl)) (by decide) (by decide)) (g := (mkF m 205 #[.val (.long q0), .second, .val (.long q1), .second, .val (.long q2), .second, .val (.int p3), .val (.int (2 : Int32)), .val (.ref b120), .val (.long (F5 q0 q1)), .second, .val (.long (F5 q0 q1)), .second, .val (.long (F6 q0 q1)), .second] [(.long (F5 q0 q1)), (.double (FP.ddiv (FP.l2d (own_s2_0 q0 q1)) (4696837146684686336 : UInt64)))])) rfl (by rw [hml]; rfl) (argsL := [(.long (F5 q0 q1))]) (rest := [(.double (FP.ddiv (FP.l2d (own_s2_0 q0 q1)) (4696837146684686336 : UInt64)))]) (lenOf pd__28J_29D rfl) rfl (by show 2 * 0 + _ ≤ _; exact Nat.le_of_eq rfl) (hb hby at_205) (fun _ _ => ⟨rfl, rfl, (by decide : 4 + 0 ≤ _), (by decide : 1030 + 0 ≤ _)⟩)
        dsimp only [Pt.U, Pt.locs, Pt.cells, Pt.slots] at X320 l320 y320 z320 st320 hQ320
        subst l320 y320 z320
        obtain ⟨rfl, N320q, e320⟩ := hQ320
        have N320 := Fr.app N315 N320q
        obtain ⟨cq339, kq339, q339a, q339b, q339c⟩ := isOf hZ e320 E_b120_316
        obtain ⟨_, _, ⟨T339, L339, k339, n339⟩, -, X339, ⟨Lc339, hQ339, l339, y339, z339⟩, st339⟩ := X320.virtualBack hx (y := (⟨"farspeak/greeter/Times", "percentileMillis", "(I)D"⟩ : MethodName)) (z := (⟨"farspeak/greeter/Times", "percentileMillis", "(I)D"⟩ : MethodName)) hown (mvT hZ (hw _ (List.mem_of_getElem? (i := 31) rfl))) (mvT hZ (hw _ (List.mem_of_getElem? (i := 32) rfl))) (notFace_of_selects (args := #[]) (mvT hZ (hw _ (List.mem_of_getElem? (i := 34) rfl)))) (mvT hZ (hw _ (List.mem_of_getElem? (i := 34) rfl))) (mvT hZ (hw _ (List.mem_of_getElem? (i := 33) rfl))) (by decide) (backOf (W := 0) (rm7_2_100 l Z aA hw [] b120 b121 kk121 q0 q1 T315.heap n0 Z315 ne_b120_b121 E_b120_316 F_b120_nanos_317 F_b120_size_318 V_b121_319) hZ (hw _ (List.mem_of_getElem? (i := 35) rfl)) (hw _ (List.mem_of_getElem? (i := 2) rfl)) (by decide) (by decide)) q339a q339c (g := (mkF m 216 #[.val (.long q0), .second, .val (.long q1), .second, .val (.long q2), .second, .val (.int p3), .val (.int (2 : Int32)), .val (.ref b120), .val (.long (F5 q0 q1)), .second, .val (.long (F5 q0 q1)), .second, .val (.long (F6 q0 q1)), .second] [(.int (100 : Int32)), (.ref b120)])) rfl (by rw [hml]; rfl) (Steps.refl _) (argsL := [(.int (100 : Int32))]) (rest := []) (lenOf pd__28I_29D rfl) rfl (by show 2 * 0 + _ ≤ _; exact Nat.le_of_eq rfl) (hb hby at_216) (fun _ _ => ⟨rfl, e320, (by decide : 4 + 1 ≤ _), (by decide : 1030 + 2 ≤ _)⟩)
        dsimp only [Pt.U, Pt.locs, Pt.cells, Pt.slots] at X339 l339 y339 z339 st339 hQ339
        subst l339 y339 z339
        obtain ⟨rfl, N339q, K339⟩ := hQ339
        have N339 := Fr.app N320 N339q
        have KP339 : Keep h0 T339.heap [] := KP315.trans K339 all0
        have Z339 : n0 ≤ T339.heap.size := Nat.le_trans Z315 K339.1
        have E_b120_340 : Exa Z T339.heap b120 "farspeak/greeter/Times" := E_b120_316.keep K339
        have F_b120_nanos_341 : Fld Z T339.heap b120 "farspeak/greeter/Times" "nanos" "[J" (.ref b121) := F_b120_nanos_317.keep K339 nin0
        have F_b120_size_342 : Fld Z T339.heap b120 "farspeak/greeter/Times" "size" "I" (.int (2 : Int32)) := F_b120_size_318.keep K339 nin0
        have V_b121_343 : Arv Z T339.heap b121 kk121 .long (1024 : Int32) [(.long q0), (.long q1)] (.long (0 : Int64)) := V_b121_319.keep K339 nin0
        obtain ⟨_, _, ⟨T344, L344, k344, n344⟩, -, X344, ⟨Lc344, hQ344, l344, y344, z344⟩, st344⟩ := Jvm.LawKit.callS X339 hx (y := (⟨"farspeak/greeter/TimesAddPinLaw", "ms", "(J)D"⟩ : MethodName)) hown (mvT hZ (hw _ (List.mem_of_getElem? (i := 63) rfl))) (mvT hZ (hw _ (List.mem_of_getElem? (i := 64) rfl))) (mvT hZ (hw _ (List.mem_of_getElem? (i := 65) rfl))) (mvT hZ (hw _ (List.mem_of_getElem? (i := 66) rfl))) (by decide) (backOf (W := 2) (rm14 l Z aA hw [] (F6 q0 q1) T339.heap n0 Z339) hZ (hw _ (List.mem_of_getElem? (i := 66) rfl)) (hw _ (List.mem_of_getElem? (i := 65) rfl)) (by decide) (by decide)) (g := (mkF m 221 #[.val (.long q0), .second, .val (.long q1), .second, .val (.long q2), .second, .val (.int p3), .val (.int (2 : Int32)), .val (.ref b120), .val (.long (F5 q0 q1)), .second, .val (.long (F5 q0 q1)), .second, .val (.long (F6 q0 q1)), .second] [(.long (F6 q0 q1)), (.double (FP.ddiv (FP.l2d (own_s2_1 q0 q1)) (4696837146684686336 : UInt64)))])) rfl (by rw [hml]; rfl) (argsL := [(.long (F6 q0 q1))]) (rest := [(.double (FP.ddiv (FP.l2d (own_s2_1 q0 q1)) (4696837146684686336 : UInt64)))]) (lenOf pd__28J_29D rfl) rfl (by show 2 * 0 + _ ≤ _; exact Nat.le_of_eq rfl) (hb hby at_221) (fun _ _ => ⟨rfl, rfl, (by decide : 5 + 0 ≤ _), (by decide : 1032 + 0 ≤ _)⟩)
        dsimp only [Pt.U, Pt.locs, Pt.cells, Pt.slots] at X344 l344 y344 z344 st344 hQ344
        subst l344 y344 z344
        obtain ⟨rfl, N344q, e344⟩ := hQ344
        have N344 := Fr.app N339 N344q
        have pre345 : ∀ t, Steps p.tables e below (T344.setTop (mkF m 233 #[.val (.long q0), .second, .val (.long q1), .second, .val (.long q2), .second, .val (.int p3), .val (.int (2 : Int32)), .val (.ref b120), .val (.long (F5 q0 q1)), .second, .val (.long (F5 q0 q1)), .second, .val (.long (F6 q0 q1)), .second] [(.int (1 : Int32))])) t → Steps p.tables e below (s₁.setTop (entryFrame m #[(.long q0), (.long q1), (.long q2), (.int p3)] maxLocals)) t := by
          intro t kk
          refine pre260 t ?_
          show Steps p.tables e below (T255.setTop (mkF m 52 #[.val (.long q0), .second, .val (.long q1), .second, .val (.long q2), .second, .val (.int p3), .val (.int (2 : Int32)), .val (.ref b120), .unset, .unset, .unset, .unset, .unset, .unset] [])) _
          refine XS.aload X255.here hx rfl (hb hby at_52) rfl rfl ?_
          show Steps p.tables e below (T255.setTop (mkF m 54 #[.val (.long q0), .second, .val (.long q1), .second, .val (.long q2), .second, .val (.int p3), .val (.int (2 : Int32)), .val (.ref b120), .unset, .unset, .unset, .unset, .unset, .unset] [(.ref b120)])) _
          refine st261.trans ?_
          show Steps p.tables e below (T261.setTop (mkF m 57 #[.val (.long q0), .second, .val (.long q1), .second, .val (.long q2), .second, .val (.int p3), .val (.int (2 : Int32)), .val (.ref b120), .unset, .unset, .unset, .unset, .unset, .unset] [(.int (2 : Int32))])) _
          refine XS.iload X261.here hx rfl (hb hby at_57) rfl ?_
          show Steps p.tables e below (T261.setTop (mkF m 59 #[.val (.long q0), .second, .val (.long q1), .second, .val (.long q2), .second, .val (.int p3), .val (.int (2 : Int32)), .val (.ref b120), .unset, .unset, .unset, .unset, .unset, .unset] [(.int (2 : Int32)), (.int (2 : Int32))])) _
          refine XS.icmpYes X261.here hx rfl (pc0 := 59) (pc' := 64) rfl (hb hby at_59) rfl (teq (by decide : (2 : Int32) = (2 : Int32))).1 (by decide) (by decide) ?_
          show Steps p.tables e below (T261.setTop (mkF m 64 #[.val (.long q0), .second, .val (.long q1), .second, .val (.long q2), .second, .val (.int p3), .val (.int (2 : Int32)), .val (.ref b120), .unset, .unset, .unset, .unset, .unset, .unset] [])) _
          refine XS.iload X261.here hx rfl (hb hby at_64) rfl ?_
          show Steps p.tables e below (T261.setTop (mkF m 66 #[.val (.long q0), .second, .val (.long q1), .second, .val (.long q2), .second, .val (.int p3), .val (.int (2 : Int32)), .val (.ref b120), .unset, .unset, .unset, .unset, .unset, .unset] [(.int (2 : Int32))])) _
          refine XS.ifYes X261.here hx rfl (pc0 := 66) (pc' := 92) rfl (hb hby at_66) rfl ((if0 _ _).trans (feq (by decide : ¬ ((2 : Int32) = (0 : Int32)))).2) (by decide) (by decide) ?_
          show Steps p.tables e below (T261.setTop (mkF m 92 #[.val (.long q0), .second, .val (.long q1), .second, .val (.long q2), .second, .val (.int p3), .val (.int (2 : Int32)), .val (.ref b120), .unset, .unset, .unset, .unset, .unset, .unset] [])) _
          refine XS.iload X261.here hx rfl (hb hby at_92) rfl ?_
          show Steps p.tables e below (T261.setTop (mkF m 94 #[.val (.long q0), .second, .val (.long q1), .second, .val (.long q2), .second, .val (.int p3), .val (.int (2 : Int32)), .val (.ref b120), .unset, .unset, .unset, .unset, .unset, .unset] [(.int (2 : Int32))])) _
          refine XS.iconst X261.here hx rfl (hb hby at_94) ?_
          show Steps p.tables e below (T261.setTop (mkF m 95 #[.val (.long q0), .second, .val (.long q1), .second, .val (.long q2), .second, .val (.int p3), .val (.int (2 : Int32)), .val (.ref b120), .unset, .unset, .unset, .unset, .unset, .unset] [(.int (1 : Int32)), (.int (2 : Int32))])) _
          refine XS.icmpYes X261.here hx rfl (pc0 := 95) (pc' := 110) rfl (hb hby at_95) rfl (feq (by decide : ¬ ((2 : Int32) = (1 : Int32)))).2 (by decide) (by decide) ?_
          show Steps p.tables e below (T261.setTop (mkF m 110 #[.val (.long q0), .second, .val (.long q1), .second, .val (.long q2), .second, .val (.int p3), .val (.int (2 : Int32)), .val (.ref b120), .unset, .unset, .unset, .unset, .unset, .unset] [])) _
          refine XS.iload X261.here hx rfl (hb hby at_110) rfl ?_
          show Steps p.tables e below (T261.setTop (mkF m 112 #[.val (.long q0), .second, .val (.long q1), .second, .val (.long q2), .second, .val (.int p3), .val (.int (2 : Int32)), .val (.ref b120), .unset, .unset, .unset, .unset, .unset, .unset] [(.int (2 : Int32))])) _
          refine XS.iconst X261.here hx rfl (hb hby at_112) ?_
          show Steps p.tables e below (T261.setTop (mkF m 113 #[.val (.long q0), .second, .val (.long q1), .second, .val (.long q2), .second, .val (.int p3), .val (.int (2 : Int32)), .val (.ref b120), .unset, .unset, .unset, .unset, .unset, .unset] [(.int (2 : Int32)), (.int (2 : Int32))])) _
          refine XS.icmpNo X261.here hx rfl (hb hby at_113) rfl (teq (by decide : (2 : Int32) = (2 : Int32))).2 ?_
          show Steps p.tables e below (T261.setTop (mkF m 116 #[.val (.long q0), .second, .val (.long q1), .second, .val (.long q2), .second, .val (.int p3), .val (.int (2 : Int32)), .val (.ref b120), .unset, .unset, .unset, .unset, .unset, .unset] [])) _
          refine XS.lloadN X261.here hx rfl (hb hby at_116) rfl ?_
          show Steps p.tables e below (T261.setTop (mkF m 117 #[.val (.long q0), .second, .val (.long q1), .second, .val (.long q2), .second, .val (.int p3), .val (.int (2 : Int32)), .val (.ref b120), .unset, .unset, .unset, .unset, .unset, .unset] [(.long q0)])) _
          refine XS.lloadN X261.here hx rfl (hb hby at_117) rfl ?_
          show Steps p.tables e below (T261.setTop (mkF m 118 #[.val (.long q0), .second, .val (.long q1), .second, .val (.long q2), .second, .val (.int p3), .val (.int (2 : Int32)), .val (.ref b120), .unset, .unset, .unset, .unset, .unset, .unset] [(.long q1), (.long q0)])) _
          refine st262 _ ?_
          show Steps p.tables e below (T262.setTop (mkF m 121 #[.val (.long q0), .second, .val (.long q1), .second, .val (.long q2), .second, .val (.int p3), .val (.int (2 : Int32)), .val (.ref b120), .unset, .unset, .unset, .unset, .unset, .unset] [(.long (F5 q0 q1))])) _
          refine XS.lstore X262.here hx rfl (hb hby at_121) rfl (l' := #[.val (.long q0), .second, .val (.long q1), .second, .val (.long q2), .second, .val (.int p3), .val (.int (2 : Int32)), .val (.ref b120), .val (.long (F5 q0 q1)), .second, .unset, .unset, .unset, .unset]) rfl ?_
          show Steps p.tables e below (T262.setTop (mkF m 123 #[.val (.long q0), .second, .val (.long q1), .second, .val (.long q2), .second, .val (.int p3), .val (.int (2 : Int32)), .val (.ref b120), .val (.long (F5 q0 q1)), .second, .unset, .unset, .unset, .unset] [])) _
          refine XS.lload X262.here hx rfl (hb hby at_123) rfl ?_
          show Steps p.tables e below (T262.setTop (mkF m 125 #[.val (.long q0), .second, .val (.long q1), .second, .val (.long q2), .second, .val (.int p3), .val (.int (2 : Int32)), .val (.ref b120), .val (.long (F5 q0 q1)), .second, .unset, .unset, .unset, .unset] [(.long (F5 q0 q1))])) _
          refine XS.lstore X262.here hx rfl (hb hby at_125) rfl (l' := #[.val (.long q0), .second, .val (.long q1), .second, .val (.long q2), .second, .val (.int p3), .val (.int (2 : Int32)), .val (.ref b120), .val (.long (F5 q0 q1)), .second, .val (.long (F5 q0 q1)), .second, .unset, .unset]) rfl ?_
          show Steps p.tables e below (T262.setTop (mkF m 127 #[.val (.long q0), .second, .val (.long q1), .second, .val (.long q2), .second, .val (.int p3), .val (.int (2 : Int32)), .val (.ref b120), .val (.long (F5 q0 q1)), .second, .val (.long (F5 q0 q1)), .second, .unset, .unset] [])) _
          refine XS.lloadN X262.here hx rfl (hb hby at_127) rfl ?_
          show Steps p.tables e below (T262.setTop (mkF m 128 #[.val (.long q0), .second, .val (.long q1), .second, .val (.long q2), .second, .val (.int p3), .val (.int (2 : Int32)), .val (.ref b120), .val (.long (F5 q0 q1)), .second, .val (.long (F5 q0 q1)), .second, .unset, .unset] [(.long q0)])) _
          refine XS.lloadN X262.here hx rfl (hb hby at_128) rfl ?_
          show Steps p.tables e below (T262.setTop (mkF m 129 #[.val (.long q0), .second, .val (.long q1), .second, .val (.long q2), .second, .val (.int p3), .val (.int (2 : Int32)), .val (.ref b120), .val (.long (F5 q0 q1)), .second, .val (.long (F5 q0 q1)), .second, .unset, .unset] [(.long q1), (.long q0)])) _
          refine st263 _ ?_
          show Steps p.tables e below (T263.setTop (mkF m 132 #[.val (.long q0), .second, .val (.long q1), .second, .val (.long q2), .second, .val (.int p3), .val (.int (2 : Int32)), .val (.ref b120), .val (.long (F5 q0 q1)), .second, .val (.long (F5 q0 q1)), .second, .unset, .unset] [(.long (F6 q0 q1))])) _
          refine XS.lstore X263.here hx rfl (hb hby at_132) rfl (l' := #[.val (.long q0), .second, .val (.long q1), .second, .val (.long q2), .second, .val (.int p3), .val (.int (2 : Int32)), .val (.ref b120), .val (.long (F5 q0 q1)), .second, .val (.long (F5 q0 q1)), .second, .val (.long (F6 q0 q1)), .second]) rfl ?_
          show Steps p.tables e below (T263.setTop (mkF m 134 #[.val (.long q0), .second, .val (.long q1), .second, .val (.long q2), .second, .val (.int p3), .val (.int (2 : Int32)), .val (.ref b120), .val (.long (F5 q0 q1)), .second, .val (.long (F5 q0 q1)), .second, .val (.long (F6 q0 q1)), .second] [])) _
          refine XS.goto X263.here hx rfl (pc0 := 134) (pc' := 181) rfl (hb hby at_134) (by decide) (by decide) ?_
          show Steps p.tables e below (T263.setTop (mkF m 181 #[.val (.long q0), .second, .val (.long q1), .second, .val (.long q2), .second, .val (.int p3), .val (.int (2 : Int32)), .val (.ref b120), .val (.long (F5 q0 q1)), .second, .val (.long (F5 q0 q1)), .second, .val (.long (F6 q0 q1)), .second] [])) _
          refine XS.aload X263.here hx rfl (hb hby at_181) rfl rfl ?_
          show Steps p.tables e below (T263.setTop (mkF m 183 #[.val (.long q0), .second, .val (.long q1), .second, .val (.long q2), .second, .val (.int p3), .val (.int (2 : Int32)), .val (.ref b120), .val (.long (F5 q0 q1)), .second, .val (.long (F5 q0 q1)), .second, .val (.long (F6 q0 q1)), .second] [(.ref b120)])) _
          refine XS.iconst X263.here hx rfl (hb hby at_183) ?_
          show Steps p.tables e below (T263.setTop (mkF m 184 #[.val (.long q0), .second, .val (.long q1), .second, .val (.long q2), .second, .val (.int p3), .val (.int (2 : Int32)), .val (.ref b120), .val (.long (F5 q0 q1)), .second, .val (.long (F5 q0 q1)), .second, .val (.long (F6 q0 q1)), .second] [(.int (1 : Int32)), (.ref b120)])) _
          refine st291.trans ?_
          show Steps p.tables e below (T291.setTop (mkF m 187 #[.val (.long q0), .second, .val (.long q1), .second, .val (.long q2), .second, .val (.int p3), .val (.int (2 : Int32)), .val (.ref b120), .val (.long (F5 q0 q1)), .second, .val (.long (F5 q0 q1)), .second, .val (.long (F6 q0 q1)), .second] [(.double (FP.ddiv (FP.l2d (own_s2_0 q0 q1)) (4696837146684686336 : UInt64)))])) _
          refine XS.lload X291.here hx rfl (hb hby at_187) rfl ?_
          show Steps p.tables e below (T291.setTop (mkF m 189 #[.val (.long q0), .second, .val (.long q1), .second, .val (.long q2), .second, .val (.int p3), .val (.int (2 : Int32)), .val (.ref b120), .val (.long (F5 q0 q1)), .second, .val (.long (F5 q0 q1)), .second, .val (.long (F6 q0 q1)), .second] [(.long (F5 q0 q1)), (.double (FP.ddiv (FP.l2d (own_s2_0 q0 q1)) (4696837146684686336 : UInt64)))])) _
          refine st296 _ ?_
          show Steps p.tables e below (T296.setTop (mkF m 192 #[.val (.long q0), .second, .val (.long q1), .second, .val (.long q2), .second, .val (.int p3), .val (.int (2 : Int32)), .val (.ref b120), .val (.long (F5 q0 q1)), .second, .val (.long (F5 q0 q1)), .second, .val (.long (F6 q0 q1)), .second] [(.double (FP.ddiv (FP.l2d (F5 q0 q1)) (4696837146684686336 : UInt64))), (.double (FP.ddiv (FP.l2d (own_s2_0 q0 q1)) (4696837146684686336 : UInt64)))])) _
          refine own_dcmplE X296.here hx rfl (hb hby at_192) rfl (own_eq2_lo q0 q1) ?_
          show Steps p.tables e below (T296.setTop (mkF m 193 #[.val (.long q0), .second, .val (.long q1), .second, .val (.long q2), .second, .val (.int p3), .val (.int (2 : Int32)), .val (.ref b120), .val (.long (F5 q0 q1)), .second, .val (.long (F5 q0 q1)), .second, .val (.long (F6 q0 q1)), .second] [(.int (0 : Int32))])) _
          refine XS.ifNo X296.here hx rfl (hb hby at_193) rfl ((if0 _ _).trans (teq (by decide : (0 : Int32) = (0 : Int32))).2) ?_
          show Steps p.tables e below (T296.setTop (mkF m 196 #[.val (.long q0), .second, .val (.long q1), .second, .val (.long q2), .second, .val (.int p3), .val (.int (2 : Int32)), .val (.ref b120), .val (.long (F5 q0 q1)), .second, .val (.long (F5 q0 q1)), .second, .val (.long (F6 q0 q1)), .second] [])) _
          refine XS.aload X296.here hx rfl (hb hby at_196) rfl rfl ?_
          show Steps p.tables e below (T296.setTop (mkF m 198 #[.val (.long q0), .second, .val (.long q1), .second, .val (.long q2), .second, .val (.int p3), .val (.int (2 : Int32)), .val (.ref b120), .val (.long (F5 q0 q1)), .second, .val (.long (F5 q0 q1)), .second, .val (.long (F6 q0 q1)), .second] [(.ref b120)])) _
          refine XS.bipush X296.here hx rfl (hb hby at_198) ?_
          show Steps p.tables e below (T296.setTop (mkF m 200 #[.val (.long q0), .second, .val (.long q1), .second, .val (.long q2), .second, .val (.int p3), .val (.int (2 : Int32)), .val (.ref b120), .val (.long (F5 q0 q1)), .second, .val (.long (F5 q0 q1)), .second, .val (.long (F6 q0 q1)), .second] [(.int (50 : Int32)), (.ref b120)])) _
          refine st315.trans ?_
          show Steps p.tables e below (T315.setTop (mkF m 203 #[.val (.long q0), .second, .val (.long q1), .second, .val (.long q2), .second, .val (.int p3), .val (.int (2 : Int32)), .val (.ref b120), .val (.long (F5 q0 q1)), .second, .val (.long (F5 q0 q1)), .second, .val (.long (F6 q0 q1)), .second] [(.double (FP.ddiv (FP.l2d (own_s2_0 q0 q1)) (4696837146684686336 : UInt64)))])) _
          refine XS.lload X315.here hx rfl (hb hby at_203) rfl ?_
          show Steps p.tables e below (T315.setTop (mkF m 205 #[.val (.long q0), .second, .val (.long q1), .second, .val (.long q2), .second, .val (.int p3), .val (.int (2 : Int32)), .val (.ref b120), .val (.long (F5 q0 q1)), .second, .val (.long (F5 q0 q1)), .second, .val (.long (F6 q0 q1)), .second] [(.long (F5 q0 q1)), (.double (FP.ddiv (FP.l2d (own_s2_0 q0 q1)) (4696837146684686336 : UInt64)))])) _
          refine st320 _ ?_
          show Steps p.tables e below (T320.setTop (mkF m 208 #[.val (.long q0), .second, .val (.long q1), .second, .val (.long q2), .second, .val (.int p3), .val (.int (2 : Int32)), .val (.ref b120), .val (.long (F5 q0 q1)), .second, .val (.long (F5 q0 q1)), .second, .val (.long (F6 q0 q1)), .second] [(.double (FP.ddiv (FP.l2d (F5 q0 q1)) (4696837146684686336 : UInt64))), (.double (FP.ddiv (FP.l2d (own_s2_0 q0 q1)) (4696837146684686336 : UInt64)))])) _
          refine own_dcmplE X320.here hx rfl (hb hby at_208) rfl (own_eq2_mid q0 q1) ?_
          show Steps p.tables e below (T320.setTop (mkF m 209 #[.val (.long q0), .second, .val (.long q1), .second, .val (.long q2), .second, .val (.int p3), .val (.int (2 : Int32)), .val (.ref b120), .val (.long (F5 q0 q1)), .second, .val (.long (F5 q0 q1)), .second, .val (.long (F6 q0 q1)), .second] [(.int (0 : Int32))])) _
          refine XS.ifNo X320.here hx rfl (hb hby at_209) rfl ((if0 _ _).trans (teq (by decide : (0 : Int32) = (0 : Int32))).2) ?_
          show Steps p.tables e below (T320.setTop (mkF m 212 #[.val (.long q0), .second, .val (.long q1), .second, .val (.long q2), .second, .val (.int p3), .val (.int (2 : Int32)), .val (.ref b120), .val (.long (F5 q0 q1)), .second, .val (.long (F5 q0 q1)), .second, .val (.long (F6 q0 q1)), .second] [])) _
          refine XS.aload X320.here hx rfl (hb hby at_212) rfl rfl ?_
          show Steps p.tables e below (T320.setTop (mkF m 214 #[.val (.long q0), .second, .val (.long q1), .second, .val (.long q2), .second, .val (.int p3), .val (.int (2 : Int32)), .val (.ref b120), .val (.long (F5 q0 q1)), .second, .val (.long (F5 q0 q1)), .second, .val (.long (F6 q0 q1)), .second] [(.ref b120)])) _
          refine XS.bipush X320.here hx rfl (hb hby at_214) ?_
          show Steps p.tables e below (T320.setTop (mkF m 216 #[.val (.long q0), .second, .val (.long q1), .second, .val (.long q2), .second, .val (.int p3), .val (.int (2 : Int32)), .val (.ref b120), .val (.long (F5 q0 q1)), .second, .val (.long (F5 q0 q1)), .second, .val (.long (F6 q0 q1)), .second] [(.int (100 : Int32)), (.ref b120)])) _
          refine st339.trans ?_
          show Steps p.tables e below (T339.setTop (mkF m 219 #[.val (.long q0), .second, .val (.long q1), .second, .val (.long q2), .second, .val (.int p3), .val (.int (2 : Int32)), .val (.ref b120), .val (.long (F5 q0 q1)), .second, .val (.long (F5 q0 q1)), .second, .val (.long (F6 q0 q1)), .second] [(.double (FP.ddiv (FP.l2d (own_s2_1 q0 q1)) (4696837146684686336 : UInt64)))])) _
          refine XS.lload X339.here hx rfl (hb hby at_219) rfl ?_
          show Steps p.tables e below (T339.setTop (mkF m 221 #[.val (.long q0), .second, .val (.long q1), .second, .val (.long q2), .second, .val (.int p3), .val (.int (2 : Int32)), .val (.ref b120), .val (.long (F5 q0 q1)), .second, .val (.long (F5 q0 q1)), .second, .val (.long (F6 q0 q1)), .second] [(.long (F6 q0 q1)), (.double (FP.ddiv (FP.l2d (own_s2_1 q0 q1)) (4696837146684686336 : UInt64)))])) _
          refine st344 _ ?_
          show Steps p.tables e below (T344.setTop (mkF m 224 #[.val (.long q0), .second, .val (.long q1), .second, .val (.long q2), .second, .val (.int p3), .val (.int (2 : Int32)), .val (.ref b120), .val (.long (F5 q0 q1)), .second, .val (.long (F5 q0 q1)), .second, .val (.long (F6 q0 q1)), .second] [(.double (FP.ddiv (FP.l2d (F6 q0 q1)) (4696837146684686336 : UInt64))), (.double (FP.ddiv (FP.l2d (own_s2_1 q0 q1)) (4696837146684686336 : UInt64)))])) _
          refine own_dcmplE X344.here hx rfl (hb hby at_224) rfl (own_eq2_hi q0 q1) ?_
          show Steps p.tables e below (T344.setTop (mkF m 225 #[.val (.long q0), .second, .val (.long q1), .second, .val (.long q2), .second, .val (.int p3), .val (.int (2 : Int32)), .val (.ref b120), .val (.long (F5 q0 q1)), .second, .val (.long (F5 q0 q1)), .second, .val (.long (F6 q0 q1)), .second] [(.int (0 : Int32))])) _
          refine XS.ifNo X344.here hx rfl (hb hby at_225) rfl ((if0 _ _).trans (teq (by decide : (0 : Int32) = (0 : Int32))).2) ?_
          show Steps p.tables e below (T344.setTop (mkF m 228 #[.val (.long q0), .second, .val (.long q1), .second, .val (.long q2), .second, .val (.int p3), .val (.int (2 : Int32)), .val (.ref b120), .val (.long (F5 q0 q1)), .second, .val (.long (F5 q0 q1)), .second, .val (.long (F6 q0 q1)), .second] [])) _
          refine XS.iconst X344.here hx rfl (hb hby at_228) ?_
          show Steps p.tables e below (T344.setTop (mkF m 229 #[.val (.long q0), .second, .val (.long q1), .second, .val (.long q2), .second, .val (.int p3), .val (.int (2 : Int32)), .val (.ref b120), .val (.long (F5 q0 q1)), .second, .val (.long (F5 q0 q1)), .second, .val (.long (F6 q0 q1)), .second] [(.int (1 : Int32))])) _
          refine XS.goto X344.here hx rfl (pc0 := 229) (pc' := 233) rfl (hb hby at_229) (by decide) (by decide) ?_
          exact kk
        obtain ⟨fs, hr, hrun, hended, hW, hsame⟩ := X344.leave (v := some (.int (1 : Int32))) (fun h => by rw [Bd.returns] at h; cases h)
        refine ⟨_, _, pre345 _ ?_, hrun, hended, _, _, rfl, ?_, ⟨_, rfl⟩, hW, hsame.mono (by decide) (by decide)⟩
        · show Steps p.tables e below (T344.setTop (mkF m 233 #[.val (.long q0), .second, .val (.long q1), .second, .val (.long q2), .second, .val (.int p3), .val (.int (2 : Int32)), .val (.ref b120), .val (.long (F5 q0 q1)), .second, .val (.long (F5 q0 q1)), .second, .val (.long (F6 q0 q1)), .second] [(.int (1 : Int32))])) _
          exact retN X344 hx (t := .boolean) Bd.returns (by simp) (hb hby at_233) hr
        · show Q0 Z q0 q1 q2 p3 h0 n0 _ T344.heap _
          rw [e344]
          exact ⟨rfl, N344⟩
      · obtain ⟨cq361, kq361, q361a, q361b, q361c⟩ := isOf hZ rfl Eq255
        obtain ⟨_, _, ⟨T361, L361, k361, n361⟩, -, X361, ⟨Lc361, hQ361, l361, y361, z361⟩, st361⟩ := X255.virtualBack hx (y := (⟨"farspeak/greeter/Times", "add", "(J)V"⟩ : MethodName)) (z := (⟨"farspeak/greeter/Times", "add", "(J)V"⟩ : MethodName)) hown (mvT hZ (hw _ (List.mem_of_getElem? (i := 12) rfl))) (mvT hZ (hw _ (List.mem_of_getElem? (i := 13) rfl))) (notFace_of_selects (args := #[]) (mvT hZ (hw _ (List.mem_of_getElem? (i := 15) rfl)))) (mvT hZ (hw _ (List.mem_of_getElem? (i := 15) rfl))) (mvT hZ (hw _ (List.mem_of_getElem? (i := 14) rfl))) (by decide) (backOf (W := 0) (rm3_2 l Z aA hw [] b120 q2 b121 kk121 q0 q1 T255.heap n0 Z255 g_b120 g_b121 ne_b120_b121 Eq255 Fn255 Fs255 Vq255) hZ (hw _ (List.mem_of_getElem? (i := 16) rfl)) (hw _ (List.mem_of_getElem? (i := 2) rfl)) (by decide) (by decide)) q361a q361c (g := (mkF m 49 #[.val (.long q0), .second, .val (.long q1), .second, .val (.long q2), .second, .val (.int p3), .val (.int kv), .val (.ref b120), .unset, .unset, .unset, .unset, .unset, .unset] [(.long q2), (.ref b120)])) rfl (by rw [hml]; rfl) (Steps.refl _) (argsL := [(.long q2)]) (rest := []) (lenOf pd__28J_29V rfl) rfl (by show 2 * 0 + _ ≤ _; exact Nat.le_of_eq rfl) (hb hby at_49) (fun _ _ => ⟨rfl, rfl, (by decide : 2 + 0 ≤ _), (by decide : 1026 + 0 ≤ _)⟩)
        dsimp only [Pt.U, Pt.locs, Pt.cells, Pt.slots] at X361 l361 y361 z361 st361 hQ361
        subst l361 y361 z361
        obtain ⟨rfl, N361q, K361, Eq361, Fn361, Fs361, Vq361⟩ := hQ361
        have N361 := Fr.app N255 N361q
        have KP361 : Keep h0 T361.heap [] := KP255.trans K361 (allS (Or.inr sz_b120) (allS (Or.inr sz_b121) all0))
        have Z361 : n0 ≤ T361.heap.size := Nat.le_trans Z255 K361.1
        have E_b120_362 : Exa Z T361.heap b120 "farspeak/greeter/Times" := Eq255.keep K361
        have pre363 : ∀ t, Steps p.tables e below (T361.setTop (mkF m 52 #[.val (.long q0), .second, .val (.long q1), .second, .val (.long q2), .second, .val (.int p3), .val (.int kv), .val (.ref b120), .unset, .unset, .unset, .unset, .unset, .unset] [])) t → Steps p.tables e below (s₁.setTop (entryFrame m #[(.long q0), (.long q1), (.long q2), (.int p3)] maxLocals)) t := by
          intro t kk
          refine pre258 t ?_
          show Steps p.tables e below (T255.setTop (mkF m 42 #[.val (.long q0), .second, .val (.long q1), .second, .val (.long q2), .second, .val (.int p3), .val (.int kv), .val (.ref b120), .unset, .unset, .unset, .unset, .unset, .unset] [(.int (3 : Int32)), (.int kv)])) _
          refine XS.icmpNo X255.here hx rfl (hb hby at_42) rfl (flt hc42_257).1 ?_
          show Steps p.tables e below (T255.setTop (mkF m 45 #[.val (.long q0), .second, .val (.long q1), .second, .val (.long q2), .second, .val (.int p3), .val (.int kv), .val (.ref b120), .unset, .unset, .unset, .unset, .unset, .unset] [])) _
          refine XS.aload X255.here hx rfl (hb hby at_45) rfl rfl ?_
          show Steps p.tables e below (T255.setTop (mkF m 47 #[.val (.long q0), .second, .val (.long q1), .second, .val (.long q2), .second, .val (.int p3), .val (.int kv), .val (.ref b120), .unset, .unset, .unset, .unset, .unset, .unset] [(.ref b120)])) _
          refine XS.lload X255.here hx rfl (hb hby at_47) rfl ?_
          show Steps p.tables e below (T255.setTop (mkF m 49 #[.val (.long q0), .second, .val (.long q1), .second, .val (.long q2), .second, .val (.int p3), .val (.int kv), .val (.ref b120), .unset, .unset, .unset, .unset, .unset, .unset] [(.long q2), (.ref b120)])) _
          refine st361.trans ?_
          exact kk
        have pre364 : ∀ t, Steps p.tables e below (T361.setTop (mkF m 52 #[.val (.long q0), .second, .val (.long q1), .second, .val (.long q2), .second, .val (.int p3), .val (.int (3 : Int32)), .val (.ref b120), .unset, .unset, .unset, .unset, .unset, .unset] [])) t → Steps p.tables e below (s₁.setTop (entryFrame m #[(.long q0), (.long q1), (.long q2), (.int p3)] maxLocals)) t := by
          intro t kk
          refine pre363 t ?_
          rw [(own_k3 p3 kv h_kv hc42_257)]
          exact kk
        obtain ⟨cq365, kq365, q365a, q365b, q365c⟩ := isOf hZ rfl Eq361
        obtain ⟨_, _, ⟨T365, L365, k365, n365⟩, -, X365, ⟨Lc365, hQ365, l365, y365, z365⟩, st365⟩ := X361.virtualBack hx (y := (⟨"farspeak/greeter/Times", "size", "()I"⟩ : MethodName)) (z := (⟨"farspeak/greeter/Times", "size", "()I"⟩ : MethodName)) hown (mvT hZ (hw _ (List.mem_of_getElem? (i := 19) rfl))) (mvT hZ (hw _ (List.mem_of_getElem? (i := 20) rfl))) (notFace_of_selects (args := #[]) (mvT hZ (hw _ (List.mem_of_getElem? (i := 22) rfl)))) (mvT hZ (hw _ (List.mem_of_getElem? (i := 22) rfl))) (mvT hZ (hw _ (List.mem_of_getElem? (i := 21) rfl))) (by decide) (backOf (W := 0) (rm4 l Z aA hw [] b120 (3 : Int32) T361.heap n0 Z361 Fs361) hZ (hw _ (List.mem_of_getElem? (i := 23) rfl)) (hw _ (List.mem_of_getElem? (i := 2) rfl)) (by decide) (by decide)) q365a q365c (g := (mkF m 54 #[.val (.long q0), .second, .val (.long q1), .second, .val (.long q2), .second, .val (.int p3), .val (.int (3 : Int32)), .val (.ref b120), .unset, .unset, .unset, .unset, .unset, .unset] [(.ref b120)])) rfl (by rw [hml]; rfl) (Steps.refl _) (argsL := []) (rest := []) (lenOf pd__28_29I rfl) rfl (by show 2 * 0 + _ ≤ _; exact Nat.le_of_eq rfl) (hb hby at_54) (fun _ _ => ⟨rfl, rfl, (by decide : 2 + 0 ≤ _), (by decide : 1026 + 0 ≤ _)⟩)
        dsimp only [Pt.U, Pt.locs, Pt.cells, Pt.slots] at X365 l365 y365 z365 st365 hQ365
        subst l365 y365 z365
        obtain ⟨rfl, N365q, e365⟩ := hQ365
        have N365 := Fr.app N361 N365q
        obtain ⟨_, _, ⟨T366, L366, k366, n366⟩, -, X366, ⟨Lc366, hQ366, l366, y366, z366⟩, st366⟩ := Jvm.LawKit.callS X365 hx (y := (⟨"java/lang/Math", "min", "(JJ)J"⟩ : MethodName)) hown (mvT hZ (hw _ (List.mem_of_getElem? (i := 24) rfl))) (mvT hZ (hw _ (List.mem_of_getElem? (i := 25) rfl))) (mvT hZ (hw _ (List.mem_of_getElem? (i := 26) rfl))) (mvT hZ (hw _ (List.mem_of_getElem? (i := 27) rfl))) (by decide) (backOf (W := 0) (rm5 l Z aA hw [] q0 q1  T361.heap n0 Z361 ) hZ (hw _ (List.mem_of_getElem? (i := 27) rfl)) (hw _ (List.mem_of_getElem? (i := 26) rfl)) (by decide) (by decide)) (g := (mkF m 139 #[.val (.long q0), .second, .val (.long q1), .second, .val (.long q2), .second, .val (.int p3), .val (.int (3 : Int32)), .val (.ref b120), .unset, .unset, .unset, .unset, .unset, .unset] [(.long q1), (.long q0)])) rfl (by rw [hml]; rfl) (argsL := [(.long q0), (.long q1)]) (rest := []) (lenOf pd__28JJ_29J rfl) rfl (by show 2 * 0 + _ ≤ _; exact Nat.le_of_eq rfl) (hb hby at_139) (fun _ _ => ⟨rfl, e365, (by decide : 2 + 0 ≤ _), (by decide : 1026 + 0 ≤ _)⟩)
        dsimp only [Pt.U, Pt.locs, Pt.cells, Pt.slots] at X366 l366 y366 z366 st366 hQ366
        subst l366 y366 z366
        obtain ⟨rfl, N366q, e366⟩ := hQ366
        have N366 := Fr.app N365 N366q
        obtain ⟨_, _, ⟨T367, L367, k367, n367⟩, -, X367, ⟨Lc367, hQ367, l367, y367, z367⟩, st367⟩ := Jvm.LawKit.callS X366 hx (y := (⟨"java/lang/Math", "min", "(JJ)J"⟩ : MethodName)) hown (mvT hZ (hw _ (List.mem_of_getElem? (i := 24) rfl))) (mvT hZ (hw _ (List.mem_of_getElem? (i := 25) rfl))) (mvT hZ (hw _ (List.mem_of_getElem? (i := 26) rfl))) (mvT hZ (hw _ (List.mem_of_getElem? (i := 27) rfl))) (by decide) (backOf (W := 0) (rm5 l Z aA hw [] (F5 q0 q1) q2  T361.heap n0 Z361 ) hZ (hw _ (List.mem_of_getElem? (i := 27) rfl)) (hw _ (List.mem_of_getElem? (i := 26) rfl)) (by decide) (by decide)) (g := (mkF m 144 #[.val (.long q0), .second, .val (.long q1), .second, .val (.long q2), .second, .val (.int p3), .val (.int (3 : Int32)), .val (.ref b120), .unset, .unset, .unset, .unset, .unset, .unset] [(.long q2), (.long (F5 q0 q1))])) rfl (by rw [hml]; rfl) (argsL := [(.long (F5 q0 q1)), (.long q2)]) (rest := []) (lenOf pd__28JJ_29J rfl) rfl (by show 2 * 0 + _ ≤ _; exact Nat.le_of_eq rfl) (hb hby at_144) (fun _ _ => ⟨rfl, e366, (by decide : 2 + 0 ≤ _), (by decide : 1026 + 0 ≤ _)⟩)
        dsimp only [Pt.U, Pt.locs, Pt.cells, Pt.slots] at X367 l367 y367 z367 st367 hQ367
        subst l367 y367 z367
        obtain ⟨rfl, N367q, e367⟩ := hQ367
        have N367 := Fr.app N366 N367q
        obtain ⟨_, _, ⟨T368, L368, k368, n368⟩, -, X368, ⟨Lc368, hQ368, l368, y368, z368⟩, st368⟩ := Jvm.LawKit.callS X367 hx (y := (⟨"java/lang/Math", "max", "(JJ)J"⟩ : MethodName)) hown (mvT hZ (hw _ (List.mem_of_getElem? (i := 28) rfl))) (mvT hZ (hw _ (List.mem_of_getElem? (i := 29) rfl))) (mvT hZ (hw _ (List.mem_of_getElem? (i := 26) rfl))) (mvT hZ (hw _ (List.mem_of_getElem? (i := 30) rfl))) (by decide) (backOf (W := 0) (rm6 l Z aA hw [] q0 q1  T361.heap n0 Z361 ) hZ (hw _ (List.mem_of_getElem? (i := 30) rfl)) (hw _ (List.mem_of_getElem? (i := 26) rfl)) (by decide) (by decide)) (g := (mkF m 151 #[.val (.long q0), .second, .val (.long q1), .second, .val (.long q2), .second, .val (.int p3), .val (.int (3 : Int32)), .val (.ref b120), .val (.long (F5 (F5 q0 q1) q2)), .second, .unset, .unset, .unset, .unset] [(.long q1), (.long q0)])) rfl (by rw [hml]; rfl) (argsL := [(.long q0), (.long q1)]) (rest := []) (lenOf pd__28JJ_29J rfl) rfl (by show 2 * 0 + _ ≤ _; exact Nat.le_of_eq rfl) (hb hby at_151) (fun _ _ => ⟨rfl, e367, (by decide : 2 + 0 ≤ _), (by decide : 1026 + 0 ≤ _)⟩)
        dsimp only [Pt.U, Pt.locs, Pt.cells, Pt.slots] at X368 l368 y368 z368 st368 hQ368
        subst l368 y368 z368
        obtain ⟨rfl, N368q, e368⟩ := hQ368
        have N368 := Fr.app N367 N368q
        obtain ⟨_, _, ⟨T369, L369, k369, n369⟩, -, X369, ⟨Lc369, hQ369, l369, y369, z369⟩, st369⟩ := Jvm.LawKit.callS X368 hx (y := (⟨"java/lang/Math", "max", "(JJ)J"⟩ : MethodName)) hown (mvT hZ (hw _ (List.mem_of_getElem? (i := 28) rfl))) (mvT hZ (hw _ (List.mem_of_getElem? (i := 29) rfl))) (mvT hZ (hw _ (List.mem_of_getElem? (i := 26) rfl))) (mvT hZ (hw _ (List.mem_of_getElem? (i := 30) rfl))) (by decide) (backOf (W := 0) (rm6 l Z aA hw [] (F6 q0 q1) q2  T361.heap n0 Z361 ) hZ (hw _ (List.mem_of_getElem? (i := 30) rfl)) (hw _ (List.mem_of_getElem? (i := 26) rfl)) (by decide) (by decide)) (g := (mkF m 156 #[.val (.long q0), .second, .val (.long q1), .second, .val (.long q2), .second, .val (.int p3), .val (.int (3 : Int32)), .val (.ref b120), .val (.long (F5 (F5 q0 q1) q2)), .second, .unset, .unset, .unset, .unset] [(.long q2), (.long (F6 q0 q1))])) rfl (by rw [hml]; rfl) (argsL := [(.long (F6 q0 q1)), (.long q2)]) (rest := []) (lenOf pd__28JJ_29J rfl) rfl (by show 2 * 0 + _ ≤ _; exact Nat.le_of_eq rfl) (hb hby at_156) (fun _ _ => ⟨rfl, e368, (by decide : 2 + 0 ≤ _), (by decide : 1026 + 0 ≤ _)⟩)
        dsimp only [Pt.U, Pt.locs, Pt.cells, Pt.slots] at X369 l369 y369 z369 st369 hQ369
        subst l369 y369 z369
        obtain ⟨rfl, N369q, e369⟩ := hQ369
        have N369 := Fr.app N368 N369q
        obtain ⟨_, _, ⟨T370, L370, k370, n370⟩, -, X370, ⟨Lc370, hQ370, l370, y370, z370⟩, st370⟩ := Jvm.LawKit.callS X369 hx (y := (⟨"java/lang/Math", "min", "(JJ)J"⟩ : MethodName)) hown (mvT hZ (hw _ (List.mem_of_getElem? (i := 24) rfl))) (mvT hZ (hw _ (List.mem_of_getElem? (i := 25) rfl))) (mvT hZ (hw _ (List.mem_of_getElem? (i := 26) rfl))) (mvT hZ (hw _ (List.mem_of_getElem? (i := 27) rfl))) (by decide) (backOf (W := 0) (rm5 l Z aA hw [] q0 q1  T361.heap n0 Z361 ) hZ (hw _ (List.mem_of_getElem? (i := 27) rfl)) (hw _ (List.mem_of_getElem? (i := 26) rfl)) (by decide) (by decide)) (g := (mkF m 163 #[.val (.long q0), .second, .val (.long q1), .second, .val (.long q2), .second, .val (.int p3), .val (.int (3 : Int32)), .val (.ref b120), .val (.long (F5 (F5 q0 q1) q2)), .second, .unset, .unset, .val (.long (F6 (F6 q0 q1) q2)), .second] [(.long q1), (.long q0)])) rfl (by rw [hml]; rfl) (argsL := [(.long q0), (.long q1)]) (rest := []) (lenOf pd__28JJ_29J rfl) rfl (by show 2 * 0 + _ ≤ _; exact Nat.le_of_eq rfl) (hb hby at_163) (fun _ _ => ⟨rfl, e369, (by decide : 2 + 0 ≤ _), (by decide : 1026 + 0 ≤ _)⟩)
        dsimp only [Pt.U, Pt.locs, Pt.cells, Pt.slots] at X370 l370 y370 z370 st370 hQ370
        subst l370 y370 z370
        obtain ⟨rfl, N370q, e370⟩ := hQ370
        have N370 := Fr.app N369 N370q
        obtain ⟨_, _, ⟨T371, L371, k371, n371⟩, -, X371, ⟨Lc371, hQ371, l371, y371, z371⟩, st371⟩ := Jvm.LawKit.callS X370 hx (y := (⟨"java/lang/Math", "max", "(JJ)J"⟩ : MethodName)) hown (mvT hZ (hw _ (List.mem_of_getElem? (i := 28) rfl))) (mvT hZ (hw _ (List.mem_of_getElem? (i := 29) rfl))) (mvT hZ (hw _ (List.mem_of_getElem? (i := 26) rfl))) (mvT hZ (hw _ (List.mem_of_getElem? (i := 30) rfl))) (by decide) (backOf (W := 2) (rm6 l Z aA hw [] q0 q1  T361.heap n0 Z361 ) hZ (hw _ (List.mem_of_getElem? (i := 30) rfl)) (hw _ (List.mem_of_getElem? (i := 26) rfl)) (by decide) (by decide)) (g := (mkF m 168 #[.val (.long q0), .second, .val (.long q1), .second, .val (.long q2), .second, .val (.int p3), .val (.int (3 : Int32)), .val (.ref b120), .val (.long (F5 (F5 q0 q1) q2)), .second, .unset, .unset, .val (.long (F6 (F6 q0 q1) q2)), .second] [(.long q1), (.long q0), (.long (F5 q0 q1))])) rfl (by rw [hml]; rfl) (argsL := [(.long q0), (.long q1)]) (rest := [(.long (F5 q0 q1))]) (lenOf pd__28JJ_29J rfl) rfl (by show 2 * 0 + _ ≤ _; exact Nat.le_of_eq rfl) (hb hby at_168) (fun _ _ => ⟨rfl, e370, (by decide : 2 + 0 ≤ _), (by decide : 1026 + 0 ≤ _)⟩)
        dsimp only [Pt.U, Pt.locs, Pt.cells, Pt.slots] at X371 l371 y371 z371 st371 hQ371
        subst l371 y371 z371
        obtain ⟨rfl, N371q, e371⟩ := hQ371
        have N371 := Fr.app N370 N371q
        obtain ⟨_, _, ⟨T372, L372, k372, n372⟩, -, X372, ⟨Lc372, hQ372, l372, y372, z372⟩, st372⟩ := Jvm.LawKit.callS X371 hx (y := (⟨"java/lang/Math", "min", "(JJ)J"⟩ : MethodName)) hown (mvT hZ (hw _ (List.mem_of_getElem? (i := 24) rfl))) (mvT hZ (hw _ (List.mem_of_getElem? (i := 25) rfl))) (mvT hZ (hw _ (List.mem_of_getElem? (i := 26) rfl))) (mvT hZ (hw _ (List.mem_of_getElem? (i := 27) rfl))) (by decide) (backOf (W := 2) (rm5 l Z aA hw [] (F6 q0 q1) q2  T361.heap n0 Z361 ) hZ (hw _ (List.mem_of_getElem? (i := 27) rfl)) (hw _ (List.mem_of_getElem? (i := 26) rfl)) (by decide) (by decide)) (g := (mkF m 173 #[.val (.long q0), .second, .val (.long q1), .second, .val (.long q2), .second, .val (.int p3), .val (.int (3 : Int32)), .val (.ref b120), .val (.long (F5 (F5 q0 q1) q2)), .second, .unset, .unset, .val (.long (F6 (F6 q0 q1) q2)), .second] [(.long q2), (.long (F6 q0 q1)), (.long (F5 q0 q1))])) rfl (by rw [hml]; rfl) (argsL := [(.long (F6 q0 q1)), (.long q2)]) (rest := [(.long (F5 q0 q1))]) (lenOf pd__28JJ_29J rfl) rfl (by show 2 * 0 + _ ≤ _; exact Nat.le_of_eq rfl) (hb hby at_173) (fun _ _ => ⟨rfl, e371, (by decide : 2 + 0 ≤ _), (by decide : 1026 + 0 ≤ _)⟩)
        dsimp only [Pt.U, Pt.locs, Pt.cells, Pt.slots] at X372 l372 y372 z372 st372 hQ372
        subst l372 y372 z372
        obtain ⟨rfl, N372q, e372⟩ := hQ372
        have N372 := Fr.app N371 N372q
        obtain ⟨_, _, ⟨T373, L373, k373, n373⟩, -, X373, ⟨Lc373, hQ373, l373, y373, z373⟩, st373⟩ := Jvm.LawKit.callS X372 hx (y := (⟨"java/lang/Math", "max", "(JJ)J"⟩ : MethodName)) hown (mvT hZ (hw _ (List.mem_of_getElem? (i := 28) rfl))) (mvT hZ (hw _ (List.mem_of_getElem? (i := 29) rfl))) (mvT hZ (hw _ (List.mem_of_getElem? (i := 26) rfl))) (mvT hZ (hw _ (List.mem_of_getElem? (i := 30) rfl))) (by decide) (backOf (W := 0) (rm6 l Z aA hw [] (F5 q0 q1) (F5 (F6 q0 q1) q2)  T361.heap n0 Z361 ) hZ (hw _ (List.mem_of_getElem? (i := 30) rfl)) (hw _ (List.mem_of_getElem? (i := 26) rfl)) (by decide) (by decide)) (g := (mkF m 176 #[.val (.long q0), .second, .val (.long q1), .second, .val (.long q2), .second, .val (.int p3), .val (.int (3 : Int32)), .val (.ref b120), .val (.long (F5 (F5 q0 q1) q2)), .second, .unset, .unset, .val (.long (F6 (F6 q0 q1) q2)), .second] [(.long (F5 (F6 q0 q1) q2)), (.long (F5 q0 q1))])) rfl (by rw [hml]; rfl) (argsL := [(.long (F5 q0 q1)), (.long (F5 (F6 q0 q1) q2))]) (rest := []) (lenOf pd__28JJ_29J rfl) rfl (by show 2 * 0 + _ ≤ _; exact Nat.le_of_eq rfl) (hb hby at_176) (fun _ _ => ⟨rfl, e372, (by decide : 2 + 0 ≤ _), (by decide : 1026 + 0 ≤ _)⟩)
        dsimp only [Pt.U, Pt.locs, Pt.cells, Pt.slots] at X373 l373 y373 z373 st373 hQ373
        subst l373 y373 z373
        obtain ⟨rfl, N373q, e373⟩ := hQ373
        have N373 := Fr.app N372 N373q
        obtain ⟨cq401, kq401, q401a, q401b, q401c⟩ := isOf hZ e373 Eq361
        obtain ⟨_, _, ⟨T401, L401, k401, n401⟩, -, X401, ⟨Lc401, hQ401, l401, y401, z401⟩, st401⟩ := X373.virtualBack hx (y := (⟨"farspeak/greeter/Times", "percentileMillis", "(I)D"⟩ : MethodName)) (z := (⟨"farspeak/greeter/Times", "percentileMillis", "(I)D"⟩ : MethodName)) hown (mvT hZ (hw _ (List.mem_of_getElem? (i := 31) rfl))) (mvT hZ (hw _ (List.mem_of_getElem? (i := 32) rfl))) (notFace_of_selects (args := #[]) (mvT hZ (hw _ (List.mem_of_getElem? (i := 34) rfl)))) (mvT hZ (hw _ (List.mem_of_getElem? (i := 34) rfl))) (mvT hZ (hw _ (List.mem_of_getElem? (i := 33) rfl))) (by decide) (backOf (W := 0) (rm7_3_1 l Z aA hw [] b120 b121 kk121 q0 q1 q2 T361.heap n0 Z361 ne_b120_b121 Eq361 Fn361 Fs361 Vq361) hZ (hw _ (List.mem_of_getElem? (i := 35) rfl)) (hw _ (List.mem_of_getElem? (i := 2) rfl)) (by decide) (by decide)) q401a q401c (g := (mkF m 184 #[.val (.long q0), .second, .val (.long q1), .second, .val (.long q2), .second, .val (.int p3), .val (.int (3 : Int32)), .val (.ref b120), .val (.long (F5 (F5 q0 q1) q2)), .second, .val (.long (F6 (F5 q0 q1) (F5 (F6 q0 q1) q2))), .second, .val (.long (F6 (F6 q0 q1) q2)), .second] [(.int (1 : Int32)), (.ref b120)])) rfl (by rw [hml]; rfl) (Steps.refl _) (argsL := [(.int (1 : Int32))]) (rest := []) (lenOf pd__28I_29D rfl) rfl (by show 2 * 0 + _ ≤ _; exact Nat.le_of_eq rfl) (hb hby at_184) (fun _ _ => ⟨rfl, e373, (by decide : 2 + 1 ≤ _), (by decide : 1026 + 3 ≤ _)⟩)
        dsimp only [Pt.U, Pt.locs, Pt.cells, Pt.slots] at X401 l401 y401 z401 st401 hQ401
        subst l401 y401 z401
        obtain ⟨rfl, N401q, K401⟩ := hQ401
        have N401 := Fr.app N373 N401q
        have KP401 : Keep h0 T401.heap [] := KP361.trans K401 all0
        have Z401 : n0 ≤ T401.heap.size := Nat.le_trans Z361 K401.1
        have E_b120_402 : Exa Z T401.heap b120 "farspeak/greeter/Times" := Eq361.keep K401
        have F_b120_nanos_403 : Fld Z T401.heap b120 "farspeak/greeter/Times" "nanos" "[J" (.ref b121) := Fn361.keep K401 nin0
        have F_b120_size_404 : Fld Z T401.heap b120 "farspeak/greeter/Times" "size" "I" (.int (3 : Int32)) := Fs361.keep K401 nin0
        have V_b121_405 : Arv Z T401.heap b121 kk121 .long (1024 : Int32) [(.long q0), (.long q1), (.long q2)] (.long (0 : Int64)) := Vq361.keep K401 nin0
        obtain ⟨_, _, ⟨T406, L406, k406, n406⟩, -, X406, ⟨Lc406, hQ406, l406, y406, z406⟩, st406⟩ := Jvm.LawKit.callS X401 hx (y := (⟨"farspeak/greeter/TimesAddPinLaw", "ms", "(J)D"⟩ : MethodName)) hown (mvT hZ (hw _ (List.mem_of_getElem? (i := 63) rfl))) (mvT hZ (hw _ (List.mem_of_getElem? (i := 64) rfl))) (mvT hZ (hw _ (List.mem_of_getElem? (i := 65) rfl))) (mvT hZ (hw _ (List.mem_of_getElem? (i := 66) rfl))) (by decide) (backOf (W := 2) (rm14 l Z aA hw [] (F5 (F5 q0 q1) q2) T401.heap n0 Z401) hZ (hw _ (List.mem_of_getElem? (i := 66) rfl)) (hw _ (List.mem_of_getElem? (i := 65) rfl)) (by decide) (by decide)) (g := (mkF m 189 #[.val (.long q0), .second, .val (.long q1), .second, .val (.long q2), .second, .val (.int p3), .val (.int (3 : Int32)), .val (.ref b120), .val (.long (F5 (F5 q0 q1) q2)), .second, .val (.long (F6 (F5 q0 q1) (F5 (F6 q0 q1) q2))), .second, .val (.long (F6 (F6 q0 q1) q2)), .second] [(.long (F5 (F5 q0 q1) q2)), (.double (FP.ddiv (FP.l2d (own_s3_0 q0 q1 q2)) (4696837146684686336 : UInt64)))])) rfl (by rw [hml]; rfl) (argsL := [(.long (F5 (F5 q0 q1) q2))]) (rest := [(.double (FP.ddiv (FP.l2d (own_s3_0 q0 q1 q2)) (4696837146684686336 : UInt64)))]) (lenOf pd__28J_29D rfl) rfl (by show 2 * 0 + _ ≤ _; exact Nat.le_of_eq rfl) (hb hby at_189) (fun _ _ => ⟨rfl, rfl, (by decide : 3 + 0 ≤ _), (by decide : 1029 + 0 ≤ _)⟩)
        dsimp only [Pt.U, Pt.locs, Pt.cells, Pt.slots] at X406 l406 y406 z406 st406 hQ406
        subst l406 y406 z406
        obtain ⟨rfl, N406q, e406⟩ := hQ406
        have N406 := Fr.app N401 N406q
        obtain ⟨cq425, kq425, q425a, q425b, q425c⟩ := isOf hZ e406 E_b120_402
        obtain ⟨_, _, ⟨T425, L425, k425, n425⟩, -, X425, ⟨Lc425, hQ425, l425, y425, z425⟩, st425⟩ := X406.virtualBack hx (y := (⟨"farspeak/greeter/Times", "percentileMillis", "(I)D"⟩ : MethodName)) (z := (⟨"farspeak/greeter/Times", "percentileMillis", "(I)D"⟩ : MethodName)) hown (mvT hZ (hw _ (List.mem_of_getElem? (i := 31) rfl))) (mvT hZ (hw _ (List.mem_of_getElem? (i := 32) rfl))) (notFace_of_selects (args := #[]) (mvT hZ (hw _ (List.mem_of_getElem? (i := 34) rfl)))) (mvT hZ (hw _ (List.mem_of_getElem? (i := 34) rfl))) (mvT hZ (hw _ (List.mem_of_getElem? (i := 33) rfl))) (by decide) (backOf (W := 0) (rm7_3_50 l Z aA hw [] b120 b121 kk121 q0 q1 q2 T401.heap n0 Z401 ne_b120_b121 E_b120_402 F_b120_nanos_403 F_b120_size_404 V_b121_405) hZ (hw _ (List.mem_of_getElem? (i := 35) rfl)) (hw _ (List.mem_of_getElem? (i := 2) rfl)) (by decide) (by decide)) q425a q425c (g := (mkF m 200 #[.val (.long q0), .second, .val (.long q1), .second, .val (.long q2), .second, .val (.int p3), .val (.int (3 : Int32)), .val (.ref b120), .val (.long (F5 (F5 q0 q1) q2)), .second, .val (.long (F6 (F5 q0 q1) (F5 (F6 q0 q1) q2))), .second, .val (.long (F6 (F6 q0 q1) q2)), .second] [(.int (50 : Int32)), (.ref b120)])) rfl (by rw [hml]; rfl) (Steps.refl _) (argsL := [(.int (50 : Int32))]) (rest := []) (lenOf pd__28I_29D rfl) rfl (by show 2 * 0 + _ ≤ _; exact Nat.le_of_eq rfl) (hb hby at_200) (fun _ _ => ⟨rfl, e406, (by decide : 3 + 1 ≤ _), (by decide : 1029 + 3 ≤ _)⟩)
        dsimp only [Pt.U, Pt.locs, Pt.cells, Pt.slots] at X425 l425 y425 z425 st425 hQ425
        subst l425 y425 z425
        obtain ⟨rfl, N425q, K425⟩ := hQ425
        have N425 := Fr.app N406 N425q
        have KP425 : Keep h0 T425.heap [] := KP401.trans K425 all0
        have Z425 : n0 ≤ T425.heap.size := Nat.le_trans Z401 K425.1
        have E_b120_426 : Exa Z T425.heap b120 "farspeak/greeter/Times" := E_b120_402.keep K425
        have F_b120_nanos_427 : Fld Z T425.heap b120 "farspeak/greeter/Times" "nanos" "[J" (.ref b121) := F_b120_nanos_403.keep K425 nin0
        have F_b120_size_428 : Fld Z T425.heap b120 "farspeak/greeter/Times" "size" "I" (.int (3 : Int32)) := F_b120_size_404.keep K425 nin0
        have V_b121_429 : Arv Z T425.heap b121 kk121 .long (1024 : Int32) [(.long q0), (.long q1), (.long q2)] (.long (0 : Int64)) := V_b121_405.keep K425 nin0
        obtain ⟨_, _, ⟨T430, L430, k430, n430⟩, -, X430, ⟨Lc430, hQ430, l430, y430, z430⟩, st430⟩ := Jvm.LawKit.callS X425 hx (y := (⟨"farspeak/greeter/TimesAddPinLaw", "ms", "(J)D"⟩ : MethodName)) hown (mvT hZ (hw _ (List.mem_of_getElem? (i := 63) rfl))) (mvT hZ (hw _ (List.mem_of_getElem? (i := 64) rfl))) (mvT hZ (hw _ (List.mem_of_getElem? (i := 65) rfl))) (mvT hZ (hw _ (List.mem_of_getElem? (i := 66) rfl))) (by decide) (backOf (W := 2) (rm14 l Z aA hw [] (F6 (F5 q0 q1) (F5 (F6 q0 q1) q2)) T425.heap n0 Z425) hZ (hw _ (List.mem_of_getElem? (i := 66) rfl)) (hw _ (List.mem_of_getElem? (i := 65) rfl)) (by decide) (by decide)) (g := (mkF m 205 #[.val (.long q0), .second, .val (.long q1), .second, .val (.long q2), .second, .val (.int p3), .val (.int (3 : Int32)), .val (.ref b120), .val (.long (F5 (F5 q0 q1) q2)), .second, .val (.long (F6 (F5 q0 q1) (F5 (F6 q0 q1) q2))), .second, .val (.long (F6 (F6 q0 q1) q2)), .second] [(.long (F6 (F5 q0 q1) (F5 (F6 q0 q1) q2))), (.double (FP.ddiv (FP.l2d (own_s3_1 q0 q1 q2)) (4696837146684686336 : UInt64)))])) rfl (by rw [hml]; rfl) (argsL := [(.long (F6 (F5 q0 q1) (F5 (F6 q0 q1) q2)))]) (rest := [(.double (FP.ddiv (FP.l2d (own_s3_1 q0 q1 q2)) (4696837146684686336 : UInt64)))]) (lenOf pd__28J_29D rfl) rfl (by show 2 * 0 + _ ≤ _; exact Nat.le_of_eq rfl) (hb hby at_205) (fun _ _ => ⟨rfl, rfl, (by decide : 4 + 0 ≤ _), (by decide : 1032 + 0 ≤ _)⟩)
        dsimp only [Pt.U, Pt.locs, Pt.cells, Pt.slots] at X430 l430 y430 z430 st430 hQ430
        subst l430 y430 z430
        obtain ⟨rfl, N430q, e430⟩ := hQ430
        have N430 := Fr.app N425 N430q
        obtain ⟨cq449, kq449, q449a, q449b, q449c⟩ := isOf hZ e430 E_b120_426
        obtain ⟨_, _, ⟨T449, L449, k449, n449⟩, -, X449, ⟨Lc449, hQ449, l449, y449, z449⟩, st449⟩ := X430.virtualBack hx (y := (⟨"farspeak/greeter/Times", "percentileMillis", "(I)D"⟩ : MethodName)) (z := (⟨"farspeak/greeter/Times", "percentileMillis", "(I)D"⟩ : MethodName)) hown (mvT hZ (hw _ (List.mem_of_getElem? (i := 31) rfl))) (mvT hZ (hw _ (List.mem_of_getElem? (i := 32) rfl))) (notFace_of_selects (args := #[]) (mvT hZ (hw _ (List.mem_of_getElem? (i := 34) rfl)))) (mvT hZ (hw _ (List.mem_of_getElem? (i := 34) rfl))) (mvT hZ (hw _ (List.mem_of_getElem? (i := 33) rfl))) (by decide) (backOf (W := 0) (rm7_3_100 l Z aA hw [] b120 b121 kk121 q0 q1 q2 T425.heap n0 Z425 ne_b120_b121 E_b120_426 F_b120_nanos_427 F_b120_size_428 V_b121_429) hZ (hw _ (List.mem_of_getElem? (i := 35) rfl)) (hw _ (List.mem_of_getElem? (i := 2) rfl)) (by decide) (by decide)) q449a q449c (g := (mkF m 216 #[.val (.long q0), .second, .val (.long q1), .second, .val (.long q2), .second, .val (.int p3), .val (.int (3 : Int32)), .val (.ref b120), .val (.long (F5 (F5 q0 q1) q2)), .second, .val (.long (F6 (F5 q0 q1) (F5 (F6 q0 q1) q2))), .second, .val (.long (F6 (F6 q0 q1) q2)), .second] [(.int (100 : Int32)), (.ref b120)])) rfl (by rw [hml]; rfl) (Steps.refl _) (argsL := [(.int (100 : Int32))]) (rest := []) (lenOf pd__28I_29D rfl) rfl (by show 2 * 0 + _ ≤ _; exact Nat.le_of_eq rfl) (hb hby at_216) (fun _ _ => ⟨rfl, e430, (by decide : 4 + 1 ≤ _), (by decide : 1032 + 3 ≤ _)⟩)
        dsimp only [Pt.U, Pt.locs, Pt.cells, Pt.slots] at X449 l449 y449 z449 st449 hQ449
        subst l449 y449 z449
        obtain ⟨rfl, N449q, K449⟩ := hQ449
        have N449 := Fr.app N430 N449q
        have KP449 : Keep h0 T449.heap [] := KP425.trans K449 all0
        have Z449 : n0 ≤ T449.heap.size := Nat.le_trans Z425 K449.1
        have E_b120_450 : Exa Z T449.heap b120 "farspeak/greeter/Times" := E_b120_426.keep K449
        have F_b120_nanos_451 : Fld Z T449.heap b120 "farspeak/greeter/Times" "nanos" "[J" (.ref b121) := F_b120_nanos_427.keep K449 nin0
        have F_b120_size_452 : Fld Z T449.heap b120 "farspeak/greeter/Times" "size" "I" (.int (3 : Int32)) := F_b120_size_428.keep K449 nin0
        have V_b121_453 : Arv Z T449.heap b121 kk121 .long (1024 : Int32) [(.long q0), (.long q1), (.long q2)] (.long (0 : Int64)) := V_b121_429.keep K449 nin0
        obtain ⟨_, _, ⟨T454, L454, k454, n454⟩, -, X454, ⟨Lc454, hQ454, l454, y454, z454⟩, st454⟩ := Jvm.LawKit.callS X449 hx (y := (⟨"farspeak/greeter/TimesAddPinLaw", "ms", "(J)D"⟩ : MethodName)) hown (mvT hZ (hw _ (List.mem_of_getElem? (i := 63) rfl))) (mvT hZ (hw _ (List.mem_of_getElem? (i := 64) rfl))) (mvT hZ (hw _ (List.mem_of_getElem? (i := 65) rfl))) (mvT hZ (hw _ (List.mem_of_getElem? (i := 66) rfl))) (by decide) (backOf (W := 2) (rm14 l Z aA hw [] (F6 (F6 q0 q1) q2) T449.heap n0 Z449) hZ (hw _ (List.mem_of_getElem? (i := 66) rfl)) (hw _ (List.mem_of_getElem? (i := 65) rfl)) (by decide) (by decide)) (g := (mkF m 221 #[.val (.long q0), .second, .val (.long q1), .second, .val (.long q2), .second, .val (.int p3), .val (.int (3 : Int32)), .val (.ref b120), .val (.long (F5 (F5 q0 q1) q2)), .second, .val (.long (F6 (F5 q0 q1) (F5 (F6 q0 q1) q2))), .second, .val (.long (F6 (F6 q0 q1) q2)), .second] [(.long (F6 (F6 q0 q1) q2)), (.double (FP.ddiv (FP.l2d (own_s3_2 q0 q1 q2)) (4696837146684686336 : UInt64)))])) rfl (by rw [hml]; rfl) (argsL := [(.long (F6 (F6 q0 q1) q2))]) (rest := [(.double (FP.ddiv (FP.l2d (own_s3_2 q0 q1 q2)) (4696837146684686336 : UInt64)))]) (lenOf pd__28J_29D rfl) rfl (by show 2 * 0 + _ ≤ _; exact Nat.le_of_eq rfl) (hb hby at_221) (fun _ _ => ⟨rfl, rfl, (by decide : 5 + 0 ≤ _), (by decide : 1035 + 0 ≤ _)⟩)
        dsimp only [Pt.U, Pt.locs, Pt.cells, Pt.slots] at X454 l454 y454 z454 st454 hQ454
        subst l454 y454 z454
        obtain ⟨rfl, N454q, e454⟩ := hQ454
        have N454 := Fr.app N449 N454q
        have pre455 : ∀ t, Steps p.tables e below (T454.setTop (mkF m 233 #[.val (.long q0), .second, .val (.long q1), .second, .val (.long q2), .second, .val (.int p3), .val (.int (3 : Int32)), .val (.ref b120), .val (.long (F5 (F5 q0 q1) q2)), .second, .val (.long (F6 (F5 q0 q1) (F5 (F6 q0 q1) q2))), .second, .val (.long (F6 (F6 q0 q1) q2)), .second] [(.int (1 : Int32))])) t → Steps p.tables e below (s₁.setTop (entryFrame m #[(.long q0), (.long q1), (.long q2), (.int p3)] maxLocals)) t := by
          intro t kk
          refine pre364 t ?_
          show Steps p.tables e below (T361.setTop (mkF m 52 #[.val (.long q0), .second, .val (.long q1), .second, .val (.long q2), .second, .val (.int p3), .val (.int (3 : Int32)), .val (.ref b120), .unset, .unset, .unset, .unset, .unset, .unset] [])) _
          refine XS.aload X361.here hx rfl (hb hby at_52) rfl rfl ?_
          show Steps p.tables e below (T361.setTop (mkF m 54 #[.val (.long q0), .second, .val (.long q1), .second, .val (.long q2), .second, .val (.int p3), .val (.int (3 : Int32)), .val (.ref b120), .unset, .unset, .unset, .unset, .unset, .unset] [(.ref b120)])) _
          refine st365.trans ?_
          show Steps p.tables e below (T365.setTop (mkF m 57 #[.val (.long q0), .second, .val (.long q1), .second, .val (.long q2), .second, .val (.int p3), .val (.int (3 : Int32)), .val (.ref b120), .unset, .unset, .unset, .unset, .unset, .unset] [(.int (3 : Int32))])) _
          refine XS.iload X365.here hx rfl (hb hby at_57) rfl ?_
          show Steps p.tables e below (T365.setTop (mkF m 59 #[.val (.long q0), .second, .val (.long q1), .second, .val (.long q2), .second, .val (.int p3), .val (.int (3 : Int32)), .val (.ref b120), .unset, .unset, .unset, .unset, .unset, .unset] [(.int (3 : Int32)), (.int (3 : Int32))])) _
          refine XS.icmpYes X365.here hx rfl (pc0 := 59) (pc' := 64) rfl (hb hby at_59) rfl (teq (by decide : (3 : Int32) = (3 : Int32))).1 (by decide) (by decide) ?_
          show Steps p.tables e below (T365.setTop (mkF m 64 #[.val (.long q0), .second, .val (.long q1), .second, .val (.long q2), .second, .val (.int p3), .val (.int (3 : Int32)), .val (.ref b120), .unset, .unset, .unset, .unset, .unset, .unset] [])) _
          refine XS.iload X365.here hx rfl (hb hby at_64) rfl ?_
          show Steps p.tables e below (T365.setTop (mkF m 66 #[.val (.long q0), .second, .val (.long q1), .second, .val (.long q2), .second, .val (.int p3), .val (.int (3 : Int32)), .val (.ref b120), .unset, .unset, .unset, .unset, .unset, .unset] [(.int (3 : Int32))])) _
          refine XS.ifYes X365.here hx rfl (pc0 := 66) (pc' := 92) rfl (hb hby at_66) rfl ((if0 _ _).trans (feq (by decide : ¬ ((3 : Int32) = (0 : Int32)))).2) (by decide) (by decide) ?_
          show Steps p.tables e below (T365.setTop (mkF m 92 #[.val (.long q0), .second, .val (.long q1), .second, .val (.long q2), .second, .val (.int p3), .val (.int (3 : Int32)), .val (.ref b120), .unset, .unset, .unset, .unset, .unset, .unset] [])) _
          refine XS.iload X365.here hx rfl (hb hby at_92) rfl ?_
          show Steps p.tables e below (T365.setTop (mkF m 94 #[.val (.long q0), .second, .val (.long q1), .second, .val (.long q2), .second, .val (.int p3), .val (.int (3 : Int32)), .val (.ref b120), .unset, .unset, .unset, .unset, .unset, .unset] [(.int (3 : Int32))])) _
          refine XS.iconst X365.here hx rfl (hb hby at_94) ?_
          show Steps p.tables e below (T365.setTop (mkF m 95 #[.val (.long q0), .second, .val (.long q1), .second, .val (.long q2), .second, .val (.int p3), .val (.int (3 : Int32)), .val (.ref b120), .unset, .unset, .unset, .unset, .unset, .unset] [(.int (1 : Int32)), (.int (3 : Int32))])) _
          refine XS.icmpYes X365.here hx rfl (pc0 := 95) (pc' := 110) rfl (hb hby at_95) rfl (feq (by decide : ¬ ((3 : Int32) = (1 : Int32)))).2 (by decide) (by decide) ?_
          show Steps p.tables e below (T365.setTop (mkF m 110 #[.val (.long q0), .second, .val (.long q1), .second, .val (.long q2), .second, .val (.int p3), .val (.int (3 : Int32)), .val (.ref b120), .unset, .unset, .unset, .unset, .unset, .unset] [])) _
          refine XS.iload X365.here hx rfl (hb hby at_110) rfl ?_
          show Steps p.tables e below (T365.setTop (mkF m 112 #[.val (.long q0), .second, .val (.long q1), .second, .val (.long q2), .second, .val (.int p3), .val (.int (3 : Int32)), .val (.ref b120), .unset, .unset, .unset, .unset, .unset, .unset] [(.int (3 : Int32))])) _
          refine XS.iconst X365.here hx rfl (hb hby at_112) ?_
          show Steps p.tables e below (T365.setTop (mkF m 113 #[.val (.long q0), .second, .val (.long q1), .second, .val (.long q2), .second, .val (.int p3), .val (.int (3 : Int32)), .val (.ref b120), .unset, .unset, .unset, .unset, .unset, .unset] [(.int (2 : Int32)), (.int (3 : Int32))])) _
          refine XS.icmpYes X365.here hx rfl (pc0 := 113) (pc' := 137) rfl (hb hby at_113) rfl (feq (by decide : ¬ ((3 : Int32) = (2 : Int32)))).2 (by decide) (by decide) ?_
          show Steps p.tables e below (T365.setTop (mkF m 137 #[.val (.long q0), .second, .val (.long q1), .second, .val (.long q2), .second, .val (.int p3), .val (.int (3 : Int32)), .val (.ref b120), .unset, .unset, .unset, .unset, .unset, .unset] [])) _
          refine XS.lloadN X365.here hx rfl (hb hby at_137) rfl ?_
          show Steps p.tables e below (T365.setTop (mkF m 138 #[.val (.long q0), .second, .val (.long q1), .second, .val (.long q2), .second, .val (.int p3), .val (.int (3 : Int32)), .val (.ref b120), .unset, .unset, .unset, .unset, .unset, .unset] [(.long q0)])) _
          refine XS.lloadN X365.here hx rfl (hb hby at_138) rfl ?_
          show Steps p.tables e below (T365.setTop (mkF m 139 #[.val (.long q0), .second, .val (.long q1), .second, .val (.long q2), .second, .val (.int p3), .val (.int (3 : Int32)), .val (.ref b120), .unset, .unset, .unset, .unset, .unset, .unset] [(.long q1), (.long q0)])) _
          refine st366 _ ?_
          show Steps p.tables e below (T366.setTop (mkF m 142 #[.val (.long q0), .second, .val (.long q1), .second, .val (.long q2), .second, .val (.int p3), .val (.int (3 : Int32)), .val (.ref b120), .unset, .unset, .unset, .unset, .unset, .unset] [(.long (F5 q0 q1))])) _
          refine XS.lload X366.here hx rfl (hb hby at_142) rfl ?_
          show Steps p.tables e below (T366.setTop (mkF m 144 #[.val (.long q0), .second, .val (.long q1), .second, .val (.long q2), .second, .val (.int p3), .val (.int (3 : Int32)), .val (.ref b120), .unset, .unset, .unset, .unset, .unset, .unset] [(.long q2), (.long (F5 q0 q1))])) _
          refine st367 _ ?_
          show Steps p.tables e below (T367.setTop (mkF m 147 #[.val (.long q0), .second, .val (.long q1), .second, .val (.long q2), .second, .val (.int p3), .val (.int (3 : Int32)), .val (.ref b120), .unset, .unset, .unset, .unset, .unset, .unset] [(.long (F5 (F5 q0 q1) q2))])) _
          refine XS.lstore X367.here hx rfl (hb hby at_147) rfl (l' := #[.val (.long q0), .second, .val (.long q1), .second, .val (.long q2), .second, .val (.int p3), .val (.int (3 : Int32)), .val (.ref b120), .val (.long (F5 (F5 q0 q1) q2)), .second, .unset, .unset, .unset, .unset]) rfl ?_
          show Steps p.tables e below (T367.setTop (mkF m 149 #[.val (.long q0), .second, .val (.long q1), .second, .val (.long q2), .second, .val (.int p3), .val (.int (3 : Int32)), .val (.ref b120), .val (.long (F5 (F5 q0 q1) q2)), .second, .unset, .unset, .unset, .unset] [])) _
          refine XS.lloadN X367.here hx rfl (hb hby at_149) rfl ?_
          show Steps p.tables e below (T367.setTop (mkF m 150 #[.val (.long q0), .second, .val (.long q1), .second, .val (.long q2), .second, .val (.int p3), .val (.int (3 : Int32)), .val (.ref b120), .val (.long (F5 (F5 q0 q1) q2)), .second, .unset, .unset, .unset, .unset] [(.long q0)])) _
          refine XS.lloadN X367.here hx rfl (hb hby at_150) rfl ?_
          show Steps p.tables e below (T367.setTop (mkF m 151 #[.val (.long q0), .second, .val (.long q1), .second, .val (.long q2), .second, .val (.int p3), .val (.int (3 : Int32)), .val (.ref b120), .val (.long (F5 (F5 q0 q1) q2)), .second, .unset, .unset, .unset, .unset] [(.long q1), (.long q0)])) _
          refine st368 _ ?_
          show Steps p.tables e below (T368.setTop (mkF m 154 #[.val (.long q0), .second, .val (.long q1), .second, .val (.long q2), .second, .val (.int p3), .val (.int (3 : Int32)), .val (.ref b120), .val (.long (F5 (F5 q0 q1) q2)), .second, .unset, .unset, .unset, .unset] [(.long (F6 q0 q1))])) _
          refine XS.lload X368.here hx rfl (hb hby at_154) rfl ?_
          show Steps p.tables e below (T368.setTop (mkF m 156 #[.val (.long q0), .second, .val (.long q1), .second, .val (.long q2), .second, .val (.int p3), .val (.int (3 : Int32)), .val (.ref b120), .val (.long (F5 (F5 q0 q1) q2)), .second, .unset, .unset, .unset, .unset] [(.long q2), (.long (F6 q0 q1))])) _
          refine st369 _ ?_
          show Steps p.tables e below (T369.setTop (mkF m 159 #[.val (.long q0), .second, .val (.long q1), .second, .val (.long q2), .second, .val (.int p3), .val (.int (3 : Int32)), .val (.ref b120), .val (.long (F5 (F5 q0 q1) q2)), .second, .unset, .unset, .unset, .unset] [(.long (F6 (F6 q0 q1) q2))])) _
          refine XS.lstore X369.here hx rfl (hb hby at_159) rfl (l' := #[.val (.long q0), .second, .val (.long q1), .second, .val (.long q2), .second, .val (.int p3), .val (.int (3 : Int32)), .val (.ref b120), .val (.long (F5 (F5 q0 q1) q2)), .second, .unset, .unset, .val (.long (F6 (F6 q0 q1) q2)), .second]) rfl ?_
          show Steps p.tables e below (T369.setTop (mkF m 161 #[.val (.long q0), .second, .val (.long q1), .second, .val (.long q2), .second, .val (.int p3), .val (.int (3 : Int32)), .val (.ref b120), .val (.long (F5 (F5 q0 q1) q2)), .second, .unset, .unset, .val (.long (F6 (F6 q0 q1) q2)), .second] [])) _
          refine XS.lloadN X369.here hx rfl (hb hby at_161) rfl ?_
          show Steps p.tables e below (T369.setTop (mkF m 162 #[.val (.long q0), .second, .val (.long q1), .second, .val (.long q2), .second, .val (.int p3), .val (.int (3 : Int32)), .val (.ref b120), .val (.long (F5 (F5 q0 q1) q2)), .second, .unset, .unset, .val (.long (F6 (F6 q0 q1) q2)), .second] [(.long q0)])) _
          refine XS.lloadN X369.here hx rfl (hb hby at_162) rfl ?_
          show Steps p.tables e below (T369.setTop (mkF m 163 #[.val (.long q0), .second, .val (.long q1), .second, .val (.long q2), .second, .val (.int p3), .val (.int (3 : Int32)), .val (.ref b120), .val (.long (F5 (F5 q0 q1) q2)), .second, .unset, .unset, .val (.long (F6 (F6 q0 q1) q2)), .second] [(.long q1), (.long q0)])) _
          refine st370 _ ?_
          show Steps p.tables e below (T370.setTop (mkF m 166 #[.val (.long q0), .second, .val (.long q1), .second, .val (.long q2), .second, .val (.int p3), .val (.int (3 : Int32)), .val (.ref b120), .val (.long (F5 (F5 q0 q1) q2)), .second, .unset, .unset, .val (.long (F6 (F6 q0 q1) q2)), .second] [(.long (F5 q0 q1))])) _
          refine XS.lloadN X370.here hx rfl (hb hby at_166) rfl ?_
          show Steps p.tables e below (T370.setTop (mkF m 167 #[.val (.long q0), .second, .val (.long q1), .second, .val (.long q2), .second, .val (.int p3), .val (.int (3 : Int32)), .val (.ref b120), .val (.long (F5 (F5 q0 q1) q2)), .second, .unset, .unset, .val (.long (F6 (F6 q0 q1) q2)), .second] [(.long q0), (.long (F5 q0 q1))])) _
          refine XS.lloadN X370.here hx rfl (hb hby at_167) rfl ?_
          show Steps p.tables e below (T370.setTop (mkF m 168 #[.val (.long q0), .second, .val (.long q1), .second, .val (.long q2), .second, .val (.int p3), .val (.int (3 : Int32)), .val (.ref b120), .val (.long (F5 (F5 q0 q1) q2)), .second, .unset, .unset, .val (.long (F6 (F6 q0 q1) q2)), .second] [(.long q1), (.long q0), (.long (F5 q0 q1))])) _
          refine st371 _ ?_
          show Steps p.tables e below (T371.setTop (mkF m 171 #[.val (.long q0), .second, .val (.long q1), .second, .val (.long q2), .second, .val (.int p3), .val (.int (3 : Int32)), .val (.ref b120), .val (.long (F5 (F5 q0 q1) q2)), .second, .unset, .unset, .val (.long (F6 (F6 q0 q1) q2)), .second] [(.long (F6 q0 q1)), (.long (F5 q0 q1))])) _
          refine XS.lload X371.here hx rfl (hb hby at_171) rfl ?_
          show Steps p.tables e below (T371.setTop (mkF m 173 #[.val (.long q0), .second, .val (.long q1), .second, .val (.long q2), .second, .val (.int p3), .val (.int (3 : Int32)), .val (.ref b120), .val (.long (F5 (F5 q0 q1) q2)), .second, .unset, .unset, .val (.long (F6 (F6 q0 q1) q2)), .second] [(.long q2), (.long (F6 q0 q1)), (.long (F5 q0 q1))])) _
          refine st372 _ ?_
          show Steps p.tables e below (T372.setTop (mkF m 176 #[.val (.long q0), .second, .val (.long q1), .second, .val (.long q2), .second, .val (.int p3), .val (.int (3 : Int32)), .val (.ref b120), .val (.long (F5 (F5 q0 q1) q2)), .second, .unset, .unset, .val (.long (F6 (F6 q0 q1) q2)), .second] [(.long (F5 (F6 q0 q1) q2)), (.long (F5 q0 q1))])) _
          refine st373 _ ?_
          show Steps p.tables e below (T373.setTop (mkF m 179 #[.val (.long q0), .second, .val (.long q1), .second, .val (.long q2), .second, .val (.int p3), .val (.int (3 : Int32)), .val (.ref b120), .val (.long (F5 (F5 q0 q1) q2)), .second, .unset, .unset, .val (.long (F6 (F6 q0 q1) q2)), .second] [(.long (F6 (F5 q0 q1) (F5 (F6 q0 q1) q2)))])) _
          refine XS.lstore X373.here hx rfl (hb hby at_179) rfl (l' := #[.val (.long q0), .second, .val (.long q1), .second, .val (.long q2), .second, .val (.int p3), .val (.int (3 : Int32)), .val (.ref b120), .val (.long (F5 (F5 q0 q1) q2)), .second, .val (.long (F6 (F5 q0 q1) (F5 (F6 q0 q1) q2))), .second, .val (.long (F6 (F6 q0 q1) q2)), .second]) rfl ?_
          show Steps p.tables e below (T373.setTop (mkF m 181 #[.val (.long q0), .second, .val (.long q1), .second, .val (.long q2), .second, .val (.int p3), .val (.int (3 : Int32)), .val (.ref b120), .val (.long (F5 (F5 q0 q1) q2)), .second, .val (.long (F6 (F5 q0 q1) (F5 (F6 q0 q1) q2))), .second, .val (.long (F6 (F6 q0 q1) q2)), .second] [])) _
          refine XS.aload X373.here hx rfl (hb hby at_181) rfl rfl ?_
          show Steps p.tables e below (T373.setTop (mkF m 183 #[.val (.long q0), .second, .val (.long q1), .second, .val (.long q2), .second, .val (.int p3), .val (.int (3 : Int32)), .val (.ref b120), .val (.long (F5 (F5 q0 q1) q2)), .second, .val (.long (F6 (F5 q0 q1) (F5 (F6 q0 q1) q2))), .second, .val (.long (F6 (F6 q0 q1) q2)), .second] [(.ref b120)])) _
          refine XS.iconst X373.here hx rfl (hb hby at_183) ?_
          show Steps p.tables e below (T373.setTop (mkF m 184 #[.val (.long q0), .second, .val (.long q1), .second, .val (.long q2), .second, .val (.int p3), .val (.int (3 : Int32)), .val (.ref b120), .val (.long (F5 (F5 q0 q1) q2)), .second, .val (.long (F6 (F5 q0 q1) (F5 (F6 q0 q1) q2))), .second, .val (.long (F6 (F6 q0 q1) q2)), .second] [(.int (1 : Int32)), (.ref b120)])) _
          refine st401.trans ?_
          show Steps p.tables e below (T401.setTop (mkF m 187 #[.val (.long q0), .second, .val (.long q1), .second, .val (.long q2), .second, .val (.int p3), .val (.int (3 : Int32)), .val (.ref b120), .val (.long (F5 (F5 q0 q1) q2)), .second, .val (.long (F6 (F5 q0 q1) (F5 (F6 q0 q1) q2))), .second, .val (.long (F6 (F6 q0 q1) q2)), .second] [(.double (FP.ddiv (FP.l2d (own_s3_0 q0 q1 q2)) (4696837146684686336 : UInt64)))])) _
          refine XS.lload X401.here hx rfl (hb hby at_187) rfl ?_
          show Steps p.tables e below (T401.setTop (mkF m 189 #[.val (.long q0), .second, .val (.long q1), .second, .val (.long q2), .second, .val (.int p3), .val (.int (3 : Int32)), .val (.ref b120), .val (.long (F5 (F5 q0 q1) q2)), .second, .val (.long (F6 (F5 q0 q1) (F5 (F6 q0 q1) q2))), .second, .val (.long (F6 (F6 q0 q1) q2)), .second] [(.long (F5 (F5 q0 q1) q2)), (.double (FP.ddiv (FP.l2d (own_s3_0 q0 q1 q2)) (4696837146684686336 : UInt64)))])) _
          refine st406 _ ?_
          show Steps p.tables e below (T406.setTop (mkF m 192 #[.val (.long q0), .second, .val (.long q1), .second, .val (.long q2), .second, .val (.int p3), .val (.int (3 : Int32)), .val (.ref b120), .val (.long (F5 (F5 q0 q1) q2)), .second, .val (.long (F6 (F5 q0 q1) (F5 (F6 q0 q1) q2))), .second, .val (.long (F6 (F6 q0 q1) q2)), .second] [(.double (FP.ddiv (FP.l2d (F5 (F5 q0 q1) q2)) (4696837146684686336 : UInt64))), (.double (FP.ddiv (FP.l2d (own_s3_0 q0 q1 q2)) (4696837146684686336 : UInt64)))])) _
          refine own_dcmplE X406.here hx rfl (hb hby at_192) rfl (own_eq3_lo q0 q1 q2) ?_
          show Steps p.tables e below (T406.setTop (mkF m 193 #[.val (.long q0), .second, .val (.long q1), .second, .val (.long q2), .second, .val (.int p3), .val (.int (3 : Int32)), .val (.ref b120), .val (.long (F5 (F5 q0 q1) q2)), .second, .val (.long (F6 (F5 q0 q1) (F5 (F6 q0 q1) q2))), .second, .val (.long (F6 (F6 q0 q1) q2)), .second] [(.int (0 : Int32))])) _
          refine XS.ifNo X406.here hx rfl (hb hby at_193) rfl ((if0 _ _).trans (teq (by decide : (0 : Int32) = (0 : Int32))).2) ?_
          show Steps p.tables e below (T406.setTop (mkF m 196 #[.val (.long q0), .second, .val (.long q1), .second, .val (.long q2), .second, .val (.int p3), .val (.int (3 : Int32)), .val (.ref b120), .val (.long (F5 (F5 q0 q1) q2)), .second, .val (.long (F6 (F5 q0 q1) (F5 (F6 q0 q1) q2))), .second, .val (.long (F6 (F6 q0 q1) q2)), .second] [])) _
          refine XS.aload X406.here hx rfl (hb hby at_196) rfl rfl ?_
          show Steps p.tables e below (T406.setTop (mkF m 198 #[.val (.long q0), .second, .val (.long q1), .second, .val (.long q2), .second, .val (.int p3), .val (.int (3 : Int32)), .val (.ref b120), .val (.long (F5 (F5 q0 q1) q2)), .second, .val (.long (F6 (F5 q0 q1) (F5 (F6 q0 q1) q2))), .second, .val (.long (F6 (F6 q0 q1) q2)), .second] [(.ref b120)])) _
          refine XS.bipush X406.here hx rfl (hb hby at_198) ?_
          show Steps p.tables e below (T406.setTop (mkF m 200 #[.val (.long q0), .second, .val (.long q1), .second, .val (.long q2), .second, .val (.int p3), .val (.int (3 : Int32)), .val (.ref b120), .val (.long (F5 (F5 q0 q1) q2)), .second, .val (.long (F6 (F5 q0 q1) (F5 (F6 q0 q1) q2))), .second, .val (.long (F6 (F6 q0 q1) q2)), .second] [(.int (50 : Int32)), (.ref b120)])) _
          refine st425.trans ?_
          show Steps p.tables e below (T425.setTop (mkF m 203 #[.val (.long q0), .second, .val (.long q1), .second, .val (.long q2), .second, .val (.int p3), .val (.int (3 : Int32)), .val (.ref b120), .val (.long (F5 (F5 q0 q1) q2)), .second, .val (.long (F6 (F5 q0 q1) (F5 (F6 q0 q1) q2))), .second, .val (.long (F6 (F6 q0 q1) q2)), .second] [(.double (FP.ddiv (FP.l2d (own_s3_1 q0 q1 q2)) (4696837146684686336 : UInt64)))])) _
          refine XS.lload X425.here hx rfl (hb hby at_203) rfl ?_
          show Steps p.tables e below (T425.setTop (mkF m 205 #[.val (.long q0), .second, .val (.long q1), .second, .val (.long q2), .second, .val (.int p3), .val (.int (3 : Int32)), .val (.ref b120), .val (.long (F5 (F5 q0 q1) q2)), .second, .val (.long (F6 (F5 q0 q1) (F5 (F6 q0 q1) q2))), .second, .val (.long (F6 (F6 q0 q1) q2)), .second] [(.long (F6 (F5 q0 q1) (F5 (F6 q0 q1) q2))), (.double (FP.ddiv (FP.l2d (own_s3_1 q0 q1 q2)) (4696837146684686336 : UInt64)))])) _
          refine st430 _ ?_
          show Steps p.tables e below (T430.setTop (mkF m 208 #[.val (.long q0), .second, .val (.long q1), .second, .val (.long q2), .second, .val (.int p3), .val (.int (3 : Int32)), .val (.ref b120), .val (.long (F5 (F5 q0 q1) q2)), .second, .val (.long (F6 (F5 q0 q1) (F5 (F6 q0 q1) q2))), .second, .val (.long (F6 (F6 q0 q1) q2)), .second] [(.double (FP.ddiv (FP.l2d (F6 (F5 q0 q1) (F5 (F6 q0 q1) q2))) (4696837146684686336 : UInt64))), (.double (FP.ddiv (FP.l2d (own_s3_1 q0 q1 q2)) (4696837146684686336 : UInt64)))])) _
          refine own_dcmplE X430.here hx rfl (hb hby at_208) rfl (own_eq3_mid q0 q1 q2) ?_
          show Steps p.tables e below (T430.setTop (mkF m 209 #[.val (.long q0), .second, .val (.long q1), .second, .val (.long q2), .second, .val (.int p3), .val (.int (3 : Int32)), .val (.ref b120), .val (.long (F5 (F5 q0 q1) q2)), .second, .val (.long (F6 (F5 q0 q1) (F5 (F6 q0 q1) q2))), .second, .val (.long (F6 (F6 q0 q1) q2)), .second] [(.int (0 : Int32))])) _
          refine XS.ifNo X430.here hx rfl (hb hby at_209) rfl ((if0 _ _).trans (teq (by decide : (0 : Int32) = (0 : Int32))).2) ?_
          show Steps p.tables e below (T430.setTop (mkF m 212 #[.val (.long q0), .second, .val (.long q1), .second, .val (.long q2), .second, .val (.int p3), .val (.int (3 : Int32)), .val (.ref b120), .val (.long (F5 (F5 q0 q1) q2)), .second, .val (.long (F6 (F5 q0 q1) (F5 (F6 q0 q1) q2))), .second, .val (.long (F6 (F6 q0 q1) q2)), .second] [])) _
          refine XS.aload X430.here hx rfl (hb hby at_212) rfl rfl ?_
          show Steps p.tables e below (T430.setTop (mkF m 214 #[.val (.long q0), .second, .val (.long q1), .second, .val (.long q2), .second, .val (.int p3), .val (.int (3 : Int32)), .val (.ref b120), .val (.long (F5 (F5 q0 q1) q2)), .second, .val (.long (F6 (F5 q0 q1) (F5 (F6 q0 q1) q2))), .second, .val (.long (F6 (F6 q0 q1) q2)), .second] [(.ref b120)])) _
          refine XS.bipush X430.here hx rfl (hb hby at_214) ?_
          show Steps p.tables e below (T430.setTop (mkF m 216 #[.val (.long q0), .second, .val (.long q1), .second, .val (.long q2), .second, .val (.int p3), .val (.int (3 : Int32)), .val (.ref b120), .val (.long (F5 (F5 q0 q1) q2)), .second, .val (.long (F6 (F5 q0 q1) (F5 (F6 q0 q1) q2))), .second, .val (.long (F6 (F6 q0 q1) q2)), .second] [(.int (100 : Int32)), (.ref b120)])) _
          refine st449.trans ?_
          show Steps p.tables e below (T449.setTop (mkF m 219 #[.val (.long q0), .second, .val (.long q1), .second, .val (.long q2), .second, .val (.int p3), .val (.int (3 : Int32)), .val (.ref b120), .val (.long (F5 (F5 q0 q1) q2)), .second, .val (.long (F6 (F5 q0 q1) (F5 (F6 q0 q1) q2))), .second, .val (.long (F6 (F6 q0 q1) q2)), .second] [(.double (FP.ddiv (FP.l2d (own_s3_2 q0 q1 q2)) (4696837146684686336 : UInt64)))])) _
          refine XS.lload X449.here hx rfl (hb hby at_219) rfl ?_
          show Steps p.tables e below (T449.setTop (mkF m 221 #[.val (.long q0), .second, .val (.long q1), .second, .val (.long q2), .second, .val (.int p3), .val (.int (3 : Int32)), .val (.ref b120), .val (.long (F5 (F5 q0 q1) q2)), .second, .val (.long (F6 (F5 q0 q1) (F5 (F6 q0 q1) q2))), .second, .val (.long (F6 (F6 q0 q1) q2)), .second] [(.long (F6 (F6 q0 q1) q2)), (.double (FP.ddiv (FP.l2d (own_s3_2 q0 q1 q2)) (4696837146684686336 : UInt64)))])) _
          refine st454 _ ?_
          show Steps p.tables e below (T454.setTop (mkF m 224 #[.val (.long q0), .second, .val (.long q1), .second, .val (.long q2), .second, .val (.int p3), .val (.int (3 : Int32)), .val (.ref b120), .val (.long (F5 (F5 q0 q1) q2)), .second, .val (.long (F6 (F5 q0 q1) (F5 (F6 q0 q1) q2))), .second, .val (.long (F6 (F6 q0 q1) q2)), .second] [(.double (FP.ddiv (FP.l2d (F6 (F6 q0 q1) q2)) (4696837146684686336 : UInt64))), (.double (FP.ddiv (FP.l2d (own_s3_2 q0 q1 q2)) (4696837146684686336 : UInt64)))])) _
          refine own_dcmplE X454.here hx rfl (hb hby at_224) rfl (own_eq3_hi q0 q1 q2) ?_
          show Steps p.tables e below (T454.setTop (mkF m 225 #[.val (.long q0), .second, .val (.long q1), .second, .val (.long q2), .second, .val (.int p3), .val (.int (3 : Int32)), .val (.ref b120), .val (.long (F5 (F5 q0 q1) q2)), .second, .val (.long (F6 (F5 q0 q1) (F5 (F6 q0 q1) q2))), .second, .val (.long (F6 (F6 q0 q1) q2)), .second] [(.int (0 : Int32))])) _
          refine XS.ifNo X454.here hx rfl (hb hby at_225) rfl ((if0 _ _).trans (teq (by decide : (0 : Int32) = (0 : Int32))).2) ?_
          show Steps p.tables e below (T454.setTop (mkF m 228 #[.val (.long q0), .second, .val (.long q1), .second, .val (.long q2), .second, .val (.int p3), .val (.int (3 : Int32)), .val (.ref b120), .val (.long (F5 (F5 q0 q1) q2)), .second, .val (.long (F6 (F5 q0 q1) (F5 (F6 q0 q1) q2))), .second, .val (.long (F6 (F6 q0 q1) q2)), .second] [])) _
          refine XS.iconst X454.here hx rfl (hb hby at_228) ?_
          show Steps p.tables e below (T454.setTop (mkF m 229 #[.val (.long q0), .second, .val (.long q1), .second, .val (.long q2), .second, .val (.int p3), .val (.int (3 : Int32)), .val (.ref b120), .val (.long (F5 (F5 q0 q1) q2)), .second, .val (.long (F6 (F5 q0 q1) (F5 (F6 q0 q1) q2))), .second, .val (.long (F6 (F6 q0 q1) q2)), .second] [(.int (1 : Int32))])) _
          refine XS.goto X454.here hx rfl (pc0 := 229) (pc' := 233) rfl (hb hby at_229) (by decide) (by decide) ?_
          exact kk
        obtain ⟨fs, hr, hrun, hended, hW, hsame⟩ := X454.leave (v := some (.int (1 : Int32))) (fun h => by rw [Bd.returns] at h; cases h)
        refine ⟨_, _, pre455 _ ?_, hrun, hended, _, _, rfl, ?_, ⟨_, rfl⟩, hW, hsame.mono (by decide) (by decide)⟩
        · show Steps p.tables e below (T454.setTop (mkF m 233 #[.val (.long q0), .second, .val (.long q1), .second, .val (.long q2), .second, .val (.int p3), .val (.int (3 : Int32)), .val (.ref b120), .val (.long (F5 (F5 q0 q1) q2)), .second, .val (.long (F6 (F5 q0 q1) (F5 (F6 q0 q1) q2))), .second, .val (.long (F6 (F6 q0 q1) q2)), .second] [(.int (1 : Int32))])) _
          exact retN X454 hx (t := .boolean) Bd.returns (by simp) (hb hby at_233) hr
        · show Q0 Z q0 q1 q2 p3 h0 n0 _ T454.heap _
          rw [e454]
          exact ⟨rfl, N454⟩
set_option maxRecDepth 65536 in
set_option maxHeartbeats 40000000 in
theorem comes_1 {Post : Tables → Env → Array Value → State → Outcome → State → Prop} (hpost : ∀ tb e args s v u, (limb_1_1.after args s (.returned v) u = true ∧ limb_1_2.after args s (.returned v) u = true ∧ True) → FrameEnd s (.returned v) u (Jvm.fieldLocs frame_1_writes args s ++ Jvm.arrayLocs frame_1_arrays args s ++ Jvm.staticLocs frame_1_statics s) 24 2176 → Post tb e args s (.returned v) u) :
    ArmFor flags0 classFile x code maxLocals ret World_1 tables_1 room_1 Calls_1 rest_1 Pre_1 Post := by
  intro l hfl _ _ p e ha hc hk s m args below hf hA hF happ hP
  obtain ⟨hcalls, hrest, hpre⟩ := hP
  obtain ⟨-, -, -, hnamed, -, -, -, hat⟩ := (Spec.applies_iff hf).mp happ
  obtain ⟨hg, hn⟩ := and_e (Cond.before_iff.mp (show (Jvm.Cond.and given_1 narrow_1).before args s = true from hpre))
  obtain ⟨hcount, hg0⟩ := and_e hg
  obtain ⟨ga0, hg1⟩ := and_e hg0
  obtain ⟨ga1, hg2⟩ := and_e hg1
  obtain ⟨ga2, hg3⟩ := and_e hg2
  have ga3 := hg3
  obtain ⟨w0, w1, w2, w3, rfl⟩ : ∃ w0 w1 w2 w3 : Value, args = #[w0, w1, w2, w3] := by
    have hs : args.size = 4 := by simpa [Cond.value, given_1] using hcount
    obtain ⟨L⟩ := args
    match L, hs with
    | [w0, w1, w2, w3], _ => exact ⟨w0, w1, w2, w3, rfl⟩
  have hw := fun d (hd : d ∈ tables_1) => atoms_spec (ws := Jvm.Cond.code x code maxLocals ret :: tables_1) hat d (List.mem_cons_of_mem _ hd)
  have hfit : Fit s := fun {y c} hc i hi => by
    obtain ⟨ha, rfl⟩ := Array.getElem?_eq_some_iff.mp hc
    have q := List.all_eq_true.mp ((Array.all_eq_true_iff_forall_mem.mp hF) _ (Array.getElem_mem ha)) i (List.mem_range.mpr hi)
    simpa [Array.getElem?_eq_getElem hi] using q
  obtain ⟨i0, ei0⟩ := isL_v ga0
  obtain rfl : w0 = (.long i0) := Option.some.inj ei0
  obtain ⟨i1, ei1⟩ := isL_v ga1
  obtain rfl : w1 = (.long i1) := Option.some.inj ei1
  obtain ⟨i2, ei2⟩ := isL_v ga2
  obtain rfl : w2 = (.long i2) := Option.some.inj ei2
  obtain ⟨i3, ei3⟩ := is_v ga3
  obtain rfl : w3 = (.int i3) := Option.some.inj ei3
  obtain ⟨n, o, h1, h2, h3, _, L, rfl, ⟨rfl, N⟩, hq⟩ := rm0 l s _ hw tables_1 i0 i1 i2 i3  s.heap s.heap.size (Nat.le_refl _)  p e ha hc hk s m _ below hf ((Spec.applies_iff_loose hf).mp happ).1 ⟨rfl, State.Warmed39.refl s, rfl⟩ trivial
  refine ⟨n, _, h1, h2, h3, hpost _ _ _ _ _ _ ⟨Cond.after_iff.mpr rfl, Cond.after_iff.mpr (eq_i res_at (Term.int_eval (1)) rfl), trivial⟩ ⟨hq.1, hq.2.1, (hq.2.2.sift fun y hy => Or.inr (N y hy)).mono (by decide) (by decide)⟩⟩
theorem main_1_1 : Claimed_1_1 := comes_1 fun _ _ _ _ _ _ h hF => ⟨h.1, hF⟩
theorem main_1_2 : Claimed_1_2 := comes_1 fun _ _ _ _ _ _ h hF => ⟨h.2.1, hF⟩
end Jvm.Pilot.@@N@@
namespace Jvm.Pilot.@@N@@
open Jvm Jvm.ClassFile Sem Op Lib Jvm.Free Jvm.Stand Jvm.Pilot.@@N@@.Jvm.D
/-! MADE BY PROGRAM (witnessworld.py) out of the Statement's table words and the real class files: 15 classes; the members and pool entries that the words name. The judged class is class 1, her method 2. -/
namespace start1
open Jvm.ClassFile
def u (s : String) : CpInfo := .utf8 (stringToUtf16 s)
/-- a pool by its gaps: so many unusable entries, then the entry; so many at the end -/
def gap : Nat → List CpInfo → List CpInfo
  | 0, r => r
  | n + 1, r => .unusable :: gap n r
def poolList (es : List (Nat × CpInfo)) (last : Nat) : List CpInfo := es.foldr (fun e r => gap e.1 (e.2 :: r)) (gap last [])
def pool (es : List (Nat × CpInfo)) (last : Nat) : Array CpInfo := ⟨poolList es last⟩
def fileOf (pool : Array CpInfo) (this : Nat) (attrs : Array Attribute := #[]) (ms : Array MethodInfo := #[]) (fl : Nat := 33) (sup : Nat := 0) (ifs : Array Nat := #[]) (fds : Array FieldInfo := #[]) : ClassFile where
  minorVersion := 0
  majorVersion := 65
  constantPool := pool
  accessFlags := fl
  thisClass := this
  superClass := sup
  interfaces := ifs
  fields := fds
  methods := ms
  attributes := attrs
def plain (name : String) (sup : Option ClassId) : Class where
  name := name
  kind := .ordinary
  loader := none
  accessFlags := 33
  super := sup
  interfaces := #[]
  cf := none
  fields := #[]
  methods := #[]
  instanceTypes := #[]
  staticTypes := #[]
  resolved := #[]
  callSites := []
  init := .initialized
  statics := none
  mirror := none

def pool0 : Array CpInfo := pool [(5, u "<init>"), (0, u "()V"), (1, .class_ 10), (1, u "java/lang/Object")] 113

def k0c0 : Code := { maxStack := 0, maxLocals := 1, code := object_method_1_code, exceptionTable := #[], attributes := #[] }
def k0m0 : Method := { name := "<init>", desc := "()V", sig := { parameters := [], returnType := none }, accessFlags := 1, code := some k0c0 }
/-- java/lang/Object -/
def k0 : Class := { plain "java/lang/Object" none with
  accessFlags := 33
  interfaces := #[]
  cf := some (fileOf pool0 8 #[] #[{ accessFlags := 1, nameIndex := 5, descriptorIndex := 6, attributes := #[] }] 33 0 #[] #[])
  fields := #[]
  methods := #[k0m0]
  instanceTypes := #[]
  staticTypes := #[]
  resolved := Array.replicate 124 none
  statics := none }

def pool1 : Array CpInfo := pool [(2, .class_ 4), (0, .nameAndType 5 6), (0, u "java/lang/Object"), (0, u "<init>"), (0, u "()V"), (0, .double 4696837146684686336), (1, .class_ 10), (0, u "farspeak/greeter/Times"), (0, .methodref 9 3), (0, .methodref 9 13), (0, .nameAndType 14 15), (0, u "add"), (0, u "(J)V"), (0, .methodref 9 17), (0, .nameAndType 18 19), (0, u "size"), (0, u "()I"), (0, .methodref 9 21), (0, .nameAndType 22 23), (0, u "percentileMillis"), (0, u "(I)D"), (0, .methodref 25 26), (0, .class_ 27), (0, .nameAndType 28 29), (0, u "java/lang/Math"), (0, u "min"), (0, u "(JJ)J"), (0, .methodref 25 31), (0, .nameAndType 32 29), (0, u "max"), (0, .methodref 34 35), (0, .class_ 36), (0, .nameAndType 37 38), (0, u "farspeak/greeter/TimesAddPinLaw"), (0, u "ms"), (0, u "(J)D"), (2, u "law"), (0, u "(JJJI)Z")] 3

def k1m0 : Method := { name := "<init>", desc := "()V", sig := { parameters := [], returnType := none }, accessFlags := 1, code := none }
def k1c1 : Code := { maxStack := 4, maxLocals := 2, code := method_2_code, exceptionTable := #[], attributes := #[] }
def k1m1 : Method := { name := "ms", desc := "(J)D", sig := { parameters := [.long], returnType := some .double }, accessFlags := 10, code := some k1c1 }
def k1c2 : Code := { maxStack := 6, maxLocals := 15, code := code, exceptionTable := #[], attributes := #[] }
def k1m2 : Method := { name := "law", desc := "(JJJI)Z", sig := { parameters := [.long, .long, .long, .int], returnType := some .boolean }, accessFlags := 9, code := some k1c2 }
/-- farspeak/greeter/TimesAddPinLaw -/
def k1 : Class := { plain "farspeak/greeter/TimesAddPinLaw" (some 0) with
  accessFlags := 49
  interfaces := #[]
  cf := some (fileOf pool1 34 #[] #[{ accessFlags := 1, nameIndex := 5, descriptorIndex := 6, attributes := #[] }, { accessFlags := 10, nameIndex := 37, descriptorIndex := 38, attributes := #[] }, { accessFlags := 9, nameIndex := 41, descriptorIndex := 42, attributes := #[] }] 49 2 #[] #[])
  fields := #[]
  methods := #[k1m0, k1m1, k1m2]
  instanceTypes := #[]
  staticTypes := #[]
  resolved := Array.replicate 46 none
  statics := none }

def pool2 : Array CpInfo := pool [(1, .methodref 2 3), (0, .class_ 4), (0, .nameAndType 5 6), (0, u "java/lang/Object"), (0, u "<init>"), (0, u "()V"), (0, .fieldref 8 9), (0, .class_ 10), (0, .nameAndType 11 12), (0, u "farspeak/greeter/Times"), (0, u "nanos"), (0, u "[J"), (0, .fieldref 8 14), (0, .nameAndType 15 16), (0, u "size"), (0, u "I"), (0, .methodref 18 19), (0, .class_ 20), (0, .nameAndType 21 22), (0, u "java/util/Arrays"), (0, u "copyOf"), (0, u "([JI)[J"), (2, u "add"), (0, u "(J)V"), (2, .double 9221120237041090560), (1, .methodref 18 32), (0, .nameAndType 33 34), (0, u "sort"), (0, u "([J)V"), (0, .long 99), (1, .long 100), (1, .double 4696837146684686336), (6, u "()I"), (0, u "percentileMillis"), (0, u "(I)D")] 2

def k2c0 : Code := { maxStack := 2, maxLocals := 1, code := prog_53_method_1_code, exceptionTable := #[], attributes := #[] }
def k2m0 : Method := { name := "<init>", desc := "()V", sig := { parameters := [], returnType := none }, accessFlags := 0, code := some k2c0 }
def k2c1 : Code := { maxStack := 5, maxLocals := 3, code := prog_53_method_2_code, exceptionTable := #[], attributes := #[] }
def k2m1 : Method := { name := "add", desc := "(J)V", sig := { parameters := [.long], returnType := none }, accessFlags := 0, code := some k2c1 }
def k2c2 : Code := { maxStack := 1, maxLocals := 1, code := prog_53_method_4_code, exceptionTable := #[], attributes := #[] }
def k2m2 : Method := { name := "size", desc := "()I", sig := { parameters := [], returnType := some .int }, accessFlags := 0, code := some k2c2 }
def k2c3 : Code := { maxStack := 4, maxLocals := 5, code := prog_53_method_5_code, exceptionTable := #[], attributes := #[] }
def k2m3 : Method := { name := "percentileMillis", desc := "(I)D", sig := { parameters := [.int], returnType := some .double }, accessFlags := 0, code := some k2c3 }
/-- farspeak/greeter/Times -/
def k2 : Class := { plain "farspeak/greeter/Times" (some 0) with
  accessFlags := 48
  interfaces := #[]
  cf := some (fileOf pool2 8 #[] #[{ accessFlags := 0, nameIndex := 5, descriptorIndex := 6, attributes := #[] }, { accessFlags := 0, nameIndex := 25, descriptorIndex := 26, attributes := #[] }, { accessFlags := 0, nameIndex := 15, descriptorIndex := 46, attributes := #[] }, { accessFlags := 0, nameIndex := 47, descriptorIndex := 48, attributes := #[] }] 48 2 #[] #[{ accessFlags := 2, nameIndex := 11, descriptorIndex := 12, attributes := #[] }, { accessFlags := 2, nameIndex := 15, descriptorIndex := 16, attributes := #[] }])
  fields := #[{ name := "nanos", type := (.array .long), accessFlags := 2, slot := 0, constantValue := 0 }, { name := "size", type := .int, accessFlags := 2, slot := 1, constantValue := 0 }]
  methods := #[k2m0, k2m1, k2m2, k2m3]
  instanceTypes := #[(.array .long), .int]
  staticTypes := #[]
  resolved := Array.replicate 51 none
  statics := none }

def pool3 : Array CpInfo := pool [(1, .class_ 2), (0, u "java/lang/Math"), (1, .class_ 6), (1, u "java/lang/Object"), (0, u "<init>"), (0, u "()V"), (89, .class_ 100), (1, u "java/lang/Math$RandomNumberGeneratorHolder"), (20, u "(JJ)J"), (50, u "negativeZeroFloatBits"), (0, u "J"), (2, u "negativeZeroDoubleBits"), (21, u "max"), (2, u "min"), (43, u "$assertionsDisabled"), (0, u "Z"), (88, u "(II)I"), (2, u "twoToTheDoubleScaleDown"), (0, u "D"), (4, u "twoToTheDoubleScaleUp"), (9, u "E"), (3, u "PI"), (2, u "TAU"), (2, u "DEGREES_TO_RADIANS"), (0, u "RADIANS_TO_DEGREES")] 94

def k3m0 : Method := { name := "<init>", desc := "()V", sig := { parameters := [], returnType := none }, accessFlags := 2, code := none }
def k3c1 : Code := { maxStack := 4, maxLocals := 4, code := jdk_29_method_66_code, exceptionTable := #[], attributes := #[] }
def k3m1 : Method := { name := "max", desc := "(JJ)J", sig := { parameters := [.long, .long], returnType := some .long }, accessFlags := 9, code := some k3c1 }
def k3c2 : Code := { maxStack := 2, maxLocals := 2, code := jdk_29_method_69_code, exceptionTable := #[], attributes := #[] }
def k3m2 : Method := { name := "min", desc := "(II)I", sig := { parameters := [.int, .int], returnType := some .int }, accessFlags := 9, code := some k3c2 }
def k3c3 : Code := { maxStack := 4, maxLocals := 4, code := jdk_29_method_70_code, exceptionTable := #[], attributes := #[] }
def k3m3 : Method := { name := "min", desc := "(JJ)J", sig := { parameters := [.long, .long], returnType := some .long }, accessFlags := 9, code := some k3c3 }
/-- java/lang/Math -/
def k3 : Class := { plain "java/lang/Math" (some 0) with
  accessFlags := 49
  interfaces := #[]
  cf := some (fileOf pool3 1 #[.nestMembers #[98]] #[{ accessFlags := 2, nameIndex := 7, descriptorIndex := 8, attributes := #[] }, { accessFlags := 9, nameIndex := 198, descriptorIndex := 121, attributes := #[] }, { accessFlags := 9, nameIndex := 201, descriptorIndex := 335, attributes := #[] }, { accessFlags := 9, nameIndex := 201, descriptorIndex := 121, attributes := #[] }] 49 4 #[] #[{ accessFlags := 25, nameIndex := 354, descriptorIndex := 339, attributes := #[] }, { accessFlags := 25, nameIndex := 358, descriptorIndex := 339, attributes := #[] }, { accessFlags := 25, nameIndex := 361, descriptorIndex := 339, attributes := #[] }, { accessFlags := 26, nameIndex := 364, descriptorIndex := 339, attributes := #[] }, { accessFlags := 26, nameIndex := 365, descriptorIndex := 339, attributes := #[] }, { accessFlags := 26, nameIndex := 172, descriptorIndex := 173, attributes := #[] }, { accessFlags := 26, nameIndex := 176, descriptorIndex := 173, attributes := #[] }, { accessFlags := 8, nameIndex := 344, descriptorIndex := 339, attributes := #[] }, { accessFlags := 8, nameIndex := 338, descriptorIndex := 339, attributes := #[] }, { accessFlags := 4120, nameIndex := 245, descriptorIndex := 246, attributes := #[] }])
  fields := #[{ name := "E", type := .double, accessFlags := 25, slot := 0, constantValue := 0 }, { name := "PI", type := .double, accessFlags := 25, slot := 1, constantValue := 0 }, { name := "TAU", type := .double, accessFlags := 25, slot := 2, constantValue := 0 }, { name := "DEGREES_TO_RADIANS", type := .double, accessFlags := 26, slot := 3, constantValue := 0 }, { name := "RADIANS_TO_DEGREES", type := .double, accessFlags := 26, slot := 4, constantValue := 0 }, { name := "negativeZeroFloatBits", type := .long, accessFlags := 26, slot := 5, constantValue := 0 }, { name := "negativeZeroDoubleBits", type := .long, accessFlags := 26, slot := 6, constantValue := 0 }, { name := "twoToTheDoubleScaleUp", type := .double, accessFlags := 8, slot := 7, constantValue := 0 }, { name := "twoToTheDoubleScaleDown", type := .double, accessFlags := 8, slot := 8, constantValue := 0 }, { name := "$assertionsDisabled", type := .boolean, accessFlags := 4120, slot := 9, constantValue := 0 }]
  methods := #[k3m0, k3m1, k3m2, k3m3]
  instanceTypes := #[]
  staticTypes := #[.double, .double, .double, .double, .double, .long, .long, .double, .double, .boolean]
  resolved := Array.replicate 460 none
  statics := none }

def pool4 : Array CpInfo := pool [(2, .class_ 4), (1, u "java/lang/Object"), (0, u "<init>"), (0, u "()V"), (1, .class_ 10), (1, u "java/util/DualPivotQuicksort"), (0, u "sort"), (2, .class_ 16), (1, u "java/util/Arrays"), (2, .methodref 8 20), (0, .nameAndType 11 21), (0, u "([JIII)V"), (52, .class_ 76), (1, u "java/util/Arrays$NaturalOrder"), (36, .class_ 115), (1, u "java/util/Arrays$LegacyMergeSort"), (1, u "Z"), (32, .methodref 151 152), (0, .class_ 153), (0, .nameAndType 154 155), (0, u "java/lang/System"), (0, u "arraycopy"), (0, u "(Ljava/lang/Object;ILjava/lang/Object;II)V"), (146, u "copyOf"), (1, .methodref 305 306), (0, .class_ 307), (0, .nameAndType 308 309), (0, u "java/lang/Math"), (0, u "min"), (0, u "(II)I"), (65, .class_ 376), (0, u "java/util/Arrays$ArrayList"), (68, u "$assertionsDisabled"), (269, u "MIN_ARRAY_SORT_GRAN"), (0, u "I"), (2, u "INSERTIONSORT_THRESHOLD"), (11, u "([J)V"), (140, u "([JI)[J"), (102, .class_ 976), (0, u "java/util/Arrays$ArrayItr")] 52

def k4m0 : Method := { name := "<init>", desc := "()V", sig := { parameters := [], returnType := none }, accessFlags := 2, code := none }
def k4c1 : Code := { maxStack := 4, maxLocals := 1, code := jdk_65_method_4_code, exceptionTable := #[], attributes := #[] }
def k4m1 : Method := { name := "sort", desc := "([J)V", sig := { parameters := [(.array .long)], returnType := none }, accessFlags := 9, code := some k4c1 }
def k4c2 : Code := { maxStack := 6, maxLocals := 3, code := jdk_65_method_124_code, exceptionTable := #[], attributes := #[] }
def k4m2 : Method := { name := "copyOf", desc := "([JI)[J", sig := { parameters := [(.array .long), .int], returnType := some (.array .long) }, accessFlags := 9, code := some k4c2 }
/-- java/util/Arrays -/
def k4 : Class := { plain "java/util/Arrays" (some 0) with
  accessFlags := 49
  interfaces := #[]
  cf := some (fileOf pool4 14 #[.nestMembers #[975, 375, 113, 74]] #[{ accessFlags := 2, nameIndex := 5, descriptorIndex := 6, attributes := #[] }, { accessFlags := 9, nameIndex := 11, descriptorIndex := 731, attributes := #[] }, { accessFlags := 9, nameIndex := 302, descriptorIndex := 872, attributes := #[] }] 49 2 #[] #[{ accessFlags := 26, nameIndex := 715, descriptorIndex := 716, attributes := #[] }, { accessFlags := 26, nameIndex := 719, descriptorIndex := 716, attributes := #[] }, { accessFlags := 4120, nameIndex := 445, descriptorIndex := 117, attributes := #[] }])
  fields := #[{ name := "MIN_ARRAY_SORT_GRAN", type := .int, accessFlags := 26, slot := 0, constantValue := 0 }, { name := "INSERTIONSORT_THRESHOLD", type := .int, accessFlags := 26, slot := 1, constantValue := 0 }, { name := "$assertionsDisabled", type := .boolean, accessFlags := 4120, slot := 2, constantValue := 0 }]
  methods := #[k4m0, k4m1, k4m2]
  instanceTypes := #[]
  staticTypes := #[.int, .int, .boolean]
  resolved := Array.replicate 1029 none
  statics := none }

def pool5 : Array CpInfo := pool [(2, .class_ 4), (1, u "java/lang/Object"), (0, u "<init>"), (0, u "()V"), (1, .class_ 10), (1, u "java/lang/System"), (0, u "allowSecurityManager"), (0, u "I"), (16, u "cons"), (0, u "Ljava/io/Console;"), (77, .class_ 110), (1, u "java/lang/System$CallersHolder"), (43, u "initialErrStream"), (0, u "Ljava/io/PrintStream;"), (19, u "security"), (0, u "Ljava/lang/SecurityManager;"), (31, .class_ 209), (0, u "java/lang/System$1"), (7, u "props"), (0, u "Ljava/util/Properties;"), (2, u "lineSeparator"), (0, u "Ljava/lang/String;"), (96, .class_ 321), (1, u "java/lang/System$LoggerFinder"), (5, .class_ 328), (0, u "java/lang/System$Logger"), (67, u "err"), (2, u "out"), (91, u "notSupportedJnuEncoding"), (15, u "in"), (17, u "initialIn"), (0, u "Ljava/io/InputStream;"), (35, u "bootLayer"), (0, u "Ljava/lang/ModuleLayer;"), (99, .class_ 664), (0, u "java/lang/System$2"), (9, u "NEVER"), (2, u "MAYBE"), (49, u "arraycopy"), (0, u "(Ljava/lang/Object;ILjava/lang/Object;II)V"), (72, .class_ 802), (0, u "java/lang/System$Logger$Level")] 31

def k5m0 : Method := { name := "<init>", desc := "()V", sig := { parameters := [], returnType := none }, accessFlags := 2, code := none }
def k5m1 : Method := { name := "arraycopy", desc := "(Ljava/lang/Object;ILjava/lang/Object;II)V", sig := { parameters := [(.object "java/lang/Object"), .int, (.object "java/lang/Object"), .int, .int], returnType := none }, accessFlags := 265, code := none }
/-- java/lang/System -/
def k5 : Class := { plain "java/lang/System" (some 0) with
  accessFlags := 49
  interfaces := #[]
  cf := some (fileOf pool5 8 #[.nestMembers #[319, 327, 801, 108, 663, 208]] #[{ accessFlags := 2, nameIndex := 5, descriptorIndex := 6, attributes := #[] }, { accessFlags := 265, nameIndex := 727, descriptorIndex := 728, attributes := #[] }] 49 2 #[] #[{ accessFlags := 25, nameIndex := 507, descriptorIndex := 526, attributes := #[] }, { accessFlags := 25, nameIndex := 399, descriptorIndex := 155, attributes := #[] }, { accessFlags := 25, nameIndex := 396, descriptorIndex := 155, attributes := #[] }, { accessFlags := 10, nameIndex := 525, descriptorIndex := 526, attributes := #[] }, { accessFlags := 26, nameIndex := 674, descriptorIndex := 12, attributes := #[] }, { accessFlags := 26, nameIndex := 677, descriptorIndex := 12, attributes := #[] }, { accessFlags := 10, nameIndex := 11, descriptorIndex := 12, attributes := #[] }, { accessFlags := 74, nameIndex := 175, descriptorIndex := 176, attributes := #[] }, { accessFlags := 10, nameIndex := 491, descriptorIndex := 222, attributes := #[] }, { accessFlags := 74, nameIndex := 29, descriptorIndex := 30, attributes := #[] }, { accessFlags := 74, nameIndex := 154, descriptorIndex := 155, attributes := #[] }, { accessFlags := 10, nameIndex := 217, descriptorIndex := 218, attributes := #[] }, { accessFlags := 10, nameIndex := 221, descriptorIndex := 222, attributes := #[] }, { accessFlags := 8, nameIndex := 562, descriptorIndex := 563, attributes := #[] }])
  fields := #[{ name := "in", type := (.object "java/io/InputStream"), accessFlags := 25, slot := 0, constantValue := 0 }, { name := "out", type := (.object "java/io/PrintStream"), accessFlags := 25, slot := 1, constantValue := 0 }, { name := "err", type := (.object "java/io/PrintStream"), accessFlags := 25, slot := 2, constantValue := 0 }, { name := "initialIn", type := (.object "java/io/InputStream"), accessFlags := 10, slot := 3, constantValue := 0 }, { name := "NEVER", type := .int, accessFlags := 26, slot := 4, constantValue := 0 }, { name := "MAYBE", type := .int, accessFlags := 26, slot := 5, constantValue := 0 }, { name := "allowSecurityManager", type := .int, accessFlags := 10, slot := 6, constantValue := 0 }, { name := "security", type := (.object "java/lang/SecurityManager"), accessFlags := 74, slot := 7, constantValue := 0 }, { name := "notSupportedJnuEncoding", type := (.object "java/lang/String"), accessFlags := 10, slot := 8, constantValue := 0 }, { name := "cons", type := (.object "java/io/Console"), accessFlags := 74, slot := 9, constantValue := 0 }, { name := "initialErrStream", type := (.object "java/io/PrintStream"), accessFlags := 74, slot := 10, constantValue := 0 }, { name := "props", type := (.object "java/util/Properties"), accessFlags := 10, slot := 11, constantValue := 0 }, { name := "lineSeparator", type := (.object "java/lang/String"), accessFlags := 10, slot := 12, constantValue := 0 }, { name := "bootLayer", type := (.object "java/lang/ModuleLayer"), accessFlags := 8, slot := 13, constantValue := 0 }]
  methods := #[k5m0, k5m1]
  instanceTypes := #[]
  staticTypes := #[(.object "java/io/InputStream"), (.object "java/io/PrintStream"), (.object "java/io/PrintStream"), (.object "java/io/InputStream"), .int, .int, .int, (.object "java/lang/SecurityManager"), (.object "java/lang/String"), (.object "java/io/Console"), (.object "java/io/PrintStream"), (.object "java/util/Properties"), (.object "java/lang/String"), (.object "java/lang/ModuleLayer")]
  resolved := Array.replicate 834 none
  statics := none }

def pool6 : Array CpInfo := pool [(1, .class_ 2), (0, u "java/util/DualPivotQuicksort"), (5, .class_ 10), (1, u "java/lang/Object"), (0, u "<init>"), (0, u "()V"), (4, .class_ 18), (0, u "java/util/DualPivotQuicksort$Sorter"), (9, u "sort"), (7, u "insertionSort"), (31, u "I"), (4, .class_ 74), (0, u "java/util/DualPivotQuicksort$RunMerger"), (10, .class_ 86), (0, u "java/util/DualPivotQuicksort$Merger"), (12, .methodref 1 100), (0, .nameAndType 28 101), (0, u "(Ljava/util/DualPivotQuicksort$Sorter;[JIII)V"), (2, u "([JIII)V"), (0, .methodref 1 106), (0, .nameAndType 36 107), (0, u "([JII)V"), (106, u "MAX_MIXED_INSERTION_SORT_SIZE"), (2, u "MAX_INSERTION_SORT_SIZE"), (1, u "MIN_PARALLEL_SORT_SIZE"), (1, u "MIN_TRY_MERGE_SIZE"), (0, u "MIN_FIRST_RUN_SIZE"), (1, u "MIN_FIRST_RUNS_FACTOR"), (1, u "MAX_RUN_CAPACITY"), (1, u "MIN_RUN_COUNT"), (1, u "MIN_PARALLEL_MERGE_PARTS_SIZE"), (0, u "MIN_BYTE_COUNTING_SORT_SIZE"), (1, u "MIN_SHORT_OR_CHAR_COUNTING_SORT_SIZE"), (1, u "DELTA"), (1, u "MAX_RECURSION_DEPTH"), (1, u "NUM_BYTE_VALUES"), (1, u "MAX_BYTE_INDEX"), (0, u "NUM_CHAR_VALUES"), (0, u "NUM_SHORT_VALUES"), (0, u "MAX_SHORT_INDEX")] 86

def k6m0 : Method := { name := "<init>", desc := "()V", sig := { parameters := [], returnType := none }, accessFlags := 2, code := none }
def k6c1 : Code := { maxStack := 9, maxLocals := 7, code := jdk_2529_method_12_code, exceptionTable := #[], attributes := #[] }
def k6m1 : Method := { name := "sort", desc := "([JIII)V", sig := { parameters := [(.array .long), .int, .int, .int], returnType := none }, accessFlags := 8, code := some k6c1 }
def k6c2 : Code := { maxStack := 6, maxLocals := 25, code := jdk_2529_method_13_code, exceptionTable := #[], attributes := #[] }
def k6m2 : Method := { name := "sort", desc := "(Ljava/util/DualPivotQuicksort$Sorter;[JIII)V", sig := { parameters := [(.object "java/util/DualPivotQuicksort$Sorter"), (.array .long), .int, .int, .int], returnType := none }, accessFlags := 8, code := some k6c2 }
def k6c3 : Code := { maxStack := 5, maxLocals := 7, code := jdk_2529_method_15_code, exceptionTable := #[], attributes := #[] }
def k6m3 : Method := { name := "insertionSort", desc := "([JII)V", sig := { parameters := [(.array .long), .int, .int], returnType := none }, accessFlags := 10, code := some k6c3 }
/-- java/util/DualPivotQuicksort -/
def k6 : Class := { plain "java/util/DualPivotQuicksort" (some 0) with
  accessFlags := 48
  interfaces := #[]
  cf := some (fileOf pool6 1 #[.nestMembers #[73, 85, 17]] #[{ accessFlags := 2, nameIndex := 11, descriptorIndex := 12, attributes := #[] }, { accessFlags := 8, nameIndex := 28, descriptorIndex := 104, attributes := #[] }, { accessFlags := 8, nameIndex := 28, descriptorIndex := 101, attributes := #[] }, { accessFlags := 10, nameIndex := 36, descriptorIndex := 107, attributes := #[] }] 48 8 #[] #[{ accessFlags := 26, nameIndex := 214, descriptorIndex := 68, attributes := #[] }, { accessFlags := 26, nameIndex := 217, descriptorIndex := 68, attributes := #[] }, { accessFlags := 26, nameIndex := 219, descriptorIndex := 68, attributes := #[] }, { accessFlags := 26, nameIndex := 221, descriptorIndex := 68, attributes := #[] }, { accessFlags := 26, nameIndex := 222, descriptorIndex := 68, attributes := #[] }, { accessFlags := 26, nameIndex := 224, descriptorIndex := 68, attributes := #[] }, { accessFlags := 26, nameIndex := 226, descriptorIndex := 68, attributes := #[] }, { accessFlags := 26, nameIndex := 228, descriptorIndex := 68, attributes := #[] }, { accessFlags := 26, nameIndex := 230, descriptorIndex := 68, attributes := #[] }, { accessFlags := 26, nameIndex := 231, descriptorIndex := 68, attributes := #[] }, { accessFlags := 26, nameIndex := 233, descriptorIndex := 68, attributes := #[] }, { accessFlags := 26, nameIndex := 235, descriptorIndex := 68, attributes := #[] }, { accessFlags := 26, nameIndex := 237, descriptorIndex := 68, attributes := #[] }, { accessFlags := 26, nameIndex := 239, descriptorIndex := 68, attributes := #[] }, { accessFlags := 26, nameIndex := 241, descriptorIndex := 68, attributes := #[] }, { accessFlags := 26, nameIndex := 242, descriptorIndex := 68, attributes := #[] }, { accessFlags := 26, nameIndex := 243, descriptorIndex := 68, attributes := #[] }, { accessFlags := 26, nameIndex := 244, descriptorIndex := 68, attributes := #[] }])
  fields := #[{ name := "MAX_MIXED_INSERTION_SORT_SIZE", type := .int, accessFlags := 26, slot := 0, constantValue := 0 }, { name := "MAX_INSERTION_SORT_SIZE", type := .int, accessFlags := 26, slot := 1, constantValue := 0 }, { name := "MIN_PARALLEL_SORT_SIZE", type := .int, accessFlags := 26, slot := 2, constantValue := 0 }, { name := "MIN_TRY_MERGE_SIZE", type := .int, accessFlags := 26, slot := 3, constantValue := 0 }, { name := "MIN_FIRST_RUN_SIZE", type := .int, accessFlags := 26, slot := 4, constantValue := 0 }, { name := "MIN_FIRST_RUNS_FACTOR", type := .int, accessFlags := 26, slot := 5, constantValue := 0 }, { name := "MAX_RUN_CAPACITY", type := .int, accessFlags := 26, slot := 6, constantValue := 0 }, { name := "MIN_RUN_COUNT", type := .int, accessFlags := 26, slot := 7, constantValue := 0 }, { name := "MIN_PARALLEL_MERGE_PARTS_SIZE", type := .int, accessFlags := 26, slot := 8, constantValue := 0 }, { name := "MIN_BYTE_COUNTING_SORT_SIZE", type := .int, accessFlags := 26, slot := 9, constantValue := 0 }, { name := "MIN_SHORT_OR_CHAR_COUNTING_SORT_SIZE", type := .int, accessFlags := 26, slot := 10, constantValue := 0 }, { name := "DELTA", type := .int, accessFlags := 26, slot := 11, constantValue := 0 }, { name := "MAX_RECURSION_DEPTH", type := .int, accessFlags := 26, slot := 12, constantValue := 0 }, { name := "NUM_BYTE_VALUES", type := .int, accessFlags := 26, slot := 13, constantValue := 0 }, { name := "MAX_BYTE_INDEX", type := .int, accessFlags := 26, slot := 14, constantValue := 0 }, { name := "NUM_CHAR_VALUES", type := .int, accessFlags := 26, slot := 15, constantValue := 0 }, { name := "NUM_SHORT_VALUES", type := .int, accessFlags := 26, slot := 16, constantValue := 0 }, { name := "MAX_SHORT_INDEX", type := .int, accessFlags := 26, slot := 17, constantValue := 0 }]
  methods := #[k6m0, k6m1, k6m2, k6m3]
  instanceTypes := #[]
  staticTypes := #[.int, .int, .int, .int, .int, .int, .int, .int, .int, .int, .int, .int, .int, .int, .int, .int, .int, .int]
  resolved := Array.replicate 331 none
  statics := none }

def pool7 : Array CpInfo := pool [(1, u "java/lang/Cloneable"), (0, .class_ 1), (0, u "java/lang/Object"), (0, .class_ 3)] 3

/-- java/lang/Cloneable -/
def k7 : Class := { plain "java/lang/Cloneable" (some 0) with
  accessFlags := 1537
  interfaces := #[]
  cf := some (fileOf pool7 2 #[] #[] 1537 4 #[] #[])
  fields := #[]
  methods := #[]
  instanceTypes := #[]
  staticTypes := #[]
  resolved := Array.replicate 8 none
  statics := none }

def pool8 : Array CpInfo := pool [(1, u "java/io/Serializable"), (0, .class_ 1), (0, u "java/lang/Object"), (0, .class_ 3)] 3

/-- java/io/Serializable -/
def k8 : Class := { plain "java/io/Serializable" (some 0) with
  accessFlags := 1537
  interfaces := #[]
  cf := some (fileOf pool8 2 #[] #[] 1537 4 #[] #[])
  fields := #[]
  methods := #[]
  instanceTypes := #[]
  staticTypes := #[]
  resolved := Array.replicate 8 none
  statics := none }

/-- the primitive byte -/
def k9 : Class := { plain "byte" none with kind := .primitive 'B', accessFlags := 0x411 }
/-- [B -/
def k10 : Class := { plain "[B" (some 0) with kind := .array 9 .byte, interfaces := #[7, 8], accessFlags := 1041 }

/-- the primitive int -/
def k11 : Class := { plain "int" none with kind := .primitive 'I', accessFlags := 0x411 }
/-- [I -/
def k12 : Class := { plain "[I" (some 0) with kind := .array 11 .int, interfaces := #[7, 8], accessFlags := 1041 }

/-- the primitive long -/
def k13 : Class := { plain "long" none with kind := .primitive 'J', accessFlags := 0x411 }
/-- [J -/
def k14 : Class := { plain "[J" (some 0) with kind := .array 13 .long, interfaces := #[7, 8], accessFlags := 1041 }

def heap : Heap := #[]
def classes : Array Class := #[k0, k1, k2, k3, k4, k5, k6, k7, k8, k9, k10, k11, k12, k13, k14]
def interned : List (Array UInt16 × Addr) := []
def slotsUsed : Nat := 0
def theMethod : MethodId := ⟨1, 2⟩
def args0 : Array Value := #[.long 1, .long 2, .long 3, .int 2]
def aboutOver (below : List Frame) : State where
  vm := { classes := classes, interned := interned.toArray }
  heap := heap
  slotsUsed := slotsUsed
  threads := #[{ frames := .invoking theMethod args0 :: below }]
def below0 : List Frame := [.native { method := ⟨0, 0⟩, args := #[] }]
def about1 : State := aboutOver below0
def p0 : Program := .bare "" "" ""
def e0 : Env := launch0.env 0 0 0
theorem w_frames : about1.frames = Frame.invoking theMethod args0 :: below0 := rfl
set_option maxRecDepth 65536 in
theorem w_args : argsFit about1.vm theMethod args0 = true := by decide +kernel
set_option maxRecDepth 65536 in
theorem w_heap : heapFits about1 = true := by decide +kernel
set_option maxRecDepth 65536 in
theorem w_runnable : about1.curStatus? = some .runnable := by decide +kernel
set_option maxRecDepth 65536 in
theorem w_alone : about1.alone = true := by decide +kernel
set_option maxRecDepth 65536 in
theorem w_named : about1.methodNamed? x = some theMethod := by decide +kernel
set_option maxRecDepth 65536 in
theorem w_hears : about1.hears theMethod below0 = true := by decide +kernel
set_option maxRecDepth 65536 in
theorem w_ripe : about1.ripe theMethod args0 below0 = true := by decide +kernel
theorem w_running : about1.status = .running := rfl
set_option maxRecDepth 65536 in
theorem w_room : about1.hasRoom e0.platform room_1 = true :=
  launch0.hasRoom_least _ room_1 (by decide +kernel) (by decide +kernel) (by decide +kernel) (by decide +kernel) (by decide +kernel) (by decide +kernel)
theorem allAtoms_all (ts : List Jvm.Cond) (a : Array Jvm.Value) (st : Jvm.State) : (allAtoms ts).before a st = ts.all (fun c => c.before a st) := by
  induction ts with
  | nil => rfl
  | cons c t ih =>
    show (Jvm.Cond.and c (allAtoms t)).before a st = _
    rw [Jvm.Cond.before_and, ih, List.all_cons]
def words1 : List Jvm.Cond := Jvm.Cond.code x code maxLocals ret :: tables_1
/-- a 'code' word, met by the world's own term for the bytes: nothing is compared byte by byte -/
theorem code_word {y : MethodName} {bytes : ByteArray} {mx : Nat} {rt : Option FieldType} {a : Array Value} {s : State} {m : MethodId} {meth : Method} {c : Code} (h1 : s.methodNamed? y = some m) (h2 : s.vm.method? m = some meth) (h3 : meth.code = some c) (h4 : c.code = bytes)
    (h5 : (c.maxLocals == mx && c.exceptionTable.isEmpty && decide (c.maxStack ≤ mostOperands) && decide (meth.sig.returnType = rt) && !meth.locks && decide (parseMethodDescriptor y.desc = some meth.sig)) = true) : (Jvm.Cond.code y bytes mx rt).before a s = true := by
  simp only [Bool.and_eq_true, beq_iff_eq, Bool.not_eq_true', decide_eq_true_eq] at h5
  obtain ⟨⟨⟨⟨⟨g1, g2⟩, g3⟩, g4⟩, g5⟩, g6⟩ := h5
  simp [Cond.before, Cond.holds, Cond.value, h1, h2, h3, h4, g1, g2, g3, g4, g5, g6]
def isCode : Jvm.Cond → Bool
  | .code _ _ _ _ => true
  | _ => false
theorem all_split {L : List Jvm.Cond} {P : Jvm.Cond → Bool} (h1 : L.all (fun c => isCode c || P c) = true) (h2 : ∀ c ∈ L.filter isCode, P c = true) : L.all P = true := by
  refine List.all_eq_true.mpr fun c hc => ?_
  have h := List.all_eq_true.mp h1 c hc
  rcases Bool.eq_false_or_eq_true (isCode c) with hi | hi
  · exact h2 c (List.mem_filter.mpr ⟨hc, hi⟩)
  · simpa [hi] using h
set_option maxRecDepth 65536 in
theorem w_c0 : (Jvm.Cond.code x code maxLocals ret).before args0 about1 = true := code_word (m := ⟨1, 2⟩) (meth := k1m2) (c := k1c2) (by decide +kernel) rfl rfl rfl (by decide +kernel)
set_option maxRecDepth 65536 in
theorem w_c1 : (Jvm.Cond.code ({ cls := "farspeak/greeter/Times", name := "<init>", desc := "()V" } : Jvm.MethodName) prog_53_method_1_code (1 : Nat) (Option.none : Option Jvm.ClassFile.FieldType)).before args0 about1 = true := code_word (m := ⟨2, 0⟩) (meth := k2m0) (c := k2c0) (by decide +kernel) rfl rfl rfl (by decide +kernel)
set_option maxRecDepth 65536 in
theorem w_c2 : (Jvm.Cond.code ({ cls := "java/lang/Object", name := "<init>", desc := "()V" } : Jvm.MethodName) object_method_1_code (1 : Nat) (Option.none : Option Jvm.ClassFile.FieldType)).before args0 about1 = true := code_word (m := ⟨0, 0⟩) (meth := k0m0) (c := k0c0) (by decide +kernel) rfl rfl rfl (by decide +kernel)
set_option maxRecDepth 65536 in
theorem w_c3 : (Jvm.Cond.code ({ cls := "farspeak/greeter/Times", name := "add", desc := "(J)V" } : Jvm.MethodName) prog_53_method_2_code (3 : Nat) (Option.none : Option Jvm.ClassFile.FieldType)).before args0 about1 = true := code_word (m := ⟨2, 1⟩) (meth := k2m1) (c := k2c1) (by decide +kernel) rfl rfl rfl (by decide +kernel)
set_option maxRecDepth 65536 in
theorem w_c4 : (Jvm.Cond.code ({ cls := "farspeak/greeter/Times", name := "size", desc := "()I" } : Jvm.MethodName) prog_53_method_4_code (1 : Nat) (Option.some Jvm.ClassFile.FieldType.int)).before args0 about1 = true := code_word (m := ⟨2, 2⟩) (meth := k2m2) (c := k2c2) (by decide +kernel) rfl rfl rfl (by decide +kernel)
set_option maxRecDepth 65536 in
theorem w_c5 : (Jvm.Cond.code ({ cls := "java/lang/Math", name := "min", desc := "(JJ)J" } : Jvm.MethodName) jdk_29_method_70_code (4 : Nat) (Option.some Jvm.ClassFile.FieldType.long)).before args0 about1 = true := code_word (m := ⟨3, 3⟩) (meth := k3m3) (c := k3c3) (by decide +kernel) rfl rfl rfl (by decide +kernel)
set_option maxRecDepth 65536 in
theorem w_c6 : (Jvm.Cond.code ({ cls := "java/lang/Math", name := "max", desc := "(JJ)J" } : Jvm.MethodName) jdk_29_method_66_code (4 : Nat) (Option.some Jvm.ClassFile.FieldType.long)).before args0 about1 = true := code_word (m := ⟨3, 1⟩) (meth := k3m1) (c := k3c1) (by decide +kernel) rfl rfl rfl (by decide +kernel)
set_option maxRecDepth 65536 in
theorem w_c7 : (Jvm.Cond.code ({ cls := "farspeak/greeter/Times", name := "percentileMillis", desc := "(I)D" } : Jvm.MethodName) prog_53_method_5_code (5 : Nat) (Option.some Jvm.ClassFile.FieldType.double)).before args0 about1 = true := code_word (m := ⟨2, 3⟩) (meth := k2m3) (c := k2c3) (by decide +kernel) rfl rfl rfl (by decide +kernel)
set_option maxRecDepth 65536 in
theorem w_c8 : (Jvm.Cond.code ({ cls := "java/util/Arrays", name := "copyOf", desc := "([JI)[J" } : Jvm.MethodName) jdk_65_method_124_code (3 : Nat) (Option.some (Jvm.ClassFile.FieldType.array Jvm.ClassFile.FieldType.long))).before args0 about1 = true := code_word (m := ⟨4, 2⟩) (meth := k4m2) (c := k4c2) (by decide +kernel) rfl rfl rfl (by decide +kernel)
set_option maxRecDepth 65536 in
theorem w_c9 : (Jvm.Cond.code ({ cls := "java/lang/Math", name := "min", desc := "(II)I" } : Jvm.MethodName) jdk_29_method_69_code (2 : Nat) (Option.some Jvm.ClassFile.FieldType.int)).before args0 about1 = true := code_word (m := ⟨3, 2⟩) (meth := k3m2) (c := k3c2) (by decide +kernel) rfl rfl rfl (by decide +kernel)
set_option maxRecDepth 65536 in
theorem w_c10 : (Jvm.Cond.code ({ cls := "java/util/Arrays", name := "sort", desc := "([J)V" } : Jvm.MethodName) jdk_65_method_4_code (1 : Nat) (Option.none : Option Jvm.ClassFile.FieldType)).before args0 about1 = true := code_word (m := ⟨4, 1⟩) (meth := k4m1) (c := k4c1) (by decide +kernel) rfl rfl rfl (by decide +kernel)
set_option maxRecDepth 65536 in
theorem w_c11 : (Jvm.Cond.code ({ cls := "java/util/DualPivotQuicksort", name := "sort", desc := "([JIII)V" } : Jvm.MethodName) jdk_2529_method_12_code (7 : Nat) (Option.none : Option Jvm.ClassFile.FieldType)).before args0 about1 = true := code_word (m := ⟨6, 1⟩) (meth := k6m1) (c := k6c1) (by decide +kernel) rfl rfl rfl (by decide +kernel)
set_option maxRecDepth 65536 in
theorem w_c12 : (Jvm.Cond.code ({ cls := "java/util/DualPivotQuicksort", name := "sort", desc := "(Ljava/util/DualPivotQuicksort$Sorter;[JIII)V" } : Jvm.MethodName) jdk_2529_method_13_code (25 : Nat) (Option.none : Option Jvm.ClassFile.FieldType)).before args0 about1 = true := code_word (m := ⟨6, 2⟩) (meth := k6m2) (c := k6c2) (by decide +kernel) rfl rfl rfl (by decide +kernel)
set_option maxRecDepth 65536 in
theorem w_c13 : (Jvm.Cond.code ({ cls := "java/util/DualPivotQuicksort", name := "insertionSort", desc := "([JII)V" } : Jvm.MethodName) jdk_2529_method_15_code (7 : Nat) (Option.none : Option Jvm.ClassFile.FieldType)).before args0 about1 = true := code_word (m := ⟨6, 3⟩) (meth := k6m3) (c := k6c3) (by decide +kernel) rfl rfl rfl (by decide +kernel)
set_option maxRecDepth 65536 in
theorem w_c14 : (Jvm.Cond.code ({ cls := "farspeak/greeter/TimesAddPinLaw", name := "ms", desc := "(J)D" } : Jvm.MethodName) method_2_code (2 : Nat) (Option.some Jvm.ClassFile.FieldType.double)).before args0 about1 = true := code_word (m := ⟨1, 1⟩) (meth := k1m1) (c := k1c1) (by decide +kernel) rfl rfl rfl (by decide +kernel)
def codes1 : List Jvm.Cond := [Jvm.Cond.code x code maxLocals ret, Jvm.Cond.code ({ cls := "farspeak/greeter/Times", name := "<init>", desc := "()V" } : Jvm.MethodName) prog_53_method_1_code (1 : Nat) (Option.none : Option Jvm.ClassFile.FieldType), Jvm.Cond.code ({ cls := "java/lang/Object", name := "<init>", desc := "()V" } : Jvm.MethodName) object_method_1_code (1 : Nat) (Option.none : Option Jvm.ClassFile.FieldType), Jvm.Cond.code ({ cls := "farspeak/greeter/Times", name := "add", desc := "(J)V" } : Jvm.MethodName) prog_53_method_2_code (3 : Nat) (Option.none : Option Jvm.ClassFile.FieldType), Jvm.Cond.code ({ cls := "farspeak/greeter/Times", name := "size", desc := "()I" } : Jvm.MethodName) prog_53_method_4_code (1 : Nat) (Option.some Jvm.ClassFile.FieldType.int), Jvm.Cond.code ({ cls := "java/lang/Math", name := "min", desc := "(JJ)J" } : Jvm.MethodName) jdk_29_method_70_code (4 : Nat) (Option.some Jvm.ClassFile.FieldType.long), Jvm.Cond.code ({ cls := "java/lang/Math", name := "max", desc := "(JJ)J" } : Jvm.MethodName) jdk_29_method_66_code (4 : Nat) (Option.some Jvm.ClassFile.FieldType.long), Jvm.Cond.code ({ cls := "farspeak/greeter/Times", name := "percentileMillis", desc := "(I)D" } : Jvm.MethodName) prog_53_method_5_code (5 : Nat) (Option.some Jvm.ClassFile.FieldType.double), Jvm.Cond.code ({ cls := "java/util/Arrays", name := "copyOf", desc := "([JI)[J" } : Jvm.MethodName) jdk_65_method_124_code (3 : Nat) (Option.some (Jvm.ClassFile.FieldType.array Jvm.ClassFile.FieldType.long)), Jvm.Cond.code ({ cls := "java/lang/Math", name := "min", desc := "(II)I" } : Jvm.MethodName) jdk_29_method_69_code (2 : Nat) (Option.some Jvm.ClassFile.FieldType.int), Jvm.Cond.code ({ cls := "java/util/Arrays", name := "sort", desc := "([J)V" } : Jvm.MethodName) jdk_65_method_4_code (1 : Nat) (Option.none : Option Jvm.ClassFile.FieldType), Jvm.Cond.code ({ cls := "java/util/DualPivotQuicksort", name := "sort", desc := "([JIII)V" } : Jvm.MethodName) jdk_2529_method_12_code (7 : Nat) (Option.none : Option Jvm.ClassFile.FieldType), Jvm.Cond.code ({ cls := "java/util/DualPivotQuicksort", name := "sort", desc := "(Ljava/util/DualPivotQuicksort$Sorter;[JIII)V" } : Jvm.MethodName) jdk_2529_method_13_code (25 : Nat) (Option.none : Option Jvm.ClassFile.FieldType), Jvm.Cond.code ({ cls := "java/util/DualPivotQuicksort", name := "insertionSort", desc := "([JII)V" } : Jvm.MethodName) jdk_2529_method_15_code (7 : Nat) (Option.none : Option Jvm.ClassFile.FieldType), Jvm.Cond.code ({ cls := "farspeak/greeter/TimesAddPinLaw", name := "ms", desc := "(J)D" } : Jvm.MethodName) method_2_code (2 : Nat) (Option.some Jvm.ClassFile.FieldType.double)]
set_option maxRecDepth 65536 in
theorem codes_eq : words1.filter isCode = codes1 := rfl
theorem w_codes : ∀ c ∈ words1.filter isCode, c.before args0 about1 = true := by
  rw [codes_eq]
  intro c hc
  simp only [codes1, List.mem_cons, List.not_mem_nil, or_false] at hc
  rcases hc with rfl | rfl | rfl | rfl | rfl | rfl | rfl | rfl | rfl | rfl | rfl | rfl | rfl | rfl | rfl
  · exact w_c0
  · exact w_c1
  · exact w_c2
  · exact w_c3
  · exact w_c4
  · exact w_c5
  · exact w_c6
  · exact w_c7
  · exact w_c8
  · exact w_c9
  · exact w_c10
  · exact w_c11
  · exact w_c12
  · exact w_c13
  · exact w_c14
set_option maxRecDepth 65536 in
theorem w_t1 : (words1.take 24).all (fun c => isCode c || c.before args0 about1) = true := by decide +kernel
set_option maxRecDepth 65536 in
theorem w_t2 : ((words1.drop 24).take 24).all (fun c => isCode c || c.before args0 about1) = true := by decide +kernel
set_option maxRecDepth 65536 in
theorem w_t3 : ((words1.drop 24).drop 24).all (fun c => isCode c || c.before args0 about1) = true := by decide +kernel
theorem w_tables : (allAtoms (Jvm.Cond.code x code maxLocals ret :: tables_1)).before args0 about1 = true := by
  rw [allAtoms_all]
  show words1.all (fun c => c.before args0 about1) = true
  refine all_split ?_ w_codes
  rw [← List.take_append_drop 24 words1, List.all_append, w_t1, ← List.take_append_drop 24 (words1.drop 24), List.all_append, w_t2, w_t3]
  rfl
set_option maxRecDepth 65536 in
theorem w_case : (Jvm.Cond.and given_1 narrow_1).before args0 about1 = true := by decide +kernel
theorem w_applies : (headSpec (Jvm.Cond.code x code maxLocals ret :: tables_1) room_1).applies x e0.platform about1 = true :=
  (Spec.applies_iff w_frames).mpr ⟨w_running, w_runnable, w_alone, w_named, w_hears, w_ripe, w_room, w_tables⟩
theorem atStart : AtStart classFile x code maxLocals ret World_1 tables_1 room_1 Calls_1 rest_1 Pre_1 launch0 p0 e0 about1 theMethod args0 below0 :=
  ⟨lists_1, trivial, launch0.admits_env _ _ _, launch0.least_env, fairChoices_fair.cas, fairChoices_fair.clock, w_frames, w_args, w_heap, w_applies, trivial, trivial, w_case⟩
end start1
theorem witness_1 : WitnessClaimed_1 := ⟨start1.p0, start1.e0, start1.about1, start1.theMethod, start1.args0, start1.below0, start1.atStart⟩
end Jvm.Pilot.@@N@@
