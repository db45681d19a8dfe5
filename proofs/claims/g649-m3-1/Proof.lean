import JvmDerived
import JvmDerived.Pilot.@@N@@Statement
import JvmDerived.Pilot.@@N@@Code
set_option linter.unusedVariables false
set_option linter.unusedSimpArgs false

/- laws to paste: Road.backV (cut by pick.py; bodies as the Statement names them) -/
namespace Jvm.Pilot.@@N@@
namespace StrChars
open Jvm Sem ClassFile Op Lib Jvm.Stand Jvm.Free.XT Jvm.Free.ALB Jvm.Free.JM Jvm.Free
open Jvm.Lib.Cold (StaticIs)
/-- a char array whose places are chars -/
def Ch (a : Addr) (A : Cell) (U : State) : Prop := Arr .char a A U ∧ Typed .char A
theorem Ch.mv {a : Addr} {A : Cell} {U U' : State} (h : Ch a A U) (hal : U.vm.Alike U'.vm) (hh : U'.heap = U.heap) : Ch a A U' := ⟨h.1.mv hal hh, h.2⟩
theorem Ch.keep {a : Addr} {A : Cell} {U U' : State} (h : Ch a A U) (hal : U.vm.Alike U'.vm) (hk : U'.heap[a]? = some A) : Ch a A U' := ⟨h.1.keep hal hk, h.2⟩
/-- what place i of a char[]'s cell holds -/
def cv (A : Cell) (i : Nat) : Int32 := match A.slots[i]? with | some (.int x) => x | _ => 0
theorem Ch.get {a : Addr} {A : Cell} {U : State} (h : Ch a A U) {i : Nat} (hi : i < A.slots.size) : A.slots[i]? = some (.int (cv A i)) := by
  have e := Array.getElem?_eq_getElem hi
  have f := h.2 i _ e
  unfold cv; rw [e]
  generalize A.slots[i] = v at f
  cases v <;> simp [fits] at f ⊢
/-- the byte that i2b leaves of a char -/
def lo8 (x : Int32) : Int32 := x.toInt8.toInt32
theorem fits_lo8 (y : Int32) : fits .byte (.int (lo8 y)) = true := by
  have h1 := y.toInt8.le_toInt
  have h2 := y.toInt8.toInt_lt
  simp only [lo8, fits, Bool.and_eq_true, decide_eq_true_eq, Int32.le_iff_toInt_le, Int8.toInt_toInt32, show (-128 : Int32).toInt = -128 from by decide, show (127 : Int32).toInt = 127 from by decide]
  omega
/-- A' is A but that each place j of lo .. hi - 1 holds f j -/
def Laid (A A' : Cell) (lo hi : Nat) (f : Nat → Value) : Prop := A'.cls = A.cls ∧ A'.vm = A.vm ∧ A'.slots.size = A.slots.size ∧ ∀ i, A'.slots[i]? = if lo ≤ i ∧ i < hi then some (f i) else A.slots[i]?
theorem Laid.zero (A : Cell) (lo : Nat) (f : Nat → Value) : Laid A A lo (lo + 0) f := ⟨rfl, rfl, rfl, fun i => by rw [if_neg (by omega)]⟩
theorem Laid.step {A Ak : Cell} {lo k : Nat} {f : Nat → Value} {v : Value} (h : Laid A Ak lo k f) (hlo : lo ≤ k) (hk : k < Ak.slots.size) (hv : v = f k) : Laid A (Ak.setSlot k v) lo (k + 1) f := by
  refine ⟨h.1, h.2.1, by simpa [Cell.setSlot] using h.2.2.1, fun i => ?_⟩
  by_cases e : k = i
  · subst e; rw [Cell.slots_setSlot_self v hk, if_pos (by omega), hv]
  · rw [Cell.slots_setSlot_ne v e, h.2.2.2 i]
    by_cases q : lo ≤ i ∧ i < k
    · rw [if_pos q, if_pos (by omega)]
    · rw [if_neg q, if_neg (by omega)]
def U16 : String := "java/lang/StringUTF16"
namespace Cmp5
def yN : MethodName := ⟨"java/lang/StringUTF16", "compress", "([CI[BII)I"⟩
abbrev yB : ByteArray := jdk_52_method_21_code
theorem d0 : decode yB 0 = .ok (.iconst 0, 1) := by decide +kernel
theorem d1 : decode yB 1 = .ok (.istore 5, 2) := by decide +kernel
theorem d3 : decode yB 3 = .ok (.iload 5, 2) := by decide +kernel
theorem d5 : decode yB 5 = .ok (.iload 4, 2) := by decide +kernel
theorem d7 : decode yB 7 = .ok (.if_icmp (.ge) 37, 3) := by decide +kernel
theorem d10 : decode yB 10 = .ok (.aload_n 0, 1) := by decide +kernel
theorem d11 : decode yB 11 = .ok (.iload_n 1, 1) := by decide +kernel
theorem d12 : decode yB 12 = .ok (.caload, 1) := by decide +kernel
theorem d13 : decode yB 13 = .ok (.istore 6, 2) := by decide +kernel
theorem d15 : decode yB 15 = .ok (.iload 6, 2) := by decide +kernel
theorem d17 : decode yB 17 = .ok (.sipush 255, 3) := by decide +kernel
theorem d20 : decode yB 20 = .ok (.if_icmp (.le) 6, 3) := by decide +kernel
theorem d26 : decode yB 26 = .ok (.aload_n 2, 1) := by decide +kernel
theorem d27 : decode yB 27 = .ok (.iload_n 3, 1) := by decide +kernel
theorem d28 : decode yB 28 = .ok (.iload 6, 2) := by decide +kernel
theorem d30 : decode yB 30 = .ok (.i2b, 1) := by decide +kernel
theorem d31 : decode yB 31 = .ok (.bastore, 1) := by decide +kernel
theorem d32 : decode yB 32 = .ok (.iinc 1 1, 3) := by decide +kernel
theorem d35 : decode yB 35 = .ok (.iinc 3 1, 3) := by decide +kernel
theorem d38 : decode yB 38 = .ok (.iinc 5 1, 3) := by decide +kernel
theorem d41 : decode yB 41 = .ok (.goto (-38), 3) := by decide +kernel
theorem d44 : decode yB 44 = .ok (.iload 4, 2) := by decide +kernel
theorem d46 : decode yB 46 = .ok (.ireturn, 1) := by decide +kernel
def site : List Cond := []
def tab : Cond := tabOf yN yB 7 (some .int) site
def P (b : Addr) (A : Cell) (d : Addr) (B : Cell) (o q len : Nat) (args : Array Value) (s : State) : Prop := args = #[.ref b, .int (Int32.ofNat o), .ref d, .int (Int32.ofNat q), .int (Int32.ofNat len)] ∧ Ch b A s ∧ Arr .byte d B s ∧ b ≠ d ∧ o + len ≤ A.slots.size ∧ q + len ≤ B.slots.size ∧ ∀ i, i < len → ¬ 255 < cv A (o + i)
def E (b : Addr) (A : Cell) (d : Addr) (B : Cell) (o q len : Nat) (r : Option Value) (s u : State) : Prop := r = some (.int (Int32.ofNat len)) ∧ ∃ B', Put d B' s u ∧ Laid B B' q (q + len) (fun j => Value.int (lo8 (cv A (o + (j - q)))))
/-- no char of the range above 255: len; the places written hold each char's low byte -/
theorem law (l : Launch) (b : Addr) (A : Cell) (d : Addr) (B : Cell) (o q len : Nat) : Law l yN 5 5 0 0 yB 7 (some .int) site (P b A d B o q len) (E b A d B o q len) (copyLocs d q len) 0 0 := by
  refine Law.of_walk (plainFor_of_name (by decide +kernel)) (by decide +kernel) (by decide +kernel) (by decide) (fun _ _ h => by rw [h.1]; rfl) (fun _ U U' hal hh h => ⟨h.1, h.2.1.mv hal hh, h.2.2.1.mv hal hh, h.2.2.2⟩) (fun r U U' V V' h1 hal h2 h => ⟨h.1, h.2.elim fun B' q => ⟨B', q.1.mv h1 h2, q.2⟩⟩) ?_
  intro p e s m args below meth c s₁ X0 hexec hbytes hml hret hlk hnm hown hh0 W hP
  obtain ⟨rfl, hA, hB, hne, l1, l2, hp⟩ := hP
  have c1 : Steps p.tables e below (s₁.setTop (entryFrame m #[.ref b, .int (Int32.ofNat o), .ref d, .int (Int32.ofNat q), .int (Int32.ofNat len)] 7)) (s₁.setTop (mkF m 0 #[.val (.ref b), .val (.int (Int32.ofNat o)), .val (.ref d), .val (.int (Int32.ofNat q)), .val (.int (Int32.ofNat len)), .unset, .unset] [])) := entry rfl
  have hA0 := hA.1.mv X0.warmed.alike hh0
  have hB0 := hB.mv X0.warmed.alike hh0
  have a31 := hA.1.2.2.2
  have c2 : Steps p.tables e below (s₁.setTop (entryFrame m #[.ref b, .int (Int32.ofNat o), .ref d, .int (Int32.ofNat q), .int (Int32.ofNat len)] 7)) (s₁.setTop (mkF m 3 #[.val (.ref b), .val (.int (Int32.ofNat o)), .val (.ref d), .val (.int (Int32.ofNat q)), .val (.int (Int32.ofNat len)), .val (.int 0), .unset] [])) := c1.trans (by
    refine iconstV X0.here hexec rfl 0 (hb hbytes d0) (by decide) ?_
    refine XS.istore X0.here hexec rfl (hb hbytes d1) rfl rfl ?_
    exact Steps.refl _)
  have loop : ∀ (r i : Nat), i + r = len → ∀ (z : Slot), (z = .unset ∨ ∃ w, z = .val w ∧ w.category = 1) → ∀ (Tl : State) (Bk : Cell), Stand p l e { frames := 0, locals := 0, cells := 0, slots := 0 } s m #[.ref b, .int (Int32.ofNat o), .ref d, .int (Int32.ofNat q), .int (Int32.ofNat len)] below meth c Tl ([] ++ copyLocs d q i) 0 0 → Put d Bk s₁ Tl → Laid B Bk q (q + i) (fun j => Value.int (lo8 (cv A (o + (j - q))))) →
      Steps p.tables e below (s₁.setTop (entryFrame m #[.ref b, .int (Int32.ofNat o), .ref d, .int (Int32.ofNat q), .int (Int32.ofNat len)] 7)) (Tl.setTop (mkF m 3 #[.val (.ref b), .val (.int (Int32.ofNat (o + i))), .val (.ref d), .val (.int (Int32.ofNat (q + i))), .val (.int (Int32.ofNat len)), .val (.int (Int32.ofNat i)), z] [])) → ∃ (T' : State) (B' : Cell) (z' : Slot), Stand p l e { frames := 0, locals := 0, cells := 0, slots := 0 } s m #[.ref b, .int (Int32.ofNat o), .ref d, .int (Int32.ofNat q), .int (Int32.ofNat len)] below meth c T' ([] ++ copyLocs d q len) 0 0 ∧ Put d B' s₁ T' ∧ Laid B B' q (q + len) (fun j => Value.int (lo8 (cv A (o + (j - q))))) ∧
      Steps p.tables e below (s₁.setTop (entryFrame m #[.ref b, .int (Int32.ofNat o), .ref d, .int (Int32.ofNat q), .int (Int32.ofNat len)] 7)) (T'.setTop (mkF m 3 #[.val (.ref b), .val (.int (Int32.ofNat (o + len))), .val (.ref d), .val (.int (Int32.ofNat (q + len))), .val (.int (Int32.ofNat len)), .val (.int (Int32.ofNat len)), z'] [])) := by
    intro r
    induction r with
    | zero =>
      intro i hi z hz Tl Bk Xl pl fl cl
      have hil : i = len := by omega
      rw [hil] at Xl fl cl
      exact ⟨Tl, Bk, z, Xl, pl, fl, cl⟩
    | succ r ih =>
      intro i hi z hz Tl Bk Xl pl fl cl
      have all := X0.warmed.alike.symm.trans Xl.warmed.alike
      have hAl := hA0.keep all (pl.other hne hA0.1)
      have hBk := hB0.like all pl.1 fl.1 fl.2.1 fl.2.2.1
      have hlt : q + i < Bk.slots.size := by rw [fl.2.2.1]; omega
      have c3 : Steps p.tables e below (s₁.setTop (entryFrame m #[.ref b, .int (Int32.ofNat o), .ref d, .int (Int32.ofNat q), .int (Int32.ofNat len)] 7)) (Tl.setTop (mkF m 12 #[.val (.ref b), .val (.int (Int32.ofNat (o + i))), .val (.ref d), .val (.int (Int32.ofNat (q + i))), .val (.int (Int32.ofNat len)), .val (.int (Int32.ofNat i)), z] [.int (Int32.ofNat (o + i)), .ref b])) := cl.trans (by
        refine XS.iload Xl.here hexec rfl (hb hbytes d3) rfl ?_
        refine XS.iload Xl.here hexec rfl (hb hbytes d5) rfl ?_
        refine XS.icmpNo Xl.here hexec rfl (hb hbytes d7) rfl (ii_ge_f (lt32 (by omega) (by omega))) ?_
        refine XS.aloadN Xl.here hexec rfl (hb hbytes d10) rfl rfl ?_
        refine XS.iloadN Xl.here hexec rfl (hb hbytes d11) rfl ?_
        exact Steps.refl _)
      have c4 : Steps p.tables e below (s₁.setTop (entryFrame m #[.ref b, .int (Int32.ofNat o), .ref d, .int (Int32.ofNat q), .int (Int32.ofNat len)] 7)) (Tl.setTop (mkF m 13 #[.val (.ref b), .val (.int (Int32.ofNat (o + i))), .val (.ref d), .val (.int (Int32.ofNat (q + i))), .val (.int (Int32.ofNat len)), .val (.int (Int32.ofNat i)), z] [.int (cv A (o + i))])) := c3.trans (by
        refine Xl.aget hexec hAl rfl (hA.get (i := o + i) (by omega)) rfl rfl (hb hbytes d12) ?_
        exact Steps.refl _)
      have c5 : Steps p.tables e below (s₁.setTop (entryFrame m #[.ref b, .int (Int32.ofNat o), .ref d, .int (Int32.ofNat q), .int (Int32.ofNat len)] 7)) (Tl.setTop (mkF m 15 #[.val (.ref b), .val (.int (Int32.ofNat (o + i))), .val (.ref d), .val (.int (Int32.ofNat (q + i))), .val (.int (Int32.ofNat len)), .val (.int (Int32.ofNat i)), .val (.int (cv A (o + i)))] [])) := c4.trans (by
        refine XS.istoreS Xl.here hexec rfl (hb hbytes d13) rfl rfl hz ?_
        exact Steps.refl _)
      have c6 : Steps p.tables e below (s₁.setTop (entryFrame m #[.ref b, .int (Int32.ofNat o), .ref d, .int (Int32.ofNat q), .int (Int32.ofNat len)] 7)) (Tl.setTop (mkF m 31 #[.val (.ref b), .val (.int (Int32.ofNat (o + i))), .val (.ref d), .val (.int (Int32.ofNat (q + i))), .val (.int (Int32.ofNat len)), .val (.int (Int32.ofNat i)), .val (.int (cv A (o + i)))] [.int (lo8 (cv A (o + i))), .int (Int32.ofNat (q + i)), .ref d])) := c5.trans (by
        refine XS.iload Xl.here hexec rfl (hb hbytes d15) rfl ?_
        refine sipushV Xl.here hexec rfl 255 (hb hbytes d17) (by decide) ?_
        refine XS.icmpYes Xl.here hexec rfl (pc0 := 20) rfl (hb hbytes d20) rfl (ii_le_t (hp i (by omega))) (by decide) rfl ?_
        refine XS.aloadN Xl.here hexec rfl (hb hbytes d26) rfl rfl ?_
        refine XS.iloadN Xl.here hexec rfl (hb hbytes d27) rfl ?_
        refine XS.iload Xl.here hexec rfl (hb hbytes d28) rfl ?_
        refine i2b Xl.here hexec rfl (hb hbytes d30) rfl ?_
        exact Steps.refl _)
      obtain ⟨T7, X7, p7, st7⟩ := Xl.aput hexec hBk rfl hlt rfl (fits_lo8 (cv A (o + i))) (g := (mkF m 31 #[.val (.ref b), .val (.int (Int32.ofNat (o + i))), .val (.ref d), .val (.int (Int32.ofNat (q + i))), .val (.int (Int32.ofNat len)), .val (.int (Int32.ofNat i)), .val (.int (cv A (o + i)))] [.int (lo8 (cv A (o + i))), .int (Int32.ofNat (q + i)), .ref d])) rfl (rest := []) rfl (hb hbytes d31)
      have c8 : Steps p.tables e below (s₁.setTop (entryFrame m #[.ref b, .int (Int32.ofNat o), .ref d, .int (Int32.ofNat q), .int (Int32.ofNat len)] 7)) (T7.setTop (mkF m 32 #[.val (.ref b), .val (.int (Int32.ofNat (o + i))), .val (.ref d), .val (.int (Int32.ofNat (q + i))), .val (.int (Int32.ofNat len)), .val (.int (Int32.ofNat i)), .val (.int (cv A (o + i)))] [])) := c6.trans (st7 _ (Steps.refl _))
      have c9 : Steps p.tables e below (s₁.setTop (entryFrame m #[.ref b, .int (Int32.ofNat o), .ref d, .int (Int32.ofNat q), .int (Int32.ofNat len)] 7)) (T7.setTop (mkF m 3 #[.val (.ref b), .val (.int (Int32.ofNat (o + i) + 1)), .val (.ref d), .val (.int (Int32.ofNat (q + i) + 1)), .val (.int (Int32.ofNat len)), .val (.int (Int32.ofNat i + 1)), .val (.int (cv A (o + i)))] [])) := c8.trans (by
        refine iincV X7.here hexec rfl 1 (hb hbytes d32) (by decide) rfl rfl ?_
        refine iincV X7.here hexec rfl 1 (hb hbytes d35) (by decide) rfl rfl ?_
        refine iincV X7.here hexec rfl 1 (hb hbytes d38) (by decide) rfl rfl ?_
        refine XS.goto X7.here hexec rfl (pc0 := 41) rfl (hb hbytes d41) (by decide) rfl ?_
        exact Steps.refl _)
      have c10 : Steps p.tables e below (s₁.setTop (entryFrame m #[.ref b, .int (Int32.ofNat o), .ref d, .int (Int32.ofNat q), .int (Int32.ofNat len)] 7)) (T7.setTop (mkF m 3 #[.val (.ref b), .val (.int (Int32.ofNat (o + (i + 1)))), .val (.ref d), .val (.int (Int32.ofNat (q + (i + 1)))), .val (.int (Int32.ofNat len)), .val (.int (Int32.ofNat (i + 1))), .val (.int (cv A (o + i)))] [])) := by
        have := c9
        rw [succ32, succ32, succ32] at this
        exact this
      exact ih (i + 1) (by omega) _ (Or.inr ⟨_, rfl, rfl⟩) T7 _ (by rw [copyLocs_step, ← List.append_assoc]; exact X7) (pl.trans p7) (fl.step (by omega) hlt (by simp)) c10
  obtain ⟨T9, B9, z9, X9, p9, f9, g9⟩ := loop len 0 (by omega) .unset (Or.inl rfl) s₁ B (by simpa [copyLocs] using X0) ⟨hB0.1, fun _ _ => rfl, rfl⟩ (Laid.zero _ _ _) c2
  have c11 : Steps p.tables e below (s₁.setTop (entryFrame m #[.ref b, .int (Int32.ofNat o), .ref d, .int (Int32.ofNat q), .int (Int32.ofNat len)] 7)) (T9.setTop (mkF m 46 #[.val (.ref b), .val (.int (Int32.ofNat (o + len))), .val (.ref d), .val (.int (Int32.ofNat (q + len))), .val (.int (Int32.ofNat len)), .val (.int (Int32.ofNat len)), z9] [.int (Int32.ofNat len)])) := g9.trans (by
    refine XS.iload X9.here hexec rfl (hb hbytes d3) rfl ?_
    refine XS.iload X9.here hexec rfl (hb hbytes d5) rfl ?_
    refine XS.icmpYes X9.here hexec rfl (pc0 := 7) rfl (hb hbytes d7) rfl (ii_ge_t (nlt32 (by omega) (Nat.le_refl _))) (by decide) rfl ?_
    refine XS.iload X9.here hexec rfl (hb hbytes d44) rfl ?_
    exact Steps.refl _)
  exact ⟨T9, some (.int (Int32.ofNat len)), _, _, _, X9, by simp, rfl, rfl, (fun h => by cases h), ⟨rfl, B9, p9.from hh0, f9⟩, fun fs hl => c11.trans (X9.ireturnOut hexec hret rfl (Or.inl rfl) (hb hbytes d46) hl)⟩
end Cmp5
namespace Cmp3
def yN : MethodName := ⟨"java/lang/StringUTF16", "compress", "([CII)[B"⟩
abbrev yB : ByteArray := jdk_52_method_16_code
theorem d0 : decode yB 0 = .ok (.iload_n 2, 1) := by decide +kernel
theorem d1 : decode yB 1 = .ok (.newarray .byte, 2) := by decide +kernel
theorem d3 : decode yB 3 = .ok (.astore_n 3, 1) := by decide +kernel
theorem d4 : decode yB 4 = .ok (.aload_n 0, 1) := by decide +kernel
theorem d5 : decode yB 5 = .ok (.iload_n 1, 1) := by decide +kernel
theorem d6 : decode yB 6 = .ok (.aload_n 3, 1) := by decide +kernel
theorem d7 : decode yB 7 = .ok (.iconst 0, 1) := by decide +kernel
theorem d8 : decode yB 8 = .ok (.iload_n 2, 1) := by decide +kernel
theorem d9 : decode yB 9 = .ok (.invokestatic 115, 3) := by decide +kernel
theorem d12 : decode yB 12 = .ok (.istore 4, 2) := by decide +kernel
theorem d14 : decode yB 14 = .ok (.iload 4, 2) := by decide +kernel
theorem d16 : decode yB 16 = .ok (.iload_n 2, 1) := by decide +kernel
theorem d17 : decode yB 17 = .ok (.if_icmp (.eq) 40, 3) := by decide +kernel
theorem d57 : decode yB 57 = .ok (.aload_n 3, 1) := by decide +kernel
theorem d58 : decode yB 58 = .ok (.areturn, 1) := by decide +kernel
def site : List Cond := [.arrayClass .byte, Cmp5.tab] ++ staticW U16 115 Cmp5.yN
def tab : Cond := tabOf yN yB 6 (some (.array .byte)) site
def P (b : Addr) (A : Cell) (o len : Nat) (args : Array Value) (s : State) : Prop := args = #[.ref b, .int (Int32.ofNat o), .int (Int32.ofNat len)] ∧ Ch b A s ∧ o + len ≤ A.slots.size ∧ len ≤ 536870912 ∧ ∀ i, i < len → ¬ 255 < cv A (o + i)
def E (b : Addr) (A : Cell) (o len : Nat) (r : Option Value) (s u : State) : Prop := NewArr .byte "[B" len (fun j => .int (lo8 (cv A (o + j)))) r s u ∧ u.heap.size = s.heap.size + 1
/-- no char of the range above 255: a new byte[] of their low bytes -/
theorem law (l : Launch) (b : Addr) (A : Cell) (o len : Nat) : Law l yN 3 3 1 18 yB 6 (some (.array .byte)) site (P b A o len) (E b A o len) [] 1 len := by
  refine Law.of_walk (plainFor_of_name (by decide +kernel)) (by decide +kernel) (by decide +kernel) (by decide) (fun _ _ h => by rw [h.1]; rfl) (fun _ U U' hal hh h => ⟨h.1, h.2.1.mv hal hh, h.2.2⟩) (fun r U U' V V' h1 hal h2 h => ⟨NewArr.mv r U U' V V' h1 hal h2 h.1, by rw [h1, h2]; exact h.2⟩) ?_
  intro p e s m args below meth c s₁ X0 hexec hbytes hml hret hlk hnm hown hh0 W hP
  obtain ⟨rfl, hA, l1, l2, hp⟩ := hP
  have a31 := hA.1.2.2.2
  have c1 : Steps p.tables e below (s₁.setTop (entryFrame m #[.ref b, .int (Int32.ofNat o), .int (Int32.ofNat len)] 6)) (s₁.setTop (mkF m 0 #[.val (.ref b), .val (.int (Int32.ofNat o)), .val (.int (Int32.ofNat len)), .unset, .unset, .unset] [])) := entry rfl
  have c2 : Steps p.tables e below (s₁.setTop (entryFrame m #[.ref b, .int (Int32.ofNat o), .int (Int32.ofNat len)] 6)) (s₁.setTop (mkF m 1 #[.val (.ref b), .val (.int (Int32.ofNat o)), .val (.int (Int32.ofNat len)), .unset, .unset, .unset] [.int (Int32.ofNat len)])) := c1.trans (by
    refine XS.iloadN X0.here hexec rfl (hb hbytes d0) rfl ?_
    exact Steps.refl _)
  obtain ⟨T3, B3, X3, ba3, bs3, bv3, bh3, bf3, st3⟩ := X0.anew hexec (atype := .byte) (wk W (.arrayClass .byte)) rfl (by show len * 1 ≤ _; omega) (by omega) (g := (mkF m 1 #[.val (.ref b), .val (.int (Int32.ofNat o)), .val (.int (Int32.ofNat len)), .unset, .unset, .unset] [.int (Int32.ofNat len)])) rfl (hb hbytes d1) (rest := []) rfl (Nat.le_refl _) (by show 0 + len ≤ len; omega)
  rw [hh0] at ba3 st3
  have kp3 : XT.Kept s T3 := (XT.Kept.of_eq hh0).push bh3
  have hA3 := hA.keep X3.warmed.alike (kp3 _ _ hA.1.1)
  have hne : b ≠ s.heap.size := hA.1.ne
  have c4 : Steps p.tables e below (s₁.setTop (entryFrame m #[.ref b, .int (Int32.ofNat o), .int (Int32.ofNat len)] 6)) (T3.setTop (mkF m 3 #[.val (.ref b), .val (.int (Int32.ofNat o)), .val (.int (Int32.ofNat len)), .unset, .unset, .unset] [.ref s.heap.size])) := c2.trans (st3 _ (Steps.refl _))
  have c5 : Steps p.tables e below (s₁.setTop (entryFrame m #[.ref b, .int (Int32.ofNat o), .int (Int32.ofNat len)] 6)) (T3.setTop (mkF m 9 #[.val (.ref b), .val (.int (Int32.ofNat o)), .val (.int (Int32.ofNat len)), .val (.ref s.heap.size), .unset, .unset] [.int (Int32.ofNat len), .int 0, .ref s.heap.size, .int (Int32.ofNat o), .ref b])) := c4.trans (by
    refine XS.astoreN X3.here hexec rfl (hb hbytes d3) rfl rfl rfl ?_
    refine XS.aloadN X3.here hexec rfl (hb hbytes d4) rfl rfl ?_
    refine XS.iloadN X3.here hexec rfl (hb hbytes d5) rfl ?_
    refine XS.aloadN X3.here hexec rfl (hb hbytes d6) rfl rfl ?_
    refine iconstV X3.here hexec rfl 0 (hb hbytes d7) (by decide) ?_
    refine XS.iloadN X3.here hexec rfl (hb hbytes d8) rfl ?_
    exact Steps.refl _)
  obtain ⟨v6, T6, X6, E6, g6⟩ := X3.callS hexec (Cmp5.law l b A s.heap.size B3 o 0 len) hown (wks W (staticW U16 115 Cmp5.yN)) (wk W Cmp5.tab) (W := 0) (Nat.le_of_ble_eq_true rfl) (Nat.le_of_ble_eq_true rfl) (Nat.le_refl _) (by show 0 + len + 0 ≤ len; omega) (g := (mkF m 9 #[.val (.ref b), .val (.int (Int32.ofNat o)), .val (.int (Int32.ofNat len)), .val (.ref s.heap.size), .unset, .unset] [.int (Int32.ofNat len), .int (Int32.ofNat 0), .ref s.heap.size, .int (Int32.ofNat o), .ref b])) rfl (by rw [hml]; rfl) c5 (argsL := [.ref b, .int (Int32.ofNat o), .ref s.heap.size, .int (Int32.ofNat 0), .int (Int32.ofNat len)]) (rest := []) rfl rfl (by show 2 * 0 + 0 ≤ _; decide) (hb hbytes d9) (⟨rfl, hA3, ba3, hne, l1, by rw [bs3]; simp, hp⟩)
  obtain ⟨rfl, B6, p6, f6⟩ := E6
  have c7 : Steps p.tables e below (s₁.setTop (entryFrame m #[.ref b, .int (Int32.ofNat o), .int (Int32.ofNat len)] 6)) (T6.setTop (mkF m 12 #[.val (.ref b), .val (.int (Int32.ofNat o)), .val (.int (Int32.ofNat len)), .val (.ref s.heap.size), .unset, .unset] [.int (Int32.ofNat len)])) := g6
  have c8 : Steps p.tables e below (s₁.setTop (entryFrame m #[.ref b, .int (Int32.ofNat o), .int (Int32.ofNat len)] 6)) (T6.setTop (mkF m 58 #[.val (.ref b), .val (.int (Int32.ofNat o)), .val (.int (Int32.ofNat len)), .val (.ref s.heap.size), .val (.int (Int32.ofNat len)), .unset] [.ref s.heap.size])) := c7.trans (by
    refine XS.istore X6.here hexec rfl (hb hbytes d12) rfl rfl ?_
    refine XS.iload X6.here hexec rfl (hb hbytes d14) rfl ?_
    refine XS.iloadN X6.here hexec rfl (hb hbytes d16) rfl ?_
    refine XS.icmpYes X6.here hexec rfl (pc0 := 17) rfl (hb hbytes d17) rfl (ii_eq_t rfl) (by decide) rfl ?_
    refine XS.aloadN X6.here hexec rfl (hb hbytes d57) rfl rfl ?_
    exact Steps.refl _)
  have X8 := X6.wide (L' := []) (cells' := 1) (slots' := len) (fun x hx hlt => by
    simp only [List.nil_append, copyLocs, List.mem_map, List.mem_range] at hx
    obtain ⟨i, -, rfl⟩ := hx
    exact absurd hlt (Nat.lt_irrefl _)) (Nat.le_refl _) (by omega)
  exact ⟨T6, some (.ref s.heap.size), _, _, _, X8, rfl, rfl, rfl, (fun h => by cases h), ⟨⟨rfl, B6, ba3.like (X3.warmed.alike.symm.trans X6.warmed.alike) p6.1 f6.1 f6.2.1 f6.2.2.1, f6.2.1.trans bv3, by rw [X6.warmed.alike.findClass, f6.1]; exact bf3, by rw [f6.2.2.1, bs3]; simp, fun j hj => by rw [f6.2.2.2 j, if_pos (by omega)]; rfl, kp3.put p6 (Nat.le_refl _)⟩, by rw [p6.2.2, bh3, hh0]; simp⟩, fun fs hl => c8.trans (X8.areturnOut hexec rfl hret rfl (hb hbytes d58) hl)⟩
end Cmp3
namespace CodL
def yN : MethodName := ⟨"java/lang/StringUTF16", "coderFromArrayLen", "([BI)B"⟩
abbrev yB : ByteArray := jdk_52_method_15_code
theorem d0 : decode yB 0 = .ok (.iload_n 1, 1) := by decide +kernel
theorem d1 : decode yB 1 = .ok (.aload_n 0, 1) := by decide +kernel
theorem d2 : decode yB 2 = .ok (.arraylength, 1) := by decide +kernel
theorem d3 : decode yB 3 = .ok (.isub, 1) := by decide +kernel
theorem d4 : decode yB 4 = .ok (.bipush 31, 2) := by decide +kernel
theorem d6 : decode yB 6 = .ok (.iushr, 1) := by decide +kernel
theorem d7 : decode yB 7 = .ok (.i2b, 1) := by decide +kernel
theorem d8 : decode yB 8 = .ok (.ireturn, 1) := by decide +kernel
def site : List Cond := []
def tab : Cond := tabOf yN yB 2 (some .byte) site
def P (d : Addr) (B : Cell) (args : Array Value) (s : State) : Prop := args = #[.ref d, .int (Int32.ofNat B.slots.size)] ∧ Arr .byte d B s
def E (r : Option Value) (s u : State) : Prop := XT.PureE (some (.int 0)) r s u
/-- an array as long as the number of chars: LATIN1 -/
theorem law (l : Launch) (d : Addr) (B : Cell) : Law l yN 2 2 0 0 yB 2 (some .byte) site (P d B) E [] 0 0 := by
  refine Law.of_walk (plainFor_of_name (by decide +kernel)) (by decide +kernel) (by decide +kernel) (by decide) (fun _ _ h => by rw [h.1]; rfl) (fun _ U U' hal hh h => ⟨h.1, h.2.mv hal hh⟩) (fun r U U' V V' h1 hal h2 h => XT.PureE.mv r U U' V V' h1 hal h2 h) ?_
  intro p e s m args below meth c s₁ X0 hexec hbytes hml hret hlk hnm hown hh0 W hP
  obtain ⟨rfl, hB⟩ := hP
  have hB0 := hB.mv X0.warmed.alike hh0
  have c1 : Steps p.tables e below (s₁.setTop (entryFrame m #[.ref d, .int (Int32.ofNat B.slots.size)] 2)) (s₁.setTop (mkF m 0 #[.val (.ref d), .val (.int (Int32.ofNat B.slots.size))] [])) := entry rfl
  have c2 : Steps p.tables e below (s₁.setTop (entryFrame m #[.ref d, .int (Int32.ofNat B.slots.size)] 2)) (s₁.setTop (mkF m 2 #[.val (.ref d), .val (.int (Int32.ofNat B.slots.size))] [.ref d, .int (Int32.ofNat B.slots.size)])) := c1.trans (by
    refine XS.iloadN X0.here hexec rfl (hb hbytes d0) rfl ?_
    refine XS.aloadN X0.here hexec rfl (hb hbytes d1) rfl rfl ?_
    exact Steps.refl _)
  have c3 : Steps p.tables e below (s₁.setTop (entryFrame m #[.ref d, .int (Int32.ofNat B.slots.size)] 2)) (s₁.setTop (mkF m 8 #[.val (.ref d), .val (.int (Int32.ofNat B.slots.size))] [.int (lo8 (ushr (Int32.ofNat B.slots.size - Int32.ofNat B.slots.size) 31))])) := c2.trans (by
    refine X0.alen hexec hB0 rfl rfl (hb hbytes d2) ?_
    refine XS.isub X0.here hexec rfl (hb hbytes d3) rfl ?_
    refine bipushV X0.here hexec rfl 31 (hb hbytes d4) (by decide) ?_
    refine iushr X0.here hexec rfl (hb hbytes d6) rfl ?_
    refine i2b X0.here hexec rfl (hb hbytes d7) rfl ?_
    exact Steps.refl _)
  have e0 : lo8 (ushr (Int32.ofNat B.slots.size - Int32.ofNat B.slots.size) 31) = 0 := by rw [Int32.sub_self]; decide
  rw [e0] at c3
  exact ⟨s₁, some (.int 0), _, _, _, X0, rfl, rfl, rfl, (fun h => by cases h), ⟨rfl, hh0⟩, fun fs hl => c3.trans (X0.ireturnOut hexec hret rfl (Or.inr (Or.inr (Or.inl rfl))) (hb hbytes d8) hl)⟩
end CodL
/-- the String at a is Latin-1 over a new byte[] (the heap's one new cell): the low bytes of the len chars of A from o on; every cell but a is kept -/
def Got (a : Addr) (D : Cell) (fV fC : Field) (A : Cell) (o len : Nat) (r : Option Value) (s u : State) : Prop := r = none ∧ ∃ D' V : Cell, Blank "java/lang/String" a D' u ∧ Same D D' [fV.slot, fC.slot] ∧ D'.slots[fV.slot]? = some (.ref s.heap.size) ∧ D'.slots[fC.slot]? = some (.int 0) ∧ Arr .byte s.heap.size V u ∧ V.vm = .none ∧ u.vm.findClass "[B" = some V.cls ∧ V.slots.size = len ∧ (∀ j, j < len → V.slots[j]? = some (.int (lo8 (cv A (o + j))))) ∧ (∀ (y : Addr) (c : Cell), y ≠ a → s.heap[y]? = some c → u.heap[y]? = some c) ∧ u.heap.size = s.heap.size + 1
theorem Got.mv {a : Addr} {D A : Cell} {fV fC : Field} {o len : Nat} : ∀ r (U U' V V' : State), U'.heap = U.heap → V.vm.Alike V'.vm → V'.heap = V.heap → Got a D fV fC A o len r U V → Got a D fV fC A o len r U' V' :=
  fun r U U' V V' h1 hal h2 ⟨e0, D', X, a1, a2, a3, a4, a5, a6, a7, a8, a9, a10, a11⟩ => ⟨e0, D', X, a1.mv hal h2, a2, by rw [h1]; exact a3, a4, by rw [h1]; exact a5.mv hal h2, a6, by rw [hal.findClass]; exact a7, a8, a9, by rw [h1, h2]; exact a10, by rw [h1, h2]; exact a11⟩
namespace New4
def yN : MethodName := ⟨"java/lang/String", "<init>", "([CIILjava/lang/Void;)V"⟩
abbrev yB : ByteArray := jdk_42_method_149_code
theorem d0 : decode yB 0 = .ok (.aload_n 0, 1) := by decide +kernel
theorem d1 : decode yB 1 = .ok (.invokespecial 1, 3) := by decide +kernel
theorem d4 : decode yB 4 = .ok (.iload_n 3, 1) := by decide +kernel
theorem d5 : decode yB 5 = .ok (.ifCond (.ne) 22, 3) := by decide +kernel
theorem d27 : decode yB 27 = .ok (.getstatic 38, 3) := by decide +kernel
theorem d30 : decode yB 30 = .ok (.ifCond (.eq) 28, 3) := by decide +kernel
theorem d33 : decode yB 33 = .ok (.aload_n 1, 1) := by decide +kernel
theorem d34 : decode yB 34 = .ok (.iload_n 2, 1) := by decide +kernel
theorem d35 : decode yB 35 = .ok (.iload_n 3, 1) := by decide +kernel
theorem d36 : decode yB 36 = .ok (.invokestatic 177, 3) := by decide +kernel
theorem d39 : decode yB 39 = .ok (.astore 5, 2) := by decide +kernel
theorem d41 : decode yB 41 = .ok (.aload_n 0, 1) := by decide +kernel
theorem d42 : decode yB 42 = .ok (.aload 5, 2) := by decide +kernel
theorem d44 : decode yB 44 = .ok (.iload_n 3, 1) := by decide +kernel
theorem d45 : decode yB 45 = .ok (.invokestatic 47, 3) := by decide +kernel
theorem d48 : decode yB 48 = .ok (.putfield 15, 3) := by decide +kernel
theorem d51 : decode yB 51 = .ok (.aload_n 0, 1) := by decide +kernel
theorem d52 : decode yB 52 = .ok (.aload 5, 2) := by decide +kernel
theorem d54 : decode yB 54 = .ok (.putfield 9, 3) := by decide +kernel
theorem d57 : decode yB 57 = .ok (.return_, 1) := by decide +kernel
def site : List Cond := [.fieldLink "java/lang/String" 38 "java/lang/String" "COMPACT_STRINGS" "Z", Cmp3.tab, CodL.tab, .laysFinal "java/lang/String" "java/lang/String" "value" "[B", .fieldLink "java/lang/String" 9 "java/lang/String" "value" "[B", .laysFinal "java/lang/String" "java/lang/String" "coder" "B", .fieldLink "java/lang/String" 15 "java/lang/String" "coder" "B"] ++ objW "java/lang/String" 1 ++ staticW "java/lang/String" 177 Cmp3.yN ++ staticW "java/lang/String" 47 CodL.yN
def tab : Cond := tabOf yN yB 6 none site
def P (a : Addr) (D : Cell) (fV fC : Field) (b : Addr) (A : Cell) (z : Int32) (o len : Nat) (args : Array Value) (s : State) : Prop := args = #[.ref a, .ref b, .int (Int32.ofNat o), .int (Int32.ofNat len), .null] ∧ Blank "java/lang/String" a D s ∧ Found "java/lang/String" "value" "[B" fV s ∧ Found "java/lang/String" "coder" "B" fC s ∧ Ch b A s ∧ StaticIs s "java/lang/String" "COMPACT_STRINGS" "Z" (.int z) ∧ ¬ z = 0 ∧ 0 < len ∧ o + len ≤ A.slots.size ∧ len ≤ 536870912 ∧ ∀ i, i < len → ¬ 255 < cv A (o + i)
def E (a : Addr) (D : Cell) (fV fC : Field) (A : Cell) (o len : Nat) (r : Option Value) (s u : State) : Prop := Got a D fV fC A o len r s u
/-- len > 0, no char of the range above 255: a Latin-1 String of their low bytes -/
theorem law (l : Launch) (a : Addr) (D : Cell) (fV fC : Field) (b : Addr) (A : Cell) (z : Int32) (o len : Nat) : Law l yN 5 4 2 35 yB 6 none site (P a D fV fC b A z o len) (E a D fV fC A o len) [⟨a, fC.slot⟩, ⟨a, fV.slot⟩] 1 len := by
  refine Law.of_walk (plainFor_of_name (by decide +kernel)) (by decide +kernel) (by decide +kernel) (by decide) (fun _ _ h => by rw [h.1]; rfl) (fun _ U U' hal hh h => ⟨h.1, h.2.1.mv hal hh, h.2.2.1.al hal, h.2.2.2.1.al hal, h.2.2.2.2.1.mv hal hh, h.2.2.2.2.2.1.there hal hh, h.2.2.2.2.2.2⟩) (fun r U U' V V' h1 hal h2 h => Got.mv r U U' V V' h1 hal h2 h) ?_
  intro p e s m args below meth c s₁ X0 hexec hbytes hml hret hlk hnm hown hh0 W hP
  obtain ⟨rfl, hB, f1, f2, hA, s1, hz, l0, l1, l2, hp⟩ := hP
  have a31 := hA.1.2.2.2
  have c1 : Steps p.tables e below (s₁.setTop (entryFrame m #[.ref a, .ref b, .int (Int32.ofNat o), .int (Int32.ofNat len), .null] 6)) (s₁.setTop (mkF m 0 #[.val (.ref a), .val (.ref b), .val (.int (Int32.ofNat o)), .val (.int (Int32.ofNat len)), .val .null, .unset] [])) := entry rfl
  have c2 : Steps p.tables e below (s₁.setTop (entryFrame m #[.ref a, .ref b, .int (Int32.ofNat o), .int (Int32.ofNat len), .null] 6)) (s₁.setTop (mkF m 1 #[.val (.ref a), .val (.ref b), .val (.int (Int32.ofNat o)), .val (.int (Int32.ofNat len)), .val .null, .unset] [.ref a])) := c1.trans (by
    refine XS.aloadN X0.here hexec rfl (hb hbytes d0) rfl rfl ?_
    exact Steps.refl _)
  obtain ⟨T3, X3, q3, st3⟩ := X0.oinit hexec hown (wks W (objW "java/lang/String" 1)) (g := (mkF m 1 #[.val (.ref a), .val (.ref b), .val (.int (Int32.ofNat o)), .val (.int (Int32.ofNat len)), .val .null, .unset] [.ref a])) rfl (by rw [hml]; rfl) (rest := []) rfl (hb hbytes d1) (W := 0) (by show 2 * 0 + 0 ≤ _; decide) (Nat.le_of_ble_eq_true rfl) (Nat.le_of_ble_eq_true rfl)
  have hh3 := q3.trans hh0
  have c4 : Steps p.tables e below (s₁.setTop (entryFrame m #[.ref a, .ref b, .int (Int32.ofNat o), .int (Int32.ofNat len), .null] 6)) (T3.setTop (mkF m 27 #[.val (.ref a), .val (.ref b), .val (.int (Int32.ofNat o)), .val (.int (Int32.ofNat len)), .val .null, .unset] [])) := (c2.trans (st3 _ (Steps.refl _))).trans (by
    refine XS.iloadN X3.here hexec rfl (hb hbytes d4) rfl ?_
    refine XS.ifYes X3.here hexec rfl (pc0 := 5) rfl (hb hbytes d5) rfl (i0_ne_t (nz32 (by omega) l0)) (by decide) rfl ?_
    exact Steps.refl _)
  obtain ⟨T5, X5, q5, st5⟩ := X3.sget hexec hown (wk W (.fieldLink "java/lang/String" 38 "java/lang/String" "COMPACT_STRINGS" "Z")) s1 (fun _ _ h => by rw [hh3]; exact h) (g := (mkF m 27 #[.val (.ref a), .val (.ref b), .val (.int (Int32.ofNat o)), .val (.int (Int32.ofNat len)), .val .null, .unset] [])) rfl (hb hbytes d27)
  have hh5 := q5.trans hh3
  have c6 : Steps p.tables e below (s₁.setTop (entryFrame m #[.ref a, .ref b, .int (Int32.ofNat o), .int (Int32.ofNat len), .null] 6)) (T5.setTop (mkF m 30 #[.val (.ref a), .val (.ref b), .val (.int (Int32.ofNat o)), .val (.int (Int32.ofNat len)), .val .null, .unset] [.int z])) := c4.trans (st5 _ (Steps.refl _))
  have c7 : Steps p.tables e below (s₁.setTop (entryFrame m #[.ref a, .ref b, .int (Int32.ofNat o), .int (Int32.ofNat len), .null] 6)) (T5.setTop (mkF m 36 #[.val (.ref a), .val (.ref b), .val (.int (Int32.ofNat o)), .val (.int (Int32.ofNat len)), .val .null, .unset] [.int (Int32.ofNat len), .int (Int32.ofNat o), .ref b])) := c6.trans (by
    refine XS.ifNo X5.here hexec rfl (hb hbytes d30) rfl (i0_eq_f hz) ?_
    refine XS.aloadN X5.here hexec rfl (hb hbytes d33) rfl rfl ?_
    refine XS.iloadN X5.here hexec rfl (hb hbytes d34) rfl ?_
    refine XS.iloadN X5.here hexec rfl (hb hbytes d35) rfl ?_
    exact Steps.refl _)
  obtain ⟨v8, T8, X8, E8, g8⟩ := X5.callS hexec (Cmp3.law l b A o len) hown (wks W (staticW "java/lang/String" 177 Cmp3.yN)) (wk W Cmp3.tab) (W := 0) (Nat.le_of_ble_eq_true rfl) (Nat.le_of_ble_eq_true rfl) (Nat.le_refl _) (by show 0 + len ≤ len; omega) (g := (mkF m 36 #[.val (.ref a), .val (.ref b), .val (.int (Int32.ofNat o)), .val (.int (Int32.ofNat len)), .val .null, .unset] [.int (Int32.ofNat len), .int (Int32.ofNat o), .ref b])) rfl (by rw [hml]; rfl) c7 (argsL := [.ref b, .int (Int32.ofNat o), .int (Int32.ofNat len)]) (rest := []) rfl rfl (by show 2 * 0 + 0 ≤ _; decide) (hb hbytes d36) (⟨rfl, hA.mv X5.warmed.alike hh5, l1, l2, hp⟩)
  obtain ⟨e8, z8⟩ := E8
  obtain ⟨rfl, N, n1, n2, n3, n4, n5, n6⟩ := NewArr.mv _ T5 s _ _ hh5.symm (Vm.Alike.refl _) rfl e8
  rw [hh5] at z8
  have hB1 := hB.keep X8.warmed.alike (n6 _ _ hB.1)
  have hne : s.heap.size ≠ a := (Nat.ne_of_lt (Array.getElem?_eq_some_iff.mp hB.1).1).symm
  have c9 : Steps p.tables e below (s₁.setTop (entryFrame m #[.ref a, .ref b, .int (Int32.ofNat o), .int (Int32.ofNat len), .null] 6)) (T8.setTop (mkF m 39 #[.val (.ref a), .val (.ref b), .val (.int (Int32.ofNat o)), .val (.int (Int32.ofNat len)), .val .null, .unset] [.ref s.heap.size])) := g8
  have c10 : Steps p.tables e below (s₁.setTop (entryFrame m #[.ref a, .ref b, .int (Int32.ofNat o), .int (Int32.ofNat len), .null] 6)) (T8.setTop (mkF m 45 #[.val (.ref a), .val (.ref b), .val (.int (Int32.ofNat o)), .val (.int (Int32.ofNat len)), .val .null, .val (.ref s.heap.size)] [.int (Int32.ofNat N.slots.size), .ref s.heap.size, .ref a])) := by
    have hc : Steps p.tables e below (s₁.setTop (entryFrame m #[.ref a, .ref b, .int (Int32.ofNat o), .int (Int32.ofNat len), .null] 6)) (T8.setTop (mkF m 45 #[.val (.ref a), .val (.ref b), .val (.int (Int32.ofNat o)), .val (.int (Int32.ofNat len)), .val .null, .val (.ref s.heap.size)] [.int (Int32.ofNat len), .ref s.heap.size, .ref a])) := c9.trans (by
      refine XS.astore X8.here hexec rfl (hb hbytes d39) rfl rfl rfl ?_
      refine XS.aloadN X8.here hexec rfl (hb hbytes d41) rfl rfl ?_
      refine XS.aload X8.here hexec rfl (hb hbytes d42) rfl rfl ?_
      refine XS.iloadN X8.here hexec rfl (hb hbytes d44) rfl ?_
      exact Steps.refl _)
    rw [n4]; exact hc
  obtain ⟨v11, T11, X11, E11, g11⟩ := X8.callS hexec (CodL.law l s.heap.size N) hown (wks W (staticW "java/lang/String" 47 CodL.yN)) (wk W CodL.tab) (W := 1) (Nat.le_of_ble_eq_true rfl) (Nat.le_of_ble_eq_true rfl) (Nat.le_refl _) (by show 0 + len + 0 ≤ len; omega) (g := (mkF m 45 #[.val (.ref a), .val (.ref b), .val (.int (Int32.ofNat o)), .val (.int (Int32.ofNat len)), .val .null, .val (.ref s.heap.size)] [.int (Int32.ofNat N.slots.size), .ref s.heap.size, .ref a])) rfl (by rw [hml]; rfl) c10 (argsL := [.ref s.heap.size, .int (Int32.ofNat N.slots.size)]) (rest := [.ref a]) rfl rfl (by show 2 * 0 + (1 + 0) ≤ _; decide) (hb hbytes d45) (⟨rfl, n1⟩)
  obtain ⟨rfl, q11⟩ := E11
  have hB11 := hB1.mv (X8.warmed.alike.symm.trans X11.warmed.alike) q11
  have c12 : Steps p.tables e below (s₁.setTop (entryFrame m #[.ref a, .ref b, .int (Int32.ofNat o), .int (Int32.ofNat len), .null] 6)) (T11.setTop (mkF m 48 #[.val (.ref a), .val (.ref b), .val (.int (Int32.ofNat o)), .val (.int (Int32.ofNat len)), .val .null, .val (.ref s.heap.size)] [.int 0, .ref a])) := g11
  obtain ⟨T13, X13, p13, bl13, sl13, st13⟩ := X11.finit hexec hown (wk W (.fieldLink "java/lang/String" 15 "java/lang/String" "coder" "B")) (Or.inr ⟨_, (wk W (.laysFinal "java/lang/String" "java/lang/String" "coder" "B"))⟩) (Or.inl ⟨rfl, hnm⟩) f2 (Or.inl rfl) hB11 (t := .byte) (by decide +kernel) rfl (g := (mkF m 48 #[.val (.ref a), .val (.ref b), .val (.int (Int32.ofNat o)), .val (.int (Int32.ofNat len)), .val .null, .val (.ref s.heap.size)] [.int 0, .ref a])) rfl (rest := []) rfl (hb hbytes d48)
  have c14 : Steps p.tables e below (s₁.setTop (entryFrame m #[.ref a, .ref b, .int (Int32.ofNat o), .int (Int32.ofNat len), .null] 6)) (T13.setTop (mkF m 54 #[.val (.ref a), .val (.ref b), .val (.int (Int32.ofNat o)), .val (.int (Int32.ofNat len)), .val .null, .val (.ref s.heap.size)] [.ref s.heap.size, .ref a])) := (c12.trans (st13 _ (Steps.refl _))).trans (by
    refine XS.aloadN X13.here hexec rfl (hb hbytes d51) rfl rfl ?_
    refine XS.aload X13.here hexec rfl (hb hbytes d52) rfl rfl ?_
    exact Steps.refl _)
  obtain ⟨T15, X15, p15, bl15, sl15, st15⟩ := X13.finit hexec hown (wk W (.fieldLink "java/lang/String" 9 "java/lang/String" "value" "[B")) (Or.inr ⟨_, (wk W (.laysFinal "java/lang/String" "java/lang/String" "value" "[B"))⟩) (Or.inl ⟨rfl, hnm⟩) f1 (Or.inl rfl) bl13 (t := (.array .byte)) (by decide +kernel) rfl (g := (mkF m 54 #[.val (.ref a), .val (.ref b), .val (.int (Int32.ofNat o)), .val (.int (Int32.ofNat len)), .val .null, .val (.ref s.heap.size)] [.ref s.heap.size, .ref a])) rfl (rest := []) rfl (hb hbytes d54)
  have c16 : Steps p.tables e below (s₁.setTop (entryFrame m #[.ref a, .ref b, .int (Int32.ofNat o), .int (Int32.ofNat len), .null] 6)) (T15.setTop (mkF m 57 #[.val (.ref a), .val (.ref b), .val (.int (Int32.ofNat o)), .val (.int (Int32.ofNat len)), .val .null, .val (.ref s.heap.size)] [])) := c14.trans (st15 _ (Steps.refl _))
  have ap := apart (Or.inr ⟨_, (wk W (.laysFinal "java/lang/String" "java/lang/String" "value" "[B"))⟩) (Or.inr ⟨_, (wk W (.laysFinal "java/lang/String" "java/lang/String" "coder" "B"))⟩) f1 f2 (t₁ := .array .byte) (t₂ := .byte) (by decide +kernel) (by decide +kernel) (by decide)
  have al := X8.warmed.alike.symm.trans X15.warmed.alike
  have n7 : T11.heap[s.heap.size]? = some N := by rw [q11]; exact n1.1
  exact ⟨T15, none, _, _, _, X15, by simp, rfl, by omega, (fun _ => rfl), ⟨rfl, _, N, bl15, ((Same.refl D _).set _ (by simp)).set _ (by simp), sl15, (Cell.slots_setSlot_ne _ ap).trans sl13, n1.keep al (p15.other hne (p13.other hne n7)), n2, by rw [al.findClass]; exact n3, n4, n5, fun y c h1 h2 => p15.other h1 (p13.other h1 (by rw [q11]; exact n6 y c h2)), by rw [p15.2.2, p13.2.2, q11]; exact z8⟩, fun fs hl => c16.trans (X15.returnOut hexec hret (hb hbytes d57) hl)⟩
end New4
namespace New1
def yN : MethodName := ⟨"java/lang/String", "<init>", "([C)V"⟩
abbrev yB : ByteArray := jdk_42_method_3_code
theorem d0 : decode yB 0 = .ok (.aload_n 0, 1) := by decide +kernel
theorem d1 : decode yB 1 = .ok (.aload_n 1, 1) := by decide +kernel
theorem d2 : decode yB 2 = .ok (.iconst 0, 1) := by decide +kernel
theorem d3 : decode yB 3 = .ok (.aload_n 1, 1) := by decide +kernel
theorem d4 : decode yB 4 = .ok (.arraylength, 1) := by decide +kernel
theorem d5 : decode yB 5 = .ok (.aconst_null, 1) := by decide +kernel
theorem d6 : decode yB 6 = .ok (.invokespecial 27, 3) := by decide +kernel
theorem d9 : decode yB 9 = .ok (.return_, 1) := by decide +kernel
def site : List Cond := [New4.tab] ++ initW "java/lang/String" 27 New4.yN
def tab : Cond := tabOf yN yB 2 none site
def P (a : Addr) (D : Cell) (fV fC : Field) (b : Addr) (A : Cell) (z : Int32) (args : Array Value) (s : State) : Prop := args = #[.ref a, .ref b] ∧ Blank "java/lang/String" a D s ∧ Found "java/lang/String" "value" "[B" fV s ∧ Found "java/lang/String" "coder" "B" fC s ∧ Ch b A s ∧ StaticIs s "java/lang/String" "COMPACT_STRINGS" "Z" (.int z) ∧ ¬ z = 0 ∧ 0 < A.slots.size ∧ A.slots.size ≤ 536870912 ∧ ∀ i, i < A.slots.size → ¬ 255 < cv A i
def E (a : Addr) (D : Cell) (fV fC : Field) (A : Cell) (r : Option Value) (s u : State) : Prop := Got a D fV fC A 0 A.slots.size r s u
/-- new String(chars), not empty, no char above 255: a Latin-1 String of their low bytes -/
theorem law (l : Launch) (a : Addr) (D : Cell) (fV fC : Field) (b : Addr) (A : Cell) (z : Int32) : Law l yN 2 1 3 52 yB 2 none site (P a D fV fC b A z) (E a D fV fC A) [⟨a, fC.slot⟩, ⟨a, fV.slot⟩] 1 A.slots.size := by
  refine Law.of_walk (plainFor_of_name (by decide +kernel)) (by decide +kernel) (by decide +kernel) (by decide) (fun _ _ h => by rw [h.1]; rfl) (fun _ U U' hal hh h => ⟨h.1, h.2.1.mv hal hh, h.2.2.1.al hal, h.2.2.2.1.al hal, h.2.2.2.2.1.mv hal hh, h.2.2.2.2.2.1.there hal hh, h.2.2.2.2.2.2⟩) (fun r U U' V V' h1 hal h2 h => Got.mv r U U' V V' h1 hal h2 h) ?_
  intro p e s m args below meth c s₁ X0 hexec hbytes hml hret hlk hnm hown hh0 W hP
  obtain ⟨rfl, hB, f1, f2, hA, s1, hz, l0, l2, hp⟩ := hP
  have c1 : Steps p.tables e below (s₁.setTop (entryFrame m #[.ref a, .ref b] 2)) (s₁.setTop (mkF m 0 #[.val (.ref a), .val (.ref b)] [])) := entry rfl
  have c2 : Steps p.tables e below (s₁.setTop (entryFrame m #[.ref a, .ref b] 2)) (s₁.setTop (mkF m 6 #[.val (.ref a), .val (.ref b)] [.null, .int (Int32.ofNat A.slots.size), .int 0, .ref b, .ref a])) := c1.trans (by
    refine XS.aloadN X0.here hexec rfl (hb hbytes d0) rfl rfl ?_
    refine XS.aloadN X0.here hexec rfl (hb hbytes d1) rfl rfl ?_
    refine iconstV X0.here hexec rfl 0 (hb hbytes d2) (by decide) ?_
    refine XS.aloadN X0.here hexec rfl (hb hbytes d3) rfl rfl ?_
    refine X0.alen hexec (hA.1.mv X0.warmed.alike hh0) rfl rfl (hb hbytes d4) ?_
    refine XS.aconstNull X0.here hexec rfl (hb hbytes d5) ?_
    exact Steps.refl _)
  obtain ⟨v3, T3, X3, E3, g3⟩ := X0.callN hexec (New4.law l a D fV fC b A z 0 A.slots.size) rfl hown (wks W (initW "java/lang/String" 27 New4.yN)) (W New4.tab (by simp only [site, List.mem_cons, List.mem_append, true_or, or_true])) (W := 0) (Nat.le_of_ble_eq_true rfl) (Nat.le_of_ble_eq_true rfl) (Nat.le_refl _) (by show 0 + A.slots.size ≤ A.slots.size; omega) (g := (mkF m 6 #[.val (.ref a), .val (.ref b)] [.null, .int (Int32.ofNat A.slots.size), .int (Int32.ofNat 0), .ref b, .ref a])) rfl (by rw [hml]; rfl) c2 (argsL := [.ref b, .int (Int32.ofNat 0), .int (Int32.ofNat A.slots.size), .null]) (rest := []) rfl rfl (by show 2 * 0 + 0 ≤ _; decide) (hb hbytes d6) (⟨rfl, hB.mv X0.warmed.alike hh0, f1.al X0.warmed.alike, f2.al X0.warmed.alike, hA.mv X0.warmed.alike hh0, s1.there X0.warmed.alike hh0, hz, l0, by omega, l2, fun i hi => by rw [Nat.zero_add]; exact hp i hi⟩)
  have e0 := Got.mv _ s₁ s _ _ hh0.symm (Vm.Alike.refl _) rfl E3
  obtain rfl := e0.1
  have c4 : Steps p.tables e below (s₁.setTop (entryFrame m #[.ref a, .ref b] 2)) (T3.setTop (mkF m 9 #[.val (.ref a), .val (.ref b)] [])) := g3
  exact ⟨T3, none, _, _, _, X3, by simp, rfl, by omega, (fun _ => rfl), e0, fun fs hl => c4.trans (X3.returnOut hexec hret (hb hbytes d9) hl)⟩
theorem pays {l : Launch} {R : Room} {p : Program} {e : Env} {below : List Frame} {s : State} {sargs : Array Value} {len W : Nat} (a : Addr) (D : Cell) (fV fC : Field) (b : Addr) (A : Cell) (z : Int32) (htab : tab.before sargs s = true) (hfr : 4 ≤ R.frames) (hlo : W + 65 ≤ R.locals) :
    Back l R p e below s sargs yN len W (fun A₁ a₁ => A₁.cells + 1 ≤ R.cells ∧ A₁.slots + A.slots.size ≤ R.slots ∧ P a D fV fC b A z a₁ A₁.U) (fun A₁ _ v₁ B₁ => E a D fV fC A v₁ A₁.U B₁.U ∧ B₁.locs = A₁.locs ++ [⟨a, fC.slot⟩, ⟨a, fV.slot⟩] ∧ B₁.cells = A₁.cells + 1 ∧ B₁.slots = A₁.slots + A.slots.size) :=
  (law l a D fV fC b A z).pays htab hfr (by omega)
end New1
end StrChars
namespace StrChars.Road
open Jvm Sem ClassFile Op Lib Jvm.Stand Jvm.Free Jvm.Free.XT
open Jvm.Lib.Cold (StaticIs)
abbrev ST : String := "java/lang/String"
/-- every table word that New1's law asks, flat -/
abbrev words : List Jvm.Cond := [.code New1.yN New1.yB 2 none, .initialized ST, .methodLink ST 27 New4.yN, .instanceMethod New4.yN,
  .code New4.yN New4.yB 6 none, .fieldLink ST 38 ST "COMPACT_STRINGS" "Z", .laysFinal ST ST "value" "[B", .fieldLink ST 9 ST "value" "[B", .laysFinal ST ST "coder" "B", .fieldLink ST 15 ST "coder" "B",
  .methodLink ST 1 Lib.objectInit, .instanceMethod Lib.objectInit, .code Lib.objectInit ⟨#[0xb1]⟩ 1 none, .methodLink ST 177 Cmp3.yN, .static Cmp3.yN, .methodLink ST 47 CodL.yN, .static CodL.yN,
  .code Cmp3.yN Cmp3.yB 6 (some (.array .byte)), .initialized U16, .arrayClass .byte, .methodLink U16 115 Cmp5.yN, .static Cmp5.yN, .code Cmp5.yN Cmp5.yB 7 (some .int), .code CodL.yN CodL.yB 2 (some .byte)]
theorem tab_of {a : Array Value} {s : State} (h : ∀ w ∈ words, w.before a s = true) : New1.tab.before a s = true := by
  have h5 : Cmp5.tab.before a s = true := unparts (wk h (.code Cmp5.yN Cmp5.yB 7 (some .int))) (wks h (.initialized Cmp5.yN.cls :: Cmp5.site))
  have hc : CodL.tab.before a s = true := unparts (wk h (.code CodL.yN CodL.yB 2 (some .byte))) (wks h (.initialized CodL.yN.cls :: CodL.site))
  have q5 : ∀ w ∈ Cmp5.tab :: words, w.before a s = true := fun w hw => (List.mem_cons.mp hw).elim (fun e => e ▸ h5) (h w)
  have h3 : Cmp3.tab.before a s = true := unparts (wk q5 (.code Cmp3.yN Cmp3.yB 6 (some (.array .byte)))) (wks q5 (.initialized Cmp3.yN.cls :: Cmp3.site))
  have q3 : ∀ w ∈ Cmp3.tab :: CodL.tab :: words, w.before a s = true := fun w hw => (List.mem_cons.mp hw).elim (fun e => e ▸ h3) fun hw => (List.mem_cons.mp hw).elim (fun e => e ▸ hc) (h w)
  have h4 : New4.tab.before a s = true := unparts (wk q3 (.code New4.yN New4.yB 6 none)) (wks q3 (.initialized New4.yN.cls :: New4.site))
  have q4 : ∀ w ∈ New4.tab :: words, w.before a s = true := fun w hw => (List.mem_cons.mp hw).elim (fun e => e ▸ h4) (h w)
  exact unparts (wk q4 (.code New1.yN New1.yB 2 none)) (wks q4 (.initialized New1.yN.cls :: New1.site))
/-- the words ride from the start Z to the walk's own state -/
theorem moved {Z s : State} {a0 args : Array Value} (hZ : Z.Warmed39 s.vm) (hw : ∀ d ∈ words, d.before a0 Z = true) : ∀ d ∈ words, d.before args s = true := fun d hd => by
  have q := hw d hd
  have t : ∀ d ∈ words, d = .arrayClass .byte ∨ (d.onTables && d.keepsFace) = true := by decide +kernel
  rcases t d hd with rfl | t
  · exact RoadKit.mvA hZ q
  · exact RoadKit.mv hZ q t
/-- WHAT COMES BACK, over the tables of the start Z: h the heap at the call, h' behind it -/
def Q (Z : State) (x : Addr) (A : Cell) (h : Heap) (v : Option Value) (h' : Heap) (L : List Loc) : Prop := v = none ∧ (∀ y ∈ L, y.base = x) ∧ RoadKit.Keep h h' [x] ∧ h'.size = h.size + 1 ∧ RoadKit.Exa Z h' x ST ∧ RoadKit.Fld Z h' x ST "value" "[B" (.ref h.size) ∧ RoadKit.Fld Z h' x ST "coder" "B" (.int 0) ∧
  (∃ V : Cell, RoadKit.Arr Z h' h.size V .byte ∧ V.vm = .none ∧ Z.vm.findClass "[B" = some V.cls ∧ V.slots.size = A.slots.size ∧ ∀ j, j < A.slots.size → V.slots[j]? = some (.int (lo8 (cv A j)))) ∧
  ∀ (O n d : String) (w : Value), RoadKit.Fld Z h x O n d w → RoadKit.slotOf Z O n d ≠ RoadKit.slotOf Z ST "value" "[B" → RoadKit.slotOf Z O n d ≠ RoadKit.slotOf Z ST "coder" "B" → RoadKit.Fld Z h' x O n d w
/-- **new String(chars) AT A CALL, IN THE ROAD'S FORM**: for specialBack behind newO: x the fresh String, b the char[] with the cell A -/
theorem back {p : Program} {l : Launch} {e : Env} {R : Room} {s : State} {args : Array Value} {below : List Frame} {len W : Nat} {Z : State} {a0 : Array Value} {h : Heap} (hZ : Z.Warmed39 s.vm) (hw : ∀ d ∈ words, d.before a0 Z = true) {kI : Nat} (wi : (Jvm.Cond.instantiable ST kI).before a0 Z = true)
    {x b : Addr} {A : Cell} {z : Int32} {v0 c0 : Value} (E : RoadKit.Exa Z h x ST) (V : RoadKit.Fld Z h x ST "value" "[B" v0) (C : RoadKit.Fld Z h x ST "coder" "B" c0) (K : RoadKit.Arr Z h b A .char) (hty : Typed .char A) (S : RoadKit.Sta Z h ST "COMPACT_STRINGS" "Z" (.int z)) (hz : ¬ z = 0)
    (l0 : 0 < A.slots.size) (l2 : A.slots.size ≤ 536870912) (hp : ∀ i, i < A.slots.size → ¬ 255 < cv A i) (hfr : 4 ≤ R.frames) (hlo : W + 65 ≤ R.locals) :
    Back l R p e below s args New1.yN len W (fun P a => a = #[.ref x, .ref b] ∧ P.U.heap = h ∧ P.cells + 1 ≤ R.cells ∧ P.slots + A.slots.size ≤ R.slots)
      (fun P _ v B => ∃ L, Q Z x A h v B.U.heap L ∧ B.locs = P.locs ++ L ∧ B.cells = P.cells + 1 ∧ B.slots = P.slots + A.slots.size) := by
  intro m meth c P g ig mk a X hg hsize hdg hW hn hp'
  obtain ⟨rfl, rfl, r1, r2⟩ := hp'
  have al : Z.vm.Alike P.U.vm := hZ.alike.trans X.warmed.alike
  obtain ⟨D, cfV, kV, iV, fV, hD, gV, stV, knV, obV, asV, slV⟩ := id V
  obtain ⟨D', cfC, kC, iC, fC, hD', gC, stC, -, -, asC, slC⟩ := id C
  cases hD.symm.trans hD'
  obtain ⟨D2, kD, e1, e2, e3, e4, e5⟩ := id E
  cases hD.symm.trans e1
  obtain ⟨c2, k2, i1, i2, i3, -⟩ := Cond.instantiable_spec wi
  cases e2.symm.trans i1
  cases e3.symm.trans i2
  obtain ⟨kU, u1, u2⟩ := al.2.2 _ _ e3
  have hB : Blank ST x D P.U := ⟨hD, ⟨knV, fun q hq => by rw [hq] at obV; cases obV⟩, by rw [al.findClass]; exact e2, kU, u1, by rw [u2]; exact i3, by rw [u2]; exact e5 i3⟩
  have F1 : Found ST "value" "[B" fV P.U := ⟨SBG.found_only al ⟨cfV, kV, iV, gV⟩, stV⟩
  have F2 : Found ST "coder" "B" fC P.U := ⟨SBG.found_only al ⟨cfC, kC, iC, gC⟩, stC⟩
  have hA : Ch b A P.U := ⟨⟨K.1, State.isArrayOf_alike al K.2.1, K.2.2, by omega⟩, hty⟩
  have hS : StaticIs P.U ST "COMPACT_STRINGS" "Z" (.int z) := by
    obtain ⟨cfS, iS, kS, fS, st, cS, t1, t2, t3, t4, t5, t6, t7⟩ := S
    exact StaticIs.there (s := { Z with heap := P.U.heap }) ⟨cfS, iS, kS, fS, st, cS, t1, t2, t3, t4, t5, (fun q => by rw [q] at t6; cases t6), t7⟩ al rfl
  obtain ⟨v, B, X', ⟨⟨hv, E', V', q1, q2, q3, q4, q5, q6, q7, q8, q9, q10, q11⟩, hl, hc, hs⟩, st⟩ := New1.pays x D fV fC b A z (tab_of (moved hZ hw)) hfr hlo m meth c P g ig mk _ X hg hsize hdg hW hn ⟨r1, r2, rfl, hB, F1, F2, hA, hS, hz, l0, l2, hp⟩
  have al' : Z.vm.Alike B.U.vm := hZ.alike.trans X'.warmed.alike
  have hsz : E'.slots.size = D.slots.size := by
    obtain ⟨-, -, -, kB, w1, w2, w3⟩ := q1
    obtain ⟨kB', y1, y2⟩ := al'.2.2 _ _ e3
    rw [q2.2.1] at w1
    cases w1.symm.trans y1
    rw [w3, e5 i3, y2]
  refine ⟨v, B, X', ⟨_, ⟨hv, ?_, ⟨by omega, fun y cy hy hn' => q10 y cy (by simpa using hn') hy, fun y cy hy => ?_⟩, q11, ⟨E', _, q1.1, by rw [q2.2.1]; exact e2, by rw [q2.2.1]; exact e3, by rw [q2.1]; exact obV, fun _ => by rw [hsz]; exact e5 i3⟩,
    ⟨E', cfV, kV, iV, fV, q1.1, gV, stV, by rw [q2.1]; exact knV, by rw [q2.1]; exact obV, by rw [q2.2.1]; exact asV, q3⟩, ⟨E', cfC, kC, iC, fC, q1.1, gC, stC, by rw [q2.1]; exact knV, by rw [q2.1]; exact obV, by rw [q2.2.1]; exact asC, q4⟩,
    ⟨V', ⟨q5.1, State.isArrayOf_alike al'.symm q5.2.1, q5.2.2.1⟩, q6, by rw [← al'.findClass]; exact q7, q8, fun j hj => by have := q9 j hj; rwa [Nat.zero_add] at this⟩, fun O n d w F n1 n2 => ?_⟩, hl, hc, hs⟩, st⟩
  · intro y hy
    simp only [List.mem_cons, List.not_mem_nil, or_false] at hy
    rcases hy with rfl | rfl <;> rfl
  · by_cases q : y = x
    · subst q
      cases hD.symm.trans hy
      exact ⟨E', q1.1, q2.2.1, q2.1, hsz⟩
    · exact ⟨cy, q10 y cy q hy, rfl, rfl, rfl⟩
  · obtain ⟨D3, cf, k, i, f, g1, g2, g3, g4, g5, g6, g7⟩ := F
    cases hD.symm.trans g1
    simp only [RoadKit.slotOf, g2, gV, gC, Option.map_some, Option.getD_some] at n1 n2
    exact ⟨E', cf, k, i, f, q1.1, g2, g3, by rw [q2.1]; exact g4, by rw [q2.1]; exact g5, by rw [q2.2.1]; exact g6, by rw [q2.2.2 f.slot (by simp [n1, n2])]; exact g7⟩
end StrChars.Road
namespace StrChars.Road
open Jvm Sem ClassFile Op Lib Jvm.Stand Jvm.Free Jvm.Free.XT
/-- WHAT COMES BACK, the byte[] as a list of values -/
def QA (Z : State) (x : Addr) (zn : Int32) (cs : List Int32) (h : Heap) (v : Option Value) (h' : Heap) (L : List Loc) : Prop := v = none ∧ (∀ y ∈ L, y.base = x) ∧ RoadKit.Keep h h' [x] ∧ h'.size = h.size + 1 ∧ RoadKit.Exa Z h' x ST ∧ RoadKit.Fld Z h' x ST "value" "[B" (.ref h.size) ∧ RoadKit.Fld Z h' x ST "coder" "B" (.int 0) ∧
  (∃ kb, Z.vm.findClass "[B" = some kb ∧ RoadKit.Arv Z h' h.size kb .byte zn (cs.map fun c => .int (lo8 c)) (.int 0)) ∧
  ∀ (O n d : String) (w : Value), RoadKit.Fld Z h x O n d w → RoadKit.slotOf Z O n d ≠ RoadKit.slotOf Z ST "value" "[B" → RoadKit.slotOf Z O n d ≠ RoadKit.slotOf Z ST "coder" "B" → RoadKit.Fld Z h' x O n d w
/-- **new String(chars) AT A CALL, THE ARRAYS AS LISTS**: the char[] at b holds cs, not empty, no char above 255 -/
theorem backArv {p : Program} {l : Launch} {e : Env} {R : Room} {s : State} {args : Array Value} {below : List Frame} {len W : Nat} {Z : State} {a0 : Array Value} {h : Heap} (hZ : Z.Warmed39 s.vm) (hw : ∀ d ∈ words, d.before a0 Z = true) {kI : Nat} (wi : (Jvm.Cond.instantiable ST kI).before a0 Z = true)
    {x b : Addr} {k : ClassId} {zn z : Int32} {cs : List Int32} {dv v0 c0 : Value} (E : RoadKit.Exa Z h x ST) (V : RoadKit.Fld Z h x ST "value" "[B" v0) (C : RoadKit.Fld Z h x ST "coder" "B" c0) (K : RoadKit.Arv Z h b k .char zn (cs.map Value.int) dv) (S : RoadKit.Sta Z h ST "COMPACT_STRINGS" "Z" (.int z)) (hz : ¬ z = 0)
    (hlen : zn.toNatClampNeg = cs.length) (h0 : 0 < cs.length) (hbig : cs.length ≤ 536870912) (hall : ∀ c ∈ cs, ¬ 255 < c) (hfr : 4 ≤ R.frames) (hlo : W + 65 ≤ R.locals) :
    Back l R p e below s args New1.yN len W (fun P a => a = #[.ref x, .ref b] ∧ P.U.heap = h ∧ P.cells + 1 ≤ R.cells ∧ P.slots + cs.length ≤ R.slots)
      (fun P _ v B => ∃ L, QA Z x zn cs h v B.U.heap L ∧ B.locs = P.locs ++ L ∧ B.cells = P.cells + 1 ∧ B.slots = P.slots + cs.length) := by
  obtain ⟨A, K1, K2, K3, K4, K5, K6⟩ := K
  have e : A.slots.size = cs.length := K3.trans hlen
  have hat : ∀ (i : Nat) (hi : i < cs.length), A.slots[i]? = some (.int cs[i]) := fun i hi => by rw [K5 i (by omega)]; simp [List.getD_eq_getElem?_getD, hi]
  have hcv : ∀ (i : Nat) (hi : i < cs.length), cv A i = cs[i] := fun i hi => by unfold cv; rw [hat i hi]
  have hty : Typed .char A := fun i v hv => by
    have hi : i < A.slots.size := (Array.getElem?_eq_some_iff.mp hv).1
    have q := K5 i hi
    rw [hv] at q
    rw [Option.some.inj q]
    exact K6 i hi
  refine Back.mono (back hZ hw wi E V C K1 hty S hz (by omega) (by omega) (fun i hi => by rw [hcv i (by omega)]; exact hall _ (List.getElem_mem _)) hfr hlo) (fun P a hp => ⟨hp.1, hp.2.1, hp.2.2.1, by rw [e]; exact hp.2.2.2⟩) (fun P a v B hp hq => ?_)
  obtain ⟨L, ⟨q1, q2, q3, q4, q5, q6, q7, ⟨V', v1, v2, v3, v4, v5⟩, q9⟩, hl, hc, hs⟩ := hq
  refine ⟨L, ⟨q1, q2, q3, q4, q5, q6, q7, ⟨V'.cls, v3, V', v1, rfl, by rw [v4, e, hlen], K4, fun i hi => ?_, fun i hi => ?_⟩, q9⟩, hl, hc, by rw [hs, e]⟩
  · have hi' : i < cs.length := by omega
    rw [v5 i (by omega), hcv i hi']; simp [List.getD_eq_getElem?_getD, hi']
  · have hi' : i < cs.length := by omega
    simp only [List.getD_eq_getElem?_getD, List.getElem?_map, List.getElem?_eq_getElem hi', Option.map_some, Option.getD_some]
    exact fits_lo8 _
end StrChars.Road
namespace StrChars.Road
open Jvm Sem ClassFile Op Lib Jvm.Stand Jvm.Free Jvm.Free.XT
/-- WHAT COMES BACK, in the writer's own shape -/
def QV (Z : State) (x : Addr) (N : Int32) (bs : List Int32) (h : Heap) (n0 : Nat) (v : Option Value) (h' : Heap) (L : List Loc) : Prop := v = none ∧ RoadKit.Fr n0 L ∧ RoadKit.Keep h h' [x] ∧ RoadKit.Exa Z h' x ST ∧ RoadKit.Fld Z h' x ST "coder" "B" (.int 0) ∧
  ∃ (t : Addr) (kb : ClassId), n0 ≤ t ∧ h.size ≤ t ∧ ¬ t = x ∧ RoadKit.Fld Z h' x ST "value" "[B" (.ref t) ∧ RoadKit.Arv Z h' t kb .byte N (bs.map Value.int) (.int 0)
/-- **new String(chars) AT A CALL, FOR THE WRITER**: a char[] of n known ints, each 0 to 255 -/
theorem backV {p : Program} {l : Launch} {e : Env} {R : Room} {s : State} {args : Array Value} {below : List Frame} {len W : Nat} {Z : State} {a0 : Array Value} {h : Heap} (hZ : Z.Warmed39 s.vm) (hw : ∀ d ∈ words, d.before a0 Z = true) {kI : Nat} (wi : (Jvm.Cond.instantiable ST kI).before a0 Z = true)
    {x b : Addr} {kC : ClassId} {cs bs : List Int32} {d v0 c0 : Value} {z N : Int32} {n n0 : Nat} (hx0 : n0 ≤ x) (hh0 : n0 ≤ h.size) (E : RoadKit.Exa Z h x ST) (V : RoadKit.Fld Z h x ST "value" "[B" v0) (C : RoadKit.Fld Z h x ST "coder" "B" c0) (K : RoadKit.Arv Z h b kC .char N (cs.map Value.int) d) (S : RoadKit.Sta Z h ST "COMPACT_STRINGS" "Z" (.int z)) (hz : ¬ z = 0)
    (hn : cs.length = n) (hN : N = Int32.ofNat n) (l0 : 0 < n) (l2 : n ≤ 4000) (hp : ∀ c ∈ cs, ¬ c < 0 ∧ ¬ (255 : Int32) < c) (hb : bs = cs.map (fun c => c.toInt8.toInt32)) (hfr : 4 ≤ R.frames) (hlo : W + 65 ≤ R.locals) :
    Back l R p e below s args (⟨"java/lang/String", "<init>", "([C)V"⟩ : MethodName) len W (fun P a => a = #[.ref x, .ref b] ∧ P.U.heap = h ∧ P.cells + 1 ≤ R.cells ∧ P.slots + n ≤ R.slots)
      (fun P _ v B => ∃ L, QV Z x N bs h n0 v B.U.heap L ∧ B.locs = P.locs ++ L ∧ B.cells = P.cells + 1 ∧ B.slots = P.slots + n) := by
  subst hn hN hb
  refine Back.mono (backArv hZ hw wi E V C K S hz (n32 (by omega)) l0 (by omega) (fun c hc => (hp c hc).2) hfr hlo) (fun P a hp => hp) (fun P a v B hp hq => ?_)
  obtain ⟨L, ⟨q1, q2, q3, q4, q5, q6, q7, ⟨kb, v1, v2⟩, q9⟩, hl, hc, hs⟩ := hq
  exact ⟨L, ⟨q1, fun y hy => by rw [q2 y hy]; exact hx0, q3, q5, q7, h.size, kb, hh0, Nat.le_refl _, Nat.ne_of_gt E.lt, q6, by rw [List.map_map]; exact v2⟩, hl, hc, hs⟩
end StrChars.Road
end Jvm.Pilot.@@N@@

namespace Jvm.Pilot.@@N@@
open Jvm Jvm.ClassFile Sem Op Lib Jvm.Free Jvm.Stand Jvm.LawKit Jvm.RoadKit Bundle Jvm.Pilot.@@N@@.Jvm.D

theorem tb_0 : (Jvm.Cond.classLink "com/example/tidewheel/tidewheel/model/KeyedRequestAnsweredPinLaw" (7 : Nat) "java/lang/String") ∈ tables_1 := List.mem_of_getElem? (i := 0) rfl
theorem tb_1 : (Jvm.Cond.instantiable "java/lang/String" (4 : Nat)) ∈ tables_1 := List.mem_of_getElem? (i := 1) rfl
theorem tb_2 : (Jvm.Cond.initialized "java/lang/String") ∈ tables_1 := List.mem_of_getElem? (i := 2) rfl
theorem tb_4 : (Jvm.Cond.methodLink "com/example/tidewheel/tidewheel/model/KeyedRequestAnsweredPinLaw" (9 : Nat) ({ cls := "java/lang/String", name := "<init>", desc := "([C)V" } : Jvm.MethodName)) ∈ tables_1 := List.mem_of_getElem? (i := 4) rfl
theorem mt_4 {Z s : State} {aA args : Array Value} (hZ : Z.Warmed39 s.vm) (hw : ∀ d ∈ tables_1, d.before aA Z = true) : (Jvm.Cond.methodLink "com/example/tidewheel/tidewheel/model/KeyedRequestAnsweredPinLaw" (9 : Nat) ({ cls := "java/lang/String", name := "<init>", desc := "([C)V" } : Jvm.MethodName)).before args s = true := mvT hZ (hw _ tb_4)
theorem tb_5 : (Jvm.Cond.instanceMethod ({ cls := "java/lang/String", name := "<init>", desc := "([C)V" } : Jvm.MethodName)) ∈ tables_1 := List.mem_of_getElem? (i := 5) rfl
theorem mt_5 {Z s : State} {aA args : Array Value} (hZ : Z.Warmed39 s.vm) (hw : ∀ d ∈ tables_1, d.before aA Z = true) : (Jvm.Cond.instanceMethod ({ cls := "java/lang/String", name := "<init>", desc := "([C)V" } : Jvm.MethodName)).before args s = true := mvT hZ (hw _ tb_5)
theorem tb_6 : (Jvm.Cond.code ({ cls := "java/lang/String", name := "<init>", desc := "([C)V" } : Jvm.MethodName) jdk_42_method_3_code (2 : Nat) (Option.none : Option Jvm.ClassFile.FieldType)) ∈ tables_1 := List.mem_of_getElem? (i := 6) rfl
theorem mt_6 {Z s : State} {aA args : Array Value} (hZ : Z.Warmed39 s.vm) (hw : ∀ d ∈ tables_1, d.before aA Z = true) : (Jvm.Cond.code ({ cls := "java/lang/String", name := "<init>", desc := "([C)V" } : Jvm.MethodName) jdk_42_method_3_code (2 : Nat) (Option.none : Option Jvm.ClassFile.FieldType)).before args s = true := mvT hZ (hw _ tb_6)
theorem tb_12 : (Jvm.Cond.instanceMethod ({ cls := "java/lang/Object", name := "<init>", desc := "()V" } : Jvm.MethodName)) ∈ tables_1 := List.mem_of_getElem? (i := 12) rfl
theorem tb_13 : (Jvm.Cond.code ({ cls := "java/lang/Object", name := "<init>", desc := "()V" } : Jvm.MethodName) object_method_1_code (1 : Nat) (Option.none : Option Jvm.ClassFile.FieldType)) ∈ tables_1 := List.mem_of_getElem? (i := 13) rfl
theorem tb_27 : (Jvm.Cond.laysFinal "java/lang/String" "java/lang/String" "coder" "B") ∈ tables_1 := List.mem_of_getElem? (i := 27) rfl
theorem tb_29 : (Jvm.Cond.laysFinal "java/lang/String" "java/lang/String" "value" "[B") ∈ tables_1 := List.mem_of_getElem? (i := 29) rfl
theorem tb_30 : (Jvm.Cond.classLink "com/example/tidewheel/tidewheel/model/KeyedRequestAnsweredPinLaw" (12 : Nat) "com/example/tidewheel/tidewheel/model/KeyedRequest$Answer") ∈ tables_1 := List.mem_of_getElem? (i := 30) rfl
theorem tb_31 : (Jvm.Cond.instantiable "com/example/tidewheel/tidewheel/model/KeyedRequest$Answer" (3 : Nat)) ∈ tables_1 := List.mem_of_getElem? (i := 31) rfl
theorem tb_32 : (Jvm.Cond.initialized "com/example/tidewheel/tidewheel/model/KeyedRequest$Answer") ∈ tables_1 := List.mem_of_getElem? (i := 32) rfl
theorem tb_33 : (Jvm.Cond.methodLink "com/example/tidewheel/tidewheel/model/KeyedRequestAnsweredPinLaw" (14 : Nat) ({ cls := "com/example/tidewheel/tidewheel/model/KeyedRequest$Answer", name := "<init>", desc := "(ILjava/lang/String;)V" } : Jvm.MethodName)) ∈ tables_1 := List.mem_of_getElem? (i := 33) rfl
theorem mt_33 {Z s : State} {aA args : Array Value} (hZ : Z.Warmed39 s.vm) (hw : ∀ d ∈ tables_1, d.before aA Z = true) : (Jvm.Cond.methodLink "com/example/tidewheel/tidewheel/model/KeyedRequestAnsweredPinLaw" (14 : Nat) ({ cls := "com/example/tidewheel/tidewheel/model/KeyedRequest$Answer", name := "<init>", desc := "(ILjava/lang/String;)V" } : Jvm.MethodName)).before args s = true := mvT hZ (hw _ tb_33)
theorem tb_34 : (Jvm.Cond.instanceMethod ({ cls := "com/example/tidewheel/tidewheel/model/KeyedRequest$Answer", name := "<init>", desc := "(ILjava/lang/String;)V" } : Jvm.MethodName)) ∈ tables_1 := List.mem_of_getElem? (i := 34) rfl
theorem mt_34 {Z s : State} {aA args : Array Value} (hZ : Z.Warmed39 s.vm) (hw : ∀ d ∈ tables_1, d.before aA Z = true) : (Jvm.Cond.instanceMethod ({ cls := "com/example/tidewheel/tidewheel/model/KeyedRequest$Answer", name := "<init>", desc := "(ILjava/lang/String;)V" } : Jvm.MethodName)).before args s = true := mvT hZ (hw _ tb_34)
theorem tb_35 : (Jvm.Cond.code ({ cls := "com/example/tidewheel/tidewheel/model/KeyedRequest$Answer", name := "<init>", desc := "(ILjava/lang/String;)V" } : Jvm.MethodName) prog_31_method_1_code (3 : Nat) (Option.none : Option Jvm.ClassFile.FieldType)) ∈ tables_1 := List.mem_of_getElem? (i := 35) rfl
theorem mt_35 {Z s : State} {aA args : Array Value} (hZ : Z.Warmed39 s.vm) (hw : ∀ d ∈ tables_1, d.before aA Z = true) : (Jvm.Cond.code ({ cls := "com/example/tidewheel/tidewheel/model/KeyedRequest$Answer", name := "<init>", desc := "(ILjava/lang/String;)V" } : Jvm.MethodName) prog_31_method_1_code (3 : Nat) (Option.none : Option Jvm.ClassFile.FieldType)).before args s = true := mvT hZ (hw _ tb_35)
theorem tb_36 : (Jvm.Cond.methodLink "com/example/tidewheel/tidewheel/model/KeyedRequest$Answer" (1 : Nat) ({ cls := "com/example/tidewheel/tidewheel/model/KeyedRequest$Answer", name := "<init>", desc := "(ILjava/lang/String;Lcom/example/tidewheel/tidewheel/model/RefusedException$Reason;)V" } : Jvm.MethodName)) ∈ tables_1 := List.mem_of_getElem? (i := 36) rfl
theorem mt_36 {Z s : State} {aA args : Array Value} (hZ : Z.Warmed39 s.vm) (hw : ∀ d ∈ tables_1, d.before aA Z = true) : (Jvm.Cond.methodLink "com/example/tidewheel/tidewheel/model/KeyedRequest$Answer" (1 : Nat) ({ cls := "com/example/tidewheel/tidewheel/model/KeyedRequest$Answer", name := "<init>", desc := "(ILjava/lang/String;Lcom/example/tidewheel/tidewheel/model/RefusedException$Reason;)V" } : Jvm.MethodName)).before args s = true := mvT hZ (hw _ tb_36)
theorem tb_37 : (Jvm.Cond.instanceMethod ({ cls := "com/example/tidewheel/tidewheel/model/KeyedRequest$Answer", name := "<init>", desc := "(ILjava/lang/String;Lcom/example/tidewheel/tidewheel/model/RefusedException$Reason;)V" } : Jvm.MethodName)) ∈ tables_1 := List.mem_of_getElem? (i := 37) rfl
theorem mt_37 {Z s : State} {aA args : Array Value} (hZ : Z.Warmed39 s.vm) (hw : ∀ d ∈ tables_1, d.before aA Z = true) : (Jvm.Cond.instanceMethod ({ cls := "com/example/tidewheel/tidewheel/model/KeyedRequest$Answer", name := "<init>", desc := "(ILjava/lang/String;Lcom/example/tidewheel/tidewheel/model/RefusedException$Reason;)V" } : Jvm.MethodName)).before args s = true := mvT hZ (hw _ tb_37)
theorem tb_38 : (Jvm.Cond.code ({ cls := "com/example/tidewheel/tidewheel/model/KeyedRequest$Answer", name := "<init>", desc := "(ILjava/lang/String;Lcom/example/tidewheel/tidewheel/model/RefusedException$Reason;)V" } : Jvm.MethodName) prog_31_method_2_code (4 : Nat) (Option.none : Option Jvm.ClassFile.FieldType)) ∈ tables_1 := List.mem_of_getElem? (i := 38) rfl
theorem mt_38 {Z s : State} {aA args : Array Value} (hZ : Z.Warmed39 s.vm) (hw : ∀ d ∈ tables_1, d.before aA Z = true) : (Jvm.Cond.code ({ cls := "com/example/tidewheel/tidewheel/model/KeyedRequest$Answer", name := "<init>", desc := "(ILjava/lang/String;Lcom/example/tidewheel/tidewheel/model/RefusedException$Reason;)V" } : Jvm.MethodName) prog_31_method_2_code (4 : Nat) (Option.none : Option Jvm.ClassFile.FieldType)).before args s = true := mvT hZ (hw _ tb_38)
theorem tb_39 : (Jvm.Cond.methodLink "com/example/tidewheel/tidewheel/model/KeyedRequest$Answer" (7 : Nat) ({ cls := "java/lang/Object", name := "<init>", desc := "()V" } : Jvm.MethodName)) ∈ tables_1 := List.mem_of_getElem? (i := 39) rfl
theorem tb_40 : (Jvm.Cond.fieldLink "com/example/tidewheel/tidewheel/model/KeyedRequest$Answer" (12 : Nat) "com/example/tidewheel/tidewheel/model/KeyedRequest$Answer" "status" "I") ∈ tables_1 := List.mem_of_getElem? (i := 40) rfl
theorem tb_41 : (Jvm.Cond.laysFinal "com/example/tidewheel/tidewheel/model/KeyedRequest$Answer" "com/example/tidewheel/tidewheel/model/KeyedRequest$Answer" "status" "I") ∈ tables_1 := List.mem_of_getElem? (i := 41) rfl
theorem tb_42 : (Jvm.Cond.fieldLink "com/example/tidewheel/tidewheel/model/KeyedRequest$Answer" (16 : Nat) "com/example/tidewheel/tidewheel/model/KeyedRequest$Answer" "body" "Ljava/lang/String;") ∈ tables_1 := List.mem_of_getElem? (i := 42) rfl
theorem tb_43 : (Jvm.Cond.laysFinal "com/example/tidewheel/tidewheel/model/KeyedRequest$Answer" "com/example/tidewheel/tidewheel/model/KeyedRequest$Answer" "body" "Ljava/lang/String;") ∈ tables_1 := List.mem_of_getElem? (i := 43) rfl
theorem tb_44 : (Jvm.Cond.fieldLink "com/example/tidewheel/tidewheel/model/KeyedRequest$Answer" (20 : Nat) "com/example/tidewheel/tidewheel/model/KeyedRequest$Answer" "refusal" "Lcom/example/tidewheel/tidewheel/model/RefusedException$Reason;") ∈ tables_1 := List.mem_of_getElem? (i := 44) rfl
theorem tb_45 : (Jvm.Cond.laysFinal "com/example/tidewheel/tidewheel/model/KeyedRequest$Answer" "com/example/tidewheel/tidewheel/model/KeyedRequest$Answer" "refusal" "Lcom/example/tidewheel/tidewheel/model/RefusedException$Reason;") ∈ tables_1 := List.mem_of_getElem? (i := 45) rfl
theorem tb_46 : (Jvm.Cond.classLink "com/example/tidewheel/tidewheel/model/KeyedRequestAnsweredPinLaw" (17 : Nat) "com/example/tidewheel/tidewheel/model/KeyedRequest") ∈ tables_1 := List.mem_of_getElem? (i := 46) rfl
theorem tb_47 : (Jvm.Cond.instantiable "com/example/tidewheel/tidewheel/model/KeyedRequest" (4 : Nat)) ∈ tables_1 := List.mem_of_getElem? (i := 47) rfl
theorem tb_48 : (Jvm.Cond.initialized "com/example/tidewheel/tidewheel/model/KeyedRequest") ∈ tables_1 := List.mem_of_getElem? (i := 48) rfl
theorem tb_49 : (Jvm.Cond.methodLink "com/example/tidewheel/tidewheel/model/KeyedRequestAnsweredPinLaw" (19 : Nat) ({ cls := "com/example/tidewheel/tidewheel/model/KeyedRequest", name := "<init>", desc := "(Ljava/lang/String;Ljava/lang/String;Ljava/lang/String;Lcom/example/tidewheel/tidewheel/model/KeyedRequest$Answer;)V" } : Jvm.MethodName)) ∈ tables_1 := List.mem_of_getElem? (i := 49) rfl
theorem mt_49 {Z s : State} {aA args : Array Value} (hZ : Z.Warmed39 s.vm) (hw : ∀ d ∈ tables_1, d.before aA Z = true) : (Jvm.Cond.methodLink "com/example/tidewheel/tidewheel/model/KeyedRequestAnsweredPinLaw" (19 : Nat) ({ cls := "com/example/tidewheel/tidewheel/model/KeyedRequest", name := "<init>", desc := "(Ljava/lang/String;Ljava/lang/String;Ljava/lang/String;Lcom/example/tidewheel/tidewheel/model/KeyedRequest$Answer;)V" } : Jvm.MethodName)).before args s = true := mvT hZ (hw _ tb_49)
theorem tb_50 : (Jvm.Cond.instanceMethod ({ cls := "com/example/tidewheel/tidewheel/model/KeyedRequest", name := "<init>", desc := "(Ljava/lang/String;Ljava/lang/String;Ljava/lang/String;Lcom/example/tidewheel/tidewheel/model/KeyedRequest$Answer;)V" } : Jvm.MethodName)) ∈ tables_1 := List.mem_of_getElem? (i := 50) rfl
theorem mt_50 {Z s : State} {aA args : Array Value} (hZ : Z.Warmed39 s.vm) (hw : ∀ d ∈ tables_1, d.before aA Z = true) : (Jvm.Cond.instanceMethod ({ cls := "com/example/tidewheel/tidewheel/model/KeyedRequest", name := "<init>", desc := "(Ljava/lang/String;Ljava/lang/String;Ljava/lang/String;Lcom/example/tidewheel/tidewheel/model/KeyedRequest$Answer;)V" } : Jvm.MethodName)).before args s = true := mvT hZ (hw _ tb_50)
theorem tb_51 : (Jvm.Cond.code ({ cls := "com/example/tidewheel/tidewheel/model/KeyedRequest", name := "<init>", desc := "(Ljava/lang/String;Ljava/lang/String;Ljava/lang/String;Lcom/example/tidewheel/tidewheel/model/KeyedRequest$Answer;)V" } : Jvm.MethodName) prog_30_method_1_code (5 : Nat) (Option.none : Option Jvm.ClassFile.FieldType)) ∈ tables_1 := List.mem_of_getElem? (i := 51) rfl
theorem mt_51 {Z s : State} {aA args : Array Value} (hZ : Z.Warmed39 s.vm) (hw : ∀ d ∈ tables_1, d.before aA Z = true) : (Jvm.Cond.code ({ cls := "com/example/tidewheel/tidewheel/model/KeyedRequest", name := "<init>", desc := "(Ljava/lang/String;Ljava/lang/String;Ljava/lang/String;Lcom/example/tidewheel/tidewheel/model/KeyedRequest$Answer;)V" } : Jvm.MethodName) prog_30_method_1_code (5 : Nat) (Option.none : Option Jvm.ClassFile.FieldType)).before args s = true := mvT hZ (hw _ tb_51)
theorem tb_52 : (Jvm.Cond.methodLink "com/example/tidewheel/tidewheel/model/KeyedRequest" (1 : Nat) ({ cls := "java/lang/Object", name := "<init>", desc := "()V" } : Jvm.MethodName)) ∈ tables_1 := List.mem_of_getElem? (i := 52) rfl
theorem tb_53 : (Jvm.Cond.fieldLink "com/example/tidewheel/tidewheel/model/KeyedRequest" (7 : Nat) "com/example/tidewheel/tidewheel/model/KeyedRequest" "key" "Ljava/lang/String;") ∈ tables_1 := List.mem_of_getElem? (i := 53) rfl
theorem tb_54 : (Jvm.Cond.laysFinal "com/example/tidewheel/tidewheel/model/KeyedRequest" "com/example/tidewheel/tidewheel/model/KeyedRequest" "key" "Ljava/lang/String;") ∈ tables_1 := List.mem_of_getElem? (i := 54) rfl
theorem tb_55 : (Jvm.Cond.fieldLink "com/example/tidewheel/tidewheel/model/KeyedRequest" (13 : Nat) "com/example/tidewheel/tidewheel/model/KeyedRequest" "request" "Ljava/lang/String;") ∈ tables_1 := List.mem_of_getElem? (i := 55) rfl
theorem tb_56 : (Jvm.Cond.laysFinal "com/example/tidewheel/tidewheel/model/KeyedRequest" "com/example/tidewheel/tidewheel/model/KeyedRequest" "request" "Ljava/lang/String;") ∈ tables_1 := List.mem_of_getElem? (i := 56) rfl
theorem tb_57 : (Jvm.Cond.fieldLink "com/example/tidewheel/tidewheel/model/KeyedRequest" (16 : Nat) "com/example/tidewheel/tidewheel/model/KeyedRequest" "resource" "Ljava/lang/String;") ∈ tables_1 := List.mem_of_getElem? (i := 57) rfl
theorem tb_58 : (Jvm.Cond.laysFinal "com/example/tidewheel/tidewheel/model/KeyedRequest" "com/example/tidewheel/tidewheel/model/KeyedRequest" "resource" "Ljava/lang/String;") ∈ tables_1 := List.mem_of_getElem? (i := 58) rfl
theorem tb_59 : (Jvm.Cond.fieldLink "com/example/tidewheel/tidewheel/model/KeyedRequest" (19 : Nat) "com/example/tidewheel/tidewheel/model/KeyedRequest" "answer" "Lcom/example/tidewheel/tidewheel/model/KeyedRequest$Answer;") ∈ tables_1 := List.mem_of_getElem? (i := 59) rfl
theorem tb_60 : (Jvm.Cond.laysFinal "com/example/tidewheel/tidewheel/model/KeyedRequest" "com/example/tidewheel/tidewheel/model/KeyedRequest" "answer" "Lcom/example/tidewheel/tidewheel/model/KeyedRequest$Answer;") ∈ tables_1 := List.mem_of_getElem? (i := 60) rfl
theorem tb_61 : (Jvm.Cond.methodLink "com/example/tidewheel/tidewheel/model/KeyedRequestAnsweredPinLaw" (22 : Nat) ({ cls := "com/example/tidewheel/tidewheel/model/KeyedRequest", name := "answered", desc := "(Lcom/example/tidewheel/tidewheel/model/KeyedRequest$Answer;)Lcom/example/tidewheel/tidewheel/model/KeyedRequest;" } : Jvm.MethodName)) ∈ tables_1 := List.mem_of_getElem? (i := 61) rfl
theorem mt_61 {Z s : State} {aA args : Array Value} (hZ : Z.Warmed39 s.vm) (hw : ∀ d ∈ tables_1, d.before aA Z = true) : (Jvm.Cond.methodLink "com/example/tidewheel/tidewheel/model/KeyedRequestAnsweredPinLaw" (22 : Nat) ({ cls := "com/example/tidewheel/tidewheel/model/KeyedRequest", name := "answered", desc := "(Lcom/example/tidewheel/tidewheel/model/KeyedRequest$Answer;)Lcom/example/tidewheel/tidewheel/model/KeyedRequest;" } : Jvm.MethodName)).before args s = true := mvT hZ (hw _ tb_61)
theorem tb_62 : (Jvm.Cond.declares ({ cls := "com/example/tidewheel/tidewheel/model/KeyedRequest", name := "answered", desc := "(Lcom/example/tidewheel/tidewheel/model/KeyedRequest$Answer;)Lcom/example/tidewheel/tidewheel/model/KeyedRequest;" } : Jvm.MethodName)) ∈ tables_1 := List.mem_of_getElem? (i := 62) rfl
theorem mt_62 {Z s : State} {aA args : Array Value} (hZ : Z.Warmed39 s.vm) (hw : ∀ d ∈ tables_1, d.before aA Z = true) : (Jvm.Cond.declares ({ cls := "com/example/tidewheel/tidewheel/model/KeyedRequest", name := "answered", desc := "(Lcom/example/tidewheel/tidewheel/model/KeyedRequest$Answer;)Lcom/example/tidewheel/tidewheel/model/KeyedRequest;" } : Jvm.MethodName)).before args s = true := mvT hZ (hw _ tb_62)
theorem tb_63 : (Jvm.Cond.instanceMethod ({ cls := "com/example/tidewheel/tidewheel/model/KeyedRequest", name := "answered", desc := "(Lcom/example/tidewheel/tidewheel/model/KeyedRequest$Answer;)Lcom/example/tidewheel/tidewheel/model/KeyedRequest;" } : Jvm.MethodName)) ∈ tables_1 := List.mem_of_getElem? (i := 63) rfl
theorem mt_63 {Z s : State} {aA args : Array Value} (hZ : Z.Warmed39 s.vm) (hw : ∀ d ∈ tables_1, d.before aA Z = true) : (Jvm.Cond.instanceMethod ({ cls := "com/example/tidewheel/tidewheel/model/KeyedRequest", name := "answered", desc := "(Lcom/example/tidewheel/tidewheel/model/KeyedRequest$Answer;)Lcom/example/tidewheel/tidewheel/model/KeyedRequest;" } : Jvm.MethodName)).before args s = true := mvT hZ (hw _ tb_63)
theorem tb_64 : (Jvm.Cond.selects "com/example/tidewheel/tidewheel/model/KeyedRequest" ({ cls := "com/example/tidewheel/tidewheel/model/KeyedRequest", name := "answered", desc := "(Lcom/example/tidewheel/tidewheel/model/KeyedRequest$Answer;)Lcom/example/tidewheel/tidewheel/model/KeyedRequest;" } : Jvm.MethodName) ({ cls := "com/example/tidewheel/tidewheel/model/KeyedRequest", name := "answered", desc := "(Lcom/example/tidewheel/tidewheel/model/KeyedRequest$Answer;)Lcom/example/tidewheel/tidewheel/model/KeyedRequest;" } : Jvm.MethodName)) ∈ tables_1 := List.mem_of_getElem? (i := 64) rfl
theorem mt_64 {Z s : State} {aA args : Array Value} (hZ : Z.Warmed39 s.vm) (hw : ∀ d ∈ tables_1, d.before aA Z = true) : (Jvm.Cond.selects "com/example/tidewheel/tidewheel/model/KeyedRequest" ({ cls := "com/example/tidewheel/tidewheel/model/KeyedRequest", name := "answered", desc := "(Lcom/example/tidewheel/tidewheel/model/KeyedRequest$Answer;)Lcom/example/tidewheel/tidewheel/model/KeyedRequest;" } : Jvm.MethodName) ({ cls := "com/example/tidewheel/tidewheel/model/KeyedRequest", name := "answered", desc := "(Lcom/example/tidewheel/tidewheel/model/KeyedRequest$Answer;)Lcom/example/tidewheel/tidewheel/model/KeyedRequest;" } : Jvm.MethodName)).before args s = true := mvT hZ (hw _ tb_64)
theorem tb_65 : (Jvm.Cond.code ({ cls := "com/example/tidewheel/tidewheel/model/KeyedRequest", name := "answered", desc := "(Lcom/example/tidewheel/tidewheel/model/KeyedRequest$Answer;)Lcom/example/tidewheel/tidewheel/model/KeyedRequest;" } : Jvm.MethodName) prog_30_method_4_code (2 : Nat) (Option.some (Jvm.ClassFile.FieldType.object "com/example/tidewheel/tidewheel/model/KeyedRequest"))) ∈ tables_1 := List.mem_of_getElem? (i := 65) rfl
theorem tb_66 : (Jvm.Cond.classLink "com/example/tidewheel/tidewheel/model/KeyedRequest" (8 : Nat) "com/example/tidewheel/tidewheel/model/KeyedRequest") ∈ tables_1 := List.mem_of_getElem? (i := 66) rfl
theorem tb_67 : (Jvm.Cond.methodLink "com/example/tidewheel/tidewheel/model/KeyedRequest" (23 : Nat) ({ cls := "com/example/tidewheel/tidewheel/model/KeyedRequest", name := "<init>", desc := "(Ljava/lang/String;Ljava/lang/String;Ljava/lang/String;Lcom/example/tidewheel/tidewheel/model/KeyedRequest$Answer;)V" } : Jvm.MethodName)) ∈ tables_1 := List.mem_of_getElem? (i := 67) rfl
theorem mt_67 {Z s : State} {aA args : Array Value} (hZ : Z.Warmed39 s.vm) (hw : ∀ d ∈ tables_1, d.before aA Z = true) : (Jvm.Cond.methodLink "com/example/tidewheel/tidewheel/model/KeyedRequest" (23 : Nat) ({ cls := "com/example/tidewheel/tidewheel/model/KeyedRequest", name := "<init>", desc := "(Ljava/lang/String;Ljava/lang/String;Ljava/lang/String;Lcom/example/tidewheel/tidewheel/model/KeyedRequest$Answer;)V" } : Jvm.MethodName)).before args s = true := mvT hZ (hw _ tb_67)
theorem tb_68 : (Jvm.Cond.methodLink "com/example/tidewheel/tidewheel/model/KeyedRequestAnsweredPinLaw" (26 : Nat) ({ cls := "com/example/tidewheel/tidewheel/model/KeyedRequest", name := "resource", desc := "()Ljava/util/Optional;" } : Jvm.MethodName)) ∈ tables_1 := List.mem_of_getElem? (i := 68) rfl
theorem mt_68 {Z s : State} {aA args : Array Value} (hZ : Z.Warmed39 s.vm) (hw : ∀ d ∈ tables_1, d.before aA Z = true) : (Jvm.Cond.methodLink "com/example/tidewheel/tidewheel/model/KeyedRequestAnsweredPinLaw" (26 : Nat) ({ cls := "com/example/tidewheel/tidewheel/model/KeyedRequest", name := "resource", desc := "()Ljava/util/Optional;" } : Jvm.MethodName)).before args s = true := mvT hZ (hw _ tb_68)
theorem tb_69 : (Jvm.Cond.declares ({ cls := "com/example/tidewheel/tidewheel/model/KeyedRequest", name := "resource", desc := "()Ljava/util/Optional;" } : Jvm.MethodName)) ∈ tables_1 := List.mem_of_getElem? (i := 69) rfl
theorem mt_69 {Z s : State} {aA args : Array Value} (hZ : Z.Warmed39 s.vm) (hw : ∀ d ∈ tables_1, d.before aA Z = true) : (Jvm.Cond.declares ({ cls := "com/example/tidewheel/tidewheel/model/KeyedRequest", name := "resource", desc := "()Ljava/util/Optional;" } : Jvm.MethodName)).before args s = true := mvT hZ (hw _ tb_69)
theorem tb_70 : (Jvm.Cond.instanceMethod ({ cls := "com/example/tidewheel/tidewheel/model/KeyedRequest", name := "resource", desc := "()Ljava/util/Optional;" } : Jvm.MethodName)) ∈ tables_1 := List.mem_of_getElem? (i := 70) rfl
theorem mt_70 {Z s : State} {aA args : Array Value} (hZ : Z.Warmed39 s.vm) (hw : ∀ d ∈ tables_1, d.before aA Z = true) : (Jvm.Cond.instanceMethod ({ cls := "com/example/tidewheel/tidewheel/model/KeyedRequest", name := "resource", desc := "()Ljava/util/Optional;" } : Jvm.MethodName)).before args s = true := mvT hZ (hw _ tb_70)
theorem tb_71 : (Jvm.Cond.selects "com/example/tidewheel/tidewheel/model/KeyedRequest" ({ cls := "com/example/tidewheel/tidewheel/model/KeyedRequest", name := "resource", desc := "()Ljava/util/Optional;" } : Jvm.MethodName) ({ cls := "com/example/tidewheel/tidewheel/model/KeyedRequest", name := "resource", desc := "()Ljava/util/Optional;" } : Jvm.MethodName)) ∈ tables_1 := List.mem_of_getElem? (i := 71) rfl
theorem mt_71 {Z s : State} {aA args : Array Value} (hZ : Z.Warmed39 s.vm) (hw : ∀ d ∈ tables_1, d.before aA Z = true) : (Jvm.Cond.selects "com/example/tidewheel/tidewheel/model/KeyedRequest" ({ cls := "com/example/tidewheel/tidewheel/model/KeyedRequest", name := "resource", desc := "()Ljava/util/Optional;" } : Jvm.MethodName) ({ cls := "com/example/tidewheel/tidewheel/model/KeyedRequest", name := "resource", desc := "()Ljava/util/Optional;" } : Jvm.MethodName)).before args s = true := mvT hZ (hw _ tb_71)
theorem tb_72 : (Jvm.Cond.code ({ cls := "com/example/tidewheel/tidewheel/model/KeyedRequest", name := "resource", desc := "()Ljava/util/Optional;" } : Jvm.MethodName) prog_30_method_7_code (1 : Nat) (Option.some (Jvm.ClassFile.FieldType.object "java/util/Optional"))) ∈ tables_1 := List.mem_of_getElem? (i := 72) rfl
theorem tb_73 : (Jvm.Cond.methodLink "com/example/tidewheel/tidewheel/model/KeyedRequest" (26 : Nat) ({ cls := "java/util/Optional", name := "ofNullable", desc := "(Ljava/lang/Object;)Ljava/util/Optional;" } : Jvm.MethodName)) ∈ tables_1 := List.mem_of_getElem? (i := 73) rfl
theorem mt_73 {Z s : State} {aA args : Array Value} (hZ : Z.Warmed39 s.vm) (hw : ∀ d ∈ tables_1, d.before aA Z = true) : (Jvm.Cond.methodLink "com/example/tidewheel/tidewheel/model/KeyedRequest" (26 : Nat) ({ cls := "java/util/Optional", name := "ofNullable", desc := "(Ljava/lang/Object;)Ljava/util/Optional;" } : Jvm.MethodName)).before args s = true := mvT hZ (hw _ tb_73)
theorem tb_74 : (Jvm.Cond.static ({ cls := "java/util/Optional", name := "ofNullable", desc := "(Ljava/lang/Object;)Ljava/util/Optional;" } : Jvm.MethodName)) ∈ tables_1 := List.mem_of_getElem? (i := 74) rfl
theorem mt_74 {Z s : State} {aA args : Array Value} (hZ : Z.Warmed39 s.vm) (hw : ∀ d ∈ tables_1, d.before aA Z = true) : (Jvm.Cond.static ({ cls := "java/util/Optional", name := "ofNullable", desc := "(Ljava/lang/Object;)Ljava/util/Optional;" } : Jvm.MethodName)).before args s = true := mvT hZ (hw _ tb_74)
theorem tb_75 : (Jvm.Cond.initialized "java/util/Optional") ∈ tables_1 := List.mem_of_getElem? (i := 75) rfl
theorem mt_75 {Z s : State} {aA args : Array Value} (hZ : Z.Warmed39 s.vm) (hw : ∀ d ∈ tables_1, d.before aA Z = true) : (Jvm.Cond.initialized "java/util/Optional").before args s = true := mvT hZ (hw _ tb_75)
theorem tb_76 : (Jvm.Cond.code ({ cls := "java/util/Optional", name := "ofNullable", desc := "(Ljava/lang/Object;)Ljava/util/Optional;" } : Jvm.MethodName) jdk_32_method_4_code (1 : Nat) (Option.some (Jvm.ClassFile.FieldType.object "java/util/Optional"))) ∈ tables_1 := List.mem_of_getElem? (i := 76) rfl
theorem mt_76 {Z s : State} {aA args : Array Value} (hZ : Z.Warmed39 s.vm) (hw : ∀ d ∈ tables_1, d.before aA Z = true) : (Jvm.Cond.code ({ cls := "java/util/Optional", name := "ofNullable", desc := "(Ljava/lang/Object;)Ljava/util/Optional;" } : Jvm.MethodName) jdk_32_method_4_code (1 : Nat) (Option.some (Jvm.ClassFile.FieldType.object "java/util/Optional"))).before args s = true := mvT hZ (hw _ tb_76)
theorem tb_77 : (Jvm.Cond.fieldLink "java/util/Optional" (1 : Nat) "java/util/Optional" "EMPTY" "Ljava/util/Optional;") ∈ tables_1 := List.mem_of_getElem? (i := 77) rfl
theorem tb_78 : (Jvm.Cond.methodLink "com/example/tidewheel/tidewheel/model/KeyedRequestAnsweredPinLaw" (30 : Nat) ({ cls := "java/util/Optional", name := "orElse", desc := "(Ljava/lang/Object;)Ljava/lang/Object;" } : Jvm.MethodName)) ∈ tables_1 := List.mem_of_getElem? (i := 78) rfl
theorem mt_78 {Z s : State} {aA args : Array Value} (hZ : Z.Warmed39 s.vm) (hw : ∀ d ∈ tables_1, d.before aA Z = true) : (Jvm.Cond.methodLink "com/example/tidewheel/tidewheel/model/KeyedRequestAnsweredPinLaw" (30 : Nat) ({ cls := "java/util/Optional", name := "orElse", desc := "(Ljava/lang/Object;)Ljava/lang/Object;" } : Jvm.MethodName)).before args s = true := mvT hZ (hw _ tb_78)
theorem tb_79 : (Jvm.Cond.declares ({ cls := "java/util/Optional", name := "orElse", desc := "(Ljava/lang/Object;)Ljava/lang/Object;" } : Jvm.MethodName)) ∈ tables_1 := List.mem_of_getElem? (i := 79) rfl
theorem mt_79 {Z s : State} {aA args : Array Value} (hZ : Z.Warmed39 s.vm) (hw : ∀ d ∈ tables_1, d.before aA Z = true) : (Jvm.Cond.declares ({ cls := "java/util/Optional", name := "orElse", desc := "(Ljava/lang/Object;)Ljava/lang/Object;" } : Jvm.MethodName)).before args s = true := mvT hZ (hw _ tb_79)
theorem tb_80 : (Jvm.Cond.instanceMethod ({ cls := "java/util/Optional", name := "orElse", desc := "(Ljava/lang/Object;)Ljava/lang/Object;" } : Jvm.MethodName)) ∈ tables_1 := List.mem_of_getElem? (i := 80) rfl
theorem mt_80 {Z s : State} {aA args : Array Value} (hZ : Z.Warmed39 s.vm) (hw : ∀ d ∈ tables_1, d.before aA Z = true) : (Jvm.Cond.instanceMethod ({ cls := "java/util/Optional", name := "orElse", desc := "(Ljava/lang/Object;)Ljava/lang/Object;" } : Jvm.MethodName)).before args s = true := mvT hZ (hw _ tb_80)
theorem tb_81 : (Jvm.Cond.selects "java/util/Optional" ({ cls := "java/util/Optional", name := "orElse", desc := "(Ljava/lang/Object;)Ljava/lang/Object;" } : Jvm.MethodName) ({ cls := "java/util/Optional", name := "orElse", desc := "(Ljava/lang/Object;)Ljava/lang/Object;" } : Jvm.MethodName)) ∈ tables_1 := List.mem_of_getElem? (i := 81) rfl
theorem mt_81 {Z s : State} {aA args : Array Value} (hZ : Z.Warmed39 s.vm) (hw : ∀ d ∈ tables_1, d.before aA Z = true) : (Jvm.Cond.selects "java/util/Optional" ({ cls := "java/util/Optional", name := "orElse", desc := "(Ljava/lang/Object;)Ljava/lang/Object;" } : Jvm.MethodName) ({ cls := "java/util/Optional", name := "orElse", desc := "(Ljava/lang/Object;)Ljava/lang/Object;" } : Jvm.MethodName)).before args s = true := mvT hZ (hw _ tb_81)
theorem tb_82 : (Jvm.Cond.code ({ cls := "java/util/Optional", name := "orElse", desc := "(Ljava/lang/Object;)Ljava/lang/Object;" } : Jvm.MethodName) jdk_32_method_15_code (2 : Nat) (Option.some (Jvm.ClassFile.FieldType.object "java/lang/Object"))) ∈ tables_1 := List.mem_of_getElem? (i := 82) rfl
theorem tb_83 : (Jvm.Cond.fieldLink "java/util/Optional" (13 : Nat) "java/util/Optional" "value" "Ljava/lang/Object;") ∈ tables_1 := List.mem_of_getElem? (i := 83) rfl
theorem tb_84 : (Jvm.Cond.laysFinal "java/util/Optional" "java/util/Optional" "value" "Ljava/lang/Object;") ∈ tables_1 := List.mem_of_getElem? (i := 84) rfl
theorem tb_85 : (Jvm.Cond.methodLink "com/example/tidewheel/tidewheel/model/KeyedRequestAnsweredPinLaw" (40 : Nat) ({ cls := "com/example/tidewheel/tidewheel/model/KeyedRequest", name := "key", desc := "()Ljava/lang/String;" } : Jvm.MethodName)) ∈ tables_1 := List.mem_of_getElem? (i := 85) rfl
theorem mt_85 {Z s : State} {aA args : Array Value} (hZ : Z.Warmed39 s.vm) (hw : ∀ d ∈ tables_1, d.before aA Z = true) : (Jvm.Cond.methodLink "com/example/tidewheel/tidewheel/model/KeyedRequestAnsweredPinLaw" (40 : Nat) ({ cls := "com/example/tidewheel/tidewheel/model/KeyedRequest", name := "key", desc := "()Ljava/lang/String;" } : Jvm.MethodName)).before args s = true := mvT hZ (hw _ tb_85)
theorem tb_86 : (Jvm.Cond.declares ({ cls := "com/example/tidewheel/tidewheel/model/KeyedRequest", name := "key", desc := "()Ljava/lang/String;" } : Jvm.MethodName)) ∈ tables_1 := List.mem_of_getElem? (i := 86) rfl
theorem mt_86 {Z s : State} {aA args : Array Value} (hZ : Z.Warmed39 s.vm) (hw : ∀ d ∈ tables_1, d.before aA Z = true) : (Jvm.Cond.declares ({ cls := "com/example/tidewheel/tidewheel/model/KeyedRequest", name := "key", desc := "()Ljava/lang/String;" } : Jvm.MethodName)).before args s = true := mvT hZ (hw _ tb_86)
theorem tb_87 : (Jvm.Cond.instanceMethod ({ cls := "com/example/tidewheel/tidewheel/model/KeyedRequest", name := "key", desc := "()Ljava/lang/String;" } : Jvm.MethodName)) ∈ tables_1 := List.mem_of_getElem? (i := 87) rfl
theorem mt_87 {Z s : State} {aA args : Array Value} (hZ : Z.Warmed39 s.vm) (hw : ∀ d ∈ tables_1, d.before aA Z = true) : (Jvm.Cond.instanceMethod ({ cls := "com/example/tidewheel/tidewheel/model/KeyedRequest", name := "key", desc := "()Ljava/lang/String;" } : Jvm.MethodName)).before args s = true := mvT hZ (hw _ tb_87)
theorem tb_88 : (Jvm.Cond.selects "com/example/tidewheel/tidewheel/model/KeyedRequest" ({ cls := "com/example/tidewheel/tidewheel/model/KeyedRequest", name := "key", desc := "()Ljava/lang/String;" } : Jvm.MethodName) ({ cls := "com/example/tidewheel/tidewheel/model/KeyedRequest", name := "key", desc := "()Ljava/lang/String;" } : Jvm.MethodName)) ∈ tables_1 := List.mem_of_getElem? (i := 88) rfl
theorem mt_88 {Z s : State} {aA args : Array Value} (hZ : Z.Warmed39 s.vm) (hw : ∀ d ∈ tables_1, d.before aA Z = true) : (Jvm.Cond.selects "com/example/tidewheel/tidewheel/model/KeyedRequest" ({ cls := "com/example/tidewheel/tidewheel/model/KeyedRequest", name := "key", desc := "()Ljava/lang/String;" } : Jvm.MethodName) ({ cls := "com/example/tidewheel/tidewheel/model/KeyedRequest", name := "key", desc := "()Ljava/lang/String;" } : Jvm.MethodName)).before args s = true := mvT hZ (hw _ tb_88)
theorem tb_89 : (Jvm.Cond.code ({ cls := "com/example/tidewheel/tidewheel/model/KeyedRequest", name := "key", desc := "()Ljava/lang/String;" } : Jvm.MethodName) prog_30_method_5_code (1 : Nat) (Option.some (Jvm.ClassFile.FieldType.object "java/lang/String"))) ∈ tables_1 := List.mem_of_getElem? (i := 89) rfl
theorem tb_90 : (Jvm.Cond.methodLink "com/example/tidewheel/tidewheel/model/KeyedRequestAnsweredPinLaw" (36 : Nat) ({ cls := "java/lang/String", name := "equals", desc := "(Ljava/lang/Object;)Z" } : Jvm.MethodName)) ∈ tables_1 := List.mem_of_getElem? (i := 90) rfl
theorem mt_90 {Z s : State} {aA args : Array Value} (hZ : Z.Warmed39 s.vm) (hw : ∀ d ∈ tables_1, d.before aA Z = true) : (Jvm.Cond.methodLink "com/example/tidewheel/tidewheel/model/KeyedRequestAnsweredPinLaw" (36 : Nat) ({ cls := "java/lang/String", name := "equals", desc := "(Ljava/lang/Object;)Z" } : Jvm.MethodName)).before args s = true := mvT hZ (hw _ tb_90)
theorem tb_91 : (Jvm.Cond.declares ({ cls := "java/lang/String", name := "equals", desc := "(Ljava/lang/Object;)Z" } : Jvm.MethodName)) ∈ tables_1 := List.mem_of_getElem? (i := 91) rfl
theorem mt_91 {Z s : State} {aA args : Array Value} (hZ : Z.Warmed39 s.vm) (hw : ∀ d ∈ tables_1, d.before aA Z = true) : (Jvm.Cond.declares ({ cls := "java/lang/String", name := "equals", desc := "(Ljava/lang/Object;)Z" } : Jvm.MethodName)).before args s = true := mvT hZ (hw _ tb_91)
theorem tb_92 : (Jvm.Cond.instanceMethod ({ cls := "java/lang/String", name := "equals", desc := "(Ljava/lang/Object;)Z" } : Jvm.MethodName)) ∈ tables_1 := List.mem_of_getElem? (i := 92) rfl
theorem mt_92 {Z s : State} {aA args : Array Value} (hZ : Z.Warmed39 s.vm) (hw : ∀ d ∈ tables_1, d.before aA Z = true) : (Jvm.Cond.instanceMethod ({ cls := "java/lang/String", name := "equals", desc := "(Ljava/lang/Object;)Z" } : Jvm.MethodName)).before args s = true := mvT hZ (hw _ tb_92)
theorem tb_93 : (Jvm.Cond.selects "java/lang/String" ({ cls := "java/lang/String", name := "equals", desc := "(Ljava/lang/Object;)Z" } : Jvm.MethodName) ({ cls := "java/lang/String", name := "equals", desc := "(Ljava/lang/Object;)Z" } : Jvm.MethodName)) ∈ tables_1 := List.mem_of_getElem? (i := 93) rfl
theorem mt_93 {Z s : State} {aA args : Array Value} (hZ : Z.Warmed39 s.vm) (hw : ∀ d ∈ tables_1, d.before aA Z = true) : (Jvm.Cond.selects "java/lang/String" ({ cls := "java/lang/String", name := "equals", desc := "(Ljava/lang/Object;)Z" } : Jvm.MethodName) ({ cls := "java/lang/String", name := "equals", desc := "(Ljava/lang/Object;)Z" } : Jvm.MethodName)).before args s = true := mvT hZ (hw _ tb_93)
theorem tb_94 : (Jvm.Cond.code ({ cls := "java/lang/String", name := "equals", desc := "(Ljava/lang/Object;)Z" } : Jvm.MethodName) jdk_42_method_66_code (3 : Nat) (Option.some Jvm.ClassFile.FieldType.boolean)) ∈ tables_1 := List.mem_of_getElem? (i := 94) rfl
theorem tb_95 : (Jvm.Cond.methodLink "com/example/tidewheel/tidewheel/model/KeyedRequestAnsweredPinLaw" (44 : Nat) ({ cls := "com/example/tidewheel/tidewheel/model/KeyedRequest", name := "request", desc := "()Ljava/lang/String;" } : Jvm.MethodName)) ∈ tables_1 := List.mem_of_getElem? (i := 95) rfl
theorem mt_95 {Z s : State} {aA args : Array Value} (hZ : Z.Warmed39 s.vm) (hw : ∀ d ∈ tables_1, d.before aA Z = true) : (Jvm.Cond.methodLink "com/example/tidewheel/tidewheel/model/KeyedRequestAnsweredPinLaw" (44 : Nat) ({ cls := "com/example/tidewheel/tidewheel/model/KeyedRequest", name := "request", desc := "()Ljava/lang/String;" } : Jvm.MethodName)).before args s = true := mvT hZ (hw _ tb_95)
theorem tb_96 : (Jvm.Cond.declares ({ cls := "com/example/tidewheel/tidewheel/model/KeyedRequest", name := "request", desc := "()Ljava/lang/String;" } : Jvm.MethodName)) ∈ tables_1 := List.mem_of_getElem? (i := 96) rfl
theorem mt_96 {Z s : State} {aA args : Array Value} (hZ : Z.Warmed39 s.vm) (hw : ∀ d ∈ tables_1, d.before aA Z = true) : (Jvm.Cond.declares ({ cls := "com/example/tidewheel/tidewheel/model/KeyedRequest", name := "request", desc := "()Ljava/lang/String;" } : Jvm.MethodName)).before args s = true := mvT hZ (hw _ tb_96)
theorem tb_97 : (Jvm.Cond.instanceMethod ({ cls := "com/example/tidewheel/tidewheel/model/KeyedRequest", name := "request", desc := "()Ljava/lang/String;" } : Jvm.MethodName)) ∈ tables_1 := List.mem_of_getElem? (i := 97) rfl
theorem mt_97 {Z s : State} {aA args : Array Value} (hZ : Z.Warmed39 s.vm) (hw : ∀ d ∈ tables_1, d.before aA Z = true) : (Jvm.Cond.instanceMethod ({ cls := "com/example/tidewheel/tidewheel/model/KeyedRequest", name := "request", desc := "()Ljava/lang/String;" } : Jvm.MethodName)).before args s = true := mvT hZ (hw _ tb_97)
theorem tb_98 : (Jvm.Cond.selects "com/example/tidewheel/tidewheel/model/KeyedRequest" ({ cls := "com/example/tidewheel/tidewheel/model/KeyedRequest", name := "request", desc := "()Ljava/lang/String;" } : Jvm.MethodName) ({ cls := "com/example/tidewheel/tidewheel/model/KeyedRequest", name := "request", desc := "()Ljava/lang/String;" } : Jvm.MethodName)) ∈ tables_1 := List.mem_of_getElem? (i := 98) rfl
theorem mt_98 {Z s : State} {aA args : Array Value} (hZ : Z.Warmed39 s.vm) (hw : ∀ d ∈ tables_1, d.before aA Z = true) : (Jvm.Cond.selects "com/example/tidewheel/tidewheel/model/KeyedRequest" ({ cls := "com/example/tidewheel/tidewheel/model/KeyedRequest", name := "request", desc := "()Ljava/lang/String;" } : Jvm.MethodName) ({ cls := "com/example/tidewheel/tidewheel/model/KeyedRequest", name := "request", desc := "()Ljava/lang/String;" } : Jvm.MethodName)).before args s = true := mvT hZ (hw _ tb_98)
theorem tb_99 : (Jvm.Cond.code ({ cls := "com/example/tidewheel/tidewheel/model/KeyedRequest", name := "request", desc := "()Ljava/lang/String;" } : Jvm.MethodName) prog_30_method_6_code (1 : Nat) (Option.some (Jvm.ClassFile.FieldType.object "java/lang/String"))) ∈ tables_1 := List.mem_of_getElem? (i := 99) rfl
theorem tb_100 : (Jvm.Cond.methodLink "com/example/tidewheel/tidewheel/model/KeyedRequestAnsweredPinLaw" (47 : Nat) ({ cls := "com/example/tidewheel/tidewheel/model/KeyedRequest", name := "answer", desc := "()Ljava/util/Optional;" } : Jvm.MethodName)) ∈ tables_1 := List.mem_of_getElem? (i := 100) rfl
theorem mt_100 {Z s : State} {aA args : Array Value} (hZ : Z.Warmed39 s.vm) (hw : ∀ d ∈ tables_1, d.before aA Z = true) : (Jvm.Cond.methodLink "com/example/tidewheel/tidewheel/model/KeyedRequestAnsweredPinLaw" (47 : Nat) ({ cls := "com/example/tidewheel/tidewheel/model/KeyedRequest", name := "answer", desc := "()Ljava/util/Optional;" } : Jvm.MethodName)).before args s = true := mvT hZ (hw _ tb_100)
theorem tb_101 : (Jvm.Cond.declares ({ cls := "com/example/tidewheel/tidewheel/model/KeyedRequest", name := "answer", desc := "()Ljava/util/Optional;" } : Jvm.MethodName)) ∈ tables_1 := List.mem_of_getElem? (i := 101) rfl
theorem mt_101 {Z s : State} {aA args : Array Value} (hZ : Z.Warmed39 s.vm) (hw : ∀ d ∈ tables_1, d.before aA Z = true) : (Jvm.Cond.declares ({ cls := "com/example/tidewheel/tidewheel/model/KeyedRequest", name := "answer", desc := "()Ljava/util/Optional;" } : Jvm.MethodName)).before args s = true := mvT hZ (hw _ tb_101)
theorem tb_102 : (Jvm.Cond.instanceMethod ({ cls := "com/example/tidewheel/tidewheel/model/KeyedRequest", name := "answer", desc := "()Ljava/util/Optional;" } : Jvm.MethodName)) ∈ tables_1 := List.mem_of_getElem? (i := 102) rfl
theorem mt_102 {Z s : State} {aA args : Array Value} (hZ : Z.Warmed39 s.vm) (hw : ∀ d ∈ tables_1, d.before aA Z = true) : (Jvm.Cond.instanceMethod ({ cls := "com/example/tidewheel/tidewheel/model/KeyedRequest", name := "answer", desc := "()Ljava/util/Optional;" } : Jvm.MethodName)).before args s = true := mvT hZ (hw _ tb_102)
theorem tb_103 : (Jvm.Cond.selects "com/example/tidewheel/tidewheel/model/KeyedRequest" ({ cls := "com/example/tidewheel/tidewheel/model/KeyedRequest", name := "answer", desc := "()Ljava/util/Optional;" } : Jvm.MethodName) ({ cls := "com/example/tidewheel/tidewheel/model/KeyedRequest", name := "answer", desc := "()Ljava/util/Optional;" } : Jvm.MethodName)) ∈ tables_1 := List.mem_of_getElem? (i := 103) rfl
theorem mt_103 {Z s : State} {aA args : Array Value} (hZ : Z.Warmed39 s.vm) (hw : ∀ d ∈ tables_1, d.before aA Z = true) : (Jvm.Cond.selects "com/example/tidewheel/tidewheel/model/KeyedRequest" ({ cls := "com/example/tidewheel/tidewheel/model/KeyedRequest", name := "answer", desc := "()Ljava/util/Optional;" } : Jvm.MethodName) ({ cls := "com/example/tidewheel/tidewheel/model/KeyedRequest", name := "answer", desc := "()Ljava/util/Optional;" } : Jvm.MethodName)).before args s = true := mvT hZ (hw _ tb_103)
theorem tb_104 : (Jvm.Cond.code ({ cls := "com/example/tidewheel/tidewheel/model/KeyedRequest", name := "answer", desc := "()Ljava/util/Optional;" } : Jvm.MethodName) prog_30_method_8_code (1 : Nat) (Option.some (Jvm.ClassFile.FieldType.object "java/util/Optional"))) ∈ tables_1 := List.mem_of_getElem? (i := 104) rfl
theorem tb_105 : (Jvm.Cond.classLink "java/util/Optional" (2 : Nat) "java/util/Optional") ∈ tables_1 := List.mem_of_getElem? (i := 105) rfl
theorem tb_106 : (Jvm.Cond.instantiable "java/util/Optional" (1 : Nat)) ∈ tables_1 := List.mem_of_getElem? (i := 106) rfl
theorem tb_107 : (Jvm.Cond.methodLink "java/util/Optional" (23 : Nat) ({ cls := "java/util/Optional", name := "<init>", desc := "(Ljava/lang/Object;)V" } : Jvm.MethodName)) ∈ tables_1 := List.mem_of_getElem? (i := 107) rfl
theorem mt_107 {Z s : State} {aA args : Array Value} (hZ : Z.Warmed39 s.vm) (hw : ∀ d ∈ tables_1, d.before aA Z = true) : (Jvm.Cond.methodLink "java/util/Optional" (23 : Nat) ({ cls := "java/util/Optional", name := "<init>", desc := "(Ljava/lang/Object;)V" } : Jvm.MethodName)).before args s = true := mvT hZ (hw _ tb_107)
theorem tb_108 : (Jvm.Cond.instanceMethod ({ cls := "java/util/Optional", name := "<init>", desc := "(Ljava/lang/Object;)V" } : Jvm.MethodName)) ∈ tables_1 := List.mem_of_getElem? (i := 108) rfl
theorem mt_108 {Z s : State} {aA args : Array Value} (hZ : Z.Warmed39 s.vm) (hw : ∀ d ∈ tables_1, d.before aA Z = true) : (Jvm.Cond.instanceMethod ({ cls := "java/util/Optional", name := "<init>", desc := "(Ljava/lang/Object;)V" } : Jvm.MethodName)).before args s = true := mvT hZ (hw _ tb_108)
theorem tb_110 : (Jvm.Cond.code ({ cls := "java/util/Optional", name := "<init>", desc := "(Ljava/lang/Object;)V" } : Jvm.MethodName) jdk_32_method_2_code (2 : Nat) (Option.none : Option Jvm.ClassFile.FieldType)) ∈ tables_1 := List.mem_of_getElem? (i := 110) rfl
theorem mt_110 {Z s : State} {aA args : Array Value} (hZ : Z.Warmed39 s.vm) (hw : ∀ d ∈ tables_1, d.before aA Z = true) : (Jvm.Cond.code ({ cls := "java/util/Optional", name := "<init>", desc := "(Ljava/lang/Object;)V" } : Jvm.MethodName) jdk_32_method_2_code (2 : Nat) (Option.none : Option Jvm.ClassFile.FieldType)).before args s = true := mvT hZ (hw _ tb_110)
theorem tb_111 : (Jvm.Cond.methodLink "java/util/Optional" (7 : Nat) ({ cls := "java/lang/Object", name := "<init>", desc := "()V" } : Jvm.MethodName)) ∈ tables_1 := List.mem_of_getElem? (i := 111) rfl
theorem own_and255 (x : Int32) : ¬ (x &&& (255 : Int32)) < 0 ∧ ¬ (255 : Int32) < (x &&& (255 : Int32)) := by
  have q := c_and x (255 : Int32) (by decide)
  rw [Int32.lt_iff_toInt_lt, Int32.lt_iff_toInt_lt, show (0 : Int32).toInt = 0 by decide]
  omega
theorem d14_0 : decode prog_30_method_5_code 0 = .ok (.aload_n 0, 1) := by decide +kernel
theorem d14_1 : decode prog_30_method_5_code 1 = .ok (.getfield 7, 3) := by decide +kernel
theorem d14_4 : decode prog_30_method_5_code 4 = .ok (.areturn, 1) := by decide +kernel
theorem pn_com_example_tidewheel_tidewheel_model_KeyedRequest : plainName "com/example/tidewheel/tidewheel/model/KeyedRequest" = true := by first | (simp [plainName, overriddenIn]; done) | decide +kernel
theorem ef_14_R (m : MethodId) (x0 : Addr) : entryFrame m #[(.ref x0)] 1 = mkF m 0 #[.val (.ref x0)] [] := by first | (simp [entryFrame, mkF, argsToLocals, Value.category]; done) | rfl
def Q14 (Z : State) (a_ : Addr) (w_ : Addr) (h0 : Heap) (n0 : Nat) (v : Option Value) (h : Heap) (L : List Loc) : Prop := v = some (.ref w_) ∧ Fr n0 L ∧ h = h0
set_option maxRecDepth 65536 in
set_option maxHeartbeats 40000000 in
theorem rm14 (l : Launch) (Z : State) (aA : Array Value) (hw : ∀ d ∈ tables_1, d.before aA Z = true) (ws : List Jvm.Cond) (a_ : Addr) (w_ : Addr) (h0 : Heap) (n0 : Nat) (Z0 : n0 ≤ h0.size) (F_ : Fld Z h0 a_ "com/example/tidewheel/tidewheel/model/KeyedRequest" "key" "Ljava/lang/String;" (.ref w_)) :
    MetFree l (⟨"com/example/tidewheel/tidewheel/model/KeyedRequest", "key", "()Ljava/lang/String;"⟩ : MethodName) (head1 (Jvm.Cond.code (⟨"com/example/tidewheel/tidewheel/model/KeyedRequest", "key", "()Ljava/lang/String;"⟩ : MethodName) prog_30_method_5_code 1 (some (.object "java/lang/String")) :: ws) ({ frames := 0, cells := 0, slots := 0, locals := 0 } : Room)) (fun a U => a = #[(.ref a_)] ∧ Z.Warmed39 U.vm ∧ U.heap = h0) (fun _ _ _ _ _ => True) (fun _ U o U' => ∃ v L, o = .returned v ∧ Q14 Z a_ w_ h0 n0 v U'.heap L ∧ FrameEnd U o U' L ({ frames := 0, cells := 0, slots := 0, locals := 0 } : Room).cells ({ frames := 0, cells := 0, slots := 0, locals := 0 } : Room).slots) := by
  refine MetFree.of_bodySF (plainFor_of_name pn_com_example_tidewheel_tidewheel_model_KeyedRequest) hisR ?_
  intro p e s m args below meth c s₁ Bd hml0 hP hK
  obtain ⟨rfl, hZ, hh⟩ := hP
  have hx := Bd.exec
  have hby := Bd.bytes
  have hml : c.maxLocals = 1 := hml0
  have hown : s.vm.findClass "com/example/tidewheel/tidewheel/model/KeyedRequest" = some m.cls := findClass_of_methodNamed Bd.named
  have hnm := (name_of_methodNamed Bd.named Bd.method).1
  have X0 : Stand p l e ({ frames := 0, cells := 0, slots := 0, locals := 0 } : Room) s m #[(.ref a_)] below meth c s₁ [] 0 0 := Stand.of_body Bd
  have e0 : s₁.heap = h0 := by rw [← hh, Bd.state]; rfl
  have N0 := Fr.nil n0
  have KP0 : Keep h0 h0 [] := Keep.refl h0 _
  have pre0 : ∀ t, Steps p.tables e below (s₁.setTop (mkF m 0 #[.val (.ref a_)] [])) t → Steps p.tables e below (s₁.setTop (entryFrame m #[(.ref a_)] 1)) t := fun t k => castTop (ef_14_R m a_) k
  obtain ⟨T1, X1, e1, st1⟩ := getF X0 hx hZ hown (host := "") (Or.inl (hw _ tb_53)) Via.refl e0 F_ (g := (mkF m 1 #[.val (.ref a_)] [(.ref a_)])) rfl rfl (hb hby d14_1)
  have pre2 : ∀ t, Steps p.tables e below (T1.setTop (mkF m 4 #[.val (.ref a_)] [(.ref w_)])) t → Steps p.tables e below (s₁.setTop (entryFrame m #[(.ref a_)] 1)) t := by
    intro t kk
    refine pre0 t ?_
    show Steps p.tables e below (s₁.setTop (mkF m 0 #[.val (.ref a_)] [])) _
    refine XS.aloadN X0.here hx rfl (hb hby d14_0) rfl rfl ?_
    refine st1 _ ?_
    exact kk
  clear st1
  obtain ⟨fs, hr, hrun, hended, hW, hsame⟩ := X1.leave (v := some (.ref w_)) (fun h => by rw [Bd.returns] at h; cases h)
  refine ⟨_, _, pre2 _ ?_, hrun, hended, _, _, rfl, ?_, ⟨_, rfl⟩, hW, hsame.mono (by decide) (by decide)⟩
  · show Steps p.tables e below (T1.setTop (mkF m 4 #[.val (.ref a_)] [(.ref w_)])) _
    exact retOut X1 hx Bd.returns rfl (Or.inr (Or.inr (Or.inr (Or.inr ⟨rfl, rfl, rfl⟩)))) (hb hby d14_4) hr
  · show Q14 Z a_ w_ h0 n0 _ T1.heap _
    rw [e1]
    exact ⟨rfl, N0, rfl⟩
theorem d16_0 : decode prog_30_method_6_code 0 = .ok (.aload_n 0, 1) := by decide +kernel
theorem d16_1 : decode prog_30_method_6_code 1 = .ok (.getfield 13, 3) := by decide +kernel
theorem d16_4 : decode prog_30_method_6_code 4 = .ok (.areturn, 1) := by decide +kernel
theorem ef_16_R (m : MethodId) (x0 : Addr) : entryFrame m #[(.ref x0)] 1 = mkF m 0 #[.val (.ref x0)] [] := by first | (simp [entryFrame, mkF, argsToLocals, Value.category]; done) | rfl
def Q16 (Z : State) (a_ : Addr) (w_ : Addr) (h0 : Heap) (n0 : Nat) (v : Option Value) (h : Heap) (L : List Loc) : Prop := v = some (.ref w_) ∧ Fr n0 L ∧ h = h0
set_option maxRecDepth 65536 in
set_option maxHeartbeats 40000000 in
theorem rm16 (l : Launch) (Z : State) (aA : Array Value) (hw : ∀ d ∈ tables_1, d.before aA Z = true) (ws : List Jvm.Cond) (a_ : Addr) (w_ : Addr) (h0 : Heap) (n0 : Nat) (Z0 : n0 ≤ h0.size) (F_ : Fld Z h0 a_ "com/example/tidewheel/tidewheel/model/KeyedRequest" "request" "Ljava/lang/String;" (.ref w_)) :
    MetFree l (⟨"com/example/tidewheel/tidewheel/model/KeyedRequest", "request", "()Ljava/lang/String;"⟩ : MethodName) (head1 (Jvm.Cond.code (⟨"com/example/tidewheel/tidewheel/model/KeyedRequest", "request", "()Ljava/lang/String;"⟩ : MethodName) prog_30_method_6_code 1 (some (.object "java/lang/String")) :: ws) ({ frames := 0, cells := 0, slots := 0, locals := 0 } : Room)) (fun a U => a = #[(.ref a_)] ∧ Z.Warmed39 U.vm ∧ U.heap = h0) (fun _ _ _ _ _ => True) (fun _ U o U' => ∃ v L, o = .returned v ∧ Q16 Z a_ w_ h0 n0 v U'.heap L ∧ FrameEnd U o U' L ({ frames := 0, cells := 0, slots := 0, locals := 0 } : Room).cells ({ frames := 0, cells := 0, slots := 0, locals := 0 } : Room).slots) := by
  refine MetFree.of_bodySF (plainFor_of_name pn_com_example_tidewheel_tidewheel_model_KeyedRequest) hisR ?_
  intro p e s m args below meth c s₁ Bd hml0 hP hK
  obtain ⟨rfl, hZ, hh⟩ := hP
  have hx := Bd.exec
  have hby := Bd.bytes
  have hml : c.maxLocals = 1 := hml0
  have hown : s.vm.findClass "com/example/tidewheel/tidewheel/model/KeyedRequest" = some m.cls := findClass_of_methodNamed Bd.named
  have hnm := (name_of_methodNamed Bd.named Bd.method).1
  have X0 : Stand p l e ({ frames := 0, cells := 0, slots := 0, locals := 0 } : Room) s m #[(.ref a_)] below meth c s₁ [] 0 0 := Stand.of_body Bd
  have e0 : s₁.heap = h0 := by rw [← hh, Bd.state]; rfl
  have N0 := Fr.nil n0
  have KP0 : Keep h0 h0 [] := Keep.refl h0 _
  have pre0 : ∀ t, Steps p.tables e below (s₁.setTop (mkF m 0 #[.val (.ref a_)] [])) t → Steps p.tables e below (s₁.setTop (entryFrame m #[(.ref a_)] 1)) t := fun t k => castTop (ef_16_R m a_) k
  obtain ⟨T3, X3, e3, st3⟩ := getF X0 hx hZ hown (host := "") (Or.inl (hw _ tb_55)) Via.refl e0 F_ (g := (mkF m 1 #[.val (.ref a_)] [(.ref a_)])) rfl rfl (hb hby d16_1)
  have pre4 : ∀ t, Steps p.tables e below (T3.setTop (mkF m 4 #[.val (.ref a_)] [(.ref w_)])) t → Steps p.tables e below (s₁.setTop (entryFrame m #[(.ref a_)] 1)) t := by
    intro t kk
    refine pre0 t ?_
    show Steps p.tables e below (s₁.setTop (mkF m 0 #[.val (.ref a_)] [])) _
    refine XS.aloadN X0.here hx rfl (hb hby d16_0) rfl rfl ?_
    refine st3 _ ?_
    exact kk
  clear st3
  obtain ⟨fs, hr, hrun, hended, hW, hsame⟩ := X3.leave (v := some (.ref w_)) (fun h => by rw [Bd.returns] at h; cases h)
  refine ⟨_, _, pre4 _ ?_, hrun, hended, _, _, rfl, ?_, ⟨_, rfl⟩, hW, hsame.mono (by decide) (by decide)⟩
  · show Steps p.tables e below (T3.setTop (mkF m 4 #[.val (.ref a_)] [(.ref w_)])) _
    exact retOut X3 hx Bd.returns rfl (Or.inr (Or.inr (Or.inr (Or.inr ⟨rfl, rfl, rfl⟩)))) (hb hby d16_4) hr
  · show Q16 Z a_ w_ h0 n0 _ T3.heap _
    rw [e3]
    exact ⟨rfl, N0, rfl⟩
theorem d15_0 : decode jdk_42_method_66_code 0 = .ok (.aload_n 0, 1) := by decide +kernel
theorem d15_1 : decode jdk_42_method_66_code 1 = .ok (.aload_n 1, 1) := by decide +kernel
theorem d15_2 : decode jdk_42_method_66_code 2 = .ok (.if_acmp .ne 5, 3) := by decide +kernel
theorem d15_5 : decode jdk_42_method_66_code 5 = .ok (.iconst 1, 1) := by decide +kernel
theorem d15_6 : decode jdk_42_method_66_code 6 = .ok (.ireturn, 1) := by decide +kernel
theorem pn_java_lang_String : plainName "java/lang/String" = true := by first | (simp [plainName, overriddenIn]; done) | decide +kernel
theorem ef_15_RR (m : MethodId) (x0 : Addr) (x1 : Addr) : entryFrame m #[(.ref x0), (.ref x1)] 3 = mkF m 0 #[.val (.ref x0), .val (.ref x1), .unset] [] := by first | (simp [entryFrame, mkF, argsToLocals, Value.category]; done) | rfl
def Q15 (Z : State) (a_ : Addr) (h0 : Heap) (n0 : Nat) (v : Option Value) (h : Heap) (L : List Loc) : Prop := v = some (.int (1 : Int32)) ∧ Fr n0 L ∧ h = h0
set_option maxRecDepth 65536 in
set_option maxHeartbeats 40000000 in
theorem rm15 (l : Launch) (Z : State) (aA : Array Value) (hw : ∀ d ∈ tables_1, d.before aA Z = true) (ws : List Jvm.Cond) (a_ : Addr) (h0 : Heap) (n0 : Nat) (Z0 : n0 ≤ h0.size) :
    MetFree l (⟨"java/lang/String", "equals", "(Ljava/lang/Object;)Z"⟩ : MethodName) (head1 (Jvm.Cond.code (⟨"java/lang/String", "equals", "(Ljava/lang/Object;)Z"⟩ : MethodName) jdk_42_method_66_code 3 (some .boolean) :: ws) ({ frames := 0, cells := 0, slots := 0, locals := 0 } : Room)) (fun a U => a = #[(.ref a_), (.ref a_)] ∧ Z.Warmed39 U.vm ∧ U.heap = h0) (fun _ _ _ _ _ => True) (fun _ U o U' => ∃ v L, o = .returned v ∧ Q15 Z a_ h0 n0 v U'.heap L ∧ FrameEnd U o U' L ({ frames := 0, cells := 0, slots := 0, locals := 0 } : Room).cells ({ frames := 0, cells := 0, slots := 0, locals := 0 } : Room).slots) := by
  refine MetFree.of_bodySF (plainFor_of_name pn_java_lang_String) hisR ?_
  intro p e s m args below meth c s₁ Bd hml0 hP hK
  obtain ⟨rfl, hZ, hh⟩ := hP
  have hx := Bd.exec
  have hby := Bd.bytes
  have hml : c.maxLocals = 3 := hml0
  have hown : s.vm.findClass "java/lang/String" = some m.cls := findClass_of_methodNamed Bd.named
  have hnm := (name_of_methodNamed Bd.named Bd.method).1
  have X0 : Stand p l e ({ frames := 0, cells := 0, slots := 0, locals := 0 } : Room) s m #[(.ref a_), (.ref a_)] below meth c s₁ [] 0 0 := Stand.of_body Bd
  have e0 : s₁.heap = h0 := by rw [← hh, Bd.state]; rfl
  have N0 := Fr.nil n0
  have KP0 : Keep h0 h0 [] := Keep.refl h0 _
  have pre0 : ∀ t, Steps p.tables e below (s₁.setTop (mkF m 0 #[.val (.ref a_), .val (.ref a_), .unset] [])) t → Steps p.tables e below (s₁.setTop (entryFrame m #[(.ref a_), (.ref a_)] 3)) t := fun t k => castTop (ef_15_RR m a_ a_) k
  have pre5 : ∀ t, Steps p.tables e below (s₁.setTop (mkF m 6 #[.val (.ref a_), .val (.ref a_), .unset] [(.int (1 : Int32))])) t → Steps p.tables e below (s₁.setTop (entryFrame m #[(.ref a_), (.ref a_)] 3)) t := by
    intro t kk
    refine pre0 t ?_
    show Steps p.tables e below (s₁.setTop (mkF m 0 #[.val (.ref a_), .val (.ref a_), .unset] [])) _
    refine XS.aloadN X0.here hx rfl (hb hby d15_0) rfl rfl ?_
    refine XS.aloadN X0.here hx rfl (hb hby d15_1) rfl rfl ?_
    refine Jvm.RoadKit.acmp (g := (mkF m 2 #[.val (.ref a_), .val (.ref a_), .unset] [(.ref a_), (.ref a_)])) X0 hx rfl rfl rfl (pc0 := 2) (pc' := 5) (same := true) rfl (hb hby d15_2) rfl (decide_eq_true rfl) (by decide) (by decide) ?_
    refine XS.iconst X0.here hx rfl (hb hby d15_5) ?_
    exact kk
  obtain ⟨fs, hr, hrun, hended, hW, hsame⟩ := X0.leave (v := some (.int (1 : Int32))) (fun h => by rw [Bd.returns] at h; cases h)
  refine ⟨_, _, pre5 _ ?_, hrun, hended, _, _, rfl, ?_, ⟨_, rfl⟩, hW, hsame.mono (by decide) (by decide)⟩
  · show Steps p.tables e below (s₁.setTop (mkF m 6 #[.val (.ref a_), .val (.ref a_), .unset] [(.int (1 : Int32))])) _
    exact retN X0 hx (t := .boolean) Bd.returns (by simp) (hb hby d15_6) hr
  · show Q15 Z a_ h0 n0 _ s₁.heap _
    rw [e0]
    exact ⟨rfl, N0, rfl⟩
theorem pd__28_5bC_29V : parseMethodDescriptor "([C)V" = some ⟨[(.array .char)], none⟩ := by decide +kernel
theorem d8_0 : decode prog_31_method_2_code 0 = .ok (.aload_n 0, 1) := by decide +kernel
theorem d8_1 : decode prog_31_method_2_code 1 = .ok (.invokespecial 7, 3) := by decide +kernel
theorem d8_4 : decode prog_31_method_2_code 4 = .ok (.aload_n 0, 1) := by decide +kernel
theorem d8_5 : decode prog_31_method_2_code 5 = .ok (.iload_n 1, 1) := by decide +kernel
theorem d8_6 : decode prog_31_method_2_code 6 = .ok (.putfield 12, 3) := by decide +kernel
theorem d8_9 : decode prog_31_method_2_code 9 = .ok (.aload_n 0, 1) := by decide +kernel
theorem d8_10 : decode prog_31_method_2_code 10 = .ok (.aload_n 2, 1) := by decide +kernel
theorem d8_11 : decode prog_31_method_2_code 11 = .ok (.putfield 16, 3) := by decide +kernel
theorem d8_14 : decode prog_31_method_2_code 14 = .ok (.aload_n 0, 1) := by decide +kernel
theorem d8_15 : decode prog_31_method_2_code 15 = .ok (.aload_n 3, 1) := by decide +kernel
theorem d8_16 : decode prog_31_method_2_code 16 = .ok (.putfield 20, 3) := by decide +kernel
theorem d8_19 : decode prog_31_method_2_code 19 = .ok (.return_, 1) := by decide +kernel
theorem pn_com_example_tidewheel_tidewheel_model_KeyedRequest_Answer : plainName "com/example/tidewheel/tidewheel/model/KeyedRequest$Answer" = true := by first | (simp [plainName, overriddenIn]; done) | decide +kernel
theorem ef_8_RIRn (m : MethodId) (x0 : Addr) (x1 : Int32) (x2 : Addr) : entryFrame m #[(.ref x0), (.int x1), (.ref x2), .null] 4 = mkF m 0 #[.val (.ref x0), .val (.int x1), .val (.ref x2), .val .null] [] := by first | (simp [entryFrame, mkF, argsToLocals, Value.category]; done) | rfl
def Q8_rrn (Z : State) (a_ : Addr) (p1 : Int32) (a2 : Addr) (h0 : Heap) (n0 : Nat) (v : Option Value) (h : Heap) (L : List Loc) : Prop := v = none ∧ Fr n0 L ∧ Keep h0 h [a_] ∧ Exa Z h a_ "com/example/tidewheel/tidewheel/model/KeyedRequest$Answer" ∧ Fld Z h a_ "com/example/tidewheel/tidewheel/model/KeyedRequest$Answer" "status" "I" (.int p1) ∧ Fld Z h a_ "com/example/tidewheel/tidewheel/model/KeyedRequest$Answer" "body" "Ljava/lang/String;" (.ref a2) ∧ Fld Z h a_ "com/example/tidewheel/tidewheel/model/KeyedRequest$Answer" "refusal" "Lcom/example/tidewheel/tidewheel/model/RefusedException$Reason;" .null
set_option maxRecDepth 65536 in
set_option maxHeartbeats 40000000 in
theorem rm8_rrn (l : Launch) (Z : State) (aA : Array Value) (hw : ∀ d ∈ tables_1, d.before aA Z = true) (ws : List Jvm.Cond) (a_ : Addr) (p1 : Int32) (a2 : Addr) (h0 : Heap) (n0 : Nat) (Z0 : n0 ≤ h0.size) (E_a : Exa Z h0 a_ "com/example/tidewheel/tidewheel/model/KeyedRequest$Answer") (g_a_ : n0 ≤ a_) (F_status : Fld Z h0 a_ "com/example/tidewheel/tidewheel/model/KeyedRequest$Answer" "status" "I" (.int (0 : Int32))) (F_body : Fld Z h0 a_ "com/example/tidewheel/tidewheel/model/KeyedRequest$Answer" "body" "Ljava/lang/String;" .null) (F_refusal : Fld Z h0 a_ "com/example/tidewheel/tidewheel/model/KeyedRequest$Answer" "refusal" "Lcom/example/tidewheel/tidewheel/model/RefusedException$Reason;" .null) :
    MetFree l (⟨"com/example/tidewheel/tidewheel/model/KeyedRequest$Answer", "<init>", "(ILjava/lang/String;Lcom/example/tidewheel/tidewheel/model/RefusedException$Reason;)V"⟩ : MethodName) (head1 (Jvm.Cond.code (⟨"com/example/tidewheel/tidewheel/model/KeyedRequest$Answer", "<init>", "(ILjava/lang/String;Lcom/example/tidewheel/tidewheel/model/RefusedException$Reason;)V"⟩ : MethodName) prog_31_method_2_code 4 none :: ws) ({ frames := 1, cells := 0, slots := 0, locals := 12 } : Room)) (fun a U => a = #[(.ref a_), (.int p1), (.ref a2), .null] ∧ Z.Warmed39 U.vm ∧ U.heap = h0) (fun _ _ _ _ _ => True) (fun _ U o U' => ∃ v L, o = .returned v ∧ Q8_rrn Z a_ p1 a2 h0 n0 v U'.heap L ∧ FrameEnd U o U' L ({ frames := 1, cells := 0, slots := 0, locals := 12 } : Room).cells ({ frames := 1, cells := 0, slots := 0, locals := 12 } : Room).slots) := by
  refine MetFree.of_bodySF (plainFor_of_name pn_com_example_tidewheel_tidewheel_model_KeyedRequest_Answer) hisR ?_
  intro p e s m args below meth c s₁ Bd hml0 hP hK
  obtain ⟨rfl, hZ, hh⟩ := hP
  have hx := Bd.exec
  have hby := Bd.bytes
  have hml : c.maxLocals = 4 := hml0
  have hown : s.vm.findClass "com/example/tidewheel/tidewheel/model/KeyedRequest$Answer" = some m.cls := findClass_of_methodNamed Bd.named
  have hnm := (name_of_methodNamed Bd.named Bd.method).1
  have X0 : Stand p l e ({ frames := 1, cells := 0, slots := 0, locals := 12 } : Room) s m #[(.ref a_), (.int p1), (.ref a2), .null] below meth c s₁ [] 0 0 := Stand.of_body Bd
  have e0 : s₁.heap = h0 := by rw [← hh, Bd.state]; rfl
  have N0 := Fr.nil n0
  have KP0 : Keep h0 h0 [a_] := Keep.refl h0 _
  have pre0 : ∀ t, Steps p.tables e below (s₁.setTop (mkF m 0 #[.val (.ref a_), .val (.int p1), .val (.ref a2), .val .null] [])) t → Steps p.tables e below (s₁.setTop (entryFrame m #[(.ref a_), (.int p1), (.ref a2), .null] 4)) t := fun t k => castTop (ef_8_RIRn m a_ p1 a2) k
  have pre104 : ∀ t, Steps p.tables e below (s₁.setTop (mkF m 1 #[.val (.ref a_), .val (.int p1), .val (.ref a2), .val .null] [(.ref a_)])) t → Steps p.tables e below (s₁.setTop (entryFrame m #[(.ref a_), (.int p1), (.ref a2), .null] 4)) t := by
    intro t kk
    refine pre0 t ?_
    show Steps p.tables e below (s₁.setTop (mkF m 0 #[.val (.ref a_), .val (.int p1), .val (.ref a2), .val .null] [])) _
    refine XS.aloadN X0.here hx rfl (hb hby d8_0) rfl rfl ?_
    exact kk
  obtain ⟨T105, X105, e105, st105⟩ := initO X0 hx hZ hown (hw _ tb_39) (hw _ tb_12) (hw _ tb_13) e0 (g := (mkF m 1 #[.val (.ref a_), .val (.int p1), .val (.ref a2), .val .null] [(.ref a_)])) rfl (by rw [hml]; rfl) rfl (hb hby d8_1) (by decide) (W := 0) (by show 2 * 0 + _ ≤ _; exact Nat.le_of_eq rfl) (by decide)
  obtain ⟨T106, h106, X106, e106, W106, st106⟩ := putF X105 hx hZ hown (host := "") (Or.inl (hw _ tb_40)) Via.refl e105 F_status E_a (Or.inr ⟨(hw _ tb_41), rfl, hnm⟩) (hw _ tb_31) (ty := .int) (by decide) rfl rfl (g := (mkF m 6 #[.val (.ref a_), .val (.int p1), .val (.ref a2), .val .null] [(.int p1), (.ref a_)])) rfl rfl (hb hby d8_6)
  have Fw106 := F_status.same W106
  have KP106 : Keep h0 h106 [a_] := KP0.wr W106 (Or.inl (List.mem_of_getElem? (i := 0) rfl))
  have Z106 : n0 ≤ h106.size := Nat.le_trans Z0 (Nat.le_of_eq W106.size.symm)
  have N106 := Fr.snoc X106 N0 g_a_
  have E_a__107 : Exa Z h106 a_ "com/example/tidewheel/tidewheel/model/KeyedRequest$Answer" := E_a.wr W106
  have F_a__body_108 : Fld Z h106 a_ "com/example/tidewheel/tidewheel/model/KeyedRequest$Answer" "body" "Ljava/lang/String;" .null := F_body.other W106 (Or.inr (slot_ne (Or.inr (hw _ tb_43)) (Or.inr (hw _ tb_41)) (by decide) (t := (.object "java/lang/String")) (t' := .int) (by decide) (by decide)))
  have F_a__refusal_109 : Fld Z h106 a_ "com/example/tidewheel/tidewheel/model/KeyedRequest$Answer" "refusal" "Lcom/example/tidewheel/tidewheel/model/RefusedException$Reason;" .null := F_refusal.other W106 (Or.inr (slot_ne (Or.inr (hw _ tb_45)) (Or.inr (hw _ tb_41)) (by decide) (t := (.object "com/example/tidewheel/tidewheel/model/RefusedException$Reason")) (t' := .int) (by decide) (by decide)))
  obtain ⟨T110, h110, X110, e110, W110, st110⟩ := putF X106 hx hZ hown (host := "") (Or.inl (hw _ tb_42)) Via.refl e106 F_a__body_108 E_a__107 (Or.inr ⟨(hw _ tb_43), rfl, hnm⟩) (hw _ tb_31) (ty := (.object "java/lang/String")) (by decide) rfl rfl (g := (mkF m 11 #[.val (.ref a_), .val (.int p1), .val (.ref a2), .val .null] [(.ref a2), (.ref a_)])) rfl rfl (hb hby d8_11)
  have Fw110 := F_a__body_108.same W110
  have KP110 : Keep h0 h110 [a_] := KP106.wr W110 (Or.inl (List.mem_of_getElem? (i := 0) rfl))
  have Z110 : n0 ≤ h110.size := Nat.le_trans Z106 (Nat.le_of_eq W110.size.symm)
  have N110 := Fr.snoc X110 N106 g_a_
  have E_a__111 : Exa Z h110 a_ "com/example/tidewheel/tidewheel/model/KeyedRequest$Answer" := E_a__107.wr W110
  have F_a__refusal_112 : Fld Z h110 a_ "com/example/tidewheel/tidewheel/model/KeyedRequest$Answer" "refusal" "Lcom/example/tidewheel/tidewheel/model/RefusedException$Reason;" .null := F_a__refusal_109.other W110 (Or.inr (slot_ne (Or.inr (hw _ tb_45)) (Or.inr (hw _ tb_43)) (by decide) (t := (.object "com/example/tidewheel/tidewheel/model/RefusedException$Reason")) (t' := (.object "java/lang/String")) (by decide) (by decide)))
  have F_a__status_113 : Fld Z h110 a_ "com/example/tidewheel/tidewheel/model/KeyedRequest$Answer" "status" "I" (.int p1) := Fw106.other W110 (Or.inr (slot_ne (Or.inr (hw _ tb_41)) (Or.inr (hw _ tb_43)) (by decide) (t := .int) (t' := (.object "java/lang/String")) (by decide) (by decide)))
  obtain ⟨T114, h114, X114, e114, W114, st114⟩ := putF X110 hx hZ hown (host := "") (Or.inl (hw _ tb_44)) Via.refl e110 F_a__refusal_112 E_a__111 (Or.inr ⟨(hw _ tb_45), rfl, hnm⟩) (hw _ tb_31) (ty := (.object "com/example/tidewheel/tidewheel/model/RefusedException$Reason")) (by decide) rfl rfl (g := (mkF m 16 #[.val (.ref a_), .val (.int p1), .val (.ref a2), .val .null] [.null, (.ref a_)])) rfl rfl (hb hby d8_16)
  have Fw114 := F_a__refusal_112.same W114
  have KP114 : Keep h0 h114 [a_] := KP110.wr W114 (Or.inl (List.mem_of_getElem? (i := 0) rfl))
  have Z114 : n0 ≤ h114.size := Nat.le_trans Z110 (Nat.le_of_eq W114.size.symm)
  have N114 := Fr.snoc X114 N110 g_a_
  have E_a__115 : Exa Z h114 a_ "com/example/tidewheel/tidewheel/model/KeyedRequest$Answer" := E_a__111.wr W114
  have F_a__status_116 : Fld Z h114 a_ "com/example/tidewheel/tidewheel/model/KeyedRequest$Answer" "status" "I" (.int p1) := F_a__status_113.other W114 (Or.inr (slot_ne (Or.inr (hw _ tb_41)) (Or.inr (hw _ tb_45)) (by decide) (t := .int) (t' := (.object "com/example/tidewheel/tidewheel/model/RefusedException$Reason")) (by decide) (by decide)))
  have F_a__body_117 : Fld Z h114 a_ "com/example/tidewheel/tidewheel/model/KeyedRequest$Answer" "body" "Ljava/lang/String;" (.ref a2) := Fw110.other W114 (Or.inr (slot_ne (Or.inr (hw _ tb_43)) (Or.inr (hw _ tb_45)) (by decide) (t := (.object "java/lang/String")) (t' := (.object "com/example/tidewheel/tidewheel/model/RefusedException$Reason")) (by decide) (by decide)))
  have pre118 : ∀ t, Steps p.tables e below (T114.setTop (mkF m 19 #[.val (.ref a_), .val (.int p1), .val (.ref a2), .val .null] [])) t → Steps p.tables e below (s₁.setTop (entryFrame m #[(.ref a_), (.int p1), (.ref a2), .null] 4)) t := by
    intro t kk
    refine pre104 t ?_
    show Steps p.tables e below (s₁.setTop (mkF m 1 #[.val (.ref a_), .val (.int p1), .val (.ref a2), .val .null] [(.ref a_)])) _
    refine st105 _ ?_
    refine XS.aloadN X105.here hx rfl (hb hby d8_4) rfl rfl ?_
    refine XS.iloadN X105.here hx rfl (hb hby d8_5) rfl ?_
    refine st106 _ ?_
    refine XS.aloadN X106.here hx rfl (hb hby d8_9) rfl rfl ?_
    refine XS.aloadN X106.here hx rfl (hb hby d8_10) rfl rfl ?_
    refine st110 _ ?_
    refine XS.aloadN X110.here hx rfl (hb hby d8_14) rfl rfl ?_
    refine XS.aloadN X110.here hx rfl (hb hby d8_15) rfl rfl ?_
    refine st114 _ ?_
    exact kk
  clear st105 X105 e105 st106 X106 e106 st110 E_a__107 F_a__body_108 F_a__refusal_109 Fw106 X110 e110 st114 E_a__111 F_a__refusal_112 F_a__status_113 Fw110 pre104
  obtain ⟨fs, hr, hrun, hended, hW, hsame⟩ := X114.leave (v := none) (fun _ => rfl)
  refine ⟨_, _, pre118 _ ?_, hrun, hended, _, _, rfl, ?_, ⟨_, rfl⟩, hW, hsame.mono (by decide) (by decide)⟩
  · show Steps p.tables e below (T114.setTop (mkF m 19 #[.val (.ref a_), .val (.int p1), .val (.ref a2), .val .null] [])) _
    exact X114.returnOut hx Bd.returns (hb hby d8_19) hr
  · show Q8_rrn Z a_ p1 a2 h0 n0 _ T114.heap _
    rw [e114]
    exact ⟨rfl, N114, KP114, E_a__115, F_a__status_116, F_a__body_117, Fw114⟩
theorem pd__28ILjava_2flang_2fString_3bLcom_2fexample_2ftidewheel_2ftidewheel_2fmodel_2fRefusedException_24Reason_3b_29V : parseMethodDescriptor "(ILjava/lang/String;Lcom/example/tidewheel/tidewheel/model/RefusedException$Reason;)V" = some ⟨[.int, (.object "java/lang/String"), (.object "com/example/tidewheel/tidewheel/model/RefusedException$Reason")], none⟩ := by decide +kernel
theorem d7_0 : decode prog_31_method_1_code 0 = .ok (.aload_n 0, 1) := by decide +kernel
theorem d7_1 : decode prog_31_method_1_code 1 = .ok (.iload_n 1, 1) := by decide +kernel
theorem d7_2 : decode prog_31_method_1_code 2 = .ok (.aload_n 2, 1) := by decide +kernel
theorem d7_3 : decode prog_31_method_1_code 3 = .ok (.aconst_null, 1) := by decide +kernel
theorem d7_4 : decode prog_31_method_1_code 4 = .ok (.invokespecial 1, 3) := by decide +kernel
theorem d7_7 : decode prog_31_method_1_code 7 = .ok (.return_, 1) := by decide +kernel
theorem ef_7_RIR (m : MethodId) (x0 : Addr) (x1 : Int32) (x2 : Addr) : entryFrame m #[(.ref x0), (.int x1), (.ref x2)] 3 = mkF m 0 #[.val (.ref x0), .val (.int x1), .val (.ref x2)] [] := by first | (simp [entryFrame, mkF, argsToLocals, Value.category]; done) | rfl
def Q7_rr (Z : State) (a_ : Addr) (p1 : Int32) (a2 : Addr) (h0 : Heap) (n0 : Nat) (v : Option Value) (h : Heap) (L : List Loc) : Prop := v = none ∧ Fr n0 L ∧ Keep h0 h [a_] ∧ Exa Z h a_ "com/example/tidewheel/tidewheel/model/KeyedRequest$Answer" ∧ Fld Z h a_ "com/example/tidewheel/tidewheel/model/KeyedRequest$Answer" "status" "I" (.int p1) ∧ Fld Z h a_ "com/example/tidewheel/tidewheel/model/KeyedRequest$Answer" "body" "Ljava/lang/String;" (.ref a2) ∧ Fld Z h a_ "com/example/tidewheel/tidewheel/model/KeyedRequest$Answer" "refusal" "Lcom/example/tidewheel/tidewheel/model/RefusedException$Reason;" .null
set_option maxRecDepth 65536 in
set_option maxHeartbeats 40000000 in
theorem rm7_rr (l : Launch) (Z : State) (aA : Array Value) (hw : ∀ d ∈ tables_1, d.before aA Z = true) (ws : List Jvm.Cond) (a_ : Addr) (p1 : Int32) (a2 : Addr) (h0 : Heap) (n0 : Nat) (Z0 : n0 ≤ h0.size) (E_a : Exa Z h0 a_ "com/example/tidewheel/tidewheel/model/KeyedRequest$Answer") (g_a_ : n0 ≤ a_) (F_status : Fld Z h0 a_ "com/example/tidewheel/tidewheel/model/KeyedRequest$Answer" "status" "I" (.int (0 : Int32))) (F_body : Fld Z h0 a_ "com/example/tidewheel/tidewheel/model/KeyedRequest$Answer" "body" "Ljava/lang/String;" .null) (F_refusal : Fld Z h0 a_ "com/example/tidewheel/tidewheel/model/KeyedRequest$Answer" "refusal" "Lcom/example/tidewheel/tidewheel/model/RefusedException$Reason;" .null) :
    MetFree l (⟨"com/example/tidewheel/tidewheel/model/KeyedRequest$Answer", "<init>", "(ILjava/lang/String;)V"⟩ : MethodName) (head1 (Jvm.Cond.code (⟨"com/example/tidewheel/tidewheel/model/KeyedRequest$Answer", "<init>", "(ILjava/lang/String;)V"⟩ : MethodName) prog_31_method_1_code 3 none :: ws) ({ frames := 2, cells := 0, slots := 0, locals := 27 } : Room)) (fun a U => a = #[(.ref a_), (.int p1), (.ref a2)] ∧ Z.Warmed39 U.vm ∧ U.heap = h0) (fun _ _ _ _ _ => True) (fun _ U o U' => ∃ v L, o = .returned v ∧ Q7_rr Z a_ p1 a2 h0 n0 v U'.heap L ∧ FrameEnd U o U' L ({ frames := 2, cells := 0, slots := 0, locals := 27 } : Room).cells ({ frames := 2, cells := 0, slots := 0, locals := 27 } : Room).slots) := by
  refine MetFree.of_bodySF (plainFor_of_name pn_com_example_tidewheel_tidewheel_model_KeyedRequest_Answer) hisR ?_
  intro p e s m args below meth c s₁ Bd hml0 hP hK
  obtain ⟨rfl, hZ, hh⟩ := hP
  have hx := Bd.exec
  have hby := Bd.bytes
  have hml : c.maxLocals = 3 := hml0
  have hown : s.vm.findClass "com/example/tidewheel/tidewheel/model/KeyedRequest$Answer" = some m.cls := findClass_of_methodNamed Bd.named
  have hnm := (name_of_methodNamed Bd.named Bd.method).1
  have X0 : Stand p l e ({ frames := 2, cells := 0, slots := 0, locals := 27 } : Room) s m #[(.ref a_), (.int p1), (.ref a2)] below meth c s₁ [] 0 0 := Stand.of_body Bd
  have e0 : s₁.heap = h0 := by rw [← hh, Bd.state]; rfl
  have N0 := Fr.nil n0
  have KP0 : Keep h0 h0 [a_] := Keep.refl h0 _
  have pre0 : ∀ t, Steps p.tables e below (s₁.setTop (mkF m 0 #[.val (.ref a_), .val (.int p1), .val (.ref a2)] [])) t → Steps p.tables e below (s₁.setTop (entryFrame m #[(.ref a_), (.int p1), (.ref a2)] 3)) t := fun t k => castTop (ef_7_RIR m a_ p1 a2) k
  have pre103 : ∀ t, Steps p.tables e below (s₁.setTop (mkF m 4 #[.val (.ref a_), .val (.int p1), .val (.ref a2)] [.null, (.ref a2), (.int p1), (.ref a_)])) t → Steps p.tables e below (s₁.setTop (entryFrame m #[(.ref a_), (.int p1), (.ref a2)] 3)) t := by
    intro t kk
    refine pre0 t ?_
    show Steps p.tables e below (s₁.setTop (mkF m 0 #[.val (.ref a_), .val (.int p1), .val (.ref a2)] [])) _
    refine XS.aloadN X0.here hx rfl (hb hby d7_0) rfl rfl ?_
    refine XS.iloadN X0.here hx rfl (hb hby d7_1) rfl ?_
    refine XS.aloadN X0.here hx rfl (hb hby d7_2) rfl rfl ?_
    refine XS.aconstNull X0.here hx rfl (hb hby d7_3) ?_
    exact kk
  obtain ⟨_, _, ⟨T119, L119, k119, n119⟩, -, X119, ⟨Lc119, hQ119, l119, y119, z119⟩, st119⟩ := X0.specialBack hx (y := (⟨"com/example/tidewheel/tidewheel/model/KeyedRequest$Answer", "<init>", "(ILjava/lang/String;Lcom/example/tidewheel/tidewheel/model/RefusedException$Reason;)V"⟩ : MethodName)) rfl hown (mt_36 hZ hw) (mt_37 hZ hw) (mt_38 hZ hw) (by decide) (backOf (W := 0) (rm8_rrn l Z aA hw [] a_ p1 a2 h0 n0 Z0 E_a g_a_ F_status F_body F_refusal) hZ (hw _ tb_38) (hw _ tb_32) (by decide) (by decide)) (g := (mkF m 4 #[.val (.ref a_), .val (.int p1), .val (.ref a2)] [.null, (.ref a2), (.int p1), (.ref a_)])) rfl (by rw [hml]; rfl) (Steps.refl _) (a := a_) (argsL := [(.int p1), (.ref a2), .null]) (rest := []) (lenOf pd__28ILjava_2flang_2fString_3bLcom_2fexample_2ftidewheel_2ftidewheel_2fmodel_2fRefusedException_24Reason_3b_29V rfl) rfl (by show 2 * 0 + _ ≤ _; exact Nat.le_of_eq rfl) (hb hby d7_4) (fun _ _ => ⟨rfl, e0, (by decide : 0 + 0 ≤ _), (by decide : 0 + 0 ≤ _)⟩)
  dsimp only [Pt.U, Pt.locs, Pt.cells, Pt.slots] at X119 l119 y119 z119 st119 hQ119
  replace l119 := l119.symm
  subst l119
  obtain rfl : k119 = 0 := y119
  obtain rfl : n119 = 0 := z119
  obtain ⟨rfl, N119q, K119, Eq119, Fq119_status, Fq119_body, Fq119_refusal⟩ := hQ119
  have N119 := Fr.app N0 N119q
  have KP119 : Keep h0 T119.heap [a_] := KP0.trans K119 (allS (Or.inl (List.mem_of_getElem? (i := 0) rfl)) all0)
  have Z119 : n0 ≤ T119.heap.size := Nat.le_trans Z0 K119.1
  have E_a__120 : Exa Z T119.heap a_ "com/example/tidewheel/tidewheel/model/KeyedRequest$Answer" := E_a.keep K119
  have pre121 : ∀ t, Steps p.tables e below (T119.setTop (mkF m 7 #[.val (.ref a_), .val (.int p1), .val (.ref a2)] [])) t → Steps p.tables e below (s₁.setTop (entryFrame m #[(.ref a_), (.int p1), (.ref a2)] 3)) t := by
    intro t kk
    refine pre103 t ?_
    show Steps p.tables e below (s₁.setTop (mkF m 4 #[.val (.ref a_), .val (.int p1), .val (.ref a2)] [.null, (.ref a2), (.int p1), (.ref a_)])) _
    refine st119.trans ?_
    exact kk
  clear st119 N119q K119 pre103
  obtain ⟨fs, hr, hrun, hended, hW, hsame⟩ := X119.leave (v := none) (fun _ => rfl)
  refine ⟨_, _, pre121 _ ?_, hrun, hended, _, _, rfl, ?_, ⟨_, rfl⟩, hW, hsame.mono (by decide) (by decide)⟩
  · show Steps p.tables e below (T119.setTop (mkF m 7 #[.val (.ref a_), .val (.int p1), .val (.ref a2)] [])) _
    exact X119.returnOut hx Bd.returns (hb hby d7_7) hr
  · show Q7_rr Z a_ p1 a2 h0 n0 _ T119.heap _
    exact ⟨rfl, N119, KP119, Eq119, Fq119_status, Fq119_body, Fq119_refusal⟩
theorem pd__28ILjava_2flang_2fString_3b_29V : parseMethodDescriptor "(ILjava/lang/String;)V" = some ⟨[.int, (.object "java/lang/String")], none⟩ := by decide +kernel
theorem d9_0 : decode prog_30_method_1_code 0 = .ok (.aload_n 0, 1) := by decide +kernel
theorem d9_1 : decode prog_30_method_1_code 1 = .ok (.invokespecial 1, 3) := by decide +kernel
theorem d9_4 : decode prog_30_method_1_code 4 = .ok (.aload_n 0, 1) := by decide +kernel
theorem d9_5 : decode prog_30_method_1_code 5 = .ok (.aload_n 1, 1) := by decide +kernel
theorem d9_6 : decode prog_30_method_1_code 6 = .ok (.putfield 7, 3) := by decide +kernel
theorem d9_9 : decode prog_30_method_1_code 9 = .ok (.aload_n 0, 1) := by decide +kernel
theorem d9_10 : decode prog_30_method_1_code 10 = .ok (.aload_n 2, 1) := by decide +kernel
theorem d9_11 : decode prog_30_method_1_code 11 = .ok (.putfield 13, 3) := by decide +kernel
theorem d9_14 : decode prog_30_method_1_code 14 = .ok (.aload_n 0, 1) := by decide +kernel
theorem d9_15 : decode prog_30_method_1_code 15 = .ok (.aload_n 3, 1) := by decide +kernel
theorem d9_16 : decode prog_30_method_1_code 16 = .ok (.putfield 16, 3) := by decide +kernel
theorem d9_19 : decode prog_30_method_1_code 19 = .ok (.aload_n 0, 1) := by decide +kernel
theorem d9_20 : decode prog_30_method_1_code 20 = .ok (.aload 4, 2) := by decide +kernel
theorem d9_22 : decode prog_30_method_1_code 22 = .ok (.putfield 19, 3) := by decide +kernel
theorem d9_25 : decode prog_30_method_1_code 25 = .ok (.return_, 1) := by decide +kernel
theorem ef_9_RRRRR (m : MethodId) (x0 : Addr) (x1 : Addr) (x2 : Addr) (x3 : Addr) (x4 : Addr) : entryFrame m #[(.ref x0), (.ref x1), (.ref x2), (.ref x3), (.ref x4)] 5 = mkF m 0 #[.val (.ref x0), .val (.ref x1), .val (.ref x2), .val (.ref x3), .val (.ref x4)] [] := by first | (simp [entryFrame, mkF, argsToLocals, Value.category]; done) | rfl
def Q9_rrrr (Z : State) (a_ : Addr) (a1 : Addr) (a2 : Addr) (a3 : Addr) (a4 : Addr) (h0 : Heap) (n0 : Nat) (v : Option Value) (h : Heap) (L : List Loc) : Prop := v = none ∧ Fr n0 L ∧ Keep h0 h [a_] ∧ Exa Z h a_ "com/example/tidewheel/tidewheel/model/KeyedRequest" ∧ Fld Z h a_ "com/example/tidewheel/tidewheel/model/KeyedRequest" "key" "Ljava/lang/String;" (.ref a1) ∧ Fld Z h a_ "com/example/tidewheel/tidewheel/model/KeyedRequest" "request" "Ljava/lang/String;" (.ref a2) ∧ Fld Z h a_ "com/example/tidewheel/tidewheel/model/KeyedRequest" "resource" "Ljava/lang/String;" (.ref a3) ∧ Fld Z h a_ "com/example/tidewheel/tidewheel/model/KeyedRequest" "answer" "Lcom/example/tidewheel/tidewheel/model/KeyedRequest$Answer;" (.ref a4)
set_option maxRecDepth 65536 in
set_option maxHeartbeats 40000000 in
theorem rm9_rrrr (l : Launch) (Z : State) (aA : Array Value) (hw : ∀ d ∈ tables_1, d.before aA Z = true) (ws : List Jvm.Cond) (a_ : Addr) (a1 : Addr) (a2 : Addr) (a3 : Addr) (a4 : Addr) (h0 : Heap) (n0 : Nat) (Z0 : n0 ≤ h0.size) (E_a : Exa Z h0 a_ "com/example/tidewheel/tidewheel/model/KeyedRequest") (g_a_ : n0 ≤ a_) (F_key : Fld Z h0 a_ "com/example/tidewheel/tidewheel/model/KeyedRequest" "key" "Ljava/lang/String;" .null) (F_request : Fld Z h0 a_ "com/example/tidewheel/tidewheel/model/KeyedRequest" "request" "Ljava/lang/String;" .null) (F_resource : Fld Z h0 a_ "com/example/tidewheel/tidewheel/model/KeyedRequest" "resource" "Ljava/lang/String;" .null) (F_answer : Fld Z h0 a_ "com/example/tidewheel/tidewheel/model/KeyedRequest" "answer" "Lcom/example/tidewheel/tidewheel/model/KeyedRequest$Answer;" .null) :
    MetFree l (⟨"com/example/tidewheel/tidewheel/model/KeyedRequest", "<init>", "(Ljava/lang/String;Ljava/lang/String;Ljava/lang/String;Lcom/example/tidewheel/tidewheel/model/KeyedRequest$Answer;)V"⟩ : MethodName) (head1 (Jvm.Cond.code (⟨"com/example/tidewheel/tidewheel/model/KeyedRequest", "<init>", "(Ljava/lang/String;Ljava/lang/String;Ljava/lang/String;Lcom/example/tidewheel/tidewheel/model/KeyedRequest$Answer;)V"⟩ : MethodName) prog_30_method_1_code 5 none :: ws) ({ frames := 1, cells := 0, slots := 0, locals := 12 } : Room)) (fun a U => a = #[(.ref a_), (.ref a1), (.ref a2), (.ref a3), (.ref a4)] ∧ Z.Warmed39 U.vm ∧ U.heap = h0) (fun _ _ _ _ _ => True) (fun _ U o U' => ∃ v L, o = .returned v ∧ Q9_rrrr Z a_ a1 a2 a3 a4 h0 n0 v U'.heap L ∧ FrameEnd U o U' L ({ frames := 1, cells := 0, slots := 0, locals := 12 } : Room).cells ({ frames := 1, cells := 0, slots := 0, locals := 12 } : Room).slots) := by
  refine MetFree.of_bodySF (plainFor_of_name pn_com_example_tidewheel_tidewheel_model_KeyedRequest) hisR ?_
  intro p e s m args below meth c s₁ Bd hml0 hP hK
  obtain ⟨rfl, hZ, hh⟩ := hP
  have hx := Bd.exec
  have hby := Bd.bytes
  have hml : c.maxLocals = 5 := hml0
  have hown : s.vm.findClass "com/example/tidewheel/tidewheel/model/KeyedRequest" = some m.cls := findClass_of_methodNamed Bd.named
  have hnm := (name_of_methodNamed Bd.named Bd.method).1
  have X0 : Stand p l e ({ frames := 1, cells := 0, slots := 0, locals := 12 } : Room) s m #[(.ref a_), (.ref a1), (.ref a2), (.ref a3), (.ref a4)] below meth c s₁ [] 0 0 := Stand.of_body Bd
  have e0 : s₁.heap = h0 := by rw [← hh, Bd.state]; rfl
  have N0 := Fr.nil n0
  have KP0 : Keep h0 h0 [a_] := Keep.refl h0 _
  have pre0 : ∀ t, Steps p.tables e below (s₁.setTop (mkF m 0 #[.val (.ref a_), .val (.ref a1), .val (.ref a2), .val (.ref a3), .val (.ref a4)] [])) t → Steps p.tables e below (s₁.setTop (entryFrame m #[(.ref a_), (.ref a1), (.ref a2), (.ref a3), (.ref a4)] 5)) t := fun t k => castTop (ef_9_RRRRR m a_ a1 a2 a3 a4) k
  have pre152 : ∀ t, Steps p.tables e below (s₁.setTop (mkF m 1 #[.val (.ref a_), .val (.ref a1), .val (.ref a2), .val (.ref a3), .val (.ref a4)] [(.ref a_)])) t → Steps p.tables e below (s₁.setTop (entryFrame m #[(.ref a_), (.ref a1), (.ref a2), (.ref a3), (.ref a4)] 5)) t := by
    intro t kk
    refine pre0 t ?_
    show Steps p.tables e below (s₁.setTop (mkF m 0 #[.val (.ref a_), .val (.ref a1), .val (.ref a2), .val (.ref a3), .val (.ref a4)] [])) _
    refine XS.aloadN X0.here hx rfl (hb hby d9_0) rfl rfl ?_
    exact kk
  obtain ⟨T153, X153, e153, st153⟩ := initO X0 hx hZ hown (hw _ tb_52) (hw _ tb_12) (hw _ tb_13) e0 (g := (mkF m 1 #[.val (.ref a_), .val (.ref a1), .val (.ref a2), .val (.ref a3), .val (.ref a4)] [(.ref a_)])) rfl (by rw [hml]; rfl) rfl (hb hby d9_1) (by decide) (W := 0) (by show 2 * 0 + _ ≤ _; exact Nat.le_of_eq rfl) (by decide)
  obtain ⟨T154, h154, X154, e154, W154, st154⟩ := putF X153 hx hZ hown (host := "") (Or.inl (hw _ tb_53)) Via.refl e153 F_key E_a (Or.inr ⟨(hw _ tb_54), rfl, hnm⟩) (hw _ tb_47) (ty := (.object "java/lang/String")) (by decide) rfl rfl (g := (mkF m 6 #[.val (.ref a_), .val (.ref a1), .val (.ref a2), .val (.ref a3), .val (.ref a4)] [(.ref a1), (.ref a_)])) rfl rfl (hb hby d9_6)
  have Fw154 := F_key.same W154
  have KP154 : Keep h0 h154 [a_] := KP0.wr W154 (Or.inl (List.mem_of_getElem? (i := 0) rfl))
  have Z154 : n0 ≤ h154.size := Nat.le_trans Z0 (Nat.le_of_eq W154.size.symm)
  have N154 := Fr.snoc X154 N0 g_a_
  have E_a__155 : Exa Z h154 a_ "com/example/tidewheel/tidewheel/model/KeyedRequest" := E_a.wr W154
  have F_a__request_156 : Fld Z h154 a_ "com/example/tidewheel/tidewheel/model/KeyedRequest" "request" "Ljava/lang/String;" .null := F_request.other W154 (Or.inr (slot_ne (Or.inr (hw _ tb_56)) (Or.inr (hw _ tb_54)) (by decide) (t := (.object "java/lang/String")) (t' := (.object "java/lang/String")) (by decide) (by decide)))
  have F_a__resource_157 : Fld Z h154 a_ "com/example/tidewheel/tidewheel/model/KeyedRequest" "resource" "Ljava/lang/String;" .null := F_resource.other W154 (Or.inr (slot_ne (Or.inr (hw _ tb_58)) (Or.inr (hw _ tb_54)) (by decide) (t := (.object "java/lang/String")) (t' := (.object "java/lang/String")) (by decide) (by decide)))
  have F_a__answer_158 : Fld Z h154 a_ "com/example/tidewheel/tidewheel/model/KeyedRequest" "answer" "Lcom/example/tidewheel/tidewheel/model/KeyedRequest$Answer;" .null := F_answer.other W154 (Or.inr (slot_ne (Or.inr (hw _ tb_60)) (Or.inr (hw _ tb_54)) (by decide) (t := (.object "com/example/tidewheel/tidewheel/model/KeyedRequest$Answer")) (t' := (.object "java/lang/String")) (by decide) (by decide)))
  obtain ⟨T159, h159, X159, e159, W159, st159⟩ := putF X154 hx hZ hown (host := "") (Or.inl (hw _ tb_55)) Via.refl e154 F_a__request_156 E_a__155 (Or.inr ⟨(hw _ tb_56), rfl, hnm⟩) (hw _ tb_47) (ty := (.object "java/lang/String")) (by decide) rfl rfl (g := (mkF m 11 #[.val (.ref a_), .val (.ref a1), .val (.ref a2), .val (.ref a3), .val (.ref a4)] [(.ref a2), (.ref a_)])) rfl rfl (hb hby d9_11)
  have Fw159 := F_a__request_156.same W159
  have KP159 : Keep h0 h159 [a_] := KP154.wr W159 (Or.inl (List.mem_of_getElem? (i := 0) rfl))
  have Z159 : n0 ≤ h159.size := Nat.le_trans Z154 (Nat.le_of_eq W159.size.symm)
  have N159 := Fr.snoc X159 N154 g_a_
  have E_a__160 : Exa Z h159 a_ "com/example/tidewheel/tidewheel/model/KeyedRequest" := E_a__155.wr W159
  have F_a__resource_161 : Fld Z h159 a_ "com/example/tidewheel/tidewheel/model/KeyedRequest" "resource" "Ljava/lang/String;" .null := F_a__resource_157.other W159 (Or.inr (slot_ne (Or.inr (hw _ tb_58)) (Or.inr (hw _ tb_56)) (by decide) (t := (.object "java/lang/String")) (t' := (.object "java/lang/String")) (by decide) (by decide)))
  have F_a__answer_162 : Fld Z h159 a_ "com/example/tidewheel/tidewheel/model/KeyedRequest" "answer" "Lcom/example/tidewheel/tidewheel/model/KeyedRequest$Answer;" .null := F_a__answer_158.other W159 (Or.inr (slot_ne (Or.inr (hw _ tb_60)) (Or.inr (hw _ tb_56)) (by decide) (t := (.object "com/example/tidewheel/tidewheel/model/KeyedRequest$Answer")) (t' := (.object "java/lang/String")) (by decide) (by decide)))
  have F_a__key_163 : Fld Z h159 a_ "com/example/tidewheel/tidewheel/model/KeyedRequest" "key" "Ljava/lang/String;" (.ref a1) := Fw154.other W159 (Or.inr (slot_ne (Or.inr (hw _ tb_54)) (Or.inr (hw _ tb_56)) (by decide) (t := (.object "java/lang/String")) (t' := (.object "java/lang/String")) (by decide) (by decide)))
  obtain ⟨T164, h164, X164, e164, W164, st164⟩ := putF X159 hx hZ hown (host := "") (Or.inl (hw _ tb_57)) Via.refl e159 F_a__resource_161 E_a__160 (Or.inr ⟨(hw _ tb_58), rfl, hnm⟩) (hw _ tb_47) (ty := (.object "java/lang/String")) (by decide) rfl rfl (g := (mkF m 16 #[.val (.ref a_), .val (.ref a1), .val (.ref a2), .val (.ref a3), .val (.ref a4)] [(.ref a3), (.ref a_)])) rfl rfl (hb hby d9_16)
  have Fw164 := F_a__resource_161.same W164
  have KP164 : Keep h0 h164 [a_] := KP159.wr W164 (Or.inl (List.mem_of_getElem? (i := 0) rfl))
  have Z164 : n0 ≤ h164.size := Nat.le_trans Z159 (Nat.le_of_eq W164.size.symm)
  have N164 := Fr.snoc X164 N159 g_a_
  have E_a__165 : Exa Z h164 a_ "com/example/tidewheel/tidewheel/model/KeyedRequest" := E_a__160.wr W164
  have F_a__answer_166 : Fld Z h164 a_ "com/example/tidewheel/tidewheel/model/KeyedRequest" "answer" "Lcom/example/tidewheel/tidewheel/model/KeyedRequest$Answer;" .null := F_a__answer_162.other W164 (Or.inr (slot_ne (Or.inr (hw _ tb_60)) (Or.inr (hw _ tb_58)) (by decide) (t := (.object "com/example/tidewheel/tidewheel/model/KeyedRequest$Answer")) (t' := (.object "java/lang/String")) (by decide) (by decide)))
  have F_a__key_167 : Fld Z h164 a_ "com/example/tidewheel/tidewheel/model/KeyedRequest" "key" "Ljava/lang/String;" (.ref a1) := F_a__key_163.other W164 (Or.inr (slot_ne (Or.inr (hw _ tb_54)) (Or.inr (hw _ tb_58)) (by decide) (t := (.object "java/lang/String")) (t' := (.object "java/lang/String")) (by decide) (by decide)))
  have F_a__request_168 : Fld Z h164 a_ "com/example/tidewheel/tidewheel/model/KeyedRequest" "request" "Ljava/lang/String;" (.ref a2) := Fw159.other W164 (Or.inr (slot_ne (Or.inr (hw _ tb_56)) (Or.inr (hw _ tb_58)) (by decide) (t := (.object "java/lang/String")) (t' := (.object "java/lang/String")) (by decide) (by decide)))
  obtain ⟨T169, h169, X169, e169, W169, st169⟩ := putF X164 hx hZ hown (host := "") (Or.inl (hw _ tb_59)) Via.refl e164 F_a__answer_166 E_a__165 (Or.inr ⟨(hw _ tb_60), rfl, hnm⟩) (hw _ tb_47) (ty := (.object "com/example/tidewheel/tidewheel/model/KeyedRequest$Answer")) (by decide) rfl rfl (g := (mkF m 22 #[.val (.ref a_), .val (.ref a1), .val (.ref a2), .val (.ref a3), .val (.ref a4)] [(.ref a4), (.ref a_)])) rfl rfl (hb hby d9_22)
  have Fw169 := F_a__answer_166.same W169
  have KP169 : Keep h0 h169 [a_] := KP164.wr W169 (Or.inl (List.mem_of_getElem? (i := 0) rfl))
  have Z169 : n0 ≤ h169.size := Nat.le_trans Z164 (Nat.le_of_eq W169.size.symm)
  have N169 := Fr.snoc X169 N164 g_a_
  have E_a__170 : Exa Z h169 a_ "com/example/tidewheel/tidewheel/model/KeyedRequest" := E_a__165.wr W169
  have F_a__key_171 : Fld Z h169 a_ "com/example/tidewheel/tidewheel/model/KeyedRequest" "key" "Ljava/lang/String;" (.ref a1) := F_a__key_167.other W169 (Or.inr (slot_ne (Or.inr (hw _ tb_54)) (Or.inr (hw _ tb_60)) (by decide) (t := (.object "java/lang/String")) (t' := (.object "com/example/tidewheel/tidewheel/model/KeyedRequest$Answer")) (by decide) (by decide)))
  have F_a__request_172 : Fld Z h169 a_ "com/example/tidewheel/tidewheel/model/KeyedRequest" "request" "Ljava/lang/String;" (.ref a2) := F_a__request_168.other W169 (Or.inr (slot_ne (Or.inr (hw _ tb_56)) (Or.inr (hw _ tb_60)) (by decide) (t := (.object "java/lang/String")) (t' := (.object "com/example/tidewheel/tidewheel/model/KeyedRequest$Answer")) (by decide) (by decide)))
  have F_a__resource_173 : Fld Z h169 a_ "com/example/tidewheel/tidewheel/model/KeyedRequest" "resource" "Ljava/lang/String;" (.ref a3) := Fw164.other W169 (Or.inr (slot_ne (Or.inr (hw _ tb_58)) (Or.inr (hw _ tb_60)) (by decide) (t := (.object "java/lang/String")) (t' := (.object "com/example/tidewheel/tidewheel/model/KeyedRequest$Answer")) (by decide) (by decide)))
  have pre174 : ∀ t, Steps p.tables e below (T169.setTop (mkF m 25 #[.val (.ref a_), .val (.ref a1), .val (.ref a2), .val (.ref a3), .val (.ref a4)] [])) t → Steps p.tables e below (s₁.setTop (entryFrame m #[(.ref a_), (.ref a1), (.ref a2), (.ref a3), (.ref a4)] 5)) t := by
    intro t kk
    refine pre152 t ?_
    show Steps p.tables e below (s₁.setTop (mkF m 1 #[.val (.ref a_), .val (.ref a1), .val (.ref a2), .val (.ref a3), .val (.ref a4)] [(.ref a_)])) _
    refine st153 _ ?_
    refine XS.aloadN X153.here hx rfl (hb hby d9_4) rfl rfl ?_
    refine XS.aloadN X153.here hx rfl (hb hby d9_5) rfl rfl ?_
    refine st154 _ ?_
    refine XS.aloadN X154.here hx rfl (hb hby d9_9) rfl rfl ?_
    refine XS.aloadN X154.here hx rfl (hb hby d9_10) rfl rfl ?_
    refine st159 _ ?_
    refine XS.aloadN X159.here hx rfl (hb hby d9_14) rfl rfl ?_
    refine XS.aloadN X159.here hx rfl (hb hby d9_15) rfl rfl ?_
    refine st164 _ ?_
    refine XS.aloadN X164.here hx rfl (hb hby d9_19) rfl rfl ?_
    refine XS.aload X164.here hx rfl (hb hby d9_20) rfl rfl ?_
    refine st169 _ ?_
    exact kk
  clear st153 X153 e153 st154 X154 e154 st159 E_a__155 F_a__request_156 F_a__resource_157 F_a__answer_158 Fw154 X159 e159 st164 E_a__160 F_a__resource_161 F_a__answer_162 F_a__key_163 Fw159 X164 e164 st169 E_a__165 F_a__answer_166 F_a__key_167 F_a__request_168 Fw164 pre152
  obtain ⟨fs, hr, hrun, hended, hW, hsame⟩ := X169.leave (v := none) (fun _ => rfl)
  refine ⟨_, _, pre174 _ ?_, hrun, hended, _, _, rfl, ?_, ⟨_, rfl⟩, hW, hsame.mono (by decide) (by decide)⟩
  · show Steps p.tables e below (T169.setTop (mkF m 25 #[.val (.ref a_), .val (.ref a1), .val (.ref a2), .val (.ref a3), .val (.ref a4)] [])) _
    exact X169.returnOut hx Bd.returns (hb hby d9_25) hr
  · show Q9_rrrr Z a_ a1 a2 a3 a4 h0 n0 _ T169.heap _
    rw [e169]
    exact ⟨rfl, N169, KP169, E_a__170, F_a__key_171, F_a__request_172, F_a__resource_173, Fw169⟩
theorem pd__28Ljava_2flang_2fString_3bLjava_2flang_2fString_3bLjava_2flang_2fString_3bLcom_2fexample_2ftidewheel_2ftidewheel_2fmodel_2fKeyedRequest_24Answer_3b_29V : parseMethodDescriptor "(Ljava/lang/String;Ljava/lang/String;Ljava/lang/String;Lcom/example/tidewheel/tidewheel/model/KeyedRequest$Answer;)V" = some ⟨[(.object "java/lang/String"), (.object "java/lang/String"), (.object "java/lang/String"), (.object "com/example/tidewheel/tidewheel/model/KeyedRequest$Answer")], none⟩ := by decide +kernel
theorem d10_0 : decode prog_30_method_4_code 0 = .ok (.new 8, 3) := by decide +kernel
theorem d10_3 : decode prog_30_method_4_code 3 = .ok (.dup, 1) := by decide +kernel
theorem d10_4 : decode prog_30_method_4_code 4 = .ok (.aload_n 0, 1) := by decide +kernel
theorem d10_5 : decode prog_30_method_4_code 5 = .ok (.getfield 7, 3) := by decide +kernel
theorem d10_8 : decode prog_30_method_4_code 8 = .ok (.aload_n 0, 1) := by decide +kernel
theorem d10_9 : decode prog_30_method_4_code 9 = .ok (.getfield 13, 3) := by decide +kernel
theorem d10_12 : decode prog_30_method_4_code 12 = .ok (.aload_n 0, 1) := by decide +kernel
theorem d10_13 : decode prog_30_method_4_code 13 = .ok (.getfield 16, 3) := by decide +kernel
theorem d10_16 : decode prog_30_method_4_code 16 = .ok (.aload_n 1, 1) := by decide +kernel
theorem d10_17 : decode prog_30_method_4_code 17 = .ok (.invokespecial 23, 3) := by decide +kernel
theorem d10_20 : decode prog_30_method_4_code 20 = .ok (.areturn, 1) := by decide +kernel
theorem ef_10_RR (m : MethodId) (x0 : Addr) (x1 : Addr) : entryFrame m #[(.ref x0), (.ref x1)] 2 = mkF m 0 #[.val (.ref x0), .val (.ref x1)] [] := by first | (simp [entryFrame, mkF, argsToLocals, Value.category]; done) | rfl
def Q10_rr (Z : State) (a_ : Addr) (d_ : Addr) (k_ : Addr) (r_ : Addr) (c_ : Addr) (h0 : Heap) (n0 : Nat) (v : Option Value) (h : Heap) (L : List Loc) : Prop := ∃ b : Addr, v = some (.ref b) ∧ Fr n0 L ∧ Keep h0 h [] ∧ h0.size ≤ b ∧ Exa Z h b "com/example/tidewheel/tidewheel/model/KeyedRequest" ∧ Fld Z h b "com/example/tidewheel/tidewheel/model/KeyedRequest" "key" "Ljava/lang/String;" (.ref k_) ∧ Fld Z h b "com/example/tidewheel/tidewheel/model/KeyedRequest" "request" "Ljava/lang/String;" (.ref r_) ∧ Fld Z h b "com/example/tidewheel/tidewheel/model/KeyedRequest" "resource" "Ljava/lang/String;" (.ref c_) ∧ Fld Z h b "com/example/tidewheel/tidewheel/model/KeyedRequest" "answer" "Lcom/example/tidewheel/tidewheel/model/KeyedRequest$Answer;" (.ref d_)
set_option maxRecDepth 65536 in
set_option maxHeartbeats 40000000 in
theorem rm10_rr (l : Launch) (Z : State) (aA : Array Value) (hw : ∀ d ∈ tables_1, d.before aA Z = true) (ws : List Jvm.Cond) (a_ : Addr) (d_ : Addr) (k_ : Addr) (r_ : Addr) (c_ : Addr) (h0 : Heap) (n0 : Nat) (Z0 : n0 ≤ h0.size) (F_key : Fld Z h0 a_ "com/example/tidewheel/tidewheel/model/KeyedRequest" "key" "Ljava/lang/String;" (.ref k_)) (F_request : Fld Z h0 a_ "com/example/tidewheel/tidewheel/model/KeyedRequest" "request" "Ljava/lang/String;" (.ref r_)) (F_resource : Fld Z h0 a_ "com/example/tidewheel/tidewheel/model/KeyedRequest" "resource" "Ljava/lang/String;" (.ref c_)) :
    MetFree l (⟨"com/example/tidewheel/tidewheel/model/KeyedRequest", "answered", "(Lcom/example/tidewheel/tidewheel/model/KeyedRequest$Answer;)Lcom/example/tidewheel/tidewheel/model/KeyedRequest;"⟩ : MethodName) (head1 (Jvm.Cond.code (⟨"com/example/tidewheel/tidewheel/model/KeyedRequest", "answered", "(Lcom/example/tidewheel/tidewheel/model/KeyedRequest$Answer;)Lcom/example/tidewheel/tidewheel/model/KeyedRequest;"⟩ : MethodName) prog_30_method_4_code 2 (some (.object "com/example/tidewheel/tidewheel/model/KeyedRequest")) :: ws) ({ frames := 2, cells := 1, slots := 4, locals := 29 } : Room)) (fun a U => a = #[(.ref a_), (.ref d_)] ∧ Z.Warmed39 U.vm ∧ U.heap = h0) (fun _ _ _ _ _ => True) (fun _ U o U' => ∃ v L, o = .returned v ∧ Q10_rr Z a_ d_ k_ r_ c_ h0 n0 v U'.heap L ∧ FrameEnd U o U' L ({ frames := 2, cells := 1, slots := 4, locals := 29 } : Room).cells ({ frames := 2, cells := 1, slots := 4, locals := 29 } : Room).slots) := by
  refine MetFree.of_bodySF (plainFor_of_name pn_com_example_tidewheel_tidewheel_model_KeyedRequest) hisR ?_
  intro p e s m args below meth c s₁ Bd hml0 hP hK
  obtain ⟨rfl, hZ, hh⟩ := hP
  have hx := Bd.exec
  have hby := Bd.bytes
  have hml : c.maxLocals = 2 := hml0
  have hown : s.vm.findClass "com/example/tidewheel/tidewheel/model/KeyedRequest" = some m.cls := findClass_of_methodNamed Bd.named
  have hnm := (name_of_methodNamed Bd.named Bd.method).1
  have X0 : Stand p l e ({ frames := 2, cells := 1, slots := 4, locals := 29 } : Room) s m #[(.ref a_), (.ref d_)] below meth c s₁ [] 0 0 := Stand.of_body Bd
  have e0 : s₁.heap = h0 := by rw [← hh, Bd.state]; rfl
  have N0 := Fr.nil n0
  have KP0 : Keep h0 h0 [] := Keep.refl h0 _
  have pre0 : ∀ t, Steps p.tables e below (s₁.setTop (mkF m 0 #[.val (.ref a_), .val (.ref d_)] [])) t → Steps p.tables e below (s₁.setTop (entryFrame m #[(.ref a_), (.ref d_)] 2)) t := fun t k => castTop (ef_10_RR m a_ d_) k
  obtain ⟨T184, h184, X184, e184, E184, A184, D184, -, st184⟩ := newO X0 hx hZ hown (hw _ tb_66) (hw _ tb_47) (hw _ tb_48) e0 (g := (mkF m 0 #[.val (.ref a_), .val (.ref d_)] [])) rfl (hb hby d10_0) (by decide) (by decide)
  obtain ⟨b184, g184⟩ : ∃ z, z = h0.size := ⟨_, rfl⟩
  rw [← g184] at A184 D184 st184
  have ne_a__b184 : a_ ≠ b184 := Nat.ne_of_lt (Nat.lt_of_lt_of_le F_key.lt (Nat.le_of_eq g184.symm))
  have sz_b184 : h0.size ≤ b184 := Nat.le_trans KP0.1 (Nat.le_of_eq g184.symm)
  have g_b184 : n0 ≤ b184 := Nat.le_trans Z0 (Nat.le_of_eq g184.symm)
  have KP184 : Keep h0 h184 [] := KP0.ext E184
  have Z184 : n0 ≤ h184.size := Nat.le_trans Z0 E184.1
  have F_a__key_185 : Fld Z h184 a_ "com/example/tidewheel/tidewheel/model/KeyedRequest" "key" "Ljava/lang/String;" (.ref k_) := F_key.ext E184
  have F_a__request_186 : Fld Z h184 a_ "com/example/tidewheel/tidewheel/model/KeyedRequest" "request" "Ljava/lang/String;" (.ref r_) := F_request.ext E184
  have F_a__resource_187 : Fld Z h184 a_ "com/example/tidewheel/tidewheel/model/KeyedRequest" "resource" "Ljava/lang/String;" (.ref c_) := F_resource.ext E184
  have F_key_b184 : Fld Z h184 b184 "com/example/tidewheel/tidewheel/model/KeyedRequest" "key" "Ljava/lang/String;" .null := D184 (Or.inr (hw _ tb_54)) (ty := (.object "java/lang/String")) (by decide)
  have F_request_b184 : Fld Z h184 b184 "com/example/tidewheel/tidewheel/model/KeyedRequest" "request" "Ljava/lang/String;" .null := D184 (Or.inr (hw _ tb_56)) (ty := (.object "java/lang/String")) (by decide)
  have F_resource_b184 : Fld Z h184 b184 "com/example/tidewheel/tidewheel/model/KeyedRequest" "resource" "Ljava/lang/String;" .null := D184 (Or.inr (hw _ tb_58)) (ty := (.object "java/lang/String")) (by decide)
  have F_answer_b184 : Fld Z h184 b184 "com/example/tidewheel/tidewheel/model/KeyedRequest" "answer" "Lcom/example/tidewheel/tidewheel/model/KeyedRequest$Answer;" .null := D184 (Or.inr (hw _ tb_60)) (ty := (.object "com/example/tidewheel/tidewheel/model/KeyedRequest$Answer")) (by decide)
  replace X184 : Stand _ _ _ _ _ _ _ _ _ _ _ _ 1 4 := X184
  obtain ⟨T188, X188, e188, st188⟩ := getF X184 hx hZ hown (host := "") (Or.inl (hw _ tb_53)) Via.refl e184 F_a__key_185 (g := (mkF m 5 #[.val (.ref a_), .val (.ref d_)] [(.ref a_), (.ref b184), (.ref b184)])) rfl rfl (hb hby d10_5)
  obtain ⟨T189, X189, e189, st189⟩ := getF X188 hx hZ hown (host := "") (Or.inl (hw _ tb_55)) Via.refl e188 F_a__request_186 (g := (mkF m 9 #[.val (.ref a_), .val (.ref d_)] [(.ref a_), (.ref k_), (.ref b184), (.ref b184)])) rfl rfl (hb hby d10_9)
  obtain ⟨T190, X190, e190, st190⟩ := getF X189 hx hZ hown (host := "") (Or.inl (hw _ tb_57)) Via.refl e189 F_a__resource_187 (g := (mkF m 13 #[.val (.ref a_), .val (.ref d_)] [(.ref a_), (.ref r_), (.ref k_), (.ref b184), (.ref b184)])) rfl rfl (hb hby d10_13)
  have pre191 : ∀ t, Steps p.tables e below (T190.setTop (mkF m 17 #[.val (.ref a_), .val (.ref d_)] [(.ref d_), (.ref c_), (.ref r_), (.ref k_), (.ref b184), (.ref b184)])) t → Steps p.tables e below (s₁.setTop (entryFrame m #[(.ref a_), (.ref d_)] 2)) t := by
    intro t kk
    refine pre0 t ?_
    show Steps p.tables e below (s₁.setTop (mkF m 0 #[.val (.ref a_), .val (.ref d_)] [])) _
    refine st184 _ ?_
    refine XS.dup X184.here hx rfl (hb hby d10_3) rfl rfl ?_
    refine XS.aloadN X184.here hx rfl (hb hby d10_4) rfl rfl ?_
    refine st188 _ ?_
    refine XS.aloadN X188.here hx rfl (hb hby d10_8) rfl rfl ?_
    refine st189 _ ?_
    refine XS.aloadN X189.here hx rfl (hb hby d10_12) rfl rfl ?_
    refine st190 _ ?_
    refine XS.aloadN X190.here hx rfl (hb hby d10_16) rfl rfl ?_
    exact kk
  clear st184 X184 e184 st188 X188 e188 st189 X189 e189 st190
  obtain ⟨_, _, ⟨T192, L192, k192, n192⟩, -, X192, ⟨Lc192, hQ192, l192, y192, z192⟩, st192⟩ := X190.specialBack hx (y := (⟨"com/example/tidewheel/tidewheel/model/KeyedRequest", "<init>", "(Ljava/lang/String;Ljava/lang/String;Ljava/lang/String;Lcom/example/tidewheel/tidewheel/model/KeyedRequest$Answer;)V"⟩ : MethodName)) rfl hown (mt_67 hZ hw) (mt_50 hZ hw) (mt_51 hZ hw) (by decide) (backOf (W := 1) (rm9_rrrr l Z aA hw [] b184 k_ r_ c_ d_ h184 n0 Z184 A184 g_b184 F_key_b184 F_request_b184 F_resource_b184 F_answer_b184) hZ (hw _ tb_51) (hw _ tb_48) (by decide) (by decide)) (g := (mkF m 17 #[.val (.ref a_), .val (.ref d_)] [(.ref d_), (.ref c_), (.ref r_), (.ref k_), (.ref b184), (.ref b184)])) rfl (by rw [hml]; rfl) (Steps.refl _) (a := b184) (argsL := [(.ref k_), (.ref r_), (.ref c_), (.ref d_)]) (rest := [(.ref b184)]) (lenOf pd__28Ljava_2flang_2fString_3bLjava_2flang_2fString_3bLjava_2flang_2fString_3bLcom_2fexample_2ftidewheel_2ftidewheel_2fmodel_2fKeyedRequest_24Answer_3b_29V rfl) rfl (by show 2 * 0 + _ ≤ _; exact Nat.le_of_eq rfl) (hb hby d10_17) (fun _ _ => ⟨rfl, e190, (by decide : 1 + 0 ≤ _), (by decide : 4 + 0 ≤ _)⟩)
  dsimp only [Pt.U, Pt.locs, Pt.cells, Pt.slots] at X192 l192 y192 z192 st192 hQ192
  replace l192 := l192.symm
  subst l192
  obtain rfl : k192 = 1 := y192
  obtain rfl : n192 = 4 := z192
  obtain ⟨rfl, N192q, K192, Eq192, Fq192_key, Fq192_request, Fq192_resource, Fq192_answer⟩ := hQ192
  have N192 := Fr.app N0 N192q
  have KP192 : Keep h0 T192.heap [] := KP184.trans K192 (allS (Or.inr sz_b184) all0)
  have Z192 : n0 ≤ T192.heap.size := Nat.le_trans Z184 K192.1
  have F_a__key_193 : Fld Z T192.heap a_ "com/example/tidewheel/tidewheel/model/KeyedRequest" "key" "Ljava/lang/String;" (.ref k_) := F_a__key_185.keep K192 (ninS ne_a__b184 nin0)
  have F_a__request_194 : Fld Z T192.heap a_ "com/example/tidewheel/tidewheel/model/KeyedRequest" "request" "Ljava/lang/String;" (.ref r_) := F_a__request_186.keep K192 (ninS ne_a__b184 nin0)
  have F_a__resource_195 : Fld Z T192.heap a_ "com/example/tidewheel/tidewheel/model/KeyedRequest" "resource" "Ljava/lang/String;" (.ref c_) := F_a__resource_187.keep K192 (ninS ne_a__b184 nin0)
  have E_b184_196 : Exa Z T192.heap b184 "com/example/tidewheel/tidewheel/model/KeyedRequest" := A184.keep K192
  have pre197 : ∀ t, Steps p.tables e below (T192.setTop (mkF m 20 #[.val (.ref a_), .val (.ref d_)] [(.ref b184)])) t → Steps p.tables e below (s₁.setTop (entryFrame m #[(.ref a_), (.ref d_)] 2)) t := by
    intro t kk
    refine pre191 t ?_
    show Steps p.tables e below (T190.setTop (mkF m 17 #[.val (.ref a_), .val (.ref d_)] [(.ref d_), (.ref c_), (.ref r_), (.ref k_), (.ref b184), (.ref b184)])) _
    refine st192.trans ?_
    exact kk
  clear X190 e190 st192 N192q KP184 Z184 F_a__key_185 F_a__request_186 F_a__resource_187 A184 F_key_b184 F_request_b184 F_resource_b184 F_answer_b184 K192 pre191
  obtain ⟨fs, hr, hrun, hended, hW, hsame⟩ := X192.leave (v := some (.ref b184)) (fun h => by rw [Bd.returns] at h; cases h)
  refine ⟨_, _, pre197 _ ?_, hrun, hended, _, _, rfl, ?_, ⟨_, rfl⟩, hW, hsame.mono (by decide) (by decide)⟩
  · show Steps p.tables e below (T192.setTop (mkF m 20 #[.val (.ref a_), .val (.ref d_)] [(.ref b184)])) _
    exact retOut X192 hx Bd.returns rfl (Or.inr (Or.inr (Or.inr (Or.inr ⟨rfl, rfl, rfl⟩)))) (hb hby d10_20) hr
  · show Q10_rr Z a_ d_ k_ r_ c_ h0 n0 _ T192.heap _
    exact ⟨_, rfl, N192, KP192, sz_b184, Eq192, Fq192_key, Fq192_request, Fq192_resource, Fq192_answer⟩
theorem pd__28Lcom_2fexample_2ftidewheel_2ftidewheel_2fmodel_2fKeyedRequest_24Answer_3b_29Lcom_2fexample_2ftidewheel_2ftidewheel_2fmodel_2fKeyedRequest_3b : parseMethodDescriptor "(Lcom/example/tidewheel/tidewheel/model/KeyedRequest$Answer;)Lcom/example/tidewheel/tidewheel/model/KeyedRequest;" = some ⟨[(.object "com/example/tidewheel/tidewheel/model/KeyedRequest$Answer")], some (.object "com/example/tidewheel/tidewheel/model/KeyedRequest")⟩ := by decide +kernel
theorem d18_0 : decode jdk_32_method_2_code 0 = .ok (.aload_n 0, 1) := by decide +kernel
theorem d18_1 : decode jdk_32_method_2_code 1 = .ok (.invokespecial 7, 3) := by decide +kernel
theorem d18_4 : decode jdk_32_method_2_code 4 = .ok (.aload_n 0, 1) := by decide +kernel
theorem d18_5 : decode jdk_32_method_2_code 5 = .ok (.aload_n 1, 1) := by decide +kernel
theorem d18_6 : decode jdk_32_method_2_code 6 = .ok (.putfield 13, 3) := by decide +kernel
theorem d18_9 : decode jdk_32_method_2_code 9 = .ok (.return_, 1) := by decide +kernel
theorem pn_java_util_Optional : plainName "java/util/Optional" = true := by first | (simp [plainName, overriddenIn]; done) | decide +kernel
theorem ef_18_RR (m : MethodId) (x0 : Addr) (x1 : Addr) : entryFrame m #[(.ref x0), (.ref x1)] 2 = mkF m 0 #[.val (.ref x0), .val (.ref x1)] [] := by first | (simp [entryFrame, mkF, argsToLocals, Value.category]; done) | rfl
def Q18_r (Z : State) (a_ : Addr) (a1 : Addr) (h0 : Heap) (n0 : Nat) (v : Option Value) (h : Heap) (L : List Loc) : Prop := v = none ∧ Fr n0 L ∧ Keep h0 h [a_] ∧ Exa Z h a_ "java/util/Optional" ∧ Fld Z h a_ "java/util/Optional" "value" "Ljava/lang/Object;" (.ref a1)
set_option maxRecDepth 65536 in
set_option maxHeartbeats 40000000 in
theorem rm18_r (l : Launch) (Z : State) (aA : Array Value) (hw : ∀ d ∈ tables_1, d.before aA Z = true) (ws : List Jvm.Cond) (a_ : Addr) (a1 : Addr) (h0 : Heap) (n0 : Nat) (Z0 : n0 ≤ h0.size) (E_a : Exa Z h0 a_ "java/util/Optional") (g_a_ : n0 ≤ a_) (F_value : Fld Z h0 a_ "java/util/Optional" "value" "Ljava/lang/Object;" .null) :
    MetFree l (⟨"java/util/Optional", "<init>", "(Ljava/lang/Object;)V"⟩ : MethodName) (head1 (Jvm.Cond.code (⟨"java/util/Optional", "<init>", "(Ljava/lang/Object;)V"⟩ : MethodName) jdk_32_method_2_code 2 none :: ws) ({ frames := 1, cells := 0, slots := 0, locals := 12 } : Room)) (fun a U => a = #[(.ref a_), (.ref a1)] ∧ Z.Warmed39 U.vm ∧ U.heap = h0) (fun _ _ _ _ _ => True) (fun _ U o U' => ∃ v L, o = .returned v ∧ Q18_r Z a_ a1 h0 n0 v U'.heap L ∧ FrameEnd U o U' L ({ frames := 1, cells := 0, slots := 0, locals := 12 } : Room).cells ({ frames := 1, cells := 0, slots := 0, locals := 12 } : Room).slots) := by
  refine MetFree.of_bodySF (plainFor_of_name pn_java_util_Optional) hisR ?_
  intro p e s m args below meth c s₁ Bd hml0 hP hK
  obtain ⟨rfl, hZ, hh⟩ := hP
  have hx := Bd.exec
  have hby := Bd.bytes
  have hml : c.maxLocals = 2 := hml0
  have hown : s.vm.findClass "java/util/Optional" = some m.cls := findClass_of_methodNamed Bd.named
  have hnm := (name_of_methodNamed Bd.named Bd.method).1
  have X0 : Stand p l e ({ frames := 1, cells := 0, slots := 0, locals := 12 } : Room) s m #[(.ref a_), (.ref a1)] below meth c s₁ [] 0 0 := Stand.of_body Bd
  have e0 : s₁.heap = h0 := by rw [← hh, Bd.state]; rfl
  have N0 := Fr.nil n0
  have KP0 : Keep h0 h0 [a_] := Keep.refl h0 _
  have pre0 : ∀ t, Steps p.tables e below (s₁.setTop (mkF m 0 #[.val (.ref a_), .val (.ref a1)] [])) t → Steps p.tables e below (s₁.setTop (entryFrame m #[(.ref a_), (.ref a1)] 2)) t := fun t k => castTop (ef_18_RR m a_ a1) k
  have pre218 : ∀ t, Steps p.tables e below (s₁.setTop (mkF m 1 #[.val (.ref a_), .val (.ref a1)] [(.ref a_)])) t → Steps p.tables e below (s₁.setTop (entryFrame m #[(.ref a_), (.ref a1)] 2)) t := by
    intro t kk
    refine pre0 t ?_
    show Steps p.tables e below (s₁.setTop (mkF m 0 #[.val (.ref a_), .val (.ref a1)] [])) _
    refine XS.aloadN X0.here hx rfl (hb hby d18_0) rfl rfl ?_
    exact kk
  obtain ⟨T219, X219, e219, st219⟩ := initO X0 hx hZ hown (hw _ tb_111) (hw _ tb_12) (hw _ tb_13) e0 (g := (mkF m 1 #[.val (.ref a_), .val (.ref a1)] [(.ref a_)])) rfl (by rw [hml]; rfl) rfl (hb hby d18_1) (by decide) (W := 0) (by show 2 * 0 + _ ≤ _; exact Nat.le_of_eq rfl) (by decide)
  obtain ⟨T220, h220, X220, e220, W220, st220⟩ := putF X219 hx hZ hown (host := "") (Or.inl (hw _ tb_83)) Via.refl e219 F_value E_a (Or.inr ⟨(hw _ tb_84), rfl, hnm⟩) (hw _ tb_106) (ty := (.object "java/lang/Object")) (by decide) rfl rfl (g := (mkF m 6 #[.val (.ref a_), .val (.ref a1)] [(.ref a1), (.ref a_)])) rfl rfl (hb hby d18_6)
  have Fw220 := F_value.same W220
  have KP220 : Keep h0 h220 [a_] := KP0.wr W220 (Or.inl (List.mem_of_getElem? (i := 0) rfl))
  have Z220 : n0 ≤ h220.size := Nat.le_trans Z0 (Nat.le_of_eq W220.size.symm)
  have N220 := Fr.snoc X220 N0 g_a_
  have E_a__221 : Exa Z h220 a_ "java/util/Optional" := E_a.wr W220
  have pre222 : ∀ t, Steps p.tables e below (T220.setTop (mkF m 9 #[.val (.ref a_), .val (.ref a1)] [])) t → Steps p.tables e below (s₁.setTop (entryFrame m #[(.ref a_), (.ref a1)] 2)) t := by
    intro t kk
    refine pre218 t ?_
    show Steps p.tables e below (s₁.setTop (mkF m 1 #[.val (.ref a_), .val (.ref a1)] [(.ref a_)])) _
    refine st219 _ ?_
    refine XS.aloadN X219.here hx rfl (hb hby d18_4) rfl rfl ?_
    refine XS.aloadN X219.here hx rfl (hb hby d18_5) rfl rfl ?_
    refine st220 _ ?_
    exact kk
  clear st219 X219 e219 st220 pre218
  obtain ⟨fs, hr, hrun, hended, hW, hsame⟩ := X220.leave (v := none) (fun _ => rfl)
  refine ⟨_, _, pre222 _ ?_, hrun, hended, _, _, rfl, ?_, ⟨_, rfl⟩, hW, hsame.mono (by decide) (by decide)⟩
  · show Steps p.tables e below (T220.setTop (mkF m 9 #[.val (.ref a_), .val (.ref a1)] [])) _
    exact X220.returnOut hx Bd.returns (hb hby d18_9) hr
  · show Q18_r Z a_ a1 h0 n0 _ T220.heap _
    rw [e220]
    exact ⟨rfl, N220, KP220, E_a__221, Fw220⟩
theorem pd__28Ljava_2flang_2fObject_3b_29V : parseMethodDescriptor "(Ljava/lang/Object;)V" = some ⟨[(.object "java/lang/Object")], none⟩ := by decide +kernel
theorem d12_0 : decode jdk_32_method_4_code 0 = .ok (.aload_n 0, 1) := by decide +kernel
theorem d12_1 : decode jdk_32_method_4_code 1 = .ok (.ifnonnull 9, 3) := by decide +kernel
theorem d12_10 : decode jdk_32_method_4_code 10 = .ok (.new 2, 3) := by decide +kernel
theorem d12_13 : decode jdk_32_method_4_code 13 = .ok (.dup, 1) := by decide +kernel
theorem d12_14 : decode jdk_32_method_4_code 14 = .ok (.aload_n 0, 1) := by decide +kernel
theorem d12_15 : decode jdk_32_method_4_code 15 = .ok (.invokespecial 23, 3) := by decide +kernel
theorem d12_18 : decode jdk_32_method_4_code 18 = .ok (.areturn, 1) := by decide +kernel
theorem ef_12_R (m : MethodId) (x0 : Addr) : entryFrame m #[(.ref x0)] 1 = mkF m 0 #[.val (.ref x0)] [] := by first | (simp [entryFrame, mkF, argsToLocals, Value.category]; done) | rfl
def Q12_r (Z : State) (a_ : Addr) (wE : Addr) (h0 : Heap) (n0 : Nat) (v : Option Value) (h : Heap) (L : List Loc) : Prop := ∃ b : Addr, v = some (.ref b) ∧ Fr n0 L ∧ Keep h0 h [] ∧ Exa Z h b "java/util/Optional" ∧ Fld Z h b "java/util/Optional" "value" "Ljava/lang/Object;" (.ref a_)
set_option maxRecDepth 65536 in
set_option maxHeartbeats 40000000 in
theorem rm12_r (l : Launch) (Z : State) (aA : Array Value) (hw : ∀ d ∈ tables_1, d.before aA Z = true) (ws : List Jvm.Cond) (a_ : Addr) (wE : Addr) (h0 : Heap) (n0 : Nat) (Z0 : n0 ≤ h0.size) (O0 : Old Z n0 h0) (S_EMPTY : Sta Z Z.heap "java/util/Optional" "EMPTY" "Ljava/util/Optional;" (.ref wE)) (X_EMPTY : Exa Z Z.heap wE "java/util/Optional") (G_EMPTY : Fld Z Z.heap wE "java/util/Optional" "value" "Ljava/lang/Object;" .null) :
    MetFree l (⟨"java/util/Optional", "ofNullable", "(Ljava/lang/Object;)Ljava/util/Optional;"⟩ : MethodName) (head1 (Jvm.Cond.code (⟨"java/util/Optional", "ofNullable", "(Ljava/lang/Object;)Ljava/util/Optional;"⟩ : MethodName) jdk_32_method_4_code 1 (some (.object "java/util/Optional")) :: ws) ({ frames := 2, cells := 1, slots := 1, locals := 26 } : Room)) (fun a U => a = #[(.ref a_)] ∧ Z.Warmed39 U.vm ∧ U.heap = h0) (fun _ _ _ _ _ => True) (fun _ U o U' => ∃ v L, o = .returned v ∧ Q12_r Z a_ wE h0 n0 v U'.heap L ∧ FrameEnd U o U' L ({ frames := 2, cells := 1, slots := 1, locals := 26 } : Room).cells ({ frames := 2, cells := 1, slots := 1, locals := 26 } : Room).slots) := by
  refine MetFree.of_bodySF (plainFor_of_name pn_java_util_Optional) hisR ?_
  intro p e s m args below meth c s₁ Bd hml0 hP hK
  obtain ⟨rfl, hZ, hh⟩ := hP
  have hx := Bd.exec
  have hby := Bd.bytes
  have hml : c.maxLocals = 1 := hml0
  have hown : s.vm.findClass "java/util/Optional" = some m.cls := findClass_of_methodNamed Bd.named
  have hnm := (name_of_methodNamed Bd.named Bd.method).1
  have X0 : Stand p l e ({ frames := 2, cells := 1, slots := 1, locals := 26 } : Room) s m #[(.ref a_)] below meth c s₁ [] 0 0 := Stand.of_body Bd
  have e0 : s₁.heap = h0 := by rw [← hh, Bd.state]; rfl
  have N0 := Fr.nil n0
  have KP0 : Keep h0 h0 [] := Keep.refl h0 _
  have pre0 : ∀ t, Steps p.tables e below (s₁.setTop (mkF m 0 #[.val (.ref a_)] [])) t → Steps p.tables e below (s₁.setTop (entryFrame m #[(.ref a_)] 1)) t := fun t k => castTop (ef_12_R m a_) k
  obtain ⟨T213, h213, X213, e213, E213, A213, D213, -, st213⟩ := newO X0 hx hZ hown (hw _ tb_105) (hw _ tb_106) (hw _ tb_75) e0 (g := (mkF m 10 #[.val (.ref a_)] [])) rfl (hb hby d12_10) (by decide) (by decide)
  obtain ⟨b213, g213⟩ : ∃ z, z = h0.size := ⟨_, rfl⟩
  rw [← g213] at A213 D213 st213
  have ne_wE_b213 : wE ≠ b213 := Nat.ne_of_lt (Nat.lt_of_lt_of_le (X_EMPTY.ext O0.2).lt (Nat.le_of_eq g213.symm))
  have sz_b213 : h0.size ≤ b213 := Nat.le_trans KP0.1 (Nat.le_of_eq g213.symm)
  have g_b213 : n0 ≤ b213 := Nat.le_trans Z0 (Nat.le_of_eq g213.symm)
  have KP213 : Keep h0 h213 [] := KP0.ext E213
  have Z213 : n0 ≤ h213.size := Nat.le_trans Z0 E213.1
  have O_214 : Old Z n0 h213 := O0.ext E213
  have E_wE_215 : Exa Z h213 wE "java/util/Optional" := (X_EMPTY.ext O0.2).ext E213
  have F_wE_value_216 : Fld Z h213 wE "java/util/Optional" "value" "Ljava/lang/Object;" .null := (G_EMPTY.ext O0.2).ext E213
  have F_value_b213 : Fld Z h213 b213 "java/util/Optional" "value" "Ljava/lang/Object;" .null := D213 (Or.inr (hw _ tb_84)) (ty := (.object "java/lang/Object")) (by decide)
  replace X213 : Stand _ _ _ _ _ _ _ _ _ _ _ _ 1 1 := X213
  have pre217 : ∀ t, Steps p.tables e below (T213.setTop (mkF m 15 #[.val (.ref a_)] [(.ref a_), (.ref b213), (.ref b213)])) t → Steps p.tables e below (s₁.setTop (entryFrame m #[(.ref a_)] 1)) t := by
    intro t kk
    refine pre0 t ?_
    show Steps p.tables e below (s₁.setTop (mkF m 0 #[.val (.ref a_)] [])) _
    refine XS.aloadN X0.here hx rfl (hb hby d12_0) rfl rfl ?_
    refine XS.ifnonnullYes X0.here hx rfl (pc0 := 1) (pc' := 10) rfl (hb hby d12_1) rfl (by decide) (by decide) ?_
    refine st213 _ ?_
    refine XS.dup X213.here hx rfl (hb hby d12_13) rfl rfl ?_
    refine XS.aloadN X213.here hx rfl (hb hby d12_14) rfl rfl ?_
    exact kk
  clear st213
  obtain ⟨_, _, ⟨T223, L223, k223, n223⟩, -, X223, ⟨Lc223, hQ223, l223, y223, z223⟩, st223⟩ := X213.specialBack hx (y := (⟨"java/util/Optional", "<init>", "(Ljava/lang/Object;)V"⟩ : MethodName)) rfl hown (mt_107 hZ hw) (mt_108 hZ hw) (mt_110 hZ hw) (by decide) (backOf (W := 1) (rm18_r l Z aA hw [] b213 a_ h213 n0 Z213 A213 g_b213 F_value_b213) hZ (hw _ tb_110) (hw _ tb_75) (by decide) (by decide)) (g := (mkF m 15 #[.val (.ref a_)] [(.ref a_), (.ref b213), (.ref b213)])) rfl (by rw [hml]; rfl) (Steps.refl _) (a := b213) (argsL := [(.ref a_)]) (rest := [(.ref b213)]) (lenOf pd__28Ljava_2flang_2fObject_3b_29V rfl) rfl (by show 2 * 0 + _ ≤ _; exact Nat.le_of_eq rfl) (hb hby d12_15) (fun _ _ => ⟨rfl, e213, (by decide : 1 + 0 ≤ _), (by decide : 1 + 0 ≤ _)⟩)
  dsimp only [Pt.U, Pt.locs, Pt.cells, Pt.slots] at X223 l223 y223 z223 st223 hQ223
  replace l223 := l223.symm
  subst l223
  obtain rfl : k223 = 1 := y223
  obtain rfl : n223 = 1 := z223
  obtain ⟨rfl, N223q, K223, Eq223, Fq223_value⟩ := hQ223
  have N223 := Fr.app N0 N223q
  have KP223 : Keep h0 T223.heap [] := KP213.trans K223 (allS (Or.inr sz_b213) all0)
  have Z223 : n0 ≤ T223.heap.size := Nat.le_trans Z213 K223.1
  have O_224 : Old Z n0 T223.heap := O_214.keep K223 (allS g_b213 all0)
  have E_wE_225 : Exa Z T223.heap wE "java/util/Optional" := E_wE_215.keep K223
  have F_wE_value_226 : Fld Z T223.heap wE "java/util/Optional" "value" "Ljava/lang/Object;" .null := F_wE_value_216.keep K223 (ninS ne_wE_b213 nin0)
  have E_b213_227 : Exa Z T223.heap b213 "java/util/Optional" := A213.keep K223
  have pre228 : ∀ t, Steps p.tables e below (T223.setTop (mkF m 18 #[.val (.ref a_)] [(.ref b213)])) t → Steps p.tables e below (s₁.setTop (entryFrame m #[(.ref a_)] 1)) t := by
    intro t kk
    refine pre217 t ?_
    show Steps p.tables e below (T213.setTop (mkF m 15 #[.val (.ref a_)] [(.ref a_), (.ref b213), (.ref b213)])) _
    refine st223.trans ?_
    exact kk
  clear X213 e213 st223 N223q KP213 Z213 O_214 E_wE_215 F_wE_value_216 A213 F_value_b213 K223 pre217
  obtain ⟨fs, hr, hrun, hended, hW, hsame⟩ := X223.leave (v := some (.ref b213)) (fun h => by rw [Bd.returns] at h; cases h)
  refine ⟨_, _, pre228 _ ?_, hrun, hended, _, _, rfl, ?_, ⟨_, rfl⟩, hW, hsame.mono (by decide) (by decide)⟩
  · show Steps p.tables e below (T223.setTop (mkF m 18 #[.val (.ref a_)] [(.ref b213)])) _
    exact retOut X223 hx Bd.returns rfl (Or.inr (Or.inr (Or.inr (Or.inr ⟨rfl, rfl, rfl⟩)))) (hb hby d12_18) hr
  · show Q12_r Z a_ wE h0 n0 _ T223.heap _
    exact ⟨_, rfl, N223, KP223, Eq223, Fq223_value⟩
theorem pd__28Ljava_2flang_2fObject_3b_29Ljava_2futil_2fOptional_3b : parseMethodDescriptor "(Ljava/lang/Object;)Ljava/util/Optional;" = some ⟨[(.object "java/lang/Object")], some (.object "java/util/Optional")⟩ := by decide +kernel
theorem d11_0 : decode prog_30_method_7_code 0 = .ok (.aload_n 0, 1) := by decide +kernel
theorem d11_1 : decode prog_30_method_7_code 1 = .ok (.getfield 16, 3) := by decide +kernel
theorem d11_4 : decode prog_30_method_7_code 4 = .ok (.invokestatic 26, 3) := by decide +kernel
theorem d11_7 : decode prog_30_method_7_code 7 = .ok (.areturn, 1) := by decide +kernel
theorem ef_11_R (m : MethodId) (x0 : Addr) : entryFrame m #[(.ref x0)] 1 = mkF m 0 #[.val (.ref x0)] [] := by first | (simp [entryFrame, mkF, argsToLocals, Value.category]; done) | rfl
def Q11_r (Z : State) (a_ : Addr) (c_ : Addr) (wE : Addr) (h0 : Heap) (n0 : Nat) (v : Option Value) (h : Heap) (L : List Loc) : Prop := ∃ b : Addr, v = some (.ref b) ∧ Fr n0 L ∧ Keep h0 h [] ∧ Exa Z h b "java/util/Optional" ∧ Fld Z h b "java/util/Optional" "value" "Ljava/lang/Object;" (.ref c_)
set_option maxRecDepth 65536 in
set_option maxHeartbeats 40000000 in
theorem rm11_r (l : Launch) (Z : State) (aA : Array Value) (hw : ∀ d ∈ tables_1, d.before aA Z = true) (ws : List Jvm.Cond) (a_ : Addr) (c_ : Addr) (wE : Addr) (h0 : Heap) (n0 : Nat) (Z0 : n0 ≤ h0.size) (O0 : Old Z n0 h0) (S_EMPTY : Sta Z Z.heap "java/util/Optional" "EMPTY" "Ljava/util/Optional;" (.ref wE)) (X_EMPTY : Exa Z Z.heap wE "java/util/Optional") (G_EMPTY : Fld Z Z.heap wE "java/util/Optional" "value" "Ljava/lang/Object;" .null) (F_f : Fld Z h0 a_ "com/example/tidewheel/tidewheel/model/KeyedRequest" "resource" "Ljava/lang/String;" (.ref c_)) :
    MetFree l (⟨"com/example/tidewheel/tidewheel/model/KeyedRequest", "resource", "()Ljava/util/Optional;"⟩ : MethodName) (head1 (Jvm.Cond.code (⟨"com/example/tidewheel/tidewheel/model/KeyedRequest", "resource", "()Ljava/util/Optional;"⟩ : MethodName) prog_30_method_7_code 1 (some (.object "java/util/Optional")) :: ws) ({ frames := 3, cells := 1, slots := 1, locals := 38 } : Room)) (fun a U => a = #[(.ref a_)] ∧ Z.Warmed39 U.vm ∧ U.heap = h0) (fun _ _ _ _ _ => True) (fun _ U o U' => ∃ v L, o = .returned v ∧ Q11_r Z a_ c_ wE h0 n0 v U'.heap L ∧ FrameEnd U o U' L ({ frames := 3, cells := 1, slots := 1, locals := 38 } : Room).cells ({ frames := 3, cells := 1, slots := 1, locals := 38 } : Room).slots) := by
  refine MetFree.of_bodySF (plainFor_of_name pn_com_example_tidewheel_tidewheel_model_KeyedRequest) hisR ?_
  intro p e s m args below meth c s₁ Bd hml0 hP hK
  obtain ⟨rfl, hZ, hh⟩ := hP
  have hx := Bd.exec
  have hby := Bd.bytes
  have hml : c.maxLocals = 1 := hml0
  have hown : s.vm.findClass "com/example/tidewheel/tidewheel/model/KeyedRequest" = some m.cls := findClass_of_methodNamed Bd.named
  have hnm := (name_of_methodNamed Bd.named Bd.method).1
  have X0 : Stand p l e ({ frames := 3, cells := 1, slots := 1, locals := 38 } : Room) s m #[(.ref a_)] below meth c s₁ [] 0 0 := Stand.of_body Bd
  have e0 : s₁.heap = h0 := by rw [← hh, Bd.state]; rfl
  have N0 := Fr.nil n0
  have KP0 : Keep h0 h0 [] := Keep.refl h0 _
  have pre0 : ∀ t, Steps p.tables e below (s₁.setTop (mkF m 0 #[.val (.ref a_)] [])) t → Steps p.tables e below (s₁.setTop (entryFrame m #[(.ref a_)] 1)) t := fun t k => castTop (ef_11_R m a_) k
  obtain ⟨T211, X211, e211, st211⟩ := getF X0 hx hZ hown (host := "") (Or.inl (hw _ tb_57)) Via.refl e0 F_f (g := (mkF m 1 #[.val (.ref a_)] [(.ref a_)])) rfl rfl (hb hby d11_1)
  have pre212 : ∀ t, Steps p.tables e below (T211.setTop (mkF m 4 #[.val (.ref a_)] [(.ref c_)])) t → Steps p.tables e below (s₁.setTop (entryFrame m #[(.ref a_)] 1)) t := by
    intro t kk
    refine pre0 t ?_
    show Steps p.tables e below (s₁.setTop (mkF m 0 #[.val (.ref a_)] [])) _
    refine XS.aloadN X0.here hx rfl (hb hby d11_0) rfl rfl ?_
    refine st211 _ ?_
    exact kk
  clear st211
  obtain ⟨_, _, ⟨T229, L229, k229, n229⟩, -, X229, ⟨Lc229, hQ229, l229, y229, z229⟩, st229⟩ := Jvm.LawKit.callS X211 hx (y := (⟨"java/util/Optional", "ofNullable", "(Ljava/lang/Object;)Ljava/util/Optional;"⟩ : MethodName)) hown (mt_73 hZ hw) (mt_74 hZ hw) (mt_75 hZ hw) (mt_76 hZ hw) (by decide) (backOf (W := 0) (rm12_r l Z aA hw [] c_ wE h0 n0 Z0 O0 S_EMPTY X_EMPTY G_EMPTY) hZ (hw _ tb_76) (hw _ tb_75) (by decide) (by decide)) (g := (mkF m 4 #[.val (.ref a_)] [(.ref c_)])) rfl (by rw [hml]; rfl) (argsL := [(.ref c_)]) (rest := []) (lenOf pd__28Ljava_2flang_2fObject_3b_29Ljava_2futil_2fOptional_3b rfl) rfl (by show 2 * 0 + _ ≤ _; exact Nat.le_of_eq rfl) (hb hby d11_4) (fun _ _ => ⟨rfl, e211, (by decide : 0 + 1 ≤ _), (by decide : 0 + 1 ≤ _)⟩)
  dsimp only [Pt.U, Pt.locs, Pt.cells, Pt.slots] at X229 l229 y229 z229 st229 hQ229
  replace l229 := l229.symm
  subst l229
  obtain rfl : k229 = 1 := y229
  obtain rfl : n229 = 1 := z229
  obtain ⟨b229, rfl, N229q, K229, Eq229, Fq229⟩ := hQ229
  have N229 := Fr.app N0 N229q
  have KP229 : Keep h0 T229.heap [] := KP0.trans K229 all0
  have Z229 : n0 ≤ T229.heap.size := Nat.le_trans Z0 K229.1
  have O_230 : Old Z n0 T229.heap := O0.keep K229 all0
  have E_wE_231 : Exa Z T229.heap wE "java/util/Optional" := (X_EMPTY.ext O0.2).keep K229
  have F_wE_value_232 : Fld Z T229.heap wE "java/util/Optional" "value" "Ljava/lang/Object;" .null := (G_EMPTY.ext O0.2).keep K229 nin0
  have F_a__resource_233 : Fld Z T229.heap a_ "com/example/tidewheel/tidewheel/model/KeyedRequest" "resource" "Ljava/lang/String;" (.ref c_) := F_f.keep K229 nin0
  have pre234 : ∀ t, Steps p.tables e below (T229.setTop (mkF m 7 #[.val (.ref a_)] [(.ref b229)])) t → Steps p.tables e below (s₁.setTop (entryFrame m #[(.ref a_)] 1)) t := by
    intro t kk
    refine pre212 t ?_
    show Steps p.tables e below (T211.setTop (mkF m 4 #[.val (.ref a_)] [(.ref c_)])) _
    refine st229 _ ?_
    exact kk
  clear X211 e211 st229 N229q K229 pre212
  obtain ⟨fs, hr, hrun, hended, hW, hsame⟩ := X229.leave (v := some (.ref b229)) (fun h => by rw [Bd.returns] at h; cases h)
  refine ⟨_, _, pre234 _ ?_, hrun, hended, _, _, rfl, ?_, ⟨_, rfl⟩, hW, hsame.mono (by decide) (by decide)⟩
  · show Steps p.tables e below (T229.setTop (mkF m 7 #[.val (.ref a_)] [(.ref b229)])) _
    exact retOut X229 hx Bd.returns rfl (Or.inr (Or.inr (Or.inr (Or.inr ⟨rfl, rfl, rfl⟩)))) (hb hby d11_7) hr
  · show Q11_r Z a_ c_ wE h0 n0 _ T229.heap _
    exact ⟨_, rfl, N229, KP229, Eq229, Fq229⟩
theorem pd__28_29Ljava_2futil_2fOptional_3b : parseMethodDescriptor "()Ljava/util/Optional;" = some ⟨[], some (.object "java/util/Optional")⟩ := by decide +kernel
theorem d13_0 : decode jdk_32_method_15_code 0 = .ok (.aload_n 0, 1) := by decide +kernel
theorem d13_1 : decode jdk_32_method_15_code 1 = .ok (.getfield 13, 3) := by decide +kernel
theorem d13_4 : decode jdk_32_method_15_code 4 = .ok (.ifnull 10, 3) := by decide +kernel
theorem d13_7 : decode jdk_32_method_15_code 7 = .ok (.aload_n 0, 1) := by decide +kernel
theorem d13_8 : decode jdk_32_method_15_code 8 = .ok (.getfield 13, 3) := by decide +kernel
theorem d13_11 : decode jdk_32_method_15_code 11 = .ok (.goto 4, 3) := by decide +kernel
theorem d13_15 : decode jdk_32_method_15_code 15 = .ok (.areturn, 1) := by decide +kernel
theorem ef_13_Rn (m : MethodId) (x0 : Addr) : entryFrame m #[(.ref x0), .null] 2 = mkF m 0 #[.val (.ref x0), .val .null] [] := by first | (simp [entryFrame, mkF, argsToLocals, Value.category]; done) | rfl
def Q13_r (Z : State) (a_ : Addr) (c_ : Addr) (h0 : Heap) (n0 : Nat) (v : Option Value) (h : Heap) (L : List Loc) : Prop := v = some (.ref c_) ∧ Fr n0 L ∧ h = h0
set_option maxRecDepth 65536 in
set_option maxHeartbeats 40000000 in
theorem rm13_r (l : Launch) (Z : State) (aA : Array Value) (hw : ∀ d ∈ tables_1, d.before aA Z = true) (ws : List Jvm.Cond) (a_ : Addr) (c_ : Addr) (h0 : Heap) (n0 : Nat) (Z0 : n0 ≤ h0.size) (F_v : Fld Z h0 a_ "java/util/Optional" "value" "Ljava/lang/Object;" (.ref c_)) :
    MetFree l (⟨"java/util/Optional", "orElse", "(Ljava/lang/Object;)Ljava/lang/Object;"⟩ : MethodName) (head1 (Jvm.Cond.code (⟨"java/util/Optional", "orElse", "(Ljava/lang/Object;)Ljava/lang/Object;"⟩ : MethodName) jdk_32_method_15_code 2 (some (.object "java/lang/Object")) :: ws) ({ frames := 0, cells := 0, slots := 0, locals := 0 } : Room)) (fun a U => a = #[(.ref a_), .null] ∧ Z.Warmed39 U.vm ∧ U.heap = h0) (fun _ _ _ _ _ => True) (fun _ U o U' => ∃ v L, o = .returned v ∧ Q13_r Z a_ c_ h0 n0 v U'.heap L ∧ FrameEnd U o U' L ({ frames := 0, cells := 0, slots := 0, locals := 0 } : Room).cells ({ frames := 0, cells := 0, slots := 0, locals := 0 } : Room).slots) := by
  refine MetFree.of_bodySF (plainFor_of_name pn_java_util_Optional) hisR ?_
  intro p e s m args below meth c s₁ Bd hml0 hP hK
  obtain ⟨rfl, hZ, hh⟩ := hP
  have hx := Bd.exec
  have hby := Bd.bytes
  have hml : c.maxLocals = 2 := hml0
  have hown : s.vm.findClass "java/util/Optional" = some m.cls := findClass_of_methodNamed Bd.named
  have hnm := (name_of_methodNamed Bd.named Bd.method).1
  have X0 : Stand p l e ({ frames := 0, cells := 0, slots := 0, locals := 0 } : Room) s m #[(.ref a_), .null] below meth c s₁ [] 0 0 := Stand.of_body Bd
  have e0 : s₁.heap = h0 := by rw [← hh, Bd.state]; rfl
  have N0 := Fr.nil n0
  have KP0 : Keep h0 h0 [] := Keep.refl h0 _
  have pre0 : ∀ t, Steps p.tables e below (s₁.setTop (mkF m 0 #[.val (.ref a_), .val .null] [])) t → Steps p.tables e below (s₁.setTop (entryFrame m #[(.ref a_), .null] 2)) t := fun t k => castTop (ef_13_Rn m a_) k
  obtain ⟨T253, X253, e253, st253⟩ := getF X0 hx hZ hown (host := "") (Or.inl (hw _ tb_83)) Via.refl e0 F_v (g := (mkF m 1 #[.val (.ref a_), .val .null] [(.ref a_)])) rfl rfl (hb hby d13_1)
  obtain ⟨T254, X254, e254, st254⟩ := getF X253 hx hZ hown (host := "") (Or.inl (hw _ tb_83)) Via.refl e253 F_v (g := (mkF m 8 #[.val (.ref a_), .val .null] [(.ref a_)])) rfl rfl (hb hby d13_8)
  have pre255 : ∀ t, Steps p.tables e below (T254.setTop (mkF m 15 #[.val (.ref a_), .val .null] [(.ref c_)])) t → Steps p.tables e below (s₁.setTop (entryFrame m #[(.ref a_), .null] 2)) t := by
    intro t kk
    refine pre0 t ?_
    show Steps p.tables e below (s₁.setTop (mkF m 0 #[.val (.ref a_), .val .null] [])) _
    refine XS.aloadN X0.here hx rfl (hb hby d13_0) rfl rfl ?_
    refine st253 _ ?_
    refine XS.ifnullNo X253.here hx rfl (hb hby d13_4) rfl ?_
    refine XS.aloadN X253.here hx rfl (hb hby d13_7) rfl rfl ?_
    refine st254 _ ?_
    refine XS.goto X254.here hx rfl (pc0 := 11) (pc' := 15) rfl (hb hby d13_11) (by decide) (by decide) ?_
    exact kk
  clear st253 X253 e253 st254
  obtain ⟨fs, hr, hrun, hended, hW, hsame⟩ := X254.leave (v := some (.ref c_)) (fun h => by rw [Bd.returns] at h; cases h)
  refine ⟨_, _, pre255 _ ?_, hrun, hended, _, _, rfl, ?_, ⟨_, rfl⟩, hW, hsame.mono (by decide) (by decide)⟩
  · show Steps p.tables e below (T254.setTop (mkF m 15 #[.val (.ref a_), .val .null] [(.ref c_)])) _
    exact retOut X254 hx Bd.returns rfl (Or.inr (Or.inr (Or.inr (Or.inr ⟨rfl, rfl, rfl⟩)))) (hb hby d13_15) hr
  · show Q13_r Z a_ c_ h0 n0 _ T254.heap _
    rw [e254]
    exact ⟨rfl, N0, rfl⟩
theorem pd__28Ljava_2flang_2fObject_3b_29Ljava_2flang_2fObject_3b : parseMethodDescriptor "(Ljava/lang/Object;)Ljava/lang/Object;" = some ⟨[(.object "java/lang/Object")], some (.object "java/lang/Object")⟩ := by decide +kernel
theorem pd__28Ljava_2flang_2fObject_3b_29Z : parseMethodDescriptor "(Ljava/lang/Object;)Z" = some ⟨[(.object "java/lang/Object")], some .boolean⟩ := by decide +kernel
theorem pd__28_29Ljava_2flang_2fString_3b : parseMethodDescriptor "()Ljava/lang/String;" = some ⟨[], some (.object "java/lang/String")⟩ := by decide +kernel
theorem d17_0 : decode prog_30_method_8_code 0 = .ok (.aload_n 0, 1) := by decide +kernel
theorem d17_1 : decode prog_30_method_8_code 1 = .ok (.getfield 19, 3) := by decide +kernel
theorem d17_4 : decode prog_30_method_8_code 4 = .ok (.invokestatic 26, 3) := by decide +kernel
theorem d17_7 : decode prog_30_method_8_code 7 = .ok (.areturn, 1) := by decide +kernel
theorem ef_17_R (m : MethodId) (x0 : Addr) : entryFrame m #[(.ref x0)] 1 = mkF m 0 #[.val (.ref x0)] [] := by first | (simp [entryFrame, mkF, argsToLocals, Value.category]; done) | rfl
def Q17_r (Z : State) (a_ : Addr) (c_ : Addr) (wE : Addr) (h0 : Heap) (n0 : Nat) (v : Option Value) (h : Heap) (L : List Loc) : Prop := ∃ b : Addr, v = some (.ref b) ∧ Fr n0 L ∧ Keep h0 h [] ∧ Exa Z h b "java/util/Optional" ∧ Fld Z h b "java/util/Optional" "value" "Ljava/lang/Object;" (.ref c_)
set_option maxRecDepth 65536 in
set_option maxHeartbeats 40000000 in
theorem rm17_r (l : Launch) (Z : State) (aA : Array Value) (hw : ∀ d ∈ tables_1, d.before aA Z = true) (ws : List Jvm.Cond) (a_ : Addr) (c_ : Addr) (wE : Addr) (h0 : Heap) (n0 : Nat) (Z0 : n0 ≤ h0.size) (O0 : Old Z n0 h0) (S_EMPTY : Sta Z Z.heap "java/util/Optional" "EMPTY" "Ljava/util/Optional;" (.ref wE)) (X_EMPTY : Exa Z Z.heap wE "java/util/Optional") (G_EMPTY : Fld Z Z.heap wE "java/util/Optional" "value" "Ljava/lang/Object;" .null) (F_f : Fld Z h0 a_ "com/example/tidewheel/tidewheel/model/KeyedRequest" "answer" "Lcom/example/tidewheel/tidewheel/model/KeyedRequest$Answer;" (.ref c_)) :
    MetFree l (⟨"com/example/tidewheel/tidewheel/model/KeyedRequest", "answer", "()Ljava/util/Optional;"⟩ : MethodName) (head1 (Jvm.Cond.code (⟨"com/example/tidewheel/tidewheel/model/KeyedRequest", "answer", "()Ljava/util/Optional;"⟩ : MethodName) prog_30_method_8_code 1 (some (.object "java/util/Optional")) :: ws) ({ frames := 3, cells := 1, slots := 1, locals := 38 } : Room)) (fun a U => a = #[(.ref a_)] ∧ Z.Warmed39 U.vm ∧ U.heap = h0) (fun _ _ _ _ _ => True) (fun _ U o U' => ∃ v L, o = .returned v ∧ Q17_r Z a_ c_ wE h0 n0 v U'.heap L ∧ FrameEnd U o U' L ({ frames := 3, cells := 1, slots := 1, locals := 38 } : Room).cells ({ frames := 3, cells := 1, slots := 1, locals := 38 } : Room).slots) := by
  refine MetFree.of_bodySF (plainFor_of_name pn_com_example_tidewheel_tidewheel_model_KeyedRequest) hisR ?_
  intro p e s m args below meth c s₁ Bd hml0 hP hK
  obtain ⟨rfl, hZ, hh⟩ := hP
  have hx := Bd.exec
  have hby := Bd.bytes
  have hml : c.maxLocals = 1 := hml0
  have hown : s.vm.findClass "com/example/tidewheel/tidewheel/model/KeyedRequest" = some m.cls := findClass_of_methodNamed Bd.named
  have hnm := (name_of_methodNamed Bd.named Bd.method).1
  have X0 : Stand p l e ({ frames := 3, cells := 1, slots := 1, locals := 38 } : Room) s m #[(.ref a_)] below meth c s₁ [] 0 0 := Stand.of_body Bd
  have e0 : s₁.heap = h0 := by rw [← hh, Bd.state]; rfl
  have N0 := Fr.nil n0
  have KP0 : Keep h0 h0 [] := Keep.refl h0 _
  have pre0 : ∀ t, Steps p.tables e below (s₁.setTop (mkF m 0 #[.val (.ref a_)] [])) t → Steps p.tables e below (s₁.setTop (entryFrame m #[(.ref a_)] 1)) t := fun t k => castTop (ef_17_R m a_) k
  obtain ⟨T269, X269, e269, st269⟩ := getF X0 hx hZ hown (host := "") (Or.inl (hw _ tb_59)) Via.refl e0 F_f (g := (mkF m 1 #[.val (.ref a_)] [(.ref a_)])) rfl rfl (hb hby d17_1)
  have pre270 : ∀ t, Steps p.tables e below (T269.setTop (mkF m 4 #[.val (.ref a_)] [(.ref c_)])) t → Steps p.tables e below (s₁.setTop (entryFrame m #[(.ref a_)] 1)) t := by
    intro t kk
    refine pre0 t ?_
    show Steps p.tables e below (s₁.setTop (mkF m 0 #[.val (.ref a_)] [])) _
    refine XS.aloadN X0.here hx rfl (hb hby d17_0) rfl rfl ?_
    refine st269 _ ?_
    exact kk
  clear st269
  obtain ⟨_, _, ⟨T271, L271, k271, n271⟩, -, X271, ⟨Lc271, hQ271, l271, y271, z271⟩, st271⟩ := Jvm.LawKit.callS X269 hx (y := (⟨"java/util/Optional", "ofNullable", "(Ljava/lang/Object;)Ljava/util/Optional;"⟩ : MethodName)) hown (mt_73 hZ hw) (mt_74 hZ hw) (mt_75 hZ hw) (mt_76 hZ hw) (by decide) (backOf (W := 0) (rm12_r l Z aA hw [] c_ wE h0 n0 Z0 O0 S_EMPTY X_EMPTY G_EMPTY) hZ (hw _ tb_76) (hw _ tb_75) (by decide) (by decide)) (g := (mkF m 4 #[.val (.ref a_)] [(.ref c_)])) rfl (by rw [hml]; rfl) (argsL := [(.ref c_)]) (rest := []) (lenOf pd__28Ljava_2flang_2fObject_3b_29Ljava_2futil_2fOptional_3b rfl) rfl (by show 2 * 0 + _ ≤ _; exact Nat.le_of_eq rfl) (hb hby d17_4) (fun _ _ => ⟨rfl, e269, (by decide : 0 + 1 ≤ _), (by decide : 0 + 1 ≤ _)⟩)
  dsimp only [Pt.U, Pt.locs, Pt.cells, Pt.slots] at X271 l271 y271 z271 st271 hQ271
  replace l271 := l271.symm
  subst l271
  obtain rfl : k271 = 1 := y271
  obtain rfl : n271 = 1 := z271
  obtain ⟨b271, rfl, N271q, K271, Eq271, Fq271⟩ := hQ271
  have N271 := Fr.app N0 N271q
  have KP271 : Keep h0 T271.heap [] := KP0.trans K271 all0
  have Z271 : n0 ≤ T271.heap.size := Nat.le_trans Z0 K271.1
  have O_272 : Old Z n0 T271.heap := O0.keep K271 all0
  have E_wE_273 : Exa Z T271.heap wE "java/util/Optional" := (X_EMPTY.ext O0.2).keep K271
  have F_wE_value_274 : Fld Z T271.heap wE "java/util/Optional" "value" "Ljava/lang/Object;" .null := (G_EMPTY.ext O0.2).keep K271 nin0
  have F_a__answer_275 : Fld Z T271.heap a_ "com/example/tidewheel/tidewheel/model/KeyedRequest" "answer" "Lcom/example/tidewheel/tidewheel/model/KeyedRequest$Answer;" (.ref c_) := F_f.keep K271 nin0
  have pre276 : ∀ t, Steps p.tables e below (T271.setTop (mkF m 7 #[.val (.ref a_)] [(.ref b271)])) t → Steps p.tables e below (s₁.setTop (entryFrame m #[(.ref a_)] 1)) t := by
    intro t kk
    refine pre270 t ?_
    show Steps p.tables e below (T269.setTop (mkF m 4 #[.val (.ref a_)] [(.ref c_)])) _
    refine st271 _ ?_
    exact kk
  clear X269 e269 st271 N271q K271 pre270
  obtain ⟨fs, hr, hrun, hended, hW, hsame⟩ := X271.leave (v := some (.ref b271)) (fun h => by rw [Bd.returns] at h; cases h)
  refine ⟨_, _, pre276 _ ?_, hrun, hended, _, _, rfl, ?_, ⟨_, rfl⟩, hW, hsame.mono (by decide) (by decide)⟩
  · show Steps p.tables e below (T271.setTop (mkF m 7 #[.val (.ref a_)] [(.ref b271)])) _
    exact retOut X271 hx Bd.returns rfl (Or.inr (Or.inr (Or.inr (Or.inr ⟨rfl, rfl, rfl⟩)))) (hb hby d17_7) hr
  · show Q17_r Z a_ c_ wE h0 n0 _ T271.heap _
    exact ⟨_, rfl, N271, KP271, Eq271, Fq271⟩
theorem ef_9_RRRRn (m : MethodId) (x0 : Addr) (x1 : Addr) (x2 : Addr) (x3 : Addr) : entryFrame m #[(.ref x0), (.ref x1), (.ref x2), (.ref x3), .null] 5 = mkF m 0 #[.val (.ref x0), .val (.ref x1), .val (.ref x2), .val (.ref x3), .val .null] [] := by first | (simp [entryFrame, mkF, argsToLocals, Value.category]; done) | rfl
def Q9_rrrn (Z : State) (a_ : Addr) (a1 : Addr) (a2 : Addr) (a3 : Addr) (h0 : Heap) (n0 : Nat) (v : Option Value) (h : Heap) (L : List Loc) : Prop := v = none ∧ Fr n0 L ∧ Keep h0 h [a_] ∧ Exa Z h a_ "com/example/tidewheel/tidewheel/model/KeyedRequest" ∧ Fld Z h a_ "com/example/tidewheel/tidewheel/model/KeyedRequest" "key" "Ljava/lang/String;" (.ref a1) ∧ Fld Z h a_ "com/example/tidewheel/tidewheel/model/KeyedRequest" "request" "Ljava/lang/String;" (.ref a2) ∧ Fld Z h a_ "com/example/tidewheel/tidewheel/model/KeyedRequest" "resource" "Ljava/lang/String;" (.ref a3) ∧ Fld Z h a_ "com/example/tidewheel/tidewheel/model/KeyedRequest" "answer" "Lcom/example/tidewheel/tidewheel/model/KeyedRequest$Answer;" .null
set_option maxRecDepth 65536 in
set_option maxHeartbeats 40000000 in
theorem rm9_rrrn (l : Launch) (Z : State) (aA : Array Value) (hw : ∀ d ∈ tables_1, d.before aA Z = true) (ws : List Jvm.Cond) (a_ : Addr) (a1 : Addr) (a2 : Addr) (a3 : Addr) (h0 : Heap) (n0 : Nat) (Z0 : n0 ≤ h0.size) (E_a : Exa Z h0 a_ "com/example/tidewheel/tidewheel/model/KeyedRequest") (g_a_ : n0 ≤ a_) (F_key : Fld Z h0 a_ "com/example/tidewheel/tidewheel/model/KeyedRequest" "key" "Ljava/lang/String;" .null) (F_request : Fld Z h0 a_ "com/example/tidewheel/tidewheel/model/KeyedRequest" "request" "Ljava/lang/String;" .null) (F_resource : Fld Z h0 a_ "com/example/tidewheel/tidewheel/model/KeyedRequest" "resource" "Ljava/lang/String;" .null) (F_answer : Fld Z h0 a_ "com/example/tidewheel/tidewheel/model/KeyedRequest" "answer" "Lcom/example/tidewheel/tidewheel/model/KeyedRequest$Answer;" .null) :
    MetFree l (⟨"com/example/tidewheel/tidewheel/model/KeyedRequest", "<init>", "(Ljava/lang/String;Ljava/lang/String;Ljava/lang/String;Lcom/example/tidewheel/tidewheel/model/KeyedRequest$Answer;)V"⟩ : MethodName) (head1 (Jvm.Cond.code (⟨"com/example/tidewheel/tidewheel/model/KeyedRequest", "<init>", "(Ljava/lang/String;Ljava/lang/String;Ljava/lang/String;Lcom/example/tidewheel/tidewheel/model/KeyedRequest$Answer;)V"⟩ : MethodName) prog_30_method_1_code 5 none :: ws) ({ frames := 1, cells := 0, slots := 0, locals := 12 } : Room)) (fun a U => a = #[(.ref a_), (.ref a1), (.ref a2), (.ref a3), .null] ∧ Z.Warmed39 U.vm ∧ U.heap = h0) (fun _ _ _ _ _ => True) (fun _ U o U' => ∃ v L, o = .returned v ∧ Q9_rrrn Z a_ a1 a2 a3 h0 n0 v U'.heap L ∧ FrameEnd U o U' L ({ frames := 1, cells := 0, slots := 0, locals := 12 } : Room).cells ({ frames := 1, cells := 0, slots := 0, locals := 12 } : Room).slots) := by
  refine MetFree.of_bodySF (plainFor_of_name pn_com_example_tidewheel_tidewheel_model_KeyedRequest) hisR ?_
  intro p e s m args below meth c s₁ Bd hml0 hP hK
  obtain ⟨rfl, hZ, hh⟩ := hP
  have hx := Bd.exec
  have hby := Bd.bytes
  have hml : c.maxLocals = 5 := hml0
  have hown : s.vm.findClass "com/example/tidewheel/tidewheel/model/KeyedRequest" = some m.cls := findClass_of_methodNamed Bd.named
  have hnm := (name_of_methodNamed Bd.named Bd.method).1
  have X0 : Stand p l e ({ frames := 1, cells := 0, slots := 0, locals := 12 } : Room) s m #[(.ref a_), (.ref a1), (.ref a2), (.ref a3), .null] below meth c s₁ [] 0 0 := Stand.of_body Bd
  have e0 : s₁.heap = h0 := by rw [← hh, Bd.state]; rfl
  have N0 := Fr.nil n0
  have KP0 : Keep h0 h0 [a_] := Keep.refl h0 _
  have pre0 : ∀ t, Steps p.tables e below (s₁.setTop (mkF m 0 #[.val (.ref a_), .val (.ref a1), .val (.ref a2), .val (.ref a3), .val .null] [])) t → Steps p.tables e below (s₁.setTop (entryFrame m #[(.ref a_), (.ref a1), (.ref a2), (.ref a3), .null] 5)) t := fun t k => castTop (ef_9_RRRRn m a_ a1 a2 a3) k
  have pre346 : ∀ t, Steps p.tables e below (s₁.setTop (mkF m 1 #[.val (.ref a_), .val (.ref a1), .val (.ref a2), .val (.ref a3), .val .null] [(.ref a_)])) t → Steps p.tables e below (s₁.setTop (entryFrame m #[(.ref a_), (.ref a1), (.ref a2), (.ref a3), .null] 5)) t := by
    intro t kk
    refine pre0 t ?_
    show Steps p.tables e below (s₁.setTop (mkF m 0 #[.val (.ref a_), .val (.ref a1), .val (.ref a2), .val (.ref a3), .val .null] [])) _
    refine XS.aloadN X0.here hx rfl (hb hby d9_0) rfl rfl ?_
    exact kk
  obtain ⟨T347, X347, e347, st347⟩ := initO X0 hx hZ hown (hw _ tb_52) (hw _ tb_12) (hw _ tb_13) e0 (g := (mkF m 1 #[.val (.ref a_), .val (.ref a1), .val (.ref a2), .val (.ref a3), .val .null] [(.ref a_)])) rfl (by rw [hml]; rfl) rfl (hb hby d9_1) (by decide) (W := 0) (by show 2 * 0 + _ ≤ _; exact Nat.le_of_eq rfl) (by decide)
  obtain ⟨T348, h348, X348, e348, W348, st348⟩ := putF X347 hx hZ hown (host := "") (Or.inl (hw _ tb_53)) Via.refl e347 F_key E_a (Or.inr ⟨(hw _ tb_54), rfl, hnm⟩) (hw _ tb_47) (ty := (.object "java/lang/String")) (by decide) rfl rfl (g := (mkF m 6 #[.val (.ref a_), .val (.ref a1), .val (.ref a2), .val (.ref a3), .val .null] [(.ref a1), (.ref a_)])) rfl rfl (hb hby d9_6)
  have Fw348 := F_key.same W348
  have KP348 : Keep h0 h348 [a_] := KP0.wr W348 (Or.inl (List.mem_of_getElem? (i := 0) rfl))
  have Z348 : n0 ≤ h348.size := Nat.le_trans Z0 (Nat.le_of_eq W348.size.symm)
  have N348 := Fr.snoc X348 N0 g_a_
  have E_a__349 : Exa Z h348 a_ "com/example/tidewheel/tidewheel/model/KeyedRequest" := E_a.wr W348
  have F_a__request_350 : Fld Z h348 a_ "com/example/tidewheel/tidewheel/model/KeyedRequest" "request" "Ljava/lang/String;" .null := F_request.other W348 (Or.inr (slot_ne (Or.inr (hw _ tb_56)) (Or.inr (hw _ tb_54)) (by decide) (t := (.object "java/lang/String")) (t' := (.object "java/lang/String")) (by decide) (by decide)))
  have F_a__resource_351 : Fld Z h348 a_ "com/example/tidewheel/tidewheel/model/KeyedRequest" "resource" "Ljava/lang/String;" .null := F_resource.other W348 (Or.inr (slot_ne (Or.inr (hw _ tb_58)) (Or.inr (hw _ tb_54)) (by decide) (t := (.object "java/lang/String")) (t' := (.object "java/lang/String")) (by decide) (by decide)))
  have F_a__answer_352 : Fld Z h348 a_ "com/example/tidewheel/tidewheel/model/KeyedRequest" "answer" "Lcom/example/tidewheel/tidewheel/model/KeyedRequest$Answer;" .null := F_answer.other W348 (Or.inr (slot_ne (Or.inr (hw _ tb_60)) (Or.inr (hw _ tb_54)) (by decide) (t := (.object "com/example/tidewheel/tidewheel/model/KeyedRequest$Answer")) (t' := (.object "java/lang/String")) (by decide) (by decide)))
  obtain ⟨T353, h353, X353, e353, W353, st353⟩ := putF X348 hx hZ hown (host := "") (Or.inl (hw _ tb_55)) Via.refl e348 F_a__request_350 E_a__349 (Or.inr ⟨(hw _ tb_56), rfl, hnm⟩) (hw _ tb_47) (ty := (.object "java/lang/String")) (by decide) rfl rfl (g := (mkF m 11 #[.val (.ref a_), .val (.ref a1), .val (.ref a2), .val (.ref a3), .val .null] [(.ref a2), (.ref a_)])) rfl rfl (hb hby d9_11)
  have Fw353 := F_a__request_350.same W353
  have KP353 : Keep h0 h353 [a_] := KP348.wr W353 (Or.inl (List.mem_of_getElem? (i := 0) rfl))
  have Z353 : n0 ≤ h353.size := Nat.le_trans Z348 (Nat.le_of_eq W353.size.symm)
  have N353 := Fr.snoc X353 N348 g_a_
  have E_a__354 : Exa Z h353 a_ "com/example/tidewheel/tidewheel/model/KeyedRequest" := E_a__349.wr W353
  have F_a__resource_355 : Fld Z h353 a_ "com/example/tidewheel/tidewheel/model/KeyedRequest" "resource" "Ljava/lang/String;" .null := F_a__resource_351.other W353 (Or.inr (slot_ne (Or.inr (hw _ tb_58)) (Or.inr (hw _ tb_56)) (by decide) (t := (.object "java/lang/String")) (t' := (.object "java/lang/String")) (by decide) (by decide)))
  have F_a__answer_356 : Fld Z h353 a_ "com/example/tidewheel/tidewheel/model/KeyedRequest" "answer" "Lcom/example/tidewheel/tidewheel/model/KeyedRequest$Answer;" .null := F_a__answer_352.other W353 (Or.inr (slot_ne (Or.inr (hw _ tb_60)) (Or.inr (hw _ tb_56)) (by decide) (t := (.object "com/example/tidewheel/tidewheel/model/KeyedRequest$Answer")) (t' := (.object "java/lang/String")) (by decide) (by decide)))
  have F_a__key_357 : Fld Z h353 a_ "com/example/tidewheel/tidewheel/model/KeyedRequest" "key" "Ljava/lang/String;" (.ref a1) := Fw348.other W353 (Or.inr (slot_ne (Or.inr (hw _ tb_54)) (Or.inr (hw _ tb_56)) (by decide) (t := (.object "java/lang/String")) (t' := (.object "java/lang/String")) (by decide) (by decide)))
  obtain ⟨T358, h358, X358, e358, W358, st358⟩ := putF X353 hx hZ hown (host := "") (Or.inl (hw _ tb_57)) Via.refl e353 F_a__resource_355 E_a__354 (Or.inr ⟨(hw _ tb_58), rfl, hnm⟩) (hw _ tb_47) (ty := (.object "java/lang/String")) (by decide) rfl rfl (g := (mkF m 16 #[.val (.ref a_), .val (.ref a1), .val (.ref a2), .val (.ref a3), .val .null] [(.ref a3), (.ref a_)])) rfl rfl (hb hby d9_16)
  have Fw358 := F_a__resource_355.same W358
  have KP358 : Keep h0 h358 [a_] := KP353.wr W358 (Or.inl (List.mem_of_getElem? (i := 0) rfl))
  have Z358 : n0 ≤ h358.size := Nat.le_trans Z353 (Nat.le_of_eq W358.size.symm)
  have N358 := Fr.snoc X358 N353 g_a_
  have E_a__359 : Exa Z h358 a_ "com/example/tidewheel/tidewheel/model/KeyedRequest" := E_a__354.wr W358
  have F_a__answer_360 : Fld Z h358 a_ "com/example/tidewheel/tidewheel/model/KeyedRequest" "answer" "Lcom/example/tidewheel/tidewheel/model/KeyedRequest$Answer;" .null := F_a__answer_356.other W358 (Or.inr (slot_ne (Or.inr (hw _ tb_60)) (Or.inr (hw _ tb_58)) (by decide) (t := (.object "com/example/tidewheel/tidewheel/model/KeyedRequest$Answer")) (t' := (.object "java/lang/String")) (by decide) (by decide)))
  have F_a__key_361 : Fld Z h358 a_ "com/example/tidewheel/tidewheel/model/KeyedRequest" "key" "Ljava/lang/String;" (.ref a1) := F_a__key_357.other W358 (Or.inr (slot_ne (Or.inr (hw _ tb_54)) (Or.inr (hw _ tb_58)) (by decide) (t := (.object "java/lang/String")) (t' := (.object "java/lang/String")) (by decide) (by decide)))
  have F_a__request_362 : Fld Z h358 a_ "com/example/tidewheel/tidewheel/model/KeyedRequest" "request" "Ljava/lang/String;" (.ref a2) := Fw353.other W358 (Or.inr (slot_ne (Or.inr (hw _ tb_56)) (Or.inr (hw _ tb_58)) (by decide) (t := (.object "java/lang/String")) (t' := (.object "java/lang/String")) (by decide) (by decide)))
  obtain ⟨T363, h363, X363, e363, W363, st363⟩ := putF X358 hx hZ hown (host := "") (Or.inl (hw _ tb_59)) Via.refl e358 F_a__answer_360 E_a__359 (Or.inr ⟨(hw _ tb_60), rfl, hnm⟩) (hw _ tb_47) (ty := (.object "com/example/tidewheel/tidewheel/model/KeyedRequest$Answer")) (by decide) rfl rfl (g := (mkF m 22 #[.val (.ref a_), .val (.ref a1), .val (.ref a2), .val (.ref a3), .val .null] [.null, (.ref a_)])) rfl rfl (hb hby d9_22)
  have Fw363 := F_a__answer_360.same W363
  have KP363 : Keep h0 h363 [a_] := KP358.wr W363 (Or.inl (List.mem_of_getElem? (i := 0) rfl))
  have Z363 : n0 ≤ h363.size := Nat.le_trans Z358 (Nat.le_of_eq W363.size.symm)
  have N363 := Fr.snoc X363 N358 g_a_
  have E_a__364 : Exa Z h363 a_ "com/example/tidewheel/tidewheel/model/KeyedRequest" := E_a__359.wr W363
  have F_a__key_365 : Fld Z h363 a_ "com/example/tidewheel/tidewheel/model/KeyedRequest" "key" "Ljava/lang/String;" (.ref a1) := F_a__key_361.other W363 (Or.inr (slot_ne (Or.inr (hw _ tb_54)) (Or.inr (hw _ tb_60)) (by decide) (t := (.object "java/lang/String")) (t' := (.object "com/example/tidewheel/tidewheel/model/KeyedRequest$Answer")) (by decide) (by decide)))
  have F_a__request_366 : Fld Z h363 a_ "com/example/tidewheel/tidewheel/model/KeyedRequest" "request" "Ljava/lang/String;" (.ref a2) := F_a__request_362.other W363 (Or.inr (slot_ne (Or.inr (hw _ tb_56)) (Or.inr (hw _ tb_60)) (by decide) (t := (.object "java/lang/String")) (t' := (.object "com/example/tidewheel/tidewheel/model/KeyedRequest$Answer")) (by decide) (by decide)))
  have F_a__resource_367 : Fld Z h363 a_ "com/example/tidewheel/tidewheel/model/KeyedRequest" "resource" "Ljava/lang/String;" (.ref a3) := Fw358.other W363 (Or.inr (slot_ne (Or.inr (hw _ tb_58)) (Or.inr (hw _ tb_60)) (by decide) (t := (.object "java/lang/String")) (t' := (.object "com/example/tidewheel/tidewheel/model/KeyedRequest$Answer")) (by decide) (by decide)))
  have pre368 : ∀ t, Steps p.tables e below (T363.setTop (mkF m 25 #[.val (.ref a_), .val (.ref a1), .val (.ref a2), .val (.ref a3), .val .null] [])) t → Steps p.tables e below (s₁.setTop (entryFrame m #[(.ref a_), (.ref a1), (.ref a2), (.ref a3), .null] 5)) t := by
    intro t kk
    refine pre346 t ?_
    show Steps p.tables e below (s₁.setTop (mkF m 1 #[.val (.ref a_), .val (.ref a1), .val (.ref a2), .val (.ref a3), .val .null] [(.ref a_)])) _
    refine st347 _ ?_
    refine XS.aloadN X347.here hx rfl (hb hby d9_4) rfl rfl ?_
    refine XS.aloadN X347.here hx rfl (hb hby d9_5) rfl rfl ?_
    refine st348 _ ?_
    refine XS.aloadN X348.here hx rfl (hb hby d9_9) rfl rfl ?_
    refine XS.aloadN X348.here hx rfl (hb hby d9_10) rfl rfl ?_
    refine st353 _ ?_
    refine XS.aloadN X353.here hx rfl (hb hby d9_14) rfl rfl ?_
    refine XS.aloadN X353.here hx rfl (hb hby d9_15) rfl rfl ?_
    refine st358 _ ?_
    refine XS.aloadN X358.here hx rfl (hb hby d9_19) rfl rfl ?_
    refine XS.aload X358.here hx rfl (hb hby d9_20) rfl rfl ?_
    refine st363 _ ?_
    exact kk
  clear st347 X347 e347 st348 X348 e348 st353 E_a__349 F_a__request_350 F_a__resource_351 F_a__answer_352 Fw348 X353 e353 st358 E_a__354 F_a__resource_355 F_a__answer_356 F_a__key_357 Fw353 X358 e358 st363 E_a__359 F_a__answer_360 F_a__key_361 F_a__request_362 Fw358 pre346
  obtain ⟨fs, hr, hrun, hended, hW, hsame⟩ := X363.leave (v := none) (fun _ => rfl)
  refine ⟨_, _, pre368 _ ?_, hrun, hended, _, _, rfl, ?_, ⟨_, rfl⟩, hW, hsame.mono (by decide) (by decide)⟩
  · show Steps p.tables e below (T363.setTop (mkF m 25 #[.val (.ref a_), .val (.ref a1), .val (.ref a2), .val (.ref a3), .val .null] [])) _
    exact X363.returnOut hx Bd.returns (hb hby d9_25) hr
  · show Q9_rrrn Z a_ a1 a2 a3 h0 n0 _ T363.heap _
    rw [e363]
    exact ⟨rfl, N363, KP363, E_a__364, F_a__key_365, F_a__request_366, F_a__resource_367, Fw363⟩
theorem ef_10_Rn (m : MethodId) (x0 : Addr) : entryFrame m #[(.ref x0), .null] 2 = mkF m 0 #[.val (.ref x0), .val .null] [] := by first | (simp [entryFrame, mkF, argsToLocals, Value.category]; done) | rfl
def Q10_rn (Z : State) (a_ : Addr) (k_ : Addr) (r_ : Addr) (c_ : Addr) (h0 : Heap) (n0 : Nat) (v : Option Value) (h : Heap) (L : List Loc) : Prop := ∃ b : Addr, v = some (.ref b) ∧ Fr n0 L ∧ Keep h0 h [] ∧ h0.size ≤ b ∧ Exa Z h b "com/example/tidewheel/tidewheel/model/KeyedRequest" ∧ Fld Z h b "com/example/tidewheel/tidewheel/model/KeyedRequest" "key" "Ljava/lang/String;" (.ref k_) ∧ Fld Z h b "com/example/tidewheel/tidewheel/model/KeyedRequest" "request" "Ljava/lang/String;" (.ref r_) ∧ Fld Z h b "com/example/tidewheel/tidewheel/model/KeyedRequest" "resource" "Ljava/lang/String;" (.ref c_) ∧ Fld Z h b "com/example/tidewheel/tidewheel/model/KeyedRequest" "answer" "Lcom/example/tidewheel/tidewheel/model/KeyedRequest$Answer;" .null
set_option maxRecDepth 65536 in
set_option maxHeartbeats 40000000 in
theorem rm10_rn (l : Launch) (Z : State) (aA : Array Value) (hw : ∀ d ∈ tables_1, d.before aA Z = true) (ws : List Jvm.Cond) (a_ : Addr) (k_ : Addr) (r_ : Addr) (c_ : Addr) (h0 : Heap) (n0 : Nat) (Z0 : n0 ≤ h0.size) (F_key : Fld Z h0 a_ "com/example/tidewheel/tidewheel/model/KeyedRequest" "key" "Ljava/lang/String;" (.ref k_)) (F_request : Fld Z h0 a_ "com/example/tidewheel/tidewheel/model/KeyedRequest" "request" "Ljava/lang/String;" (.ref r_)) (F_resource : Fld Z h0 a_ "com/example/tidewheel/tidewheel/model/KeyedRequest" "resource" "Ljava/lang/String;" (.ref c_)) :
    MetFree l (⟨"com/example/tidewheel/tidewheel/model/KeyedRequest", "answered", "(Lcom/example/tidewheel/tidewheel/model/KeyedRequest$Answer;)Lcom/example/tidewheel/tidewheel/model/KeyedRequest;"⟩ : MethodName) (head1 (Jvm.Cond.code (⟨"com/example/tidewheel/tidewheel/model/KeyedRequest", "answered", "(Lcom/example/tidewheel/tidewheel/model/KeyedRequest$Answer;)Lcom/example/tidewheel/tidewheel/model/KeyedRequest;"⟩ : MethodName) prog_30_method_4_code 2 (some (.object "com/example/tidewheel/tidewheel/model/KeyedRequest")) :: ws) ({ frames := 2, cells := 1, slots := 4, locals := 29 } : Room)) (fun a U => a = #[(.ref a_), .null] ∧ Z.Warmed39 U.vm ∧ U.heap = h0) (fun _ _ _ _ _ => True) (fun _ U o U' => ∃ v L, o = .returned v ∧ Q10_rn Z a_ k_ r_ c_ h0 n0 v U'.heap L ∧ FrameEnd U o U' L ({ frames := 2, cells := 1, slots := 4, locals := 29 } : Room).cells ({ frames := 2, cells := 1, slots := 4, locals := 29 } : Room).slots) := by
  refine MetFree.of_bodySF (plainFor_of_name pn_com_example_tidewheel_tidewheel_model_KeyedRequest) hisR ?_
  intro p e s m args below meth c s₁ Bd hml0 hP hK
  obtain ⟨rfl, hZ, hh⟩ := hP
  have hx := Bd.exec
  have hby := Bd.bytes
  have hml : c.maxLocals = 2 := hml0
  have hown : s.vm.findClass "com/example/tidewheel/tidewheel/model/KeyedRequest" = some m.cls := findClass_of_methodNamed Bd.named
  have hnm := (name_of_methodNamed Bd.named Bd.method).1
  have X0 : Stand p l e ({ frames := 2, cells := 1, slots := 4, locals := 29 } : Room) s m #[(.ref a_), .null] below meth c s₁ [] 0 0 := Stand.of_body Bd
  have e0 : s₁.heap = h0 := by rw [← hh, Bd.state]; rfl
  have N0 := Fr.nil n0
  have KP0 : Keep h0 h0 [] := Keep.refl h0 _
  have pre0 : ∀ t, Steps p.tables e below (s₁.setTop (mkF m 0 #[.val (.ref a_), .val .null] [])) t → Steps p.tables e below (s₁.setTop (entryFrame m #[(.ref a_), .null] 2)) t := fun t k => castTop (ef_10_Rn m a_) k
  obtain ⟨T338, h338, X338, e338, E338, A338, D338, -, st338⟩ := newO X0 hx hZ hown (hw _ tb_66) (hw _ tb_47) (hw _ tb_48) e0 (g := (mkF m 0 #[.val (.ref a_), .val .null] [])) rfl (hb hby d10_0) (by decide) (by decide)
  obtain ⟨b338, g338⟩ : ∃ z, z = h0.size := ⟨_, rfl⟩
  rw [← g338] at A338 D338 st338
  have ne_a__b338 : a_ ≠ b338 := Nat.ne_of_lt (Nat.lt_of_lt_of_le F_key.lt (Nat.le_of_eq g338.symm))
  have sz_b338 : h0.size ≤ b338 := Nat.le_trans KP0.1 (Nat.le_of_eq g338.symm)
  have g_b338 : n0 ≤ b338 := Nat.le_trans Z0 (Nat.le_of_eq g338.symm)
  have KP338 : Keep h0 h338 [] := KP0.ext E338
  have Z338 : n0 ≤ h338.size := Nat.le_trans Z0 E338.1
  have F_a__key_339 : Fld Z h338 a_ "com/example/tidewheel/tidewheel/model/KeyedRequest" "key" "Ljava/lang/String;" (.ref k_) := F_key.ext E338
  have F_a__request_340 : Fld Z h338 a_ "com/example/tidewheel/tidewheel/model/KeyedRequest" "request" "Ljava/lang/String;" (.ref r_) := F_request.ext E338
  have F_a__resource_341 : Fld Z h338 a_ "com/example/tidewheel/tidewheel/model/KeyedRequest" "resource" "Ljava/lang/String;" (.ref c_) := F_resource.ext E338
  have F_key_b338 : Fld Z h338 b338 "com/example/tidewheel/tidewheel/model/KeyedRequest" "key" "Ljava/lang/String;" .null := D338 (Or.inr (hw _ tb_54)) (ty := (.object "java/lang/String")) (by decide)
  have F_request_b338 : Fld Z h338 b338 "com/example/tidewheel/tidewheel/model/KeyedRequest" "request" "Ljava/lang/String;" .null := D338 (Or.inr (hw _ tb_56)) (ty := (.object "java/lang/String")) (by decide)
  have F_resource_b338 : Fld Z h338 b338 "com/example/tidewheel/tidewheel/model/KeyedRequest" "resource" "Ljava/lang/String;" .null := D338 (Or.inr (hw _ tb_58)) (ty := (.object "java/lang/String")) (by decide)
  have F_answer_b338 : Fld Z h338 b338 "com/example/tidewheel/tidewheel/model/KeyedRequest" "answer" "Lcom/example/tidewheel/tidewheel/model/KeyedRequest$Answer;" .null := D338 (Or.inr (hw _ tb_60)) (ty := (.object "com/example/tidewheel/tidewheel/model/KeyedRequest$Answer")) (by decide)
  replace X338 : Stand _ _ _ _ _ _ _ _ _ _ _ _ 1 4 := X338
  obtain ⟨T342, X342, e342, st342⟩ := getF X338 hx hZ hown (host := "") (Or.inl (hw _ tb_53)) Via.refl e338 F_a__key_339 (g := (mkF m 5 #[.val (.ref a_), .val .null] [(.ref a_), (.ref b338), (.ref b338)])) rfl rfl (hb hby d10_5)
  obtain ⟨T343, X343, e343, st343⟩ := getF X342 hx hZ hown (host := "") (Or.inl (hw _ tb_55)) Via.refl e342 F_a__request_340 (g := (mkF m 9 #[.val (.ref a_), .val .null] [(.ref a_), (.ref k_), (.ref b338), (.ref b338)])) rfl rfl (hb hby d10_9)
  obtain ⟨T344, X344, e344, st344⟩ := getF X343 hx hZ hown (host := "") (Or.inl (hw _ tb_57)) Via.refl e343 F_a__resource_341 (g := (mkF m 13 #[.val (.ref a_), .val .null] [(.ref a_), (.ref r_), (.ref k_), (.ref b338), (.ref b338)])) rfl rfl (hb hby d10_13)
  have pre345 : ∀ t, Steps p.tables e below (T344.setTop (mkF m 17 #[.val (.ref a_), .val .null] [.null, (.ref c_), (.ref r_), (.ref k_), (.ref b338), (.ref b338)])) t → Steps p.tables e below (s₁.setTop (entryFrame m #[(.ref a_), .null] 2)) t := by
    intro t kk
    refine pre0 t ?_
    show Steps p.tables e below (s₁.setTop (mkF m 0 #[.val (.ref a_), .val .null] [])) _
    refine st338 _ ?_
    refine XS.dup X338.here hx rfl (hb hby d10_3) rfl rfl ?_
    refine XS.aloadN X338.here hx rfl (hb hby d10_4) rfl rfl ?_
    refine st342 _ ?_
    refine XS.aloadN X342.here hx rfl (hb hby d10_8) rfl rfl ?_
    refine st343 _ ?_
    refine XS.aloadN X343.here hx rfl (hb hby d10_12) rfl rfl ?_
    refine st344 _ ?_
    refine XS.aloadN X344.here hx rfl (hb hby d10_16) rfl rfl ?_
    exact kk
  clear st338 X338 e338 st342 X342 e342 st343 X343 e343 st344
  obtain ⟨_, _, ⟨T369, L369, k369, n369⟩, -, X369, ⟨Lc369, hQ369, l369, y369, z369⟩, st369⟩ := X344.specialBack hx (y := (⟨"com/example/tidewheel/tidewheel/model/KeyedRequest", "<init>", "(Ljava/lang/String;Ljava/lang/String;Ljava/lang/String;Lcom/example/tidewheel/tidewheel/model/KeyedRequest$Answer;)V"⟩ : MethodName)) rfl hown (mt_67 hZ hw) (mt_50 hZ hw) (mt_51 hZ hw) (by decide) (backOf (W := 1) (rm9_rrrn l Z aA hw [] b338 k_ r_ c_ h338 n0 Z338 A338 g_b338 F_key_b338 F_request_b338 F_resource_b338 F_answer_b338) hZ (hw _ tb_51) (hw _ tb_48) (by decide) (by decide)) (g := (mkF m 17 #[.val (.ref a_), .val .null] [.null, (.ref c_), (.ref r_), (.ref k_), (.ref b338), (.ref b338)])) rfl (by rw [hml]; rfl) (Steps.refl _) (a := b338) (argsL := [(.ref k_), (.ref r_), (.ref c_), .null]) (rest := [(.ref b338)]) (lenOf pd__28Ljava_2flang_2fString_3bLjava_2flang_2fString_3bLjava_2flang_2fString_3bLcom_2fexample_2ftidewheel_2ftidewheel_2fmodel_2fKeyedRequest_24Answer_3b_29V rfl) rfl (by show 2 * 0 + _ ≤ _; exact Nat.le_of_eq rfl) (hb hby d10_17) (fun _ _ => ⟨rfl, e344, (by decide : 1 + 0 ≤ _), (by decide : 4 + 0 ≤ _)⟩)
  dsimp only [Pt.U, Pt.locs, Pt.cells, Pt.slots] at X369 l369 y369 z369 st369 hQ369
  replace l369 := l369.symm
  subst l369
  obtain rfl : k369 = 1 := y369
  obtain rfl : n369 = 4 := z369
  obtain ⟨rfl, N369q, K369, Eq369, Fq369_key, Fq369_request, Fq369_resource, Fq369_answer⟩ := hQ369
  have N369 := Fr.app N0 N369q
  have KP369 : Keep h0 T369.heap [] := KP338.trans K369 (allS (Or.inr sz_b338) all0)
  have Z369 : n0 ≤ T369.heap.size := Nat.le_trans Z338 K369.1
  have F_a__key_370 : Fld Z T369.heap a_ "com/example/tidewheel/tidewheel/model/KeyedRequest" "key" "Ljava/lang/String;" (.ref k_) := F_a__key_339.keep K369 (ninS ne_a__b338 nin0)
  have F_a__request_371 : Fld Z T369.heap a_ "com/example/tidewheel/tidewheel/model/KeyedRequest" "request" "Ljava/lang/String;" (.ref r_) := F_a__request_340.keep K369 (ninS ne_a__b338 nin0)
  have F_a__resource_372 : Fld Z T369.heap a_ "com/example/tidewheel/tidewheel/model/KeyedRequest" "resource" "Ljava/lang/String;" (.ref c_) := F_a__resource_341.keep K369 (ninS ne_a__b338 nin0)
  have E_b338_373 : Exa Z T369.heap b338 "com/example/tidewheel/tidewheel/model/KeyedRequest" := A338.keep K369
  have pre374 : ∀ t, Steps p.tables e below (T369.setTop (mkF m 20 #[.val (.ref a_), .val .null] [(.ref b338)])) t → Steps p.tables e below (s₁.setTop (entryFrame m #[(.ref a_), .null] 2)) t := by
    intro t kk
    refine pre345 t ?_
    show Steps p.tables e below (T344.setTop (mkF m 17 #[.val (.ref a_), .val .null] [.null, (.ref c_), (.ref r_), (.ref k_), (.ref b338), (.ref b338)])) _
    refine st369.trans ?_
    exact kk
  clear X344 e344 st369 N369q KP338 Z338 F_a__key_339 F_a__request_340 F_a__resource_341 A338 F_key_b338 F_request_b338 F_resource_b338 F_answer_b338 K369 pre345
  obtain ⟨fs, hr, hrun, hended, hW, hsame⟩ := X369.leave (v := some (.ref b338)) (fun h => by rw [Bd.returns] at h; cases h)
  refine ⟨_, _, pre374 _ ?_, hrun, hended, _, _, rfl, ?_, ⟨_, rfl⟩, hW, hsame.mono (by decide) (by decide)⟩
  · show Steps p.tables e below (T369.setTop (mkF m 20 #[.val (.ref a_), .val .null] [(.ref b338)])) _
    exact retOut X369 hx Bd.returns rfl (Or.inr (Or.inr (Or.inr (Or.inr ⟨rfl, rfl, rfl⟩)))) (hb hby d10_20) hr
  · show Q10_rn Z a_ k_ r_ c_ h0 n0 _ T369.heap _
    exact ⟨_, rfl, N369, KP369, sz_b338, Eq369, Fq369_key, Fq369_request, Fq369_resource, Fq369_answer⟩
theorem d12_4 : decode jdk_32_method_4_code 4 = .ok (.getstatic 1, 3) := by decide +kernel
theorem d12_7 : decode jdk_32_method_4_code 7 = .ok (.goto 11, 3) := by decide +kernel
theorem ef_12_n (m : MethodId)  : entryFrame m #[.null] 1 = mkF m 0 #[.val .null] [] := by first | (simp [entryFrame, mkF, argsToLocals, Value.category]; done) | rfl
def Q12_n (Z : State) (wE : Addr) (h0 : Heap) (n0 : Nat) (v : Option Value) (h : Heap) (L : List Loc) : Prop := ∃ b : Addr, v = some (.ref b) ∧ Fr n0 L ∧ Keep h0 h [] ∧ Exa Z h b "java/util/Optional" ∧ Fld Z h b "java/util/Optional" "value" "Ljava/lang/Object;" .null
set_option maxRecDepth 65536 in
set_option maxHeartbeats 40000000 in
theorem rm12_n (l : Launch) (Z : State) (aA : Array Value) (hw : ∀ d ∈ tables_1, d.before aA Z = true) (ws : List Jvm.Cond) (wE : Addr) (h0 : Heap) (n0 : Nat) (Z0 : n0 ≤ h0.size) (O0 : Old Z n0 h0) (S_EMPTY : Sta Z Z.heap "java/util/Optional" "EMPTY" "Ljava/util/Optional;" (.ref wE)) (X_EMPTY : Exa Z Z.heap wE "java/util/Optional") (G_EMPTY : Fld Z Z.heap wE "java/util/Optional" "value" "Ljava/lang/Object;" .null) :
    MetFree l (⟨"java/util/Optional", "ofNullable", "(Ljava/lang/Object;)Ljava/util/Optional;"⟩ : MethodName) (head1 (Jvm.Cond.code (⟨"java/util/Optional", "ofNullable", "(Ljava/lang/Object;)Ljava/util/Optional;"⟩ : MethodName) jdk_32_method_4_code 1 (some (.object "java/util/Optional")) :: ws) ({ frames := 0, cells := 1, slots := 1, locals := 0 } : Room)) (fun a U => a = #[.null] ∧ Z.Warmed39 U.vm ∧ U.heap = h0) (fun _ _ _ _ _ => True) (fun _ U o U' => ∃ v L, o = .returned v ∧ Q12_n Z wE h0 n0 v U'.heap L ∧ FrameEnd U o U' L ({ frames := 0, cells := 1, slots := 1, locals := 0 } : Room).cells ({ frames := 0, cells := 1, slots := 1, locals := 0 } : Room).slots) := by
  refine MetFree.of_bodySF (plainFor_of_name pn_java_util_Optional) hisR ?_
  intro p e s m args below meth c s₁ Bd hml0 hP hK
  obtain ⟨rfl, hZ, hh⟩ := hP
  have hx := Bd.exec
  have hby := Bd.bytes
  have hml : c.maxLocals = 1 := hml0
  have hown : s.vm.findClass "java/util/Optional" = some m.cls := findClass_of_methodNamed Bd.named
  have hnm := (name_of_methodNamed Bd.named Bd.method).1
  have X0 : Stand p l e ({ frames := 0, cells := 1, slots := 1, locals := 0 } : Room) s m #[.null] below meth c s₁ [] 0 0 := Stand.of_body Bd
  have e0 : s₁.heap = h0 := by rw [← hh, Bd.state]; rfl
  have N0 := Fr.nil n0
  have KP0 : Keep h0 h0 [] := Keep.refl h0 _
  have pre0 : ∀ t, Steps p.tables e below (s₁.setTop (mkF m 0 #[.val .null] [])) t → Steps p.tables e below (s₁.setTop (entryFrame m #[.null] 1)) t := fun t k => castTop (ef_12_n m ) k
  obtain ⟨T419, X419, e419, st419⟩ := getS2 X0 hx hZ hown (host := "") (Or.inl (hw _ tb_77)) Via.refl e0 (S_EMPTY.ext O0.2) (g := (mkF m 4 #[.val .null] [])) rfl (hb hby d12_4)
  have pre420 : ∀ t, Steps p.tables e below (T419.setTop (mkF m 18 #[.val .null] [(.ref wE)])) t → Steps p.tables e below (s₁.setTop (entryFrame m #[.null] 1)) t := by
    intro t kk
    refine pre0 t ?_
    show Steps p.tables e below (s₁.setTop (mkF m 0 #[.val .null] [])) _
    refine XS.aloadN X0.here hx rfl (hb hby d12_0) rfl rfl ?_
    refine XS.ifnonnullNo X0.here hx rfl (hb hby d12_1) rfl ?_
    refine st419 _ ?_
    refine XS.goto X419.here hx rfl (pc0 := 7) (pc' := 18) rfl (hb hby d12_7) (by decide) (by decide) ?_
    exact kk
  clear st419
  obtain ⟨fs, hr, hrun, hended, hW, hsame⟩ := X419.leave (v := some (.ref wE)) (fun h => by rw [Bd.returns] at h; cases h)
  refine ⟨_, _, pre420 _ ?_, hrun, hended, _, _, rfl, ?_, ⟨_, rfl⟩, hW, hsame.mono (by decide) (by decide)⟩
  · show Steps p.tables e below (T419.setTop (mkF m 18 #[.val .null] [(.ref wE)])) _
    exact retOut X419 hx Bd.returns rfl (Or.inr (Or.inr (Or.inr (Or.inr ⟨rfl, rfl, rfl⟩)))) (hb hby d12_18) hr
  · show Q12_n Z wE h0 n0 _ T419.heap _
    rw [e419]
    exact ⟨_, rfl, N0, KP0, (X_EMPTY.ext O0.2), (G_EMPTY.ext O0.2)⟩
def Q17_n (Z : State) (a_ : Addr) (wE : Addr) (h0 : Heap) (n0 : Nat) (v : Option Value) (h : Heap) (L : List Loc) : Prop := ∃ b : Addr, v = some (.ref b) ∧ Fr n0 L ∧ Keep h0 h [] ∧ Exa Z h b "java/util/Optional" ∧ Fld Z h b "java/util/Optional" "value" "Ljava/lang/Object;" .null
set_option maxRecDepth 65536 in
set_option maxHeartbeats 40000000 in
theorem rm17_n (l : Launch) (Z : State) (aA : Array Value) (hw : ∀ d ∈ tables_1, d.before aA Z = true) (ws : List Jvm.Cond) (a_ : Addr) (wE : Addr) (h0 : Heap) (n0 : Nat) (Z0 : n0 ≤ h0.size) (O0 : Old Z n0 h0) (S_EMPTY : Sta Z Z.heap "java/util/Optional" "EMPTY" "Ljava/util/Optional;" (.ref wE)) (X_EMPTY : Exa Z Z.heap wE "java/util/Optional") (G_EMPTY : Fld Z Z.heap wE "java/util/Optional" "value" "Ljava/lang/Object;" .null) (F_f : Fld Z h0 a_ "com/example/tidewheel/tidewheel/model/KeyedRequest" "answer" "Lcom/example/tidewheel/tidewheel/model/KeyedRequest$Answer;" .null) :
    MetFree l (⟨"com/example/tidewheel/tidewheel/model/KeyedRequest", "answer", "()Ljava/util/Optional;"⟩ : MethodName) (head1 (Jvm.Cond.code (⟨"com/example/tidewheel/tidewheel/model/KeyedRequest", "answer", "()Ljava/util/Optional;"⟩ : MethodName) prog_30_method_8_code 1 (some (.object "java/util/Optional")) :: ws) ({ frames := 1, cells := 1, slots := 1, locals := 12 } : Room)) (fun a U => a = #[(.ref a_)] ∧ Z.Warmed39 U.vm ∧ U.heap = h0) (fun _ _ _ _ _ => True) (fun _ U o U' => ∃ v L, o = .returned v ∧ Q17_n Z a_ wE h0 n0 v U'.heap L ∧ FrameEnd U o U' L ({ frames := 1, cells := 1, slots := 1, locals := 12 } : Room).cells ({ frames := 1, cells := 1, slots := 1, locals := 12 } : Room).slots) := by
  refine MetFree.of_bodySF (plainFor_of_name pn_com_example_tidewheel_tidewheel_model_KeyedRequest) hisR ?_
  intro p e s m args below meth c s₁ Bd hml0 hP hK
  obtain ⟨rfl, hZ, hh⟩ := hP
  have hx := Bd.exec
  have hby := Bd.bytes
  have hml : c.maxLocals = 1 := hml0
  have hown : s.vm.findClass "com/example/tidewheel/tidewheel/model/KeyedRequest" = some m.cls := findClass_of_methodNamed Bd.named
  have hnm := (name_of_methodNamed Bd.named Bd.method).1
  have X0 : Stand p l e ({ frames := 1, cells := 1, slots := 1, locals := 12 } : Room) s m #[(.ref a_)] below meth c s₁ [] 0 0 := Stand.of_body Bd
  have e0 : s₁.heap = h0 := by rw [← hh, Bd.state]; rfl
  have N0 := Fr.nil n0
  have KP0 : Keep h0 h0 [] := Keep.refl h0 _
  have pre0 : ∀ t, Steps p.tables e below (s₁.setTop (mkF m 0 #[.val (.ref a_)] [])) t → Steps p.tables e below (s₁.setTop (entryFrame m #[(.ref a_)] 1)) t := fun t k => castTop (ef_17_R m a_) k
  obtain ⟨T417, X417, e417, st417⟩ := getF X0 hx hZ hown (host := "") (Or.inl (hw _ tb_59)) Via.refl e0 F_f (g := (mkF m 1 #[.val (.ref a_)] [(.ref a_)])) rfl rfl (hb hby d17_1)
  have pre418 : ∀ t, Steps p.tables e below (T417.setTop (mkF m 4 #[.val (.ref a_)] [.null])) t → Steps p.tables e below (s₁.setTop (entryFrame m #[(.ref a_)] 1)) t := by
    intro t kk
    refine pre0 t ?_
    show Steps p.tables e below (s₁.setTop (mkF m 0 #[.val (.ref a_)] [])) _
    refine XS.aloadN X0.here hx rfl (hb hby d17_0) rfl rfl ?_
    refine st417 _ ?_
    exact kk
  clear st417
  obtain ⟨_, _, ⟨T421, L421, k421, n421⟩, -, X421, ⟨Lc421, hQ421, l421, y421, z421⟩, st421⟩ := Jvm.LawKit.callS X417 hx (y := (⟨"java/util/Optional", "ofNullable", "(Ljava/lang/Object;)Ljava/util/Optional;"⟩ : MethodName)) hown (mt_73 hZ hw) (mt_74 hZ hw) (mt_75 hZ hw) (mt_76 hZ hw) (by decide) (backOf (W := 0) (rm12_n l Z aA hw []  wE h0 n0 Z0 O0 S_EMPTY X_EMPTY G_EMPTY) hZ (hw _ tb_76) (hw _ tb_75) (by decide) (by decide)) (g := (mkF m 4 #[.val (.ref a_)] [.null])) rfl (by rw [hml]; rfl) (argsL := [.null]) (rest := []) (lenOf pd__28Ljava_2flang_2fObject_3b_29Ljava_2futil_2fOptional_3b rfl) rfl (by show 2 * 0 + _ ≤ _; exact Nat.le_of_eq rfl) (hb hby d17_4) (fun _ _ => ⟨rfl, e417, (by decide : 0 + 1 ≤ _), (by decide : 0 + 1 ≤ _)⟩)
  dsimp only [Pt.U, Pt.locs, Pt.cells, Pt.slots] at X421 l421 y421 z421 st421 hQ421
  replace l421 := l421.symm
  subst l421
  obtain rfl : k421 = 1 := y421
  obtain rfl : n421 = 1 := z421
  obtain ⟨b421, rfl, N421q, K421, Eq421, Fq421⟩ := hQ421
  have N421 := Fr.app N0 N421q
  have KP421 : Keep h0 T421.heap [] := KP0.trans K421 all0
  have Z421 : n0 ≤ T421.heap.size := Nat.le_trans Z0 K421.1
  have O_422 : Old Z n0 T421.heap := O0.keep K421 all0
  have E_wE_423 : Exa Z T421.heap wE "java/util/Optional" := (X_EMPTY.ext O0.2).keep K421
  have F_wE_value_424 : Fld Z T421.heap wE "java/util/Optional" "value" "Ljava/lang/Object;" .null := (G_EMPTY.ext O0.2).keep K421 nin0
  have F_a__answer_425 : Fld Z T421.heap a_ "com/example/tidewheel/tidewheel/model/KeyedRequest" "answer" "Lcom/example/tidewheel/tidewheel/model/KeyedRequest$Answer;" .null := F_f.keep K421 nin0
  have pre426 : ∀ t, Steps p.tables e below (T421.setTop (mkF m 7 #[.val (.ref a_)] [(.ref b421)])) t → Steps p.tables e below (s₁.setTop (entryFrame m #[(.ref a_)] 1)) t := by
    intro t kk
    refine pre418 t ?_
    show Steps p.tables e below (T417.setTop (mkF m 4 #[.val (.ref a_)] [.null])) _
    refine st421 _ ?_
    exact kk
  clear X417 e417 st421 N421q K421 pre418
  obtain ⟨fs, hr, hrun, hended, hW, hsame⟩ := X421.leave (v := some (.ref b421)) (fun h => by rw [Bd.returns] at h; cases h)
  refine ⟨_, _, pre426 _ ?_, hrun, hended, _, _, rfl, ?_, ⟨_, rfl⟩, hW, hsame.mono (by decide) (by decide)⟩
  · show Steps p.tables e below (T421.setTop (mkF m 7 #[.val (.ref a_)] [(.ref b421)])) _
    exact retOut X421 hx Bd.returns rfl (Or.inr (Or.inr (Or.inr (Or.inr ⟨rfl, rfl, rfl⟩)))) (hb hby d17_7) hr
  · show Q17_n Z a_ wE h0 n0 _ T421.heap _
    exact ⟨_, rfl, N421, KP421, Eq421, Fq421⟩
theorem d13_14 : decode jdk_32_method_15_code 14 = .ok (.aload_n 1, 1) := by decide +kernel
def Q13_n (Z : State) (a_ : Addr) (h0 : Heap) (n0 : Nat) (v : Option Value) (h : Heap) (L : List Loc) : Prop := v = some .null ∧ Fr n0 L ∧ h = h0
set_option maxRecDepth 65536 in
set_option maxHeartbeats 40000000 in
theorem rm13_n (l : Launch) (Z : State) (aA : Array Value) (hw : ∀ d ∈ tables_1, d.before aA Z = true) (ws : List Jvm.Cond) (a_ : Addr) (h0 : Heap) (n0 : Nat) (Z0 : n0 ≤ h0.size) (F_v : Fld Z h0 a_ "java/util/Optional" "value" "Ljava/lang/Object;" .null) :
    MetFree l (⟨"java/util/Optional", "orElse", "(Ljava/lang/Object;)Ljava/lang/Object;"⟩ : MethodName) (head1 (Jvm.Cond.code (⟨"java/util/Optional", "orElse", "(Ljava/lang/Object;)Ljava/lang/Object;"⟩ : MethodName) jdk_32_method_15_code 2 (some (.object "java/lang/Object")) :: ws) ({ frames := 0, cells := 0, slots := 0, locals := 0 } : Room)) (fun a U => a = #[(.ref a_), .null] ∧ Z.Warmed39 U.vm ∧ U.heap = h0) (fun _ _ _ _ _ => True) (fun _ U o U' => ∃ v L, o = .returned v ∧ Q13_n Z a_ h0 n0 v U'.heap L ∧ FrameEnd U o U' L ({ frames := 0, cells := 0, slots := 0, locals := 0 } : Room).cells ({ frames := 0, cells := 0, slots := 0, locals := 0 } : Room).slots) := by
  refine MetFree.of_bodySF (plainFor_of_name pn_java_util_Optional) hisR ?_
  intro p e s m args below meth c s₁ Bd hml0 hP hK
  obtain ⟨rfl, hZ, hh⟩ := hP
  have hx := Bd.exec
  have hby := Bd.bytes
  have hml : c.maxLocals = 2 := hml0
  have hown : s.vm.findClass "java/util/Optional" = some m.cls := findClass_of_methodNamed Bd.named
  have hnm := (name_of_methodNamed Bd.named Bd.method).1
  have X0 : Stand p l e ({ frames := 0, cells := 0, slots := 0, locals := 0 } : Room) s m #[(.ref a_), .null] below meth c s₁ [] 0 0 := Stand.of_body Bd
  have e0 : s₁.heap = h0 := by rw [← hh, Bd.state]; rfl
  have N0 := Fr.nil n0
  have KP0 : Keep h0 h0 [] := Keep.refl h0 _
  have pre0 : ∀ t, Steps p.tables e below (s₁.setTop (mkF m 0 #[.val (.ref a_), .val .null] [])) t → Steps p.tables e below (s₁.setTop (entryFrame m #[(.ref a_), .null] 2)) t := fun t k => castTop (ef_13_Rn m a_) k
  obtain ⟨T446, X446, e446, st446⟩ := getF X0 hx hZ hown (host := "") (Or.inl (hw _ tb_83)) Via.refl e0 F_v (g := (mkF m 1 #[.val (.ref a_), .val .null] [(.ref a_)])) rfl rfl (hb hby d13_1)
  have pre447 : ∀ t, Steps p.tables e below (T446.setTop (mkF m 15 #[.val (.ref a_), .val .null] [.null])) t → Steps p.tables e below (s₁.setTop (entryFrame m #[(.ref a_), .null] 2)) t := by
    intro t kk
    refine pre0 t ?_
    show Steps p.tables e below (s₁.setTop (mkF m 0 #[.val (.ref a_), .val .null] [])) _
    refine XS.aloadN X0.here hx rfl (hb hby d13_0) rfl rfl ?_
    refine st446 _ ?_
    refine XS.ifnullYes X446.here hx rfl (pc0 := 4) (pc' := 14) rfl (hb hby d13_4) rfl (by decide) (by decide) ?_
    refine XS.aloadN X446.here hx rfl (hb hby d13_14) rfl rfl ?_
    exact kk
  clear st446
  obtain ⟨fs, hr, hrun, hended, hW, hsame⟩ := X446.leave (v := some .null) (fun h => by rw [Bd.returns] at h; cases h)
  refine ⟨_, _, pre447 _ ?_, hrun, hended, _, _, rfl, ?_, ⟨_, rfl⟩, hW, hsame.mono (by decide) (by decide)⟩
  · show Steps p.tables e below (T446.setTop (mkF m 15 #[.val (.ref a_), .val .null] [.null])) _
    exact retOut X446 hx Bd.returns rfl (Or.inr (Or.inr (Or.inr (Or.inr ⟨rfl, rfl, rfl⟩)))) (hb hby d13_15) hr
  · show Q13_n Z a_ h0 n0 _ T446.heap _
    rw [e446]
    exact ⟨rfl, N0, rfl⟩
theorem ef_9_RRRnR (m : MethodId) (x0 : Addr) (x1 : Addr) (x2 : Addr) (x4 : Addr) : entryFrame m #[(.ref x0), (.ref x1), (.ref x2), .null, (.ref x4)] 5 = mkF m 0 #[.val (.ref x0), .val (.ref x1), .val (.ref x2), .val .null, .val (.ref x4)] [] := by first | (simp [entryFrame, mkF, argsToLocals, Value.category]; done) | rfl
def Q9_rrnr (Z : State) (a_ : Addr) (a1 : Addr) (a2 : Addr) (a4 : Addr) (h0 : Heap) (n0 : Nat) (v : Option Value) (h : Heap) (L : List Loc) : Prop := v = none ∧ Fr n0 L ∧ Keep h0 h [a_] ∧ Exa Z h a_ "com/example/tidewheel/tidewheel/model/KeyedRequest" ∧ Fld Z h a_ "com/example/tidewheel/tidewheel/model/KeyedRequest" "key" "Ljava/lang/String;" (.ref a1) ∧ Fld Z h a_ "com/example/tidewheel/tidewheel/model/KeyedRequest" "request" "Ljava/lang/String;" (.ref a2) ∧ Fld Z h a_ "com/example/tidewheel/tidewheel/model/KeyedRequest" "resource" "Ljava/lang/String;" .null ∧ Fld Z h a_ "com/example/tidewheel/tidewheel/model/KeyedRequest" "answer" "Lcom/example/tidewheel/tidewheel/model/KeyedRequest$Answer;" (.ref a4)
set_option maxRecDepth 65536 in
set_option maxHeartbeats 40000000 in
theorem rm9_rrnr (l : Launch) (Z : State) (aA : Array Value) (hw : ∀ d ∈ tables_1, d.before aA Z = true) (ws : List Jvm.Cond) (a_ : Addr) (a1 : Addr) (a2 : Addr) (a4 : Addr) (h0 : Heap) (n0 : Nat) (Z0 : n0 ≤ h0.size) (E_a : Exa Z h0 a_ "com/example/tidewheel/tidewheel/model/KeyedRequest") (g_a_ : n0 ≤ a_) (F_key : Fld Z h0 a_ "com/example/tidewheel/tidewheel/model/KeyedRequest" "key" "Ljava/lang/String;" .null) (F_request : Fld Z h0 a_ "com/example/tidewheel/tidewheel/model/KeyedRequest" "request" "Ljava/lang/String;" .null) (F_resource : Fld Z h0 a_ "com/example/tidewheel/tidewheel/model/KeyedRequest" "resource" "Ljava/lang/String;" .null) (F_answer : Fld Z h0 a_ "com/example/tidewheel/tidewheel/model/KeyedRequest" "answer" "Lcom/example/tidewheel/tidewheel/model/KeyedRequest$Answer;" .null) :
    MetFree l (⟨"com/example/tidewheel/tidewheel/model/KeyedRequest", "<init>", "(Ljava/lang/String;Ljava/lang/String;Ljava/lang/String;Lcom/example/tidewheel/tidewheel/model/KeyedRequest$Answer;)V"⟩ : MethodName) (head1 (Jvm.Cond.code (⟨"com/example/tidewheel/tidewheel/model/KeyedRequest", "<init>", "(Ljava/lang/String;Ljava/lang/String;Ljava/lang/String;Lcom/example/tidewheel/tidewheel/model/KeyedRequest$Answer;)V"⟩ : MethodName) prog_30_method_1_code 5 none :: ws) ({ frames := 1, cells := 0, slots := 0, locals := 12 } : Room)) (fun a U => a = #[(.ref a_), (.ref a1), (.ref a2), .null, (.ref a4)] ∧ Z.Warmed39 U.vm ∧ U.heap = h0) (fun _ _ _ _ _ => True) (fun _ U o U' => ∃ v L, o = .returned v ∧ Q9_rrnr Z a_ a1 a2 a4 h0 n0 v U'.heap L ∧ FrameEnd U o U' L ({ frames := 1, cells := 0, slots := 0, locals := 12 } : Room).cells ({ frames := 1, cells := 0, slots := 0, locals := 12 } : Room).slots) := by
  refine MetFree.of_bodySF (plainFor_of_name pn_com_example_tidewheel_tidewheel_model_KeyedRequest) hisR ?_
  intro p e s m args below meth c s₁ Bd hml0 hP hK
  obtain ⟨rfl, hZ, hh⟩ := hP
  have hx := Bd.exec
  have hby := Bd.bytes
  have hml : c.maxLocals = 5 := hml0
  have hown : s.vm.findClass "com/example/tidewheel/tidewheel/model/KeyedRequest" = some m.cls := findClass_of_methodNamed Bd.named
  have hnm := (name_of_methodNamed Bd.named Bd.method).1
  have X0 : Stand p l e ({ frames := 1, cells := 0, slots := 0, locals := 12 } : Room) s m #[(.ref a_), (.ref a1), (.ref a2), .null, (.ref a4)] below meth c s₁ [] 0 0 := Stand.of_body Bd
  have e0 : s₁.heap = h0 := by rw [← hh, Bd.state]; rfl
  have N0 := Fr.nil n0
  have KP0 : Keep h0 h0 [a_] := Keep.refl h0 _
  have pre0 : ∀ t, Steps p.tables e below (s₁.setTop (mkF m 0 #[.val (.ref a_), .val (.ref a1), .val (.ref a2), .val .null, .val (.ref a4)] [])) t → Steps p.tables e below (s₁.setTop (entryFrame m #[(.ref a_), (.ref a1), (.ref a2), .null, (.ref a4)] 5)) t := fun t k => castTop (ef_9_RRRnR m a_ a1 a2 a4) k
  have pre716 : ∀ t, Steps p.tables e below (s₁.setTop (mkF m 1 #[.val (.ref a_), .val (.ref a1), .val (.ref a2), .val .null, .val (.ref a4)] [(.ref a_)])) t → Steps p.tables e below (s₁.setTop (entryFrame m #[(.ref a_), (.ref a1), (.ref a2), .null, (.ref a4)] 5)) t := by
    intro t kk
    refine pre0 t ?_
    show Steps p.tables e below (s₁.setTop (mkF m 0 #[.val (.ref a_), .val (.ref a1), .val (.ref a2), .val .null, .val (.ref a4)] [])) _
    refine XS.aloadN X0.here hx rfl (hb hby d9_0) rfl rfl ?_
    exact kk
  obtain ⟨T717, X717, e717, st717⟩ := initO X0 hx hZ hown (hw _ tb_52) (hw _ tb_12) (hw _ tb_13) e0 (g := (mkF m 1 #[.val (.ref a_), .val (.ref a1), .val (.ref a2), .val .null, .val (.ref a4)] [(.ref a_)])) rfl (by rw [hml]; rfl) rfl (hb hby d9_1) (by decide) (W := 0) (by show 2 * 0 + _ ≤ _; exact Nat.le_of_eq rfl) (by decide)
  obtain ⟨T718, h718, X718, e718, W718, st718⟩ := putF X717 hx hZ hown (host := "") (Or.inl (hw _ tb_53)) Via.refl e717 F_key E_a (Or.inr ⟨(hw _ tb_54), rfl, hnm⟩) (hw _ tb_47) (ty := (.object "java/lang/String")) (by decide) rfl rfl (g := (mkF m 6 #[.val (.ref a_), .val (.ref a1), .val (.ref a2), .val .null, .val (.ref a4)] [(.ref a1), (.ref a_)])) rfl rfl (hb hby d9_6)
  have Fw718 := F_key.same W718
  have KP718 : Keep h0 h718 [a_] := KP0.wr W718 (Or.inl (List.mem_of_getElem? (i := 0) rfl))
  have Z718 : n0 ≤ h718.size := Nat.le_trans Z0 (Nat.le_of_eq W718.size.symm)
  have N718 := Fr.snoc X718 N0 g_a_
  have E_a__719 : Exa Z h718 a_ "com/example/tidewheel/tidewheel/model/KeyedRequest" := E_a.wr W718
  have F_a__request_720 : Fld Z h718 a_ "com/example/tidewheel/tidewheel/model/KeyedRequest" "request" "Ljava/lang/String;" .null := F_request.other W718 (Or.inr (slot_ne (Or.inr (hw _ tb_56)) (Or.inr (hw _ tb_54)) (by decide) (t := (.object "java/lang/String")) (t' := (.object "java/lang/String")) (by decide) (by decide)))
  have F_a__resource_721 : Fld Z h718 a_ "com/example/tidewheel/tidewheel/model/KeyedRequest" "resource" "Ljava/lang/String;" .null := F_resource.other W718 (Or.inr (slot_ne (Or.inr (hw _ tb_58)) (Or.inr (hw _ tb_54)) (by decide) (t := (.object "java/lang/String")) (t' := (.object "java/lang/String")) (by decide) (by decide)))
  have F_a__answer_722 : Fld Z h718 a_ "com/example/tidewheel/tidewheel/model/KeyedRequest" "answer" "Lcom/example/tidewheel/tidewheel/model/KeyedRequest$Answer;" .null := F_answer.other W718 (Or.inr (slot_ne (Or.inr (hw _ tb_60)) (Or.inr (hw _ tb_54)) (by decide) (t := (.object "com/example/tidewheel/tidewheel/model/KeyedRequest$Answer")) (t' := (.object "java/lang/String")) (by decide) (by decide)))
  obtain ⟨T723, h723, X723, e723, W723, st723⟩ := putF X718 hx hZ hown (host := "") (Or.inl (hw _ tb_55)) Via.refl e718 F_a__request_720 E_a__719 (Or.inr ⟨(hw _ tb_56), rfl, hnm⟩) (hw _ tb_47) (ty := (.object "java/lang/String")) (by decide) rfl rfl (g := (mkF m 11 #[.val (.ref a_), .val (.ref a1), .val (.ref a2), .val .null, .val (.ref a4)] [(.ref a2), (.ref a_)])) rfl rfl (hb hby d9_11)
  have Fw723 := F_a__request_720.same W723
  have KP723 : Keep h0 h723 [a_] := KP718.wr W723 (Or.inl (List.mem_of_getElem? (i := 0) rfl))
  have Z723 : n0 ≤ h723.size := Nat.le_trans Z718 (Nat.le_of_eq W723.size.symm)
  have N723 := Fr.snoc X723 N718 g_a_
  have E_a__724 : Exa Z h723 a_ "com/example/tidewheel/tidewheel/model/KeyedRequest" := E_a__719.wr W723
  have F_a__resource_725 : Fld Z h723 a_ "com/example/tidewheel/tidewheel/model/KeyedRequest" "resource" "Ljava/lang/String;" .null := F_a__resource_721.other W723 (Or.inr (slot_ne (Or.inr (hw _ tb_58)) (Or.inr (hw _ tb_56)) (by decide) (t := (.object "java/lang/String")) (t' := (.object "java/lang/String")) (by decide) (by decide)))
  have F_a__answer_726 : Fld Z h723 a_ "com/example/tidewheel/tidewheel/model/KeyedRequest" "answer" "Lcom/example/tidewheel/tidewheel/model/KeyedRequest$Answer;" .null := F_a__answer_722.other W723 (Or.inr (slot_ne (Or.inr (hw _ tb_60)) (Or.inr (hw _ tb_56)) (by decide) (t := (.object "com/example/tidewheel/tidewheel/model/KeyedRequest$Answer")) (t' := (.object "java/lang/String")) (by decide) (by decide)))
  have F_a__key_727 : Fld Z h723 a_ "com/example/tidewheel/tidewheel/model/KeyedRequest" "key" "Ljava/lang/String;" (.ref a1) := Fw718.other W723 (Or.inr (slot_ne (Or.inr (hw _ tb_54)) (Or.inr (hw _ tb_56)) (by decide) (t := (.object "java/lang/String")) (t' := (.object "java/lang/String")) (by decide) (by decide)))
  obtain ⟨T728, h728, X728, e728, W728, st728⟩ := putF X723 hx hZ hown (host := "") (Or.inl (hw _ tb_57)) Via.refl e723 F_a__resource_725 E_a__724 (Or.inr ⟨(hw _ tb_58), rfl, hnm⟩) (hw _ tb_47) (ty := (.object "java/lang/String")) (by decide) rfl rfl (g := (mkF m 16 #[.val (.ref a_), .val (.ref a1), .val (.ref a2), .val .null, .val (.ref a4)] [.null, (.ref a_)])) rfl rfl (hb hby d9_16)
  have Fw728 := F_a__resource_725.same W728
  have KP728 : Keep h0 h728 [a_] := KP723.wr W728 (Or.inl (List.mem_of_getElem? (i := 0) rfl))
  have Z728 : n0 ≤ h728.size := Nat.le_trans Z723 (Nat.le_of_eq W728.size.symm)
  have N728 := Fr.snoc X728 N723 g_a_
  have E_a__729 : Exa Z h728 a_ "com/example/tidewheel/tidewheel/model/KeyedRequest" := E_a__724.wr W728
  have F_a__answer_730 : Fld Z h728 a_ "com/example/tidewheel/tidewheel/model/KeyedRequest" "answer" "Lcom/example/tidewheel/tidewheel/model/KeyedRequest$Answer;" .null := F_a__answer_726.other W728 (Or.inr (slot_ne (Or.inr (hw _ tb_60)) (Or.inr (hw _ tb_58)) (by decide) (t := (.object "com/example/tidewheel/tidewheel/model/KeyedRequest$Answer")) (t' := (.object "java/lang/String")) (by decide) (by decide)))
  have F_a__key_731 : Fld Z h728 a_ "com/example/tidewheel/tidewheel/model/KeyedRequest" "key" "Ljava/lang/String;" (.ref a1) := F_a__key_727.other W728 (Or.inr (slot_ne (Or.inr (hw _ tb_54)) (Or.inr (hw _ tb_58)) (by decide) (t := (.object "java/lang/String")) (t' := (.object "java/lang/String")) (by decide) (by decide)))
  have F_a__request_732 : Fld Z h728 a_ "com/example/tidewheel/tidewheel/model/KeyedRequest" "request" "Ljava/lang/String;" (.ref a2) := Fw723.other W728 (Or.inr (slot_ne (Or.inr (hw _ tb_56)) (Or.inr (hw _ tb_58)) (by decide) (t := (.object "java/lang/String")) (t' := (.object "java/lang/String")) (by decide) (by decide)))
  obtain ⟨T733, h733, X733, e733, W733, st733⟩ := putF X728 hx hZ hown (host := "") (Or.inl (hw _ tb_59)) Via.refl e728 F_a__answer_730 E_a__729 (Or.inr ⟨(hw _ tb_60), rfl, hnm⟩) (hw _ tb_47) (ty := (.object "com/example/tidewheel/tidewheel/model/KeyedRequest$Answer")) (by decide) rfl rfl (g := (mkF m 22 #[.val (.ref a_), .val (.ref a1), .val (.ref a2), .val .null, .val (.ref a4)] [(.ref a4), (.ref a_)])) rfl rfl (hb hby d9_22)
  have Fw733 := F_a__answer_730.same W733
  have KP733 : Keep h0 h733 [a_] := KP728.wr W733 (Or.inl (List.mem_of_getElem? (i := 0) rfl))
  have Z733 : n0 ≤ h733.size := Nat.le_trans Z728 (Nat.le_of_eq W733.size.symm)
  have N733 := Fr.snoc X733 N728 g_a_
  have E_a__734 : Exa Z h733 a_ "com/example/tidewheel/tidewheel/model/KeyedRequest" := E_a__729.wr W733
  have F_a__key_735 : Fld Z h733 a_ "com/example/tidewheel/tidewheel/model/KeyedRequest" "key" "Ljava/lang/String;" (.ref a1) := F_a__key_731.other W733 (Or.inr (slot_ne (Or.inr (hw _ tb_54)) (Or.inr (hw _ tb_60)) (by decide) (t := (.object "java/lang/String")) (t' := (.object "com/example/tidewheel/tidewheel/model/KeyedRequest$Answer")) (by decide) (by decide)))
  have F_a__request_736 : Fld Z h733 a_ "com/example/tidewheel/tidewheel/model/KeyedRequest" "request" "Ljava/lang/String;" (.ref a2) := F_a__request_732.other W733 (Or.inr (slot_ne (Or.inr (hw _ tb_56)) (Or.inr (hw _ tb_60)) (by decide) (t := (.object "java/lang/String")) (t' := (.object "com/example/tidewheel/tidewheel/model/KeyedRequest$Answer")) (by decide) (by decide)))
  have F_a__resource_737 : Fld Z h733 a_ "com/example/tidewheel/tidewheel/model/KeyedRequest" "resource" "Ljava/lang/String;" .null := Fw728.other W733 (Or.inr (slot_ne (Or.inr (hw _ tb_58)) (Or.inr (hw _ tb_60)) (by decide) (t := (.object "java/lang/String")) (t' := (.object "com/example/tidewheel/tidewheel/model/KeyedRequest$Answer")) (by decide) (by decide)))
  have pre738 : ∀ t, Steps p.tables e below (T733.setTop (mkF m 25 #[.val (.ref a_), .val (.ref a1), .val (.ref a2), .val .null, .val (.ref a4)] [])) t → Steps p.tables e below (s₁.setTop (entryFrame m #[(.ref a_), (.ref a1), (.ref a2), .null, (.ref a4)] 5)) t := by
    intro t kk
    refine pre716 t ?_
    show Steps p.tables e below (s₁.setTop (mkF m 1 #[.val (.ref a_), .val (.ref a1), .val (.ref a2), .val .null, .val (.ref a4)] [(.ref a_)])) _
    refine st717 _ ?_
    refine XS.aloadN X717.here hx rfl (hb hby d9_4) rfl rfl ?_
    refine XS.aloadN X717.here hx rfl (hb hby d9_5) rfl rfl ?_
    refine st718 _ ?_
    refine XS.aloadN X718.here hx rfl (hb hby d9_9) rfl rfl ?_
    refine XS.aloadN X718.here hx rfl (hb hby d9_10) rfl rfl ?_
    refine st723 _ ?_
    refine XS.aloadN X723.here hx rfl (hb hby d9_14) rfl rfl ?_
    refine XS.aloadN X723.here hx rfl (hb hby d9_15) rfl rfl ?_
    refine st728 _ ?_
    refine XS.aloadN X728.here hx rfl (hb hby d9_19) rfl rfl ?_
    refine XS.aload X728.here hx rfl (hb hby d9_20) rfl rfl ?_
    refine st733 _ ?_
    exact kk
  clear st717 X717 e717 st718 X718 e718 st723 E_a__719 F_a__request_720 F_a__resource_721 F_a__answer_722 Fw718 X723 e723 st728 E_a__724 F_a__resource_725 F_a__answer_726 F_a__key_727 Fw723 X728 e728 st733 E_a__729 F_a__answer_730 F_a__key_731 F_a__request_732 Fw728 pre716
  obtain ⟨fs, hr, hrun, hended, hW, hsame⟩ := X733.leave (v := none) (fun _ => rfl)
  refine ⟨_, _, pre738 _ ?_, hrun, hended, _, _, rfl, ?_, ⟨_, rfl⟩, hW, hsame.mono (by decide) (by decide)⟩
  · show Steps p.tables e below (T733.setTop (mkF m 25 #[.val (.ref a_), .val (.ref a1), .val (.ref a2), .val .null, .val (.ref a4)] [])) _
    exact X733.returnOut hx Bd.returns (hb hby d9_25) hr
  · show Q9_rrnr Z a_ a1 a2 a4 h0 n0 _ T733.heap _
    rw [e733]
    exact ⟨rfl, N733, KP733, E_a__734, F_a__key_735, F_a__request_736, F_a__resource_737, Fw733⟩
def Q10_nr (Z : State) (a_ : Addr) (d_ : Addr) (k_ : Addr) (r_ : Addr) (h0 : Heap) (n0 : Nat) (v : Option Value) (h : Heap) (L : List Loc) : Prop := ∃ b : Addr, v = some (.ref b) ∧ Fr n0 L ∧ Keep h0 h [] ∧ h0.size ≤ b ∧ Exa Z h b "com/example/tidewheel/tidewheel/model/KeyedRequest" ∧ Fld Z h b "com/example/tidewheel/tidewheel/model/KeyedRequest" "key" "Ljava/lang/String;" (.ref k_) ∧ Fld Z h b "com/example/tidewheel/tidewheel/model/KeyedRequest" "request" "Ljava/lang/String;" (.ref r_) ∧ Fld Z h b "com/example/tidewheel/tidewheel/model/KeyedRequest" "resource" "Ljava/lang/String;" .null ∧ Fld Z h b "com/example/tidewheel/tidewheel/model/KeyedRequest" "answer" "Lcom/example/tidewheel/tidewheel/model/KeyedRequest$Answer;" (.ref d_)
set_option maxRecDepth 65536 in
set_option maxHeartbeats 40000000 in
theorem rm10_nr (l : Launch) (Z : State) (aA : Array Value) (hw : ∀ d ∈ tables_1, d.before aA Z = true) (ws : List Jvm.Cond) (a_ : Addr) (d_ : Addr) (k_ : Addr) (r_ : Addr) (h0 : Heap) (n0 : Nat) (Z0 : n0 ≤ h0.size) (F_key : Fld Z h0 a_ "com/example/tidewheel/tidewheel/model/KeyedRequest" "key" "Ljava/lang/String;" (.ref k_)) (F_request : Fld Z h0 a_ "com/example/tidewheel/tidewheel/model/KeyedRequest" "request" "Ljava/lang/String;" (.ref r_)) (F_resource : Fld Z h0 a_ "com/example/tidewheel/tidewheel/model/KeyedRequest" "resource" "Ljava/lang/String;" .null) :
    MetFree l (⟨"com/example/tidewheel/tidewheel/model/KeyedRequest", "answered", "(Lcom/example/tidewheel/tidewheel/model/KeyedRequest$Answer;)Lcom/example/tidewheel/tidewheel/model/KeyedRequest;"⟩ : MethodName) (head1 (Jvm.Cond.code (⟨"com/example/tidewheel/tidewheel/model/KeyedRequest", "answered", "(Lcom/example/tidewheel/tidewheel/model/KeyedRequest$Answer;)Lcom/example/tidewheel/tidewheel/model/KeyedRequest;"⟩ : MethodName) prog_30_method_4_code 2 (some (.object "com/example/tidewheel/tidewheel/model/KeyedRequest")) :: ws) ({ frames := 2, cells := 1, slots := 4, locals := 29 } : Room)) (fun a U => a = #[(.ref a_), (.ref d_)] ∧ Z.Warmed39 U.vm ∧ U.heap = h0) (fun _ _ _ _ _ => True) (fun _ U o U' => ∃ v L, o = .returned v ∧ Q10_nr Z a_ d_ k_ r_ h0 n0 v U'.heap L ∧ FrameEnd U o U' L ({ frames := 2, cells := 1, slots := 4, locals := 29 } : Room).cells ({ frames := 2, cells := 1, slots := 4, locals := 29 } : Room).slots) := by
  refine MetFree.of_bodySF (plainFor_of_name pn_com_example_tidewheel_tidewheel_model_KeyedRequest) hisR ?_
  intro p e s m args below meth c s₁ Bd hml0 hP hK
  obtain ⟨rfl, hZ, hh⟩ := hP
  have hx := Bd.exec
  have hby := Bd.bytes
  have hml : c.maxLocals = 2 := hml0
  have hown : s.vm.findClass "com/example/tidewheel/tidewheel/model/KeyedRequest" = some m.cls := findClass_of_methodNamed Bd.named
  have hnm := (name_of_methodNamed Bd.named Bd.method).1
  have X0 : Stand p l e ({ frames := 2, cells := 1, slots := 4, locals := 29 } : Room) s m #[(.ref a_), (.ref d_)] below meth c s₁ [] 0 0 := Stand.of_body Bd
  have e0 : s₁.heap = h0 := by rw [← hh, Bd.state]; rfl
  have N0 := Fr.nil n0
  have KP0 : Keep h0 h0 [] := Keep.refl h0 _
  have pre0 : ∀ t, Steps p.tables e below (s₁.setTop (mkF m 0 #[.val (.ref a_), .val (.ref d_)] [])) t → Steps p.tables e below (s₁.setTop (entryFrame m #[(.ref a_), (.ref d_)] 2)) t := fun t k => castTop (ef_10_RR m a_ d_) k
  obtain ⟨T747, h747, X747, e747, E747, A747, D747, -, st747⟩ := newO X0 hx hZ hown (hw _ tb_66) (hw _ tb_47) (hw _ tb_48) e0 (g := (mkF m 0 #[.val (.ref a_), .val (.ref d_)] [])) rfl (hb hby d10_0) (by decide) (by decide)
  obtain ⟨b747, g747⟩ : ∃ z, z = h0.size := ⟨_, rfl⟩
  rw [← g747] at A747 D747 st747
  have ne_a__b747 : a_ ≠ b747 := Nat.ne_of_lt (Nat.lt_of_lt_of_le F_key.lt (Nat.le_of_eq g747.symm))
  have sz_b747 : h0.size ≤ b747 := Nat.le_trans KP0.1 (Nat.le_of_eq g747.symm)
  have g_b747 : n0 ≤ b747 := Nat.le_trans Z0 (Nat.le_of_eq g747.symm)
  have KP747 : Keep h0 h747 [] := KP0.ext E747
  have Z747 : n0 ≤ h747.size := Nat.le_trans Z0 E747.1
  have F_a__key_748 : Fld Z h747 a_ "com/example/tidewheel/tidewheel/model/KeyedRequest" "key" "Ljava/lang/String;" (.ref k_) := F_key.ext E747
  have F_a__request_749 : Fld Z h747 a_ "com/example/tidewheel/tidewheel/model/KeyedRequest" "request" "Ljava/lang/String;" (.ref r_) := F_request.ext E747
  have F_a__resource_750 : Fld Z h747 a_ "com/example/tidewheel/tidewheel/model/KeyedRequest" "resource" "Ljava/lang/String;" .null := F_resource.ext E747
  have F_key_b747 : Fld Z h747 b747 "com/example/tidewheel/tidewheel/model/KeyedRequest" "key" "Ljava/lang/String;" .null := D747 (Or.inr (hw _ tb_54)) (ty := (.object "java/lang/String")) (by decide)
  have F_request_b747 : Fld Z h747 b747 "com/example/tidewheel/tidewheel/model/KeyedRequest" "request" "Ljava/lang/String;" .null := D747 (Or.inr (hw _ tb_56)) (ty := (.object "java/lang/String")) (by decide)
  have F_resource_b747 : Fld Z h747 b747 "com/example/tidewheel/tidewheel/model/KeyedRequest" "resource" "Ljava/lang/String;" .null := D747 (Or.inr (hw _ tb_58)) (ty := (.object "java/lang/String")) (by decide)
  have F_answer_b747 : Fld Z h747 b747 "com/example/tidewheel/tidewheel/model/KeyedRequest" "answer" "Lcom/example/tidewheel/tidewheel/model/KeyedRequest$Answer;" .null := D747 (Or.inr (hw _ tb_60)) (ty := (.object "com/example/tidewheel/tidewheel/model/KeyedRequest$Answer")) (by decide)
  replace X747 : Stand _ _ _ _ _ _ _ _ _ _ _ _ 1 4 := X747
  obtain ⟨T751, X751, e751, st751⟩ := getF X747 hx hZ hown (host := "") (Or.inl (hw _ tb_53)) Via.refl e747 F_a__key_748 (g := (mkF m 5 #[.val (.ref a_), .val (.ref d_)] [(.ref a_), (.ref b747), (.ref b747)])) rfl rfl (hb hby d10_5)
  obtain ⟨T752, X752, e752, st752⟩ := getF X751 hx hZ hown (host := "") (Or.inl (hw _ tb_55)) Via.refl e751 F_a__request_749 (g := (mkF m 9 #[.val (.ref a_), .val (.ref d_)] [(.ref a_), (.ref k_), (.ref b747), (.ref b747)])) rfl rfl (hb hby d10_9)
  obtain ⟨T753, X753, e753, st753⟩ := getF X752 hx hZ hown (host := "") (Or.inl (hw _ tb_57)) Via.refl e752 F_a__resource_750 (g := (mkF m 13 #[.val (.ref a_), .val (.ref d_)] [(.ref a_), (.ref r_), (.ref k_), (.ref b747), (.ref b747)])) rfl rfl (hb hby d10_13)
  have pre754 : ∀ t, Steps p.tables e below (T753.setTop (mkF m 17 #[.val (.ref a_), .val (.ref d_)] [(.ref d_), .null, (.ref r_), (.ref k_), (.ref b747), (.ref b747)])) t → Steps p.tables e below (s₁.setTop (entryFrame m #[(.ref a_), (.ref d_)] 2)) t := by
    intro t kk
    refine pre0 t ?_
    show Steps p.tables e below (s₁.setTop (mkF m 0 #[.val (.ref a_), .val (.ref d_)] [])) _
    refine st747 _ ?_
    refine XS.dup X747.here hx rfl (hb hby d10_3) rfl rfl ?_
    refine XS.aloadN X747.here hx rfl (hb hby d10_4) rfl rfl ?_
    refine st751 _ ?_
    refine XS.aloadN X751.here hx rfl (hb hby d10_8) rfl rfl ?_
    refine st752 _ ?_
    refine XS.aloadN X752.here hx rfl (hb hby d10_12) rfl rfl ?_
    refine st753 _ ?_
    refine XS.aloadN X753.here hx rfl (hb hby d10_16) rfl rfl ?_
    exact kk
  clear st747 X747 e747 st751 X751 e751 st752 X752 e752 st753
  obtain ⟨_, _, ⟨T755, L755, k755, n755⟩, -, X755, ⟨Lc755, hQ755, l755, y755, z755⟩, st755⟩ := X753.specialBack hx (y := (⟨"com/example/tidewheel/tidewheel/model/KeyedRequest", "<init>", "(Ljava/lang/String;Ljava/lang/String;Ljava/lang/String;Lcom/example/tidewheel/tidewheel/model/KeyedRequest$Answer;)V"⟩ : MethodName)) rfl hown (mt_67 hZ hw) (mt_50 hZ hw) (mt_51 hZ hw) (by decide) (backOf (W := 1) (rm9_rrnr l Z aA hw [] b747 k_ r_ d_ h747 n0 Z747 A747 g_b747 F_key_b747 F_request_b747 F_resource_b747 F_answer_b747) hZ (hw _ tb_51) (hw _ tb_48) (by decide) (by decide)) (g := (mkF m 17 #[.val (.ref a_), .val (.ref d_)] [(.ref d_), .null, (.ref r_), (.ref k_), (.ref b747), (.ref b747)])) rfl (by rw [hml]; rfl) (Steps.refl _) (a := b747) (argsL := [(.ref k_), (.ref r_), .null, (.ref d_)]) (rest := [(.ref b747)]) (lenOf pd__28Ljava_2flang_2fString_3bLjava_2flang_2fString_3bLjava_2flang_2fString_3bLcom_2fexample_2ftidewheel_2ftidewheel_2fmodel_2fKeyedRequest_24Answer_3b_29V rfl) rfl (by show 2 * 0 + _ ≤ _; exact Nat.le_of_eq rfl) (hb hby d10_17) (fun _ _ => ⟨rfl, e753, (by decide : 1 + 0 ≤ _), (by decide : 4 + 0 ≤ _)⟩)
  dsimp only [Pt.U, Pt.locs, Pt.cells, Pt.slots] at X755 l755 y755 z755 st755 hQ755
  replace l755 := l755.symm
  subst l755
  obtain rfl : k755 = 1 := y755
  obtain rfl : n755 = 4 := z755
  obtain ⟨rfl, N755q, K755, Eq755, Fq755_key, Fq755_request, Fq755_resource, Fq755_answer⟩ := hQ755
  have N755 := Fr.app N0 N755q
  have KP755 : Keep h0 T755.heap [] := KP747.trans K755 (allS (Or.inr sz_b747) all0)
  have Z755 : n0 ≤ T755.heap.size := Nat.le_trans Z747 K755.1
  have F_a__key_756 : Fld Z T755.heap a_ "com/example/tidewheel/tidewheel/model/KeyedRequest" "key" "Ljava/lang/String;" (.ref k_) := F_a__key_748.keep K755 (ninS ne_a__b747 nin0)
  have F_a__request_757 : Fld Z T755.heap a_ "com/example/tidewheel/tidewheel/model/KeyedRequest" "request" "Ljava/lang/String;" (.ref r_) := F_a__request_749.keep K755 (ninS ne_a__b747 nin0)
  have F_a__resource_758 : Fld Z T755.heap a_ "com/example/tidewheel/tidewheel/model/KeyedRequest" "resource" "Ljava/lang/String;" .null := F_a__resource_750.keep K755 (ninS ne_a__b747 nin0)
  have E_b747_759 : Exa Z T755.heap b747 "com/example/tidewheel/tidewheel/model/KeyedRequest" := A747.keep K755
  have pre760 : ∀ t, Steps p.tables e below (T755.setTop (mkF m 20 #[.val (.ref a_), .val (.ref d_)] [(.ref b747)])) t → Steps p.tables e below (s₁.setTop (entryFrame m #[(.ref a_), (.ref d_)] 2)) t := by
    intro t kk
    refine pre754 t ?_
    show Steps p.tables e below (T753.setTop (mkF m 17 #[.val (.ref a_), .val (.ref d_)] [(.ref d_), .null, (.ref r_), (.ref k_), (.ref b747), (.ref b747)])) _
    refine st755.trans ?_
    exact kk
  clear X753 e753 st755 N755q KP747 Z747 F_a__key_748 F_a__request_749 F_a__resource_750 A747 F_key_b747 F_request_b747 F_resource_b747 F_answer_b747 K755 pre754
  obtain ⟨fs, hr, hrun, hended, hW, hsame⟩ := X755.leave (v := some (.ref b747)) (fun h => by rw [Bd.returns] at h; cases h)
  refine ⟨_, _, pre760 _ ?_, hrun, hended, _, _, rfl, ?_, ⟨_, rfl⟩, hW, hsame.mono (by decide) (by decide)⟩
  · show Steps p.tables e below (T755.setTop (mkF m 20 #[.val (.ref a_), .val (.ref d_)] [(.ref b747)])) _
    exact retOut X755 hx Bd.returns rfl (Or.inr (Or.inr (Or.inr (Or.inr ⟨rfl, rfl, rfl⟩)))) (hb hby d10_20) hr
  · show Q10_nr Z a_ d_ k_ r_ h0 n0 _ T755.heap _
    exact ⟨_, rfl, N755, KP755, sz_b747, Eq755, Fq755_key, Fq755_request, Fq755_resource, Fq755_answer⟩
def Q11_n (Z : State) (a_ : Addr) (wE : Addr) (h0 : Heap) (n0 : Nat) (v : Option Value) (h : Heap) (L : List Loc) : Prop := ∃ b : Addr, v = some (.ref b) ∧ Fr n0 L ∧ Keep h0 h [] ∧ Exa Z h b "java/util/Optional" ∧ Fld Z h b "java/util/Optional" "value" "Ljava/lang/Object;" .null
set_option maxRecDepth 65536 in
set_option maxHeartbeats 40000000 in
theorem rm11_n (l : Launch) (Z : State) (aA : Array Value) (hw : ∀ d ∈ tables_1, d.before aA Z = true) (ws : List Jvm.Cond) (a_ : Addr) (wE : Addr) (h0 : Heap) (n0 : Nat) (Z0 : n0 ≤ h0.size) (O0 : Old Z n0 h0) (S_EMPTY : Sta Z Z.heap "java/util/Optional" "EMPTY" "Ljava/util/Optional;" (.ref wE)) (X_EMPTY : Exa Z Z.heap wE "java/util/Optional") (G_EMPTY : Fld Z Z.heap wE "java/util/Optional" "value" "Ljava/lang/Object;" .null) (F_f : Fld Z h0 a_ "com/example/tidewheel/tidewheel/model/KeyedRequest" "resource" "Ljava/lang/String;" .null) :
    MetFree l (⟨"com/example/tidewheel/tidewheel/model/KeyedRequest", "resource", "()Ljava/util/Optional;"⟩ : MethodName) (head1 (Jvm.Cond.code (⟨"com/example/tidewheel/tidewheel/model/KeyedRequest", "resource", "()Ljava/util/Optional;"⟩ : MethodName) prog_30_method_7_code 1 (some (.object "java/util/Optional")) :: ws) ({ frames := 1, cells := 1, slots := 1, locals := 12 } : Room)) (fun a U => a = #[(.ref a_)] ∧ Z.Warmed39 U.vm ∧ U.heap = h0) (fun _ _ _ _ _ => True) (fun _ U o U' => ∃ v L, o = .returned v ∧ Q11_n Z a_ wE h0 n0 v U'.heap L ∧ FrameEnd U o U' L ({ frames := 1, cells := 1, slots := 1, locals := 12 } : Room).cells ({ frames := 1, cells := 1, slots := 1, locals := 12 } : Room).slots) := by
  refine MetFree.of_bodySF (plainFor_of_name pn_com_example_tidewheel_tidewheel_model_KeyedRequest) hisR ?_
  intro p e s m args below meth c s₁ Bd hml0 hP hK
  obtain ⟨rfl, hZ, hh⟩ := hP
  have hx := Bd.exec
  have hby := Bd.bytes
  have hml : c.maxLocals = 1 := hml0
  have hown : s.vm.findClass "com/example/tidewheel/tidewheel/model/KeyedRequest" = some m.cls := findClass_of_methodNamed Bd.named
  have hnm := (name_of_methodNamed Bd.named Bd.method).1
  have X0 : Stand p l e ({ frames := 1, cells := 1, slots := 1, locals := 12 } : Room) s m #[(.ref a_)] below meth c s₁ [] 0 0 := Stand.of_body Bd
  have e0 : s₁.heap = h0 := by rw [← hh, Bd.state]; rfl
  have N0 := Fr.nil n0
  have KP0 : Keep h0 h0 [] := Keep.refl h0 _
  have pre0 : ∀ t, Steps p.tables e below (s₁.setTop (mkF m 0 #[.val (.ref a_)] [])) t → Steps p.tables e below (s₁.setTop (entryFrame m #[(.ref a_)] 1)) t := fun t k => castTop (ef_11_R m a_) k
  obtain ⟨T773, X773, e773, st773⟩ := getF X0 hx hZ hown (host := "") (Or.inl (hw _ tb_57)) Via.refl e0 F_f (g := (mkF m 1 #[.val (.ref a_)] [(.ref a_)])) rfl rfl (hb hby d11_1)
  have pre774 : ∀ t, Steps p.tables e below (T773.setTop (mkF m 4 #[.val (.ref a_)] [.null])) t → Steps p.tables e below (s₁.setTop (entryFrame m #[(.ref a_)] 1)) t := by
    intro t kk
    refine pre0 t ?_
    show Steps p.tables e below (s₁.setTop (mkF m 0 #[.val (.ref a_)] [])) _
    refine XS.aloadN X0.here hx rfl (hb hby d11_0) rfl rfl ?_
    refine st773 _ ?_
    exact kk
  clear st773
  obtain ⟨_, _, ⟨T775, L775, k775, n775⟩, -, X775, ⟨Lc775, hQ775, l775, y775, z775⟩, st775⟩ := Jvm.LawKit.callS X773 hx (y := (⟨"java/util/Optional", "ofNullable", "(Ljava/lang/Object;)Ljava/util/Optional;"⟩ : MethodName)) hown (mt_73 hZ hw) (mt_74 hZ hw) (mt_75 hZ hw) (mt_76 hZ hw) (by decide) (backOf (W := 0) (rm12_n l Z aA hw []  wE h0 n0 Z0 O0 S_EMPTY X_EMPTY G_EMPTY) hZ (hw _ tb_76) (hw _ tb_75) (by decide) (by decide)) (g := (mkF m 4 #[.val (.ref a_)] [.null])) rfl (by rw [hml]; rfl) (argsL := [.null]) (rest := []) (lenOf pd__28Ljava_2flang_2fObject_3b_29Ljava_2futil_2fOptional_3b rfl) rfl (by show 2 * 0 + _ ≤ _; exact Nat.le_of_eq rfl) (hb hby d11_4) (fun _ _ => ⟨rfl, e773, (by decide : 0 + 1 ≤ _), (by decide : 0 + 1 ≤ _)⟩)
  dsimp only [Pt.U, Pt.locs, Pt.cells, Pt.slots] at X775 l775 y775 z775 st775 hQ775
  replace l775 := l775.symm
  subst l775
  obtain rfl : k775 = 1 := y775
  obtain rfl : n775 = 1 := z775
  obtain ⟨b775, rfl, N775q, K775, Eq775, Fq775⟩ := hQ775
  have N775 := Fr.app N0 N775q
  have KP775 : Keep h0 T775.heap [] := KP0.trans K775 all0
  have Z775 : n0 ≤ T775.heap.size := Nat.le_trans Z0 K775.1
  have O_776 : Old Z n0 T775.heap := O0.keep K775 all0
  have E_wE_777 : Exa Z T775.heap wE "java/util/Optional" := (X_EMPTY.ext O0.2).keep K775
  have F_wE_value_778 : Fld Z T775.heap wE "java/util/Optional" "value" "Ljava/lang/Object;" .null := (G_EMPTY.ext O0.2).keep K775 nin0
  have F_a__resource_779 : Fld Z T775.heap a_ "com/example/tidewheel/tidewheel/model/KeyedRequest" "resource" "Ljava/lang/String;" .null := F_f.keep K775 nin0
  have pre780 : ∀ t, Steps p.tables e below (T775.setTop (mkF m 7 #[.val (.ref a_)] [(.ref b775)])) t → Steps p.tables e below (s₁.setTop (entryFrame m #[(.ref a_)] 1)) t := by
    intro t kk
    refine pre774 t ?_
    show Steps p.tables e below (T773.setTop (mkF m 4 #[.val (.ref a_)] [.null])) _
    refine st775 _ ?_
    exact kk
  clear X773 e773 st775 N775q K775 pre774
  obtain ⟨fs, hr, hrun, hended, hW, hsame⟩ := X775.leave (v := some (.ref b775)) (fun h => by rw [Bd.returns] at h; cases h)
  refine ⟨_, _, pre780 _ ?_, hrun, hended, _, _, rfl, ?_, ⟨_, rfl⟩, hW, hsame.mono (by decide) (by decide)⟩
  · show Steps p.tables e below (T775.setTop (mkF m 7 #[.val (.ref a_)] [(.ref b775)])) _
    exact retOut X775 hx Bd.returns rfl (Or.inr (Or.inr (Or.inr (Or.inr ⟨rfl, rfl, rfl⟩)))) (hb hby d11_7) hr
  · show Q11_n Z a_ wE h0 n0 _ T775.heap _
    exact ⟨_, rfl, N775, KP775, Eq775, Fq775⟩
theorem ef_9_RRRnn (m : MethodId) (x0 : Addr) (x1 : Addr) (x2 : Addr) : entryFrame m #[(.ref x0), (.ref x1), (.ref x2), .null, .null] 5 = mkF m 0 #[.val (.ref x0), .val (.ref x1), .val (.ref x2), .val .null, .val .null] [] := by first | (simp [entryFrame, mkF, argsToLocals, Value.category]; done) | rfl
def Q9_rrnn (Z : State) (a_ : Addr) (a1 : Addr) (a2 : Addr) (h0 : Heap) (n0 : Nat) (v : Option Value) (h : Heap) (L : List Loc) : Prop := v = none ∧ Fr n0 L ∧ Keep h0 h [a_] ∧ Exa Z h a_ "com/example/tidewheel/tidewheel/model/KeyedRequest" ∧ Fld Z h a_ "com/example/tidewheel/tidewheel/model/KeyedRequest" "key" "Ljava/lang/String;" (.ref a1) ∧ Fld Z h a_ "com/example/tidewheel/tidewheel/model/KeyedRequest" "request" "Ljava/lang/String;" (.ref a2) ∧ Fld Z h a_ "com/example/tidewheel/tidewheel/model/KeyedRequest" "resource" "Ljava/lang/String;" .null ∧ Fld Z h a_ "com/example/tidewheel/tidewheel/model/KeyedRequest" "answer" "Lcom/example/tidewheel/tidewheel/model/KeyedRequest$Answer;" .null
set_option maxRecDepth 65536 in
set_option maxHeartbeats 40000000 in
theorem rm9_rrnn (l : Launch) (Z : State) (aA : Array Value) (hw : ∀ d ∈ tables_1, d.before aA Z = true) (ws : List Jvm.Cond) (a_ : Addr) (a1 : Addr) (a2 : Addr) (h0 : Heap) (n0 : Nat) (Z0 : n0 ≤ h0.size) (E_a : Exa Z h0 a_ "com/example/tidewheel/tidewheel/model/KeyedRequest") (g_a_ : n0 ≤ a_) (F_key : Fld Z h0 a_ "com/example/tidewheel/tidewheel/model/KeyedRequest" "key" "Ljava/lang/String;" .null) (F_request : Fld Z h0 a_ "com/example/tidewheel/tidewheel/model/KeyedRequest" "request" "Ljava/lang/String;" .null) (F_resource : Fld Z h0 a_ "com/example/tidewheel/tidewheel/model/KeyedRequest" "resource" "Ljava/lang/String;" .null) (F_answer : Fld Z h0 a_ "com/example/tidewheel/tidewheel/model/KeyedRequest" "answer" "Lcom/example/tidewheel/tidewheel/model/KeyedRequest$Answer;" .null) :
    MetFree l (⟨"com/example/tidewheel/tidewheel/model/KeyedRequest", "<init>", "(Ljava/lang/String;Ljava/lang/String;Ljava/lang/String;Lcom/example/tidewheel/tidewheel/model/KeyedRequest$Answer;)V"⟩ : MethodName) (head1 (Jvm.Cond.code (⟨"com/example/tidewheel/tidewheel/model/KeyedRequest", "<init>", "(Ljava/lang/String;Ljava/lang/String;Ljava/lang/String;Lcom/example/tidewheel/tidewheel/model/KeyedRequest$Answer;)V"⟩ : MethodName) prog_30_method_1_code 5 none :: ws) ({ frames := 1, cells := 0, slots := 0, locals := 12 } : Room)) (fun a U => a = #[(.ref a_), (.ref a1), (.ref a2), .null, .null] ∧ Z.Warmed39 U.vm ∧ U.heap = h0) (fun _ _ _ _ _ => True) (fun _ U o U' => ∃ v L, o = .returned v ∧ Q9_rrnn Z a_ a1 a2 h0 n0 v U'.heap L ∧ FrameEnd U o U' L ({ frames := 1, cells := 0, slots := 0, locals := 12 } : Room).cells ({ frames := 1, cells := 0, slots := 0, locals := 12 } : Room).slots) := by
  refine MetFree.of_bodySF (plainFor_of_name pn_com_example_tidewheel_tidewheel_model_KeyedRequest) hisR ?_
  intro p e s m args below meth c s₁ Bd hml0 hP hK
  obtain ⟨rfl, hZ, hh⟩ := hP
  have hx := Bd.exec
  have hby := Bd.bytes
  have hml : c.maxLocals = 5 := hml0
  have hown : s.vm.findClass "com/example/tidewheel/tidewheel/model/KeyedRequest" = some m.cls := findClass_of_methodNamed Bd.named
  have hnm := (name_of_methodNamed Bd.named Bd.method).1
  have X0 : Stand p l e ({ frames := 1, cells := 0, slots := 0, locals := 12 } : Room) s m #[(.ref a_), (.ref a1), (.ref a2), .null, .null] below meth c s₁ [] 0 0 := Stand.of_body Bd
  have e0 : s₁.heap = h0 := by rw [← hh, Bd.state]; rfl
  have N0 := Fr.nil n0
  have KP0 : Keep h0 h0 [a_] := Keep.refl h0 _
  have pre0 : ∀ t, Steps p.tables e below (s₁.setTop (mkF m 0 #[.val (.ref a_), .val (.ref a1), .val (.ref a2), .val .null, .val .null] [])) t → Steps p.tables e below (s₁.setTop (entryFrame m #[(.ref a_), (.ref a1), (.ref a2), .null, .null] 5)) t := fun t k => castTop (ef_9_RRRnn m a_ a1 a2) k
  have pre873 : ∀ t, Steps p.tables e below (s₁.setTop (mkF m 1 #[.val (.ref a_), .val (.ref a1), .val (.ref a2), .val .null, .val .null] [(.ref a_)])) t → Steps p.tables e below (s₁.setTop (entryFrame m #[(.ref a_), (.ref a1), (.ref a2), .null, .null] 5)) t := by
    intro t kk
    refine pre0 t ?_
    show Steps p.tables e below (s₁.setTop (mkF m 0 #[.val (.ref a_), .val (.ref a1), .val (.ref a2), .val .null, .val .null] [])) _
    refine XS.aloadN X0.here hx rfl (hb hby d9_0) rfl rfl ?_
    exact kk
  obtain ⟨T874, X874, e874, st874⟩ := initO X0 hx hZ hown (hw _ tb_52) (hw _ tb_12) (hw _ tb_13) e0 (g := (mkF m 1 #[.val (.ref a_), .val (.ref a1), .val (.ref a2), .val .null, .val .null] [(.ref a_)])) rfl (by rw [hml]; rfl) rfl (hb hby d9_1) (by decide) (W := 0) (by show 2 * 0 + _ ≤ _; exact Nat.le_of_eq rfl) (by decide)
  obtain ⟨T875, h875, X875, e875, W875, st875⟩ := putF X874 hx hZ hown (host := "") (Or.inl (hw _ tb_53)) Via.refl e874 F_key E_a (Or.inr ⟨(hw _ tb_54), rfl, hnm⟩) (hw _ tb_47) (ty := (.object "java/lang/String")) (by decide) rfl rfl (g := (mkF m 6 #[.val (.ref a_), .val (.ref a1), .val (.ref a2), .val .null, .val .null] [(.ref a1), (.ref a_)])) rfl rfl (hb hby d9_6)
  have Fw875 := F_key.same W875
  have KP875 : Keep h0 h875 [a_] := KP0.wr W875 (Or.inl (List.mem_of_getElem? (i := 0) rfl))
  have Z875 : n0 ≤ h875.size := Nat.le_trans Z0 (Nat.le_of_eq W875.size.symm)
  have N875 := Fr.snoc X875 N0 g_a_
  have E_a__876 : Exa Z h875 a_ "com/example/tidewheel/tidewheel/model/KeyedRequest" := E_a.wr W875
  have F_a__request_877 : Fld Z h875 a_ "com/example/tidewheel/tidewheel/model/KeyedRequest" "request" "Ljava/lang/String;" .null := F_request.other W875 (Or.inr (slot_ne (Or.inr (hw _ tb_56)) (Or.inr (hw _ tb_54)) (by decide) (t := (.object "java/lang/String")) (t' := (.object "java/lang/String")) (by decide) (by decide)))
  have F_a__resource_878 : Fld Z h875 a_ "com/example/tidewheel/tidewheel/model/KeyedRequest" "resource" "Ljava/lang/String;" .null := F_resource.other W875 (Or.inr (slot_ne (Or.inr (hw _ tb_58)) (Or.inr (hw _ tb_54)) (by decide) (t := (.object "java/lang/String")) (t' := (.object "java/lang/String")) (by decide) (by decide)))
  have F_a__answer_879 : Fld Z h875 a_ "com/example/tidewheel/tidewheel/model/KeyedRequest" "answer" "Lcom/example/tidewheel/tidewheel/model/KeyedRequest$Answer;" .null := F_answer.other W875 (Or.inr (slot_ne (Or.inr (hw _ tb_60)) (Or.inr (hw _ tb_54)) (by decide) (t := (.object "com/example/tidewheel/tidewheel/model/KeyedRequest$Answer")) (t' := (.object "java/lang/String")) (by decide) (by decide)))
  obtain ⟨T880, h880, X880, e880, W880, st880⟩ := putF X875 hx hZ hown (host := "") (Or.inl (hw _ tb_55)) Via.refl e875 F_a__request_877 E_a__876 (Or.inr ⟨(hw _ tb_56), rfl, hnm⟩) (hw _ tb_47) (ty := (.object "java/lang/String")) (by decide) rfl rfl (g := (mkF m 11 #[.val (.ref a_), .val (.ref a1), .val (.ref a2), .val .null, .val .null] [(.ref a2), (.ref a_)])) rfl rfl (hb hby d9_11)
  have Fw880 := F_a__request_877.same W880
  have KP880 : Keep h0 h880 [a_] := KP875.wr W880 (Or.inl (List.mem_of_getElem? (i := 0) rfl))
  have Z880 : n0 ≤ h880.size := Nat.le_trans Z875 (Nat.le_of_eq W880.size.symm)
  have N880 := Fr.snoc X880 N875 g_a_
  have E_a__881 : Exa Z h880 a_ "com/example/tidewheel/tidewheel/model/KeyedRequest" := E_a__876.wr W880
  have F_a__resource_882 : Fld Z h880 a_ "com/example/tidewheel/tidewheel/model/KeyedRequest" "resource" "Ljava/lang/String;" .null := F_a__resource_878.other W880 (Or.inr (slot_ne (Or.inr (hw _ tb_58)) (Or.inr (hw _ tb_56)) (by decide) (t := (.object "java/lang/String")) (t' := (.object "java/lang/String")) (by decide) (by decide)))
  have F_a__answer_883 : Fld Z h880 a_ "com/example/tidewheel/tidewheel/model/KeyedRequest" "answer" "Lcom/example/tidewheel/tidewheel/model/KeyedRequest$Answer;" .null := F_a__answer_879.other W880 (Or.inr (slot_ne (Or.inr (hw _ tb_60)) (Or.inr (hw _ tb_56)) (by decide) (t := (.object "com/example/tidewheel/tidewheel/model/KeyedRequest$Answer")) (t' := (.object "java/lang/String")) (by decide) (by decide)))
  have F_a__key_884 : Fld Z h880 a_ "com/example/tidewheel/tidewheel/model/KeyedRequest" "key" "Ljava/lang/String;" (.ref a1) := Fw875.other W880 (Or.inr (slot_ne (Or.inr (hw _ tb_54)) (Or.inr (hw _ tb_56)) (by decide) (t := (.object "java/lang/String")) (t' := (.object "java/lang/String")) (by decide) (by decide)))
  obtain ⟨T885, h885, X885, e885, W885, st885⟩ := putF X880 hx hZ hown (host := "") (Or.inl (hw _ tb_57)) Via.refl e880 F_a__resource_882 E_a__881 (Or.inr ⟨(hw _ tb_58), rfl, hnm⟩) (hw _ tb_47) (ty := (.object "java/lang/String")) (by decide) rfl rfl (g := (mkF m 16 #[.val (.ref a_), .val (.ref a1), .val (.ref a2), .val .null, .val .null] [.null, (.ref a_)])) rfl rfl (hb hby d9_16)
  have Fw885 := F_a__resource_882.same W885
  have KP885 : Keep h0 h885 [a_] := KP880.wr W885 (Or.inl (List.mem_of_getElem? (i := 0) rfl))
  have Z885 : n0 ≤ h885.size := Nat.le_trans Z880 (Nat.le_of_eq W885.size.symm)
  have N885 := Fr.snoc X885 N880 g_a_
  have E_a__886 : Exa Z h885 a_ "com/example/tidewheel/tidewheel/model/KeyedRequest" := E_a__881.wr W885
  have F_a__answer_887 : Fld Z h885 a_ "com/example/tidewheel/tidewheel/model/KeyedRequest" "answer" "Lcom/example/tidewheel/tidewheel/model/KeyedRequest$Answer;" .null := F_a__answer_883.other W885 (Or.inr (slot_ne (Or.inr (hw _ tb_60)) (Or.inr (hw _ tb_58)) (by decide) (t := (.object "com/example/tidewheel/tidewheel/model/KeyedRequest$Answer")) (t' := (.object "java/lang/String")) (by decide) (by decide)))
  have F_a__key_888 : Fld Z h885 a_ "com/example/tidewheel/tidewheel/model/KeyedRequest" "key" "Ljava/lang/String;" (.ref a1) := F_a__key_884.other W885 (Or.inr (slot_ne (Or.inr (hw _ tb_54)) (Or.inr (hw _ tb_58)) (by decide) (t := (.object "java/lang/String")) (t' := (.object "java/lang/String")) (by decide) (by decide)))
  have F_a__request_889 : Fld Z h885 a_ "com/example/tidewheel/tidewheel/model/KeyedRequest" "request" "Ljava/lang/String;" (.ref a2) := Fw880.other W885 (Or.inr (slot_ne (Or.inr (hw _ tb_56)) (Or.inr (hw _ tb_58)) (by decide) (t := (.object "java/lang/String")) (t' := (.object "java/lang/String")) (by decide) (by decide)))
  obtain ⟨T890, h890, X890, e890, W890, st890⟩ := putF X885 hx hZ hown (host := "") (Or.inl (hw _ tb_59)) Via.refl e885 F_a__answer_887 E_a__886 (Or.inr ⟨(hw _ tb_60), rfl, hnm⟩) (hw _ tb_47) (ty := (.object "com/example/tidewheel/tidewheel/model/KeyedRequest$Answer")) (by decide) rfl rfl (g := (mkF m 22 #[.val (.ref a_), .val (.ref a1), .val (.ref a2), .val .null, .val .null] [.null, (.ref a_)])) rfl rfl (hb hby d9_22)
  have Fw890 := F_a__answer_887.same W890
  have KP890 : Keep h0 h890 [a_] := KP885.wr W890 (Or.inl (List.mem_of_getElem? (i := 0) rfl))
  have Z890 : n0 ≤ h890.size := Nat.le_trans Z885 (Nat.le_of_eq W890.size.symm)
  have N890 := Fr.snoc X890 N885 g_a_
  have E_a__891 : Exa Z h890 a_ "com/example/tidewheel/tidewheel/model/KeyedRequest" := E_a__886.wr W890
  have F_a__key_892 : Fld Z h890 a_ "com/example/tidewheel/tidewheel/model/KeyedRequest" "key" "Ljava/lang/String;" (.ref a1) := F_a__key_888.other W890 (Or.inr (slot_ne (Or.inr (hw _ tb_54)) (Or.inr (hw _ tb_60)) (by decide) (t := (.object "java/lang/String")) (t' := (.object "com/example/tidewheel/tidewheel/model/KeyedRequest$Answer")) (by decide) (by decide)))
  have F_a__request_893 : Fld Z h890 a_ "com/example/tidewheel/tidewheel/model/KeyedRequest" "request" "Ljava/lang/String;" (.ref a2) := F_a__request_889.other W890 (Or.inr (slot_ne (Or.inr (hw _ tb_56)) (Or.inr (hw _ tb_60)) (by decide) (t := (.object "java/lang/String")) (t' := (.object "com/example/tidewheel/tidewheel/model/KeyedRequest$Answer")) (by decide) (by decide)))
  have F_a__resource_894 : Fld Z h890 a_ "com/example/tidewheel/tidewheel/model/KeyedRequest" "resource" "Ljava/lang/String;" .null := Fw885.other W890 (Or.inr (slot_ne (Or.inr (hw _ tb_58)) (Or.inr (hw _ tb_60)) (by decide) (t := (.object "java/lang/String")) (t' := (.object "com/example/tidewheel/tidewheel/model/KeyedRequest$Answer")) (by decide) (by decide)))
  have pre895 : ∀ t, Steps p.tables e below (T890.setTop (mkF m 25 #[.val (.ref a_), .val (.ref a1), .val (.ref a2), .val .null, .val .null] [])) t → Steps p.tables e below (s₁.setTop (entryFrame m #[(.ref a_), (.ref a1), (.ref a2), .null, .null] 5)) t := by
    intro t kk
    refine pre873 t ?_
    show Steps p.tables e below (s₁.setTop (mkF m 1 #[.val (.ref a_), .val (.ref a1), .val (.ref a2), .val .null, .val .null] [(.ref a_)])) _
    refine st874 _ ?_
    refine XS.aloadN X874.here hx rfl (hb hby d9_4) rfl rfl ?_
    refine XS.aloadN X874.here hx rfl (hb hby d9_5) rfl rfl ?_
    refine st875 _ ?_
    refine XS.aloadN X875.here hx rfl (hb hby d9_9) rfl rfl ?_
    refine XS.aloadN X875.here hx rfl (hb hby d9_10) rfl rfl ?_
    refine st880 _ ?_
    refine XS.aloadN X880.here hx rfl (hb hby d9_14) rfl rfl ?_
    refine XS.aloadN X880.here hx rfl (hb hby d9_15) rfl rfl ?_
    refine st885 _ ?_
    refine XS.aloadN X885.here hx rfl (hb hby d9_19) rfl rfl ?_
    refine XS.aload X885.here hx rfl (hb hby d9_20) rfl rfl ?_
    refine st890 _ ?_
    exact kk
  clear st874 X874 e874 st875 X875 e875 st880 E_a__876 F_a__request_877 F_a__resource_878 F_a__answer_879 Fw875 X880 e880 st885 E_a__881 F_a__resource_882 F_a__answer_883 F_a__key_884 Fw880 X885 e885 st890 E_a__886 F_a__answer_887 F_a__key_888 F_a__request_889 Fw885 pre873
  obtain ⟨fs, hr, hrun, hended, hW, hsame⟩ := X890.leave (v := none) (fun _ => rfl)
  refine ⟨_, _, pre895 _ ?_, hrun, hended, _, _, rfl, ?_, ⟨_, rfl⟩, hW, hsame.mono (by decide) (by decide)⟩
  · show Steps p.tables e below (T890.setTop (mkF m 25 #[.val (.ref a_), .val (.ref a1), .val (.ref a2), .val .null, .val .null] [])) _
    exact X890.returnOut hx Bd.returns (hb hby d9_25) hr
  · show Q9_rrnn Z a_ a1 a2 h0 n0 _ T890.heap _
    rw [e890]
    exact ⟨rfl, N890, KP890, E_a__891, F_a__key_892, F_a__request_893, F_a__resource_894, Fw890⟩
def Q10_nn (Z : State) (a_ : Addr) (k_ : Addr) (r_ : Addr) (h0 : Heap) (n0 : Nat) (v : Option Value) (h : Heap) (L : List Loc) : Prop := ∃ b : Addr, v = some (.ref b) ∧ Fr n0 L ∧ Keep h0 h [] ∧ h0.size ≤ b ∧ Exa Z h b "com/example/tidewheel/tidewheel/model/KeyedRequest" ∧ Fld Z h b "com/example/tidewheel/tidewheel/model/KeyedRequest" "key" "Ljava/lang/String;" (.ref k_) ∧ Fld Z h b "com/example/tidewheel/tidewheel/model/KeyedRequest" "request" "Ljava/lang/String;" (.ref r_) ∧ Fld Z h b "com/example/tidewheel/tidewheel/model/KeyedRequest" "resource" "Ljava/lang/String;" .null ∧ Fld Z h b "com/example/tidewheel/tidewheel/model/KeyedRequest" "answer" "Lcom/example/tidewheel/tidewheel/model/KeyedRequest$Answer;" .null
set_option maxRecDepth 65536 in
set_option maxHeartbeats 40000000 in
theorem rm10_nn (l : Launch) (Z : State) (aA : Array Value) (hw : ∀ d ∈ tables_1, d.before aA Z = true) (ws : List Jvm.Cond) (a_ : Addr) (k_ : Addr) (r_ : Addr) (h0 : Heap) (n0 : Nat) (Z0 : n0 ≤ h0.size) (F_key : Fld Z h0 a_ "com/example/tidewheel/tidewheel/model/KeyedRequest" "key" "Ljava/lang/String;" (.ref k_)) (F_request : Fld Z h0 a_ "com/example/tidewheel/tidewheel/model/KeyedRequest" "request" "Ljava/lang/String;" (.ref r_)) (F_resource : Fld Z h0 a_ "com/example/tidewheel/tidewheel/model/KeyedRequest" "resource" "Ljava/lang/String;" .null) :
    MetFree l (⟨"com/example/tidewheel/tidewheel/model/KeyedRequest", "answered", "(Lcom/example/tidewheel/tidewheel/model/KeyedRequest$Answer;)Lcom/example/tidewheel/tidewheel/model/KeyedRequest;"⟩ : MethodName) (head1 (Jvm.Cond.code (⟨"com/example/tidewheel/tidewheel/model/KeyedRequest", "answered", "(Lcom/example/tidewheel/tidewheel/model/KeyedRequest$Answer;)Lcom/example/tidewheel/tidewheel/model/KeyedRequest;"⟩ : MethodName) prog_30_method_4_code 2 (some (.object "com/example/tidewheel/tidewheel/model/KeyedRequest")) :: ws) ({ frames := 2, cells := 1, slots := 4, locals := 29 } : Room)) (fun a U => a = #[(.ref a_), .null] ∧ Z.Warmed39 U.vm ∧ U.heap = h0) (fun _ _ _ _ _ => True) (fun _ U o U' => ∃ v L, o = .returned v ∧ Q10_nn Z a_ k_ r_ h0 n0 v U'.heap L ∧ FrameEnd U o U' L ({ frames := 2, cells := 1, slots := 4, locals := 29 } : Room).cells ({ frames := 2, cells := 1, slots := 4, locals := 29 } : Room).slots) := by
  refine MetFree.of_bodySF (plainFor_of_name pn_com_example_tidewheel_tidewheel_model_KeyedRequest) hisR ?_
  intro p e s m args below meth c s₁ Bd hml0 hP hK
  obtain ⟨rfl, hZ, hh⟩ := hP
  have hx := Bd.exec
  have hby := Bd.bytes
  have hml : c.maxLocals = 2 := hml0
  have hown : s.vm.findClass "com/example/tidewheel/tidewheel/model/KeyedRequest" = some m.cls := findClass_of_methodNamed Bd.named
  have hnm := (name_of_methodNamed Bd.named Bd.method).1
  have X0 : Stand p l e ({ frames := 2, cells := 1, slots := 4, locals := 29 } : Room) s m #[(.ref a_), .null] below meth c s₁ [] 0 0 := Stand.of_body Bd
  have e0 : s₁.heap = h0 := by rw [← hh, Bd.state]; rfl
  have N0 := Fr.nil n0
  have KP0 : Keep h0 h0 [] := Keep.refl h0 _
  have pre0 : ∀ t, Steps p.tables e below (s₁.setTop (mkF m 0 #[.val (.ref a_), .val .null] [])) t → Steps p.tables e below (s₁.setTop (entryFrame m #[(.ref a_), .null] 2)) t := fun t k => castTop (ef_10_Rn m a_) k
  obtain ⟨T865, h865, X865, e865, E865, A865, D865, -, st865⟩ := newO X0 hx hZ hown (hw _ tb_66) (hw _ tb_47) (hw _ tb_48) e0 (g := (mkF m 0 #[.val (.ref a_), .val .null] [])) rfl (hb hby d10_0) (by decide) (by decide)
  obtain ⟨b865, g865⟩ : ∃ z, z = h0.size := ⟨_, rfl⟩
  rw [← g865] at A865 D865 st865
  have ne_a__b865 : a_ ≠ b865 := Nat.ne_of_lt (Nat.lt_of_lt_of_le F_key.lt (Nat.le_of_eq g865.symm))
  have sz_b865 : h0.size ≤ b865 := Nat.le_trans KP0.1 (Nat.le_of_eq g865.symm)
  have g_b865 : n0 ≤ b865 := Nat.le_trans Z0 (Nat.le_of_eq g865.symm)
  have KP865 : Keep h0 h865 [] := KP0.ext E865
  have Z865 : n0 ≤ h865.size := Nat.le_trans Z0 E865.1
  have F_a__key_866 : Fld Z h865 a_ "com/example/tidewheel/tidewheel/model/KeyedRequest" "key" "Ljava/lang/String;" (.ref k_) := F_key.ext E865
  have F_a__request_867 : Fld Z h865 a_ "com/example/tidewheel/tidewheel/model/KeyedRequest" "request" "Ljava/lang/String;" (.ref r_) := F_request.ext E865
  have F_a__resource_868 : Fld Z h865 a_ "com/example/tidewheel/tidewheel/model/KeyedRequest" "resource" "Ljava/lang/String;" .null := F_resource.ext E865
  have F_key_b865 : Fld Z h865 b865 "com/example/tidewheel/tidewheel/model/KeyedRequest" "key" "Ljava/lang/String;" .null := D865 (Or.inr (hw _ tb_54)) (ty := (.object "java/lang/String")) (by decide)
  have F_request_b865 : Fld Z h865 b865 "com/example/tidewheel/tidewheel/model/KeyedRequest" "request" "Ljava/lang/String;" .null := D865 (Or.inr (hw _ tb_56)) (ty := (.object "java/lang/String")) (by decide)
  have F_resource_b865 : Fld Z h865 b865 "com/example/tidewheel/tidewheel/model/KeyedRequest" "resource" "Ljava/lang/String;" .null := D865 (Or.inr (hw _ tb_58)) (ty := (.object "java/lang/String")) (by decide)
  have F_answer_b865 : Fld Z h865 b865 "com/example/tidewheel/tidewheel/model/KeyedRequest" "answer" "Lcom/example/tidewheel/tidewheel/model/KeyedRequest$Answer;" .null := D865 (Or.inr (hw _ tb_60)) (ty := (.object "com/example/tidewheel/tidewheel/model/KeyedRequest$Answer")) (by decide)
  replace X865 : Stand _ _ _ _ _ _ _ _ _ _ _ _ 1 4 := X865
  obtain ⟨T869, X869, e869, st869⟩ := getF X865 hx hZ hown (host := "") (Or.inl (hw _ tb_53)) Via.refl e865 F_a__key_866 (g := (mkF m 5 #[.val (.ref a_), .val .null] [(.ref a_), (.ref b865), (.ref b865)])) rfl rfl (hb hby d10_5)
  obtain ⟨T870, X870, e870, st870⟩ := getF X869 hx hZ hown (host := "") (Or.inl (hw _ tb_55)) Via.refl e869 F_a__request_867 (g := (mkF m 9 #[.val (.ref a_), .val .null] [(.ref a_), (.ref k_), (.ref b865), (.ref b865)])) rfl rfl (hb hby d10_9)
  obtain ⟨T871, X871, e871, st871⟩ := getF X870 hx hZ hown (host := "") (Or.inl (hw _ tb_57)) Via.refl e870 F_a__resource_868 (g := (mkF m 13 #[.val (.ref a_), .val .null] [(.ref a_), (.ref r_), (.ref k_), (.ref b865), (.ref b865)])) rfl rfl (hb hby d10_13)
  have pre872 : ∀ t, Steps p.tables e below (T871.setTop (mkF m 17 #[.val (.ref a_), .val .null] [.null, .null, (.ref r_), (.ref k_), (.ref b865), (.ref b865)])) t → Steps p.tables e below (s₁.setTop (entryFrame m #[(.ref a_), .null] 2)) t := by
    intro t kk
    refine pre0 t ?_
    show Steps p.tables e below (s₁.setTop (mkF m 0 #[.val (.ref a_), .val .null] [])) _
    refine st865 _ ?_
    refine XS.dup X865.here hx rfl (hb hby d10_3) rfl rfl ?_
    refine XS.aloadN X865.here hx rfl (hb hby d10_4) rfl rfl ?_
    refine st869 _ ?_
    refine XS.aloadN X869.here hx rfl (hb hby d10_8) rfl rfl ?_
    refine st870 _ ?_
    refine XS.aloadN X870.here hx rfl (hb hby d10_12) rfl rfl ?_
    refine st871 _ ?_
    refine XS.aloadN X871.here hx rfl (hb hby d10_16) rfl rfl ?_
    exact kk
  clear st865 X865 e865 st869 X869 e869 st870 X870 e870 st871
  obtain ⟨_, _, ⟨T896, L896, k896, n896⟩, -, X896, ⟨Lc896, hQ896, l896, y896, z896⟩, st896⟩ := X871.specialBack hx (y := (⟨"com/example/tidewheel/tidewheel/model/KeyedRequest", "<init>", "(Ljava/lang/String;Ljava/lang/String;Ljava/lang/String;Lcom/example/tidewheel/tidewheel/model/KeyedRequest$Answer;)V"⟩ : MethodName)) rfl hown (mt_67 hZ hw) (mt_50 hZ hw) (mt_51 hZ hw) (by decide) (backOf (W := 1) (rm9_rrnn l Z aA hw [] b865 k_ r_ h865 n0 Z865 A865 g_b865 F_key_b865 F_request_b865 F_resource_b865 F_answer_b865) hZ (hw _ tb_51) (hw _ tb_48) (by decide) (by decide)) (g := (mkF m 17 #[.val (.ref a_), .val .null] [.null, .null, (.ref r_), (.ref k_), (.ref b865), (.ref b865)])) rfl (by rw [hml]; rfl) (Steps.refl _) (a := b865) (argsL := [(.ref k_), (.ref r_), .null, .null]) (rest := [(.ref b865)]) (lenOf pd__28Ljava_2flang_2fString_3bLjava_2flang_2fString_3bLjava_2flang_2fString_3bLcom_2fexample_2ftidewheel_2ftidewheel_2fmodel_2fKeyedRequest_24Answer_3b_29V rfl) rfl (by show 2 * 0 + _ ≤ _; exact Nat.le_of_eq rfl) (hb hby d10_17) (fun _ _ => ⟨rfl, e871, (by decide : 1 + 0 ≤ _), (by decide : 4 + 0 ≤ _)⟩)
  dsimp only [Pt.U, Pt.locs, Pt.cells, Pt.slots] at X896 l896 y896 z896 st896 hQ896
  replace l896 := l896.symm
  subst l896
  obtain rfl : k896 = 1 := y896
  obtain rfl : n896 = 4 := z896
  obtain ⟨rfl, N896q, K896, Eq896, Fq896_key, Fq896_request, Fq896_resource, Fq896_answer⟩ := hQ896
  have N896 := Fr.app N0 N896q
  have KP896 : Keep h0 T896.heap [] := KP865.trans K896 (allS (Or.inr sz_b865) all0)
  have Z896 : n0 ≤ T896.heap.size := Nat.le_trans Z865 K896.1
  have F_a__key_897 : Fld Z T896.heap a_ "com/example/tidewheel/tidewheel/model/KeyedRequest" "key" "Ljava/lang/String;" (.ref k_) := F_a__key_866.keep K896 (ninS ne_a__b865 nin0)
  have F_a__request_898 : Fld Z T896.heap a_ "com/example/tidewheel/tidewheel/model/KeyedRequest" "request" "Ljava/lang/String;" (.ref r_) := F_a__request_867.keep K896 (ninS ne_a__b865 nin0)
  have F_a__resource_899 : Fld Z T896.heap a_ "com/example/tidewheel/tidewheel/model/KeyedRequest" "resource" "Ljava/lang/String;" .null := F_a__resource_868.keep K896 (ninS ne_a__b865 nin0)
  have E_b865_900 : Exa Z T896.heap b865 "com/example/tidewheel/tidewheel/model/KeyedRequest" := A865.keep K896
  have pre901 : ∀ t, Steps p.tables e below (T896.setTop (mkF m 20 #[.val (.ref a_), .val .null] [(.ref b865)])) t → Steps p.tables e below (s₁.setTop (entryFrame m #[(.ref a_), .null] 2)) t := by
    intro t kk
    refine pre872 t ?_
    show Steps p.tables e below (T871.setTop (mkF m 17 #[.val (.ref a_), .val .null] [.null, .null, (.ref r_), (.ref k_), (.ref b865), (.ref b865)])) _
    refine st896.trans ?_
    exact kk
  clear X871 e871 st896 N896q KP865 Z865 F_a__key_866 F_a__request_867 F_a__resource_868 A865 F_key_b865 F_request_b865 F_resource_b865 F_answer_b865 K896 pre872
  obtain ⟨fs, hr, hrun, hended, hW, hsame⟩ := X896.leave (v := some (.ref b865)) (fun h => by rw [Bd.returns] at h; cases h)
  refine ⟨_, _, pre901 _ ?_, hrun, hended, _, _, rfl, ?_, ⟨_, rfl⟩, hW, hsame.mono (by decide) (by decide)⟩
  · show Steps p.tables e below (T896.setTop (mkF m 20 #[.val (.ref a_), .val .null] [(.ref b865)])) _
    exact retOut X896 hx Bd.returns rfl (Or.inr (Or.inr (Or.inr (Or.inr ⟨rfl, rfl, rfl⟩)))) (hb hby d10_20) hr
  · show Q10_nn Z a_ k_ r_ h0 n0 _ T896.heap _
    exact ⟨_, rfl, N896, KP896, sz_b865, Eq896, Fq896_key, Fq896_request, Fq896_resource, Fq896_answer⟩
theorem pn_com_example_tidewheel_tidewheel_model_KeyedRequestAnsweredPinLaw : plainName "com/example/tidewheel/tidewheel/model/KeyedRequestAnsweredPinLaw" = true := by first | (simp [plainName, overriddenIn]; done) | decide +kernel
theorem ef_0_IIIIII (m : MethodId) (x0 : Int32) (x1 : Int32) (x2 : Int32) (x3 : Int32) (x4 : Int32) (x5 : Int32) : entryFrame m #[(.int x0), (.int x1), (.int x2), (.int x3), (.int x4), (.int x5)] maxLocals = mkF m 0 #[.val (.int x0), .val (.int x1), .val (.int x2), .val (.int x3), .val (.int x4), .val (.int x5), .unset, .unset, .unset, .unset, .unset, .unset, .unset, .unset, .unset] [] := by first | (simp [entryFrame, mkF, argsToLocals, Value.category, maxLocals]; done) | rfl
def Q0 (Z : State) (p0 : Int32) (p1 : Int32) (p2 : Int32) (p3 : Int32) (p4 : Int32) (p5 : Int32) (zcs : Int32) (wE : Addr) (h0 : Heap) (n0 : Nat) (v : Option Value) (h : Heap) (L : List Loc) : Prop := v = some (.int 1) ∧ Fr n0 L
set_option maxRecDepth 65536 in
set_option maxHeartbeats 40000000 in
theorem rm0 (l : Launch) (Z : State) (aA : Array Value) (hw : ∀ d ∈ tables_1, d.before aA Z = true) (ws : List Jvm.Cond) (p0 : Int32) (p1 : Int32) (p2 : Int32) (p3 : Int32) (p4 : Int32) (p5 : Int32) (zcs : Int32) (wE : Addr) (h0 : Heap) (n0 : Nat) (Z0 : n0 ≤ h0.size) (O0 : Old Z n0 h0) (S_CS : Sta Z Z.heap "java/lang/String" "COMPACT_STRINGS" "Z" (.int zcs)) (hcs : ¬ zcs = 0) (S_EMPTY : Sta Z Z.heap "java/util/Optional" "EMPTY" "Ljava/util/Optional;" (.ref wE)) (X_EMPTY : Exa Z Z.heap wE "java/util/Optional") (G_EMPTY : Fld Z Z.heap wE "java/util/Optional" "value" "Ljava/lang/Object;" .null) :
    MetFree l x (head1 (Jvm.Cond.code x code maxLocals ret :: ws) room_1) (fun a U => a = #[(.int p0), (.int p1), (.int p2), (.int p3), (.int p4), (.int p5)] ∧ Z.Warmed39 U.vm ∧ U.heap = h0) (fun _ _ _ _ _ => True) (fun _ U o U' => ∃ v L, o = .returned v ∧ Q0 Z p0 p1 p2 p3 p4 p5 zcs wE h0 n0 v U'.heap L ∧ FrameEnd U o U' L room_1.cells room_1.slots) := by
  refine MetFree.of_bodySF (plainFor_of_name pn_com_example_tidewheel_tidewheel_model_KeyedRequestAnsweredPinLaw) hisR ?_
  intro p e s m args below meth c s₁ Bd hml0 hP hK
  obtain ⟨rfl, hZ, hh⟩ := hP
  have hx := Bd.exec
  have hby := Bd.bytes
  have hml : c.maxLocals = 15 := hml0
  have hown : s.vm.findClass "com/example/tidewheel/tidewheel/model/KeyedRequestAnsweredPinLaw" = some m.cls := findClass_of_methodNamed Bd.named
  have hnm := (name_of_methodNamed Bd.named Bd.method).1
  have X0 : Stand p l e room_1 s m #[(.int p0), (.int p1), (.int p2), (.int p3), (.int p4), (.int p5)] below meth c s₁ [] 0 0 := Stand.of_body Bd
  have e0 : s₁.heap = h0 := by rw [← hh, Bd.state]; rfl
  have N0 := Fr.nil n0
  have KP0 : Keep h0 h0 [] := Keep.refl h0 _
  have pre0 : ∀ t, Steps p.tables e below (s₁.setTop (mkF m 0 #[.val (.int p0), .val (.int p1), .val (.int p2), .val (.int p3), .val (.int p4), .val (.int p5), .unset, .unset, .unset, .unset, .unset, .unset, .unset, .unset, .unset] [])) t → Steps p.tables e below (s₁.setTop (entryFrame m #[(.int p0), (.int p1), (.int p2), (.int p3), (.int p4), (.int p5)] maxLocals)) t := fun t k => castTop (ef_0_IIIIII m p0 p1 p2 p3 p4 p5) k
  have hws : ∀ d ∈ StrChars.Road.words, d.before aA Z = true := fun d hd => hw d ((by decide +kernel : ∀ d ∈ StrChars.Road.words, d ∈ tables_1) d hd)
  obtain ⟨T6, h6, X6, e6, E6, A6, D6, -, st6⟩ := newO X0 hx hZ hown (hw _ tb_0) (hw _ tb_1) (hw _ tb_2) e0 (g := (mkF m 0 #[.val (.int p0), .val (.int p1), .val (.int p2), .val (.int p3), .val (.int p4), .val (.int p5), .unset, .unset, .unset, .unset, .unset, .unset, .unset, .unset, .unset] [])) rfl (hb hby at_0) (by decide) (by decide)
  obtain ⟨b6, g6⟩ : ∃ z, z = h0.size := ⟨_, rfl⟩
  rw [← g6] at A6 D6 st6
  have sz_b6 : h0.size ≤ b6 := Nat.le_trans KP0.1 (Nat.le_of_eq g6.symm)
  have g_b6 : n0 ≤ b6 := Nat.le_trans Z0 (Nat.le_of_eq g6.symm)
  have KP6 : Keep h0 h6 [] := KP0.ext E6
  have Z6 : n0 ≤ h6.size := Nat.le_trans Z0 E6.1
  have O_7 : Old Z n0 h6 := O0.ext E6
  have F_coder_b6 : Fld Z h6 b6 "java/lang/String" "coder" "B" (.int (0 : Int32)) := D6 (Or.inr (hw _ tb_27)) (ty := .byte) (by decide)
  have F_value_b6 : Fld Z h6 b6 "java/lang/String" "value" "[B" .null := D6 (Or.inr (hw _ tb_29)) (ty := (.array .byte)) (by decide)
  replace X6 : Stand _ _ _ _ _ _ _ _ _ _ _ _ 1 4 := X6
  obtain ⟨T8, h8, k8, X8, e8, E8, A8, st8⟩ := newP X6 hx hZ (hw _ (List.mem_of_getElem? (i := 3) rfl)) e6 (g := (mkF m 5 #[.val (.int p0), .val (.int p1), .val (.int p2), .val (.int p3), .val (.int p4), .val (.int p5), .unset, .unset, .unset, .unset, .unset, .unset, .unset, .unset, .unset] [(.int (2 : Int32)), (.ref b6), (.ref b6)])) rfl (hb hby at_5) rfl (by decide) (cap := 2) (by decide) (by decide) (by decide) (by decide)
  obtain ⟨b8, g8⟩ : ∃ z, z = h6.size := ⟨_, rfl⟩
  rw [← g8] at A8 st8
  have ne_b6_b8 : b6 ≠ b8 := Nat.ne_of_lt (Nat.lt_of_lt_of_le A6.lt (Nat.le_of_eq g8.symm))
  have sz_b8 : h0.size ≤ b8 := Nat.le_trans KP6.1 (Nat.le_of_eq g8.symm)
  have g_b8 : n0 ≤ b8 := Nat.le_trans Z6 (Nat.le_of_eq g8.symm)
  have KP8 : Keep h0 h8 [] := KP6.ext E8
  have Z8 : n0 ≤ h8.size := Nat.le_trans Z6 E8.1
  have O_9 : Old Z n0 h8 := O_7.ext E8
  have E_b6_10 : Exa Z h8 b6 "java/lang/String" := A6.ext E8
  have F_b6_coder_11 : Fld Z h8 b6 "java/lang/String" "coder" "B" (.int (0 : Int32)) := F_coder_b6.ext E8
  have F_b6_value_12 : Fld Z h8 b6 "java/lang/String" "value" "[B" .null := F_value_b6.ext E8
  have V_b8 : Arv Z h8 b8 k8 .char (2 : Int32) [(.int (0 : Int32)), (.int (0 : Int32))] (.int (0 : Int32)) := (Arv.new A8 (by decide)).pad (pad_rep [] (.int (0 : Int32)) 2)
  replace X8 : Stand _ _ _ _ _ _ _ _ _ _ _ _ 2 6 := X8
  obtain ⟨cl13, Ar13, q13, S13, N13v, H13, G13⟩ := id V_b8
  have hin13 : ¬ ((0 : Int32) < 0 ∨ cl13.slots.size ≤ ((0 : Int32)).toNatClampNeg) := inb_of S13 ⟨by decide, by decide⟩
  obtain ⟨T14, h14, X14, e14, W14, st14⟩ := stC X8 hx hZ e8 Ar13 (j := (0 : Int32)) hin13 (g := (mkF m 15 #[.val (.int p0), .val (.int p1), .val (.int p2), .val (.int p3), .val (.int p4), .val (.int p5), .unset, .unset, .unset, .unset, .unset, .unset, .unset, .unset, .unset] [(.int ((p0 &&& (255 : Int32)).toUInt32.toUInt16.toUInt32.toInt32)), (.int (0 : Int32)), (.ref b8), (.ref b8), (.ref b6), (.ref b6)])) rfl rfl (hb hby at_15)
  have Vw14 : Arv Z h14 b8 k8 .char (2 : Int32) [(.int (nar .char ((p0 &&& (255 : Int32)).toUInt32.toUInt16.toUInt32.toInt32))), (.int (0 : Int32))] (.int (0 : Int32)) := Arv.set Ar13 q13 S13 N13v H13 G13 (fits_nar_char _) W14 0 rfl (Nat.le_of_ble_eq_true rfl)
  have KP14 : Keep h0 h14 [] := KP8.wr W14 (Or.inr sz_b8)
  have Z14 : n0 ≤ h14.size := Nat.le_trans Z8 (Nat.le_of_eq W14.size.symm)
  have N14 := Fr.snoc X14 N0 g_b8
  have O_15 : Old Z n0 h14 := O_9.wr W14 g_b8
  have E_b6_16 : Exa Z h14 b6 "java/lang/String" := E_b6_10.wr W14
  have F_b6_coder_17 : Fld Z h14 b6 "java/lang/String" "coder" "B" (.int (0 : Int32)) := F_b6_coder_11.other W14 (Or.inl ne_b6_b8)
  have F_b6_value_18 : Fld Z h14 b6 "java/lang/String" "value" "[B" .null := F_b6_value_12.other W14 (Or.inl ne_b6_b8)
  obtain ⟨cl19, Ar19, q19, S19, N19v, H19, G19⟩ := id Vw14
  have hin19 : ¬ ((1 : Int32) < 0 ∨ cl19.slots.size ≤ ((1 : Int32)).toNatClampNeg) := inb_of S19 ⟨by decide, by decide⟩
  obtain ⟨T20, h20, X20, e20, W20, st20⟩ := stC X14 hx hZ e14 Ar19 (j := (1 : Int32)) hin19 (g := (mkF m 27 #[.val (.int p0), .val (.int p1), .val (.int p2), .val (.int p3), .val (.int p4), .val (.int p5), .unset, .unset, .unset, .unset, .unset, .unset, .unset, .unset, .unset] [(.int ((((p0.toUInt32 >>> ((8 : Int32) &&& 31).toUInt32).toInt32) &&& (255 : Int32)).toUInt32.toUInt16.toUInt32.toInt32)), (.int (1 : Int32)), (.ref b8), (.ref b8), (.ref b6), (.ref b6)])) rfl rfl (hb hby at_27)
  have Vw20 : Arv Z h20 b8 k8 .char (2 : Int32) [(.int (nar .char ((p0 &&& (255 : Int32)).toUInt32.toUInt16.toUInt32.toInt32))), (.int (nar .char ((((p0.toUInt32 >>> ((8 : Int32) &&& 31).toUInt32).toInt32) &&& (255 : Int32)).toUInt32.toUInt16.toUInt32.toInt32)))] (.int (0 : Int32)) := Arv.set Ar19 q19 S19 N19v H19 G19 (fits_nar_char _) W20 1 rfl (Nat.le_of_ble_eq_true rfl)
  have KP20 : Keep h0 h20 [] := KP14.wr W20 (Or.inr sz_b8)
  have Z20 : n0 ≤ h20.size := Nat.le_trans Z14 (Nat.le_of_eq W20.size.symm)
  have N20 := Fr.snoc X20 N14 g_b8
  have O_21 : Old Z n0 h20 := O_15.wr W20 g_b8
  have E_b6_22 : Exa Z h20 b6 "java/lang/String" := E_b6_16.wr W20
  have F_b6_coder_23 : Fld Z h20 b6 "java/lang/String" "coder" "B" (.int (0 : Int32)) := F_b6_coder_17.other W20 (Or.inl ne_b6_b8)
  have F_b6_value_24 : Fld Z h20 b6 "java/lang/String" "value" "[B" .null := F_b6_value_18.other W20 (Or.inl ne_b6_b8)
  have pre25 : ∀ t, Steps p.tables e below (T20.setTop (mkF m 28 #[.val (.int p0), .val (.int p1), .val (.int p2), .val (.int p3), .val (.int p4), .val (.int p5), .unset, .unset, .unset, .unset, .unset, .unset, .unset, .unset, .unset] [(.ref b8), (.ref b6), (.ref b6)])) t → Steps p.tables e below (s₁.setTop (entryFrame m #[(.int p0), (.int p1), (.int p2), (.int p3), (.int p4), (.int p5)] maxLocals)) t := by
    intro t kk
    refine pre0 t ?_
    show Steps p.tables e below (s₁.setTop (mkF m 0 #[.val (.int p0), .val (.int p1), .val (.int p2), .val (.int p3), .val (.int p4), .val (.int p5), .unset, .unset, .unset, .unset, .unset, .unset, .unset, .unset, .unset] [])) _
    refine st6 _ ?_
    refine XS.dup X6.here hx rfl (hb hby at_3) rfl rfl ?_
    refine XS.iconst X6.here hx rfl (hb hby at_4) ?_
    refine st8 _ ?_
    refine XS.dup X8.here hx rfl (hb hby at_7) rfl rfl ?_
    refine XS.iconst X8.here hx rfl (hb hby at_8) ?_
    refine XS.iloadN X8.here hx rfl (hb hby at_9) rfl ?_
    refine XS.sipush X8.here hx rfl (hb hby at_10) ?_
    refine XS.iand X8.here hx rfl (hb hby at_13) rfl ?_
    refine XS.i2c X8.here hx rfl (hb hby at_14) rfl ?_
    refine st14 _ ?_
    refine XS.dup X14.here hx rfl (hb hby at_16) rfl rfl ?_
    refine XS.iconst X14.here hx rfl (hb hby at_17) ?_
    refine XS.iloadN X14.here hx rfl (hb hby at_18) rfl ?_
    refine XS.bipush X14.here hx rfl (hb hby at_19) ?_
    refine XS.iushr X14.here hx rfl (hb hby at_21) rfl ?_
    refine XS.sipush X14.here hx rfl (hb hby at_22) ?_
    refine XS.iand X14.here hx rfl (hb hby at_25) rfl ?_
    refine XS.i2c X14.here hx rfl (hb hby at_26) rfl ?_
    refine st20 _ ?_
    exact kk
  clear st6 X6 e6 st8 O_7 A6 F_coder_b6 F_value_b6 X8 e8 st14 O_9 E_b6_10 F_b6_coder_11 F_b6_value_12 V_b8 X14 e14 st20 O_15 E_b6_16 F_b6_coder_17 F_b6_value_18 Vw14
  as_aux_lemma =>
  have hlat27 : ∀ c ∈ [(nar .char ((p0 &&& (255 : Int32)).toUInt32.toUInt16.toUInt32.toInt32)), (nar .char ((((p0.toUInt32 >>> ((8 : Int32) &&& 31).toUInt32).toInt32) &&& (255 : Int32)).toUInt32.toUInt16.toUInt32.toInt32))], ¬ c < 0 ∧ ¬ (255 : Int32) < c := by
    intro c hc
    simp only [List.mem_cons, List.not_mem_nil, or_false] at hc
    rcases hc with rfl | rfl
    · rw [show (nar .char ((p0 &&& (255 : Int32)).toUInt32.toUInt16.toUInt32.toInt32)) = (p0 &&& (255 : Int32)) from by simp only [nar, i2c_mask]]; exact own_and255 _
    · rw [show (nar .char ((((p0.toUInt32 >>> ((8 : Int32) &&& 31).toUInt32).toInt32) &&& (255 : Int32)).toUInt32.toUInt16.toUInt32.toInt32)) = (((p0.toUInt32 >>> ((8 : Int32) &&& 31).toUInt32).toInt32) &&& (255 : Int32)) from by simp only [nar, i2c_mask]]; exact own_and255 _
  obtain ⟨_, _, ⟨T26, L26, k26, n26⟩, -, X26, ⟨Lc26, hQ26, l26, y26, z26⟩, st26⟩ := X20.specialBack hx (y := (⟨"java/lang/String", "<init>", "([C)V"⟩ : MethodName)) rfl hown (mt_4 hZ hw) (mt_5 hZ hw) (mt_6 hZ hw) (by decide) (StrChars.Road.backV (W := 1) hZ hws (kI := 4) (hw _ tb_1) (cs := [(nar .char ((p0 &&& (255 : Int32)).toUInt32.toUInt16.toUInt32.toInt32)), (nar .char ((((p0.toUInt32 >>> ((8 : Int32) &&& 31).toUInt32).toInt32) &&& (255 : Int32)).toUInt32.toUInt16.toUInt32.toInt32))]) (bs := [((nar .char ((p0 &&& (255 : Int32)).toUInt32.toUInt16.toUInt32.toInt32))).toInt8.toInt32, ((nar .char ((((p0.toUInt32 >>> ((8 : Int32) &&& 31).toUInt32).toInt32) &&& (255 : Int32)).toUInt32.toUInt16.toUInt32.toInt32))).toInt8.toInt32]) (n := 2) g_b6 Z20 E_b6_22 F_b6_value_24 F_b6_coder_23 Vw20 (S_CS.ext O_21.2) hcs rfl rfl (by decide) (by decide) hlat27 rfl (by decide) (by decide)) (g := (mkF m 28 #[.val (.int p0), .val (.int p1), .val (.int p2), .val (.int p3), .val (.int p4), .val (.int p5), .unset, .unset, .unset, .unset, .unset, .unset, .unset, .unset, .unset] [(.ref b8), (.ref b6), (.ref b6)])) rfl (by rw [hml]; rfl) (Steps.refl _) (a := b6) (argsL := [(.ref b8)]) (rest := [(.ref b6)]) (lenOf pd__28_5bC_29V rfl) rfl (by show 2 * 0 + _ ≤ _; exact Nat.le_of_eq rfl) (hb hby at_28) (fun _ _ => ⟨rfl, e20, (by decide : 2 + 1 ≤ _), (by decide : 6 + 2 ≤ _)⟩)
  dsimp only [Pt.U, Pt.locs, Pt.cells, Pt.slots] at X26 l26 y26 z26 st26 hQ26
  replace l26 := l26.symm
  subst l26
  obtain rfl : k26 = 3 := y26
  obtain rfl : n26 = 8 := z26
  obtain ⟨rfl, N26q, K26, -⟩ := hQ26
  have N26 := Fr.app N20 N26q
  have KP26 : Keep h0 T26.heap [] := KP20.trans K26 (allS (Or.inr sz_b6) all0)
  have Z26 : n0 ≤ T26.heap.size := Nat.le_trans Z20 K26.1
  have O_28 : Old Z n0 T26.heap := O_21.keep K26 (allS g_b6 all0)
  have E_b6_29 : Exa Z T26.heap b6 "java/lang/String" := E_b6_22.keep K26
  obtain ⟨T30, h30, X30, e30, E30, A30, D30, -, st30⟩ := newO X26 hx hZ hown (hw _ tb_0) (hw _ tb_1) (hw _ tb_2) rfl (g := (mkF m 33 #[.val (.int p0), .val (.int p1), .val (.int p2), .val (.int p3), .val (.int p4), .val (.int p5), .val (.ref b6), .unset, .unset, .unset, .unset, .unset, .unset, .unset, .unset] [])) rfl (hb hby at_33) (by decide) (by decide)
  obtain ⟨b30, g30⟩ : ∃ z, z = T26.heap.size := ⟨_, rfl⟩
  rw [← g30] at A30 D30 st30
  have ne_b6_b30 : b6 ≠ b30 := Nat.ne_of_lt (Nat.lt_of_lt_of_le E_b6_29.lt (Nat.le_of_eq g30.symm))
  have sz_b30 : h0.size ≤ b30 := Nat.le_trans KP26.1 (Nat.le_of_eq g30.symm)
  have g_b30 : n0 ≤ b30 := Nat.le_trans Z26 (Nat.le_of_eq g30.symm)
  have KP30 : Keep h0 h30 [] := KP26.ext E30
  have Z30 : n0 ≤ h30.size := Nat.le_trans Z26 E30.1
  have O_31 : Old Z n0 h30 := O_28.ext E30
  have E_b6_32 : Exa Z h30 b6 "java/lang/String" := E_b6_29.ext E30
  have F_coder_b30 : Fld Z h30 b30 "java/lang/String" "coder" "B" (.int (0 : Int32)) := D30 (Or.inr (hw _ tb_27)) (ty := .byte) (by decide)
  have F_value_b30 : Fld Z h30 b30 "java/lang/String" "value" "[B" .null := D30 (Or.inr (hw _ tb_29)) (ty := (.array .byte)) (by decide)
  replace X30 : Stand _ _ _ _ _ _ _ _ _ _ _ _ 4 12 := X30
  obtain ⟨T33, h33, k33, X33, e33, E33, A33, st33⟩ := newP X30 hx hZ (hw _ (List.mem_of_getElem? (i := 3) rfl)) e30 (g := (mkF m 38 #[.val (.int p0), .val (.int p1), .val (.int p2), .val (.int p3), .val (.int p4), .val (.int p5), .val (.ref b6), .unset, .unset, .unset, .unset, .unset, .unset, .unset, .unset] [(.int (2 : Int32)), (.ref b30), (.ref b30)])) rfl (hb hby at_38) rfl (by decide) (cap := 2) (by decide) (by decide) (by decide) (by decide)
  obtain ⟨b33, g33⟩ : ∃ z, z = h30.size := ⟨_, rfl⟩
  rw [← g33] at A33 st33
  have ne_b6_b33 : b6 ≠ b33 := Nat.ne_of_lt (Nat.lt_of_lt_of_le E_b6_32.lt (Nat.le_of_eq g33.symm))
  have ne_b30_b33 : b30 ≠ b33 := Nat.ne_of_lt (Nat.lt_of_lt_of_le A30.lt (Nat.le_of_eq g33.symm))
  have sz_b33 : h0.size ≤ b33 := Nat.le_trans KP30.1 (Nat.le_of_eq g33.symm)
  have g_b33 : n0 ≤ b33 := Nat.le_trans Z30 (Nat.le_of_eq g33.symm)
  have KP33 : Keep h0 h33 [] := KP30.ext E33
  have Z33 : n0 ≤ h33.size := Nat.le_trans Z30 E33.1
  have O_34 : Old Z n0 h33 := O_31.ext E33
  have E_b6_35 : Exa Z h33 b6 "java/lang/String" := E_b6_32.ext E33
  have E_b30_36 : Exa Z h33 b30 "java/lang/String" := A30.ext E33
  have F_b30_coder_37 : Fld Z h33 b30 "java/lang/String" "coder" "B" (.int (0 : Int32)) := F_coder_b30.ext E33
  have F_b30_value_38 : Fld Z h33 b30 "java/lang/String" "value" "[B" .null := F_value_b30.ext E33
  have V_b33 : Arv Z h33 b33 k33 .char (2 : Int32) [(.int (0 : Int32)), (.int (0 : Int32))] (.int (0 : Int32)) := (Arv.new A33 (by decide)).pad (pad_rep [] (.int (0 : Int32)) 2)
  replace X33 : Stand _ _ _ _ _ _ _ _ _ _ _ _ 5 14 := X33
  obtain ⟨cl39, Ar39, q39, S39, N39v, H39, G39⟩ := id V_b33
  have hin39 : ¬ ((0 : Int32) < 0 ∨ cl39.slots.size ≤ ((0 : Int32)).toNatClampNeg) := inb_of S39 ⟨by decide, by decide⟩
  obtain ⟨T40, h40, X40, e40, W40, st40⟩ := stC X33 hx hZ e33 Ar39 (j := (0 : Int32)) hin39 (g := (mkF m 48 #[.val (.int p0), .val (.int p1), .val (.int p2), .val (.int p3), .val (.int p4), .val (.int p5), .val (.ref b6), .unset, .unset, .unset, .unset, .unset, .unset, .unset, .unset] [(.int ((p1 &&& (255 : Int32)).toUInt32.toUInt16.toUInt32.toInt32)), (.int (0 : Int32)), (.ref b33), (.ref b33), (.ref b30), (.ref b30)])) rfl rfl (hb hby at_48)
  have Vw40 : Arv Z h40 b33 k33 .char (2 : Int32) [(.int (nar .char ((p1 &&& (255 : Int32)).toUInt32.toUInt16.toUInt32.toInt32))), (.int (0 : Int32))] (.int (0 : Int32)) := Arv.set Ar39 q39 S39 N39v H39 G39 (fits_nar_char _) W40 0 rfl (Nat.le_of_ble_eq_true rfl)
  have KP40 : Keep h0 h40 [] := KP33.wr W40 (Or.inr sz_b33)
  have Z40 : n0 ≤ h40.size := Nat.le_trans Z33 (Nat.le_of_eq W40.size.symm)
  have N40 := Fr.snoc X40 N26 g_b33
  have O_41 : Old Z n0 h40 := O_34.wr W40 g_b33
  have E_b6_42 : Exa Z h40 b6 "java/lang/String" := E_b6_35.wr W40
  have E_b30_43 : Exa Z h40 b30 "java/lang/String" := E_b30_36.wr W40
  have F_b30_coder_44 : Fld Z h40 b30 "java/lang/String" "coder" "B" (.int (0 : Int32)) := F_b30_coder_37.other W40 (Or.inl ne_b30_b33)
  have F_b30_value_45 : Fld Z h40 b30 "java/lang/String" "value" "[B" .null := F_b30_value_38.other W40 (Or.inl ne_b30_b33)
  obtain ⟨cl46, Ar46, q46, S46, N46v, H46, G46⟩ := id Vw40
  have hin46 : ¬ ((1 : Int32) < 0 ∨ cl46.slots.size ≤ ((1 : Int32)).toNatClampNeg) := inb_of S46 ⟨by decide, by decide⟩
  obtain ⟨T47, h47, X47, e47, W47, st47⟩ := stC X40 hx hZ e40 Ar46 (j := (1 : Int32)) hin46 (g := (mkF m 60 #[.val (.int p0), .val (.int p1), .val (.int p2), .val (.int p3), .val (.int p4), .val (.int p5), .val (.ref b6), .unset, .unset, .unset, .unset, .unset, .unset, .unset, .unset] [(.int ((((p1.toUInt32 >>> ((8 : Int32) &&& 31).toUInt32).toInt32) &&& (255 : Int32)).toUInt32.toUInt16.toUInt32.toInt32)), (.int (1 : Int32)), (.ref b33), (.ref b33), (.ref b30), (.ref b30)])) rfl rfl (hb hby at_60)
  have Vw47 : Arv Z h47 b33 k33 .char (2 : Int32) [(.int (nar .char ((p1 &&& (255 : Int32)).toUInt32.toUInt16.toUInt32.toInt32))), (.int (nar .char ((((p1.toUInt32 >>> ((8 : Int32) &&& 31).toUInt32).toInt32) &&& (255 : Int32)).toUInt32.toUInt16.toUInt32.toInt32)))] (.int (0 : Int32)) := Arv.set Ar46 q46 S46 N46v H46 G46 (fits_nar_char _) W47 1 rfl (Nat.le_of_ble_eq_true rfl)
  have KP47 : Keep h0 h47 [] := KP40.wr W47 (Or.inr sz_b33)
  have Z47 : n0 ≤ h47.size := Nat.le_trans Z40 (Nat.le_of_eq W47.size.symm)
  have N47 := Fr.snoc X47 N40 g_b33
  have O_48 : Old Z n0 h47 := O_41.wr W47 g_b33
  have E_b6_49 : Exa Z h47 b6 "java/lang/String" := E_b6_42.wr W47
  have E_b30_50 : Exa Z h47 b30 "java/lang/String" := E_b30_43.wr W47
  have F_b30_coder_51 : Fld Z h47 b30 "java/lang/String" "coder" "B" (.int (0 : Int32)) := F_b30_coder_44.other W47 (Or.inl ne_b30_b33)
  have F_b30_value_52 : Fld Z h47 b30 "java/lang/String" "value" "[B" .null := F_b30_value_45.other W47 (Or.inl ne_b30_b33)
  have pre53 : ∀ t, Steps p.tables e below (T47.setTop (mkF m 61 #[.val (.int p0), .val (.int p1), .val (.int p2), .val (.int p3), .val (.int p4), .val (.int p5), .val (.ref b6), .unset, .unset, .unset, .unset, .unset, .unset, .unset, .unset] [(.ref b33), (.ref b30), (.ref b30)])) t → Steps p.tables e below (s₁.setTop (entryFrame m #[(.int p0), (.int p1), (.int p2), (.int p3), (.int p4), (.int p5)] maxLocals)) t := by
    intro t kk
    refine pre25 t ?_
    show Steps p.tables e below (T20.setTop (mkF m 28 #[.val (.int p0), .val (.int p1), .val (.int p2), .val (.int p3), .val (.int p4), .val (.int p5), .unset, .unset, .unset, .unset, .unset, .unset, .unset, .unset, .unset] [(.ref b8), (.ref b6), (.ref b6)])) _
    refine st26.trans ?_
    refine XS.astore X26.here hx rfl (hb hby at_31) rfl rfl (l' := #[.val (.int p0), .val (.int p1), .val (.int p2), .val (.int p3), .val (.int p4), .val (.int p5), .val (.ref b6), .unset, .unset, .unset, .unset, .unset, .unset, .unset, .unset]) rfl ?_
    refine st30 _ ?_
    refine XS.dup X30.here hx rfl (hb hby at_36) rfl rfl ?_
    refine XS.iconst X30.here hx rfl (hb hby at_37) ?_
    refine st33 _ ?_
    refine XS.dup X33.here hx rfl (hb hby at_40) rfl rfl ?_
    refine XS.iconst X33.here hx rfl (hb hby at_41) ?_
    refine XS.iloadN X33.here hx rfl (hb hby at_42) rfl ?_
    refine XS.sipush X33.here hx rfl (hb hby at_43) ?_
    refine XS.iand X33.here hx rfl (hb hby at_46) rfl ?_
    refine XS.i2c X33.here hx rfl (hb hby at_47) rfl ?_
    refine st40 _ ?_
    refine XS.dup X40.here hx rfl (hb hby at_49) rfl rfl ?_
    refine XS.iconst X40.here hx rfl (hb hby at_50) ?_
    refine XS.iloadN X40.here hx rfl (hb hby at_51) rfl ?_
    refine XS.bipush X40.here hx rfl (hb hby at_52) ?_
    refine XS.iushr X40.here hx rfl (hb hby at_54) rfl ?_
    refine XS.sipush X40.here hx rfl (hb hby at_55) ?_
    refine XS.iand X40.here hx rfl (hb hby at_58) rfl ?_
    refine XS.i2c X40.here hx rfl (hb hby at_59) rfl ?_
    refine st47 _ ?_
    exact kk
  clear X20 e20 st26 N26q N20 KP20 Z20 F_b6_coder_23 F_b6_value_24 Vw20 O_21 E_b6_22 K26 X26 st30 O_28 E_b6_29 X30 e30 st33 O_31 E_b6_32 A30 F_coder_b30 F_value_b30 X33 e33 st40 O_34 E_b6_35 E_b30_36 F_b30_coder_37 F_b30_value_38 V_b33 X40 e40 st47 O_41 E_b6_42 E_b30_43 F_b30_coder_44 F_b30_value_45 Vw40 pre25
  as_aux_lemma =>
  have hlat55 : ∀ c ∈ [(nar .char ((p1 &&& (255 : Int32)).toUInt32.toUInt16.toUInt32.toInt32)), (nar .char ((((p1.toUInt32 >>> ((8 : Int32) &&& 31).toUInt32).toInt32) &&& (255 : Int32)).toUInt32.toUInt16.toUInt32.toInt32))], ¬ c < 0 ∧ ¬ (255 : Int32) < c := by
    intro c hc
    simp only [List.mem_cons, List.not_mem_nil, or_false] at hc
    rcases hc with rfl | rfl
    · rw [show (nar .char ((p1 &&& (255 : Int32)).toUInt32.toUInt16.toUInt32.toInt32)) = (p1 &&& (255 : Int32)) from by simp only [nar, i2c_mask]]; exact own_and255 _
    · rw [show (nar .char ((((p1.toUInt32 >>> ((8 : Int32) &&& 31).toUInt32).toInt32) &&& (255 : Int32)).toUInt32.toUInt16.toUInt32.toInt32)) = (((p1.toUInt32 >>> ((8 : Int32) &&& 31).toUInt32).toInt32) &&& (255 : Int32)) from by simp only [nar, i2c_mask]]; exact own_and255 _
  obtain ⟨_, _, ⟨T54, L54, k54, n54⟩, -, X54, ⟨Lc54, hQ54, l54, y54, z54⟩, st54⟩ := X47.specialBack hx (y := (⟨"java/lang/String", "<init>", "([C)V"⟩ : MethodName)) rfl hown (mt_4 hZ hw) (mt_5 hZ hw) (mt_6 hZ hw) (by decide) (StrChars.Road.backV (W := 1) hZ hws (kI := 4) (hw _ tb_1) (cs := [(nar .char ((p1 &&& (255 : Int32)).toUInt32.toUInt16.toUInt32.toInt32)), (nar .char ((((p1.toUInt32 >>> ((8 : Int32) &&& 31).toUInt32).toInt32) &&& (255 : Int32)).toUInt32.toUInt16.toUInt32.toInt32))]) (bs := [((nar .char ((p1 &&& (255 : Int32)).toUInt32.toUInt16.toUInt32.toInt32))).toInt8.toInt32, ((nar .char ((((p1.toUInt32 >>> ((8 : Int32) &&& 31).toUInt32).toInt32) &&& (255 : Int32)).toUInt32.toUInt16.toUInt32.toInt32))).toInt8.toInt32]) (n := 2) g_b30 Z47 E_b30_50 F_b30_value_52 F_b30_coder_51 Vw47 (S_CS.ext O_48.2) hcs rfl rfl (by decide) (by decide) hlat55 rfl (by decide) (by decide)) (g := (mkF m 61 #[.val (.int p0), .val (.int p1), .val (.int p2), .val (.int p3), .val (.int p4), .val (.int p5), .val (.ref b6), .unset, .unset, .unset, .unset, .unset, .unset, .unset, .unset] [(.ref b33), (.ref b30), (.ref b30)])) rfl (by rw [hml]; rfl) (Steps.refl _) (a := b30) (argsL := [(.ref b33)]) (rest := [(.ref b30)]) (lenOf pd__28_5bC_29V rfl) rfl (by show 2 * 0 + _ ≤ _; exact Nat.le_of_eq rfl) (hb hby at_61) (fun _ _ => ⟨rfl, e47, (by decide : 5 + 1 ≤ _), (by decide : 14 + 2 ≤ _)⟩)
  dsimp only [Pt.U, Pt.locs, Pt.cells, Pt.slots] at X54 l54 y54 z54 st54 hQ54
  replace l54 := l54.symm
  subst l54
  obtain rfl : k54 = 6 := y54
  obtain rfl : n54 = 16 := z54
  obtain ⟨rfl, N54q, K54, -⟩ := hQ54
  have N54 := Fr.app N47 N54q
  have KP54 : Keep h0 T54.heap [] := KP47.trans K54 (allS (Or.inr sz_b30) all0)
  have Z54 : n0 ≤ T54.heap.size := Nat.le_trans Z47 K54.1
  have O_56 : Old Z n0 T54.heap := O_48.keep K54 (allS g_b30 all0)
  have E_b6_57 : Exa Z T54.heap b6 "java/lang/String" := E_b6_49.keep K54
  have E_b30_58 : Exa Z T54.heap b30 "java/lang/String" := E_b30_50.keep K54
  have pre60 : ∀ t, Steps p.tables e below (T54.setTop (mkF m 70 #[.val (.int p0), .val (.int p1), .val (.int p2), .val (.int p3), .val (.int p4), .val (.int p5), .val (.ref b6), .val (.ref b30), .unset, .unset, .unset, .unset, .unset, .unset, .unset] [(.int (p5 &&& (1 : Int32)))])) t → Steps p.tables e below (s₁.setTop (entryFrame m #[(.int p0), (.int p1), (.int p2), (.int p3), (.int p4), (.int p5)] maxLocals)) t := by
    intro t kk
    refine pre53 t ?_
    show Steps p.tables e below (T47.setTop (mkF m 61 #[.val (.int p0), .val (.int p1), .val (.int p2), .val (.int p3), .val (.int p4), .val (.int p5), .val (.ref b6), .unset, .unset, .unset, .unset, .unset, .unset, .unset, .unset] [(.ref b33), (.ref b30), (.ref b30)])) _
    refine st54.trans ?_
    refine XS.astore X54.here hx rfl (hb hby at_64) rfl rfl (l' := #[.val (.int p0), .val (.int p1), .val (.int p2), .val (.int p3), .val (.int p4), .val (.int p5), .val (.ref b6), .val (.ref b30), .unset, .unset, .unset, .unset, .unset, .unset, .unset]) rfl ?_
    refine XS.iload X54.here hx rfl (hb hby at_66) rfl ?_
    refine XS.iconst X54.here hx rfl (hb hby at_68) ?_
    refine XS.iand X54.here hx rfl (hb hby at_69) rfl ?_
    exact kk
  clear X47 e47 st54 N54q N47 KP47 Z47 F_b30_coder_51 F_b30_value_52 Vw47 O_48 E_b6_49 E_b30_50 K54 pre53
  as_aux_lemma =>
  by_cases hc70_59 : (p5 &&& (1 : Int32)) = (0 : Int32)
  · as_aux_lemma =>
    obtain ⟨T61, h61, X61, e61, E61, A61, D61, -, st61⟩ := newO X54 hx hZ hown (hw _ tb_0) (hw _ tb_1) (hw _ tb_2) rfl (g := (mkF m 77 #[.val (.int p0), .val (.int p1), .val (.int p2), .val (.int p3), .val (.int p4), .val (.int p5), .val (.ref b6), .val (.ref b30), .unset, .unset, .unset, .unset, .unset, .unset, .unset] [])) rfl (hb hby at_77) (by decide) (by decide)
    obtain ⟨b61, g61⟩ : ∃ z, z = T54.heap.size := ⟨_, rfl⟩
    rw [← g61] at A61 D61 st61
    have ne_b6_b61 : b6 ≠ b61 := Nat.ne_of_lt (Nat.lt_of_lt_of_le E_b6_57.lt (Nat.le_of_eq g61.symm))
    have ne_b30_b61 : b30 ≠ b61 := Nat.ne_of_lt (Nat.lt_of_lt_of_le E_b30_58.lt (Nat.le_of_eq g61.symm))
    have sz_b61 : h0.size ≤ b61 := Nat.le_trans KP54.1 (Nat.le_of_eq g61.symm)
    have g_b61 : n0 ≤ b61 := Nat.le_trans Z54 (Nat.le_of_eq g61.symm)
    have KP61 : Keep h0 h61 [] := KP54.ext E61
    have Z61 : n0 ≤ h61.size := Nat.le_trans Z54 E61.1
    have O_62 : Old Z n0 h61 := O_56.ext E61
    have E_b6_63 : Exa Z h61 b6 "java/lang/String" := E_b6_57.ext E61
    have E_b30_64 : Exa Z h61 b30 "java/lang/String" := E_b30_58.ext E61
    have F_coder_b61 : Fld Z h61 b61 "java/lang/String" "coder" "B" (.int (0 : Int32)) := D61 (Or.inr (hw _ tb_27)) (ty := .byte) (by decide)
    have F_value_b61 : Fld Z h61 b61 "java/lang/String" "value" "[B" .null := D61 (Or.inr (hw _ tb_29)) (ty := (.array .byte)) (by decide)
    replace X61 : Stand _ _ _ _ _ _ _ _ _ _ _ _ 7 20 := X61
    obtain ⟨T65, h65, k65, X65, e65, E65, A65, st65⟩ := newP X61 hx hZ (hw _ (List.mem_of_getElem? (i := 3) rfl)) e61 (g := (mkF m 82 #[.val (.int p0), .val (.int p1), .val (.int p2), .val (.int p3), .val (.int p4), .val (.int p5), .val (.ref b6), .val (.ref b30), .unset, .unset, .unset, .unset, .unset, .unset, .unset] [(.int (2 : Int32)), (.ref b61), (.ref b61)])) rfl (hb hby at_82) rfl (by decide) (cap := 2) (by decide) (by decide) (by decide) (by decide)
    obtain ⟨b65, g65⟩ : ∃ z, z = h61.size := ⟨_, rfl⟩
    rw [← g65] at A65 st65
    have ne_b6_b65 : b6 ≠ b65 := Nat.ne_of_lt (Nat.lt_of_lt_of_le E_b6_63.lt (Nat.le_of_eq g65.symm))
    have ne_b30_b65 : b30 ≠ b65 := Nat.ne_of_lt (Nat.lt_of_lt_of_le E_b30_64.lt (Nat.le_of_eq g65.symm))
    have ne_b61_b65 : b61 ≠ b65 := Nat.ne_of_lt (Nat.lt_of_lt_of_le A61.lt (Nat.le_of_eq g65.symm))
    have sz_b65 : h0.size ≤ b65 := Nat.le_trans KP61.1 (Nat.le_of_eq g65.symm)
    have g_b65 : n0 ≤ b65 := Nat.le_trans Z61 (Nat.le_of_eq g65.symm)
    have KP65 : Keep h0 h65 [] := KP61.ext E65
    have Z65 : n0 ≤ h65.size := Nat.le_trans Z61 E65.1
    have O_66 : Old Z n0 h65 := O_62.ext E65
    have E_b6_67 : Exa Z h65 b6 "java/lang/String" := E_b6_63.ext E65
    have E_b30_68 : Exa Z h65 b30 "java/lang/String" := E_b30_64.ext E65
    have E_b61_69 : Exa Z h65 b61 "java/lang/String" := A61.ext E65
    have F_b61_coder_70 : Fld Z h65 b61 "java/lang/String" "coder" "B" (.int (0 : Int32)) := F_coder_b61.ext E65
    have F_b61_value_71 : Fld Z h65 b61 "java/lang/String" "value" "[B" .null := F_value_b61.ext E65
    have V_b65 : Arv Z h65 b65 k65 .char (2 : Int32) [(.int (0 : Int32)), (.int (0 : Int32))] (.int (0 : Int32)) := (Arv.new A65 (by decide)).pad (pad_rep [] (.int (0 : Int32)) 2)
    replace X65 : Stand _ _ _ _ _ _ _ _ _ _ _ _ 8 22 := X65
    obtain ⟨cl72, Ar72, q72, S72, N72v, H72, G72⟩ := id V_b65
    have hin72 : ¬ ((0 : Int32) < 0 ∨ cl72.slots.size ≤ ((0 : Int32)).toNatClampNeg) := inb_of S72 ⟨by decide, by decide⟩
    obtain ⟨T73, h73, X73, e73, W73, st73⟩ := stC X65 hx hZ e65 Ar72 (j := (0 : Int32)) hin72 (g := (mkF m 92 #[.val (.int p0), .val (.int p1), .val (.int p2), .val (.int p3), .val (.int p4), .val (.int p5), .val (.ref b6), .val (.ref b30), .unset, .unset, .unset, .unset, .unset, .unset, .unset] [(.int ((p2 &&& (255 : Int32)).toUInt32.toUInt16.toUInt32.toInt32)), (.int (0 : Int32)), (.ref b65), (.ref b65), (.ref b61), (.ref b61)])) rfl rfl (hb hby at_92)
    have Vw73 : Arv Z h73 b65 k65 .char (2 : Int32) [(.int (nar .char ((p2 &&& (255 : Int32)).toUInt32.toUInt16.toUInt32.toInt32))), (.int (0 : Int32))] (.int (0 : Int32)) := Arv.set Ar72 q72 S72 N72v H72 G72 (fits_nar_char _) W73 0 rfl (Nat.le_of_ble_eq_true rfl)
    have KP73 : Keep h0 h73 [] := KP65.wr W73 (Or.inr sz_b65)
    have Z73 : n0 ≤ h73.size := Nat.le_trans Z65 (Nat.le_of_eq W73.size.symm)
    have N73 := Fr.snoc X73 N54 g_b65
    have O_74 : Old Z n0 h73 := O_66.wr W73 g_b65
    have E_b6_75 : Exa Z h73 b6 "java/lang/String" := E_b6_67.wr W73
    have E_b30_76 : Exa Z h73 b30 "java/lang/String" := E_b30_68.wr W73
    have E_b61_77 : Exa Z h73 b61 "java/lang/String" := E_b61_69.wr W73
    have F_b61_coder_78 : Fld Z h73 b61 "java/lang/String" "coder" "B" (.int (0 : Int32)) := F_b61_coder_70.other W73 (Or.inl ne_b61_b65)
    have F_b61_value_79 : Fld Z h73 b61 "java/lang/String" "value" "[B" .null := F_b61_value_71.other W73 (Or.inl ne_b61_b65)
    obtain ⟨cl80, Ar80, q80, S80, N80v, H80, G80⟩ := id Vw73
    have hin80 : ¬ ((1 : Int32) < 0 ∨ cl80.slots.size ≤ ((1 : Int32)).toNatClampNeg) := inb_of S80 ⟨by decide, by decide⟩
    obtain ⟨T81, h81, X81, e81, W81, st81⟩ := stC X73 hx hZ e73 Ar80 (j := (1 : Int32)) hin80 (g := (mkF m 104 #[.val (.int p0), .val (.int p1), .val (.int p2), .val (.int p3), .val (.int p4), .val (.int p5), .val (.ref b6), .val (.ref b30), .unset, .unset, .unset, .unset, .unset, .unset, .unset] [(.int ((((p2.toUInt32 >>> ((8 : Int32) &&& 31).toUInt32).toInt32) &&& (255 : Int32)).toUInt32.toUInt16.toUInt32.toInt32)), (.int (1 : Int32)), (.ref b65), (.ref b65), (.ref b61), (.ref b61)])) rfl rfl (hb hby at_104)
    have Vw81 : Arv Z h81 b65 k65 .char (2 : Int32) [(.int (nar .char ((p2 &&& (255 : Int32)).toUInt32.toUInt16.toUInt32.toInt32))), (.int (nar .char ((((p2.toUInt32 >>> ((8 : Int32) &&& 31).toUInt32).toInt32) &&& (255 : Int32)).toUInt32.toUInt16.toUInt32.toInt32)))] (.int (0 : Int32)) := Arv.set Ar80 q80 S80 N80v H80 G80 (fits_nar_char _) W81 1 rfl (Nat.le_of_ble_eq_true rfl)
    have KP81 : Keep h0 h81 [] := KP73.wr W81 (Or.inr sz_b65)
    have Z81 : n0 ≤ h81.size := Nat.le_trans Z73 (Nat.le_of_eq W81.size.symm)
    have N81 := Fr.snoc X81 N73 g_b65
    have O_82 : Old Z n0 h81 := O_74.wr W81 g_b65
    have E_b6_83 : Exa Z h81 b6 "java/lang/String" := E_b6_75.wr W81
    have E_b30_84 : Exa Z h81 b30 "java/lang/String" := E_b30_76.wr W81
    have E_b61_85 : Exa Z h81 b61 "java/lang/String" := E_b61_77.wr W81
    have F_b61_coder_86 : Fld Z h81 b61 "java/lang/String" "coder" "B" (.int (0 : Int32)) := F_b61_coder_78.other W81 (Or.inl ne_b61_b65)
    have F_b61_value_87 : Fld Z h81 b61 "java/lang/String" "value" "[B" .null := F_b61_value_79.other W81 (Or.inl ne_b61_b65)
    have pre88 : ∀ t, Steps p.tables e below (T81.setTop (mkF m 105 #[.val (.int p0), .val (.int p1), .val (.int p2), .val (.int p3), .val (.int p4), .val (.int p5), .val (.ref b6), .val (.ref b30), .unset, .unset, .unset, .unset, .unset, .unset, .unset] [(.ref b65), (.ref b61), (.ref b61)])) t → Steps p.tables e below (s₁.setTop (entryFrame m #[(.int p0), (.int p1), (.int p2), (.int p3), (.int p4), (.int p5)] maxLocals)) t := by
      intro t kk
      refine pre60 t ?_
      show Steps p.tables e below (T54.setTop (mkF m 70 #[.val (.int p0), .val (.int p1), .val (.int p2), .val (.int p3), .val (.int p4), .val (.int p5), .val (.ref b6), .val (.ref b30), .unset, .unset, .unset, .unset, .unset, .unset, .unset] [(.int (p5 &&& (1 : Int32)))])) _
      refine XS.ifYes X54.here hx rfl (pc0 := 70) (pc' := 77) rfl (hb hby at_70) rfl ((if0 _ _).trans (teq hc70_59).1) (by decide) (by decide) ?_
      refine st61 _ ?_
      refine XS.dup X61.here hx rfl (hb hby at_80) rfl rfl ?_
      refine XS.iconst X61.here hx rfl (hb hby at_81) ?_
      refine st65 _ ?_
      refine XS.dup X65.here hx rfl (hb hby at_84) rfl rfl ?_
      refine XS.iconst X65.here hx rfl (hb hby at_85) ?_
      refine XS.iloadN X65.here hx rfl (hb hby at_86) rfl ?_
      refine XS.sipush X65.here hx rfl (hb hby at_87) ?_
      refine XS.iand X65.here hx rfl (hb hby at_90) rfl ?_
      refine XS.i2c X65.here hx rfl (hb hby at_91) rfl ?_
      refine st73 _ ?_
      refine XS.dup X73.here hx rfl (hb hby at_93) rfl rfl ?_
      refine XS.iconst X73.here hx rfl (hb hby at_94) ?_
      refine XS.iloadN X73.here hx rfl (hb hby at_95) rfl ?_
      refine XS.bipush X73.here hx rfl (hb hby at_96) ?_
      refine XS.iushr X73.here hx rfl (hb hby at_98) rfl ?_
      refine XS.sipush X73.here hx rfl (hb hby at_99) ?_
      refine XS.iand X73.here hx rfl (hb hby at_102) rfl ?_
      refine XS.i2c X73.here hx rfl (hb hby at_103) rfl ?_
      refine st81 _ ?_
      exact kk
    clear X54 st61 O_56 E_b6_57 E_b30_58 X61 e61 st65 O_62 E_b6_63 E_b30_64 A61 F_coder_b61 F_value_b61 X65 e65 st73 O_66 E_b6_67 E_b30_68 E_b61_69 F_b61_coder_70 F_b61_value_71 V_b65 X73 e73 st81 O_74 E_b6_75 E_b30_76 E_b61_77 F_b61_coder_78 F_b61_value_79 Vw73 pre60
    as_aux_lemma =>
    have hlat90 : ∀ c ∈ [(nar .char ((p2 &&& (255 : Int32)).toUInt32.toUInt16.toUInt32.toInt32)), (nar .char ((((p2.toUInt32 >>> ((8 : Int32) &&& 31).toUInt32).toInt32) &&& (255 : Int32)).toUInt32.toUInt16.toUInt32.toInt32))], ¬ c < 0 ∧ ¬ (255 : Int32) < c := by
      intro c hc
      simp only [List.mem_cons, List.not_mem_nil, or_false] at hc
      rcases hc with rfl | rfl
      · rw [show (nar .char ((p2 &&& (255 : Int32)).toUInt32.toUInt16.toUInt32.toInt32)) = (p2 &&& (255 : Int32)) from by simp only [nar, i2c_mask]]; exact own_and255 _
      · rw [show (nar .char ((((p2.toUInt32 >>> ((8 : Int32) &&& 31).toUInt32).toInt32) &&& (255 : Int32)).toUInt32.toUInt16.toUInt32.toInt32)) = (((p2.toUInt32 >>> ((8 : Int32) &&& 31).toUInt32).toInt32) &&& (255 : Int32)) from by simp only [nar, i2c_mask]]; exact own_and255 _
    obtain ⟨_, _, ⟨T89, L89, k89, n89⟩, -, X89, ⟨Lc89, hQ89, l89, y89, z89⟩, st89⟩ := X81.specialBack hx (y := (⟨"java/lang/String", "<init>", "([C)V"⟩ : MethodName)) rfl hown (mt_4 hZ hw) (mt_5 hZ hw) (mt_6 hZ hw) (by decide) (StrChars.Road.backV (W := 1) hZ hws (kI := 4) (hw _ tb_1) (cs := [(nar .char ((p2 &&& (255 : Int32)).toUInt32.toUInt16.toUInt32.toInt32)), (nar .char ((((p2.toUInt32 >>> ((8 : Int32) &&& 31).toUInt32).toInt32) &&& (255 : Int32)).toUInt32.toUInt16.toUInt32.toInt32))]) (bs := [((nar .char ((p2 &&& (255 : Int32)).toUInt32.toUInt16.toUInt32.toInt32))).toInt8.toInt32, ((nar .char ((((p2.toUInt32 >>> ((8 : Int32) &&& 31).toUInt32).toInt32) &&& (255 : Int32)).toUInt32.toUInt16.toUInt32.toInt32))).toInt8.toInt32]) (n := 2) g_b61 Z81 E_b61_85 F_b61_value_87 F_b61_coder_86 Vw81 (S_CS.ext O_82.2) hcs rfl rfl (by decide) (by decide) hlat90 rfl (by decide) (by decide)) (g := (mkF m 105 #[.val (.int p0), .val (.int p1), .val (.int p2), .val (.int p3), .val (.int p4), .val (.int p5), .val (.ref b6), .val (.ref b30), .unset, .unset, .unset, .unset, .unset, .unset, .unset] [(.ref b65), (.ref b61), (.ref b61)])) rfl (by rw [hml]; rfl) (Steps.refl _) (a := b61) (argsL := [(.ref b65)]) (rest := [(.ref b61)]) (lenOf pd__28_5bC_29V rfl) rfl (by show 2 * 0 + _ ≤ _; exact Nat.le_of_eq rfl) (hb hby at_105) (fun _ _ => ⟨rfl, e81, (by decide : 8 + 1 ≤ _), (by decide : 22 + 2 ≤ _)⟩)
    dsimp only [Pt.U, Pt.locs, Pt.cells, Pt.slots] at X89 l89 y89 z89 st89 hQ89
    replace l89 := l89.symm
    subst l89
    obtain rfl : k89 = 9 := y89
    obtain rfl : n89 = 24 := z89
    obtain ⟨rfl, N89q, K89, -⟩ := hQ89
    have N89 := Fr.app N81 N89q
    have KP89 : Keep h0 T89.heap [] := KP81.trans K89 (allS (Or.inr sz_b61) all0)
    have Z89 : n0 ≤ T89.heap.size := Nat.le_trans Z81 K89.1
    have O_91 : Old Z n0 T89.heap := O_82.keep K89 (allS g_b61 all0)
    have E_b6_92 : Exa Z T89.heap b6 "java/lang/String" := E_b6_83.keep K89
    have E_b30_93 : Exa Z T89.heap b30 "java/lang/String" := E_b30_84.keep K89
    have E_b61_94 : Exa Z T89.heap b61 "java/lang/String" := E_b61_85.keep K89
    have pre96 : ∀ t, Steps p.tables e below (T89.setTop (mkF m 114 #[.val (.int p0), .val (.int p1), .val (.int p2), .val (.int p3), .val (.int p4), .val (.int p5), .val (.ref b6), .val (.ref b30), .val (.ref b61), .unset, .unset, .unset, .unset, .unset, .unset] [(.int (p5 &&& (2 : Int32)))])) t → Steps p.tables e below (s₁.setTop (entryFrame m #[(.int p0), (.int p1), (.int p2), (.int p3), (.int p4), (.int p5)] maxLocals)) t := by
      intro t kk
      refine pre88 t ?_
      show Steps p.tables e below (T81.setTop (mkF m 105 #[.val (.int p0), .val (.int p1), .val (.int p2), .val (.int p3), .val (.int p4), .val (.int p5), .val (.ref b6), .val (.ref b30), .unset, .unset, .unset, .unset, .unset, .unset, .unset] [(.ref b65), (.ref b61), (.ref b61)])) _
      refine st89.trans ?_
      refine XS.astore X89.here hx rfl (hb hby at_108) rfl rfl (l' := #[.val (.int p0), .val (.int p1), .val (.int p2), .val (.int p3), .val (.int p4), .val (.int p5), .val (.ref b6), .val (.ref b30), .val (.ref b61), .unset, .unset, .unset, .unset, .unset, .unset]) rfl ?_
      refine XS.iload X89.here hx rfl (hb hby at_110) rfl ?_
      refine XS.iconst X89.here hx rfl (hb hby at_112) ?_
      refine XS.iand X89.here hx rfl (hb hby at_113) rfl ?_
      exact kk
    clear X81 e81 st89 N89q N81 KP81 Z81 F_b61_coder_86 F_b61_value_87 Vw81 O_82 E_b6_83 E_b30_84 E_b61_85 K89 pre88
    as_aux_lemma =>
    by_cases hc114_95 : (p5 &&& (2 : Int32)) = (0 : Int32)
    · as_aux_lemma =>
      obtain ⟨T97, h97, X97, e97, E97, A97, D97, -, st97⟩ := newO X89 hx hZ hown (hw _ tb_30) (hw _ tb_31) (hw _ tb_32) rfl (g := (mkF m 121 #[.val (.int p0), .val (.int p1), .val (.int p2), .val (.int p3), .val (.int p4), .val (.int p5), .val (.ref b6), .val (.ref b30), .val (.ref b61), .unset, .unset, .unset, .unset, .unset, .unset] [])) rfl (hb hby at_121) (by decide) (by decide)
      obtain ⟨b97, g97⟩ : ∃ z, z = T89.heap.size := ⟨_, rfl⟩
      rw [← g97] at A97 D97 st97
      have ne_b6_b97 : b6 ≠ b97 := Nat.ne_of_lt (Nat.lt_of_lt_of_le E_b6_92.lt (Nat.le_of_eq g97.symm))
      have ne_b30_b97 : b30 ≠ b97 := Nat.ne_of_lt (Nat.lt_of_lt_of_le E_b30_93.lt (Nat.le_of_eq g97.symm))
      have ne_b61_b97 : b61 ≠ b97 := Nat.ne_of_lt (Nat.lt_of_lt_of_le E_b61_94.lt (Nat.le_of_eq g97.symm))
      have sz_b97 : h0.size ≤ b97 := Nat.le_trans KP89.1 (Nat.le_of_eq g97.symm)
      have g_b97 : n0 ≤ b97 := Nat.le_trans Z89 (Nat.le_of_eq g97.symm)
      have KP97 : Keep h0 h97 [] := KP89.ext E97
      have Z97 : n0 ≤ h97.size := Nat.le_trans Z89 E97.1
      have O_98 : Old Z n0 h97 := O_91.ext E97
      have E_b6_99 : Exa Z h97 b6 "java/lang/String" := E_b6_92.ext E97
      have E_b30_100 : Exa Z h97 b30 "java/lang/String" := E_b30_93.ext E97
      have E_b61_101 : Exa Z h97 b61 "java/lang/String" := E_b61_94.ext E97
      have F_status_b97 : Fld Z h97 b97 "com/example/tidewheel/tidewheel/model/KeyedRequest$Answer" "status" "I" (.int (0 : Int32)) := D97 (Or.inr (hw _ tb_41)) (ty := .int) (by decide)
      have F_body_b97 : Fld Z h97 b97 "com/example/tidewheel/tidewheel/model/KeyedRequest$Answer" "body" "Ljava/lang/String;" .null := D97 (Or.inr (hw _ tb_43)) (ty := (.object "java/lang/String")) (by decide)
      have F_refusal_b97 : Fld Z h97 b97 "com/example/tidewheel/tidewheel/model/KeyedRequest$Answer" "refusal" "Lcom/example/tidewheel/tidewheel/model/RefusedException$Reason;" .null := D97 (Or.inr (hw _ tb_45)) (ty := (.object "com/example/tidewheel/tidewheel/model/RefusedException$Reason")) (by decide)
      replace X97 : Stand _ _ _ _ _ _ _ _ _ _ _ _ 10 27 := X97
      have pre102 : ∀ t, Steps p.tables e below (T97.setTop (mkF m 128 #[.val (.int p0), .val (.int p1), .val (.int p2), .val (.int p3), .val (.int p4), .val (.int p5), .val (.ref b6), .val (.ref b30), .val (.ref b61), .unset, .unset, .unset, .unset, .unset, .unset] [(.ref b6), (.int p3), (.ref b97), (.ref b97)])) t → Steps p.tables e below (s₁.setTop (entryFrame m #[(.int p0), (.int p1), (.int p2), (.int p3), (.int p4), (.int p5)] maxLocals)) t := by
        intro t kk
        refine pre96 t ?_
        show Steps p.tables e below (T89.setTop (mkF m 114 #[.val (.int p0), .val (.int p1), .val (.int p2), .val (.int p3), .val (.int p4), .val (.int p5), .val (.ref b6), .val (.ref b30), .val (.ref b61), .unset, .unset, .unset, .unset, .unset, .unset] [(.int (p5 &&& (2 : Int32)))])) _
        refine XS.ifYes X89.here hx rfl (pc0 := 114) (pc' := 121) rfl (hb hby at_114) rfl ((if0 _ _).trans (teq hc114_95).1) (by decide) (by decide) ?_
        refine st97 _ ?_
        refine XS.dup X97.here hx rfl (hb hby at_124) rfl rfl ?_
        refine XS.iloadN X97.here hx rfl (hb hby at_125) rfl ?_
        refine XS.aload X97.here hx rfl (hb hby at_126) rfl rfl ?_
        exact kk
      clear X89 st97 O_91 E_b6_92 E_b30_93 E_b61_94 pre96
      as_aux_lemma =>
      obtain ⟨_, _, ⟨T122, L122, k122, n122⟩, -, X122, ⟨Lc122, hQ122, l122, y122, z122⟩, st122⟩ := X97.specialBack hx (y := (⟨"com/example/tidewheel/tidewheel/model/KeyedRequest$Answer", "<init>", "(ILjava/lang/String;)V"⟩ : MethodName)) rfl hown (mt_33 hZ hw) (mt_34 hZ hw) (mt_35 hZ hw) (by decide) (backOf (W := 1) (rm7_rr l Z aA hw [] b97 p3 b6 h97 n0 Z97 A97 g_b97 F_status_b97 F_body_b97 F_refusal_b97) hZ (hw _ tb_35) (hw _ tb_32) (by decide) (by decide)) (g := (mkF m 128 #[.val (.int p0), .val (.int p1), .val (.int p2), .val (.int p3), .val (.int p4), .val (.int p5), .val (.ref b6), .val (.ref b30), .val (.ref b61), .unset, .unset, .unset, .unset, .unset, .unset] [(.ref b6), (.int p3), (.ref b97), (.ref b97)])) rfl (by rw [hml]; rfl) (Steps.refl _) (a := b97) (argsL := [(.int p3), (.ref b6)]) (rest := [(.ref b97)]) (lenOf pd__28ILjava_2flang_2fString_3b_29V rfl) rfl (by show 2 * 0 + _ ≤ _; exact Nat.le_of_eq rfl) (hb hby at_128) (fun _ _ => ⟨rfl, e97, (by decide : 10 + 0 ≤ _), (by decide : 27 + 0 ≤ _)⟩)
      dsimp only [Pt.U, Pt.locs, Pt.cells, Pt.slots] at X122 l122 y122 z122 st122 hQ122
      replace l122 := l122.symm
      subst l122
      obtain rfl : k122 = 10 := y122
      obtain rfl : n122 = 27 := z122
      obtain ⟨rfl, N122q, K122, Eq122, Fq122_status, Fq122_body, Fq122_refusal⟩ := hQ122
      have N122 := Fr.app N89 N122q
      have KP122 : Keep h0 T122.heap [] := KP97.trans K122 (allS (Or.inr sz_b97) all0)
      have Z122 : n0 ≤ T122.heap.size := Nat.le_trans Z97 K122.1
      have O_123 : Old Z n0 T122.heap := O_98.keep K122 (allS g_b97 all0)
      have E_b6_124 : Exa Z T122.heap b6 "java/lang/String" := E_b6_99.keep K122
      have E_b30_125 : Exa Z T122.heap b30 "java/lang/String" := E_b30_100.keep K122
      have E_b61_126 : Exa Z T122.heap b61 "java/lang/String" := E_b61_101.keep K122
      have E_b97_127 : Exa Z T122.heap b97 "com/example/tidewheel/tidewheel/model/KeyedRequest$Answer" := A97.keep K122
      have pre129 : ∀ t, Steps p.tables e below (T122.setTop (mkF m 137 #[.val (.int p0), .val (.int p1), .val (.int p2), .val (.int p3), .val (.int p4), .val (.int p5), .val (.ref b6), .val (.ref b30), .val (.ref b61), .val (.ref b97), .unset, .unset, .unset, .unset, .unset] [(.int (p5 &&& (4 : Int32)))])) t → Steps p.tables e below (s₁.setTop (entryFrame m #[(.int p0), (.int p1), (.int p2), (.int p3), (.int p4), (.int p5)] maxLocals)) t := by
        intro t kk
        refine pre102 t ?_
        show Steps p.tables e below (T97.setTop (mkF m 128 #[.val (.int p0), .val (.int p1), .val (.int p2), .val (.int p3), .val (.int p4), .val (.int p5), .val (.ref b6), .val (.ref b30), .val (.ref b61), .unset, .unset, .unset, .unset, .unset, .unset] [(.ref b6), (.int p3), (.ref b97), (.ref b97)])) _
        refine st122.trans ?_
        refine XS.astore X122.here hx rfl (hb hby at_131) rfl rfl (l' := #[.val (.int p0), .val (.int p1), .val (.int p2), .val (.int p3), .val (.int p4), .val (.int p5), .val (.ref b6), .val (.ref b30), .val (.ref b61), .val (.ref b97), .unset, .unset, .unset, .unset, .unset]) rfl ?_
        refine XS.iload X122.here hx rfl (hb hby at_133) rfl ?_
        refine XS.iconst X122.here hx rfl (hb hby at_135) ?_
        refine XS.iand X122.here hx rfl (hb hby at_136) rfl ?_
        exact kk
      clear X97 e97 st122 N122q N89 KP97 Z97 O_98 E_b6_99 E_b30_100 E_b61_101 A97 F_status_b97 F_body_b97 F_refusal_b97 K122 Fq122_status Fq122_body Fq122_refusal pre102
      as_aux_lemma =>
      by_cases hc137_128 : (p5 &&& (4 : Int32)) = (0 : Int32)
      · as_aux_lemma =>
        obtain ⟨T130, h130, X130, e130, E130, A130, D130, -, st130⟩ := newO X122 hx hZ hown (hw _ tb_30) (hw _ tb_31) (hw _ tb_32) rfl (g := (mkF m 144 #[.val (.int p0), .val (.int p1), .val (.int p2), .val (.int p3), .val (.int p4), .val (.int p5), .val (.ref b6), .val (.ref b30), .val (.ref b61), .val (.ref b97), .unset, .unset, .unset, .unset, .unset] [])) rfl (hb hby at_144) (by decide) (by decide)
        obtain ⟨b130, g130⟩ : ∃ z, z = T122.heap.size := ⟨_, rfl⟩
        rw [← g130] at A130 D130 st130
        have ne_b6_b130 : b6 ≠ b130 := Nat.ne_of_lt (Nat.lt_of_lt_of_le E_b6_124.lt (Nat.le_of_eq g130.symm))
        have ne_b30_b130 : b30 ≠ b130 := Nat.ne_of_lt (Nat.lt_of_lt_of_le E_b30_125.lt (Nat.le_of_eq g130.symm))
        have ne_b61_b130 : b61 ≠ b130 := Nat.ne_of_lt (Nat.lt_of_lt_of_le E_b61_126.lt (Nat.le_of_eq g130.symm))
        have ne_b97_b130 : b97 ≠ b130 := Nat.ne_of_lt (Nat.lt_of_lt_of_le Eq122.lt (Nat.le_of_eq g130.symm))
        have sz_b130 : h0.size ≤ b130 := Nat.le_trans KP122.1 (Nat.le_of_eq g130.symm)
        have g_b130 : n0 ≤ b130 := Nat.le_trans Z122 (Nat.le_of_eq g130.symm)
        have KP130 : Keep h0 h130 [] := KP122.ext E130
        have Z130 : n0 ≤ h130.size := Nat.le_trans Z122 E130.1
        have O_131 : Old Z n0 h130 := O_123.ext E130
        have E_b6_132 : Exa Z h130 b6 "java/lang/String" := E_b6_124.ext E130
        have E_b30_133 : Exa Z h130 b30 "java/lang/String" := E_b30_125.ext E130
        have E_b61_134 : Exa Z h130 b61 "java/lang/String" := E_b61_126.ext E130
        have E_b97_135 : Exa Z h130 b97 "com/example/tidewheel/tidewheel/model/KeyedRequest$Answer" := Eq122.ext E130
        have F_status_b130 : Fld Z h130 b130 "com/example/tidewheel/tidewheel/model/KeyedRequest$Answer" "status" "I" (.int (0 : Int32)) := D130 (Or.inr (hw _ tb_41)) (ty := .int) (by decide)
        have F_body_b130 : Fld Z h130 b130 "com/example/tidewheel/tidewheel/model/KeyedRequest$Answer" "body" "Ljava/lang/String;" .null := D130 (Or.inr (hw _ tb_43)) (ty := (.object "java/lang/String")) (by decide)
        have F_refusal_b130 : Fld Z h130 b130 "com/example/tidewheel/tidewheel/model/KeyedRequest$Answer" "refusal" "Lcom/example/tidewheel/tidewheel/model/RefusedException$Reason;" .null := D130 (Or.inr (hw _ tb_45)) (ty := (.object "com/example/tidewheel/tidewheel/model/RefusedException$Reason")) (by decide)
        replace X130 : Stand _ _ _ _ _ _ _ _ _ _ _ _ 11 30 := X130
        have pre136 : ∀ t, Steps p.tables e below (T130.setTop (mkF m 152 #[.val (.int p0), .val (.int p1), .val (.int p2), .val (.int p3), .val (.int p4), .val (.int p5), .val (.ref b6), .val (.ref b30), .val (.ref b61), .val (.ref b97), .unset, .unset, .unset, .unset, .unset] [(.ref b30), (.int p4), (.ref b130), (.ref b130)])) t → Steps p.tables e below (s₁.setTop (entryFrame m #[(.int p0), (.int p1), (.int p2), (.int p3), (.int p4), (.int p5)] maxLocals)) t := by
          intro t kk
          refine pre129 t ?_
          show Steps p.tables e below (T122.setTop (mkF m 137 #[.val (.int p0), .val (.int p1), .val (.int p2), .val (.int p3), .val (.int p4), .val (.int p5), .val (.ref b6), .val (.ref b30), .val (.ref b61), .val (.ref b97), .unset, .unset, .unset, .unset, .unset] [(.int (p5 &&& (4 : Int32)))])) _
          refine XS.ifYes X122.here hx rfl (pc0 := 137) (pc' := 144) rfl (hb hby at_137) rfl ((if0 _ _).trans (teq hc137_128).1) (by decide) (by decide) ?_
          refine st130 _ ?_
          refine XS.dup X130.here hx rfl (hb hby at_147) rfl rfl ?_
          refine XS.iload X130.here hx rfl (hb hby at_148) rfl ?_
          refine XS.aload X130.here hx rfl (hb hby at_150) rfl rfl ?_
          exact kk
        clear X122 st130 O_123 E_b6_124 E_b30_125 E_b61_126 Eq122 pre129
        as_aux_lemma =>
        obtain ⟨_, _, ⟨T137, L137, k137, n137⟩, -, X137, ⟨Lc137, hQ137, l137, y137, z137⟩, st137⟩ := X130.specialBack hx (y := (⟨"com/example/tidewheel/tidewheel/model/KeyedRequest$Answer", "<init>", "(ILjava/lang/String;)V"⟩ : MethodName)) rfl hown (mt_33 hZ hw) (mt_34 hZ hw) (mt_35 hZ hw) (by decide) (backOf (W := 1) (rm7_rr l Z aA hw [] b130 p4 b30 h130 n0 Z130 A130 g_b130 F_status_b130 F_body_b130 F_refusal_b130) hZ (hw _ tb_35) (hw _ tb_32) (by decide) (by decide)) (g := (mkF m 152 #[.val (.int p0), .val (.int p1), .val (.int p2), .val (.int p3), .val (.int p4), .val (.int p5), .val (.ref b6), .val (.ref b30), .val (.ref b61), .val (.ref b97), .unset, .unset, .unset, .unset, .unset] [(.ref b30), (.int p4), (.ref b130), (.ref b130)])) rfl (by rw [hml]; rfl) (Steps.refl _) (a := b130) (argsL := [(.int p4), (.ref b30)]) (rest := [(.ref b130)]) (lenOf pd__28ILjava_2flang_2fString_3b_29V rfl) rfl (by show 2 * 0 + _ ≤ _; exact Nat.le_of_eq rfl) (hb hby at_152) (fun _ _ => ⟨rfl, e130, (by decide : 11 + 0 ≤ _), (by decide : 30 + 0 ≤ _)⟩)
        dsimp only [Pt.U, Pt.locs, Pt.cells, Pt.slots] at X137 l137 y137 z137 st137 hQ137
        replace l137 := l137.symm
        subst l137
        obtain rfl : k137 = 11 := y137
        obtain rfl : n137 = 30 := z137
        obtain ⟨rfl, N137q, K137, Eq137, Fq137_status, Fq137_body, Fq137_refusal⟩ := hQ137
        have N137 := Fr.app N122 N137q
        have KP137 : Keep h0 T137.heap [] := KP130.trans K137 (allS (Or.inr sz_b130) all0)
        have Z137 : n0 ≤ T137.heap.size := Nat.le_trans Z130 K137.1
        have O_138 : Old Z n0 T137.heap := O_131.keep K137 (allS g_b130 all0)
        have E_b6_139 : Exa Z T137.heap b6 "java/lang/String" := E_b6_132.keep K137
        have E_b30_140 : Exa Z T137.heap b30 "java/lang/String" := E_b30_133.keep K137
        have E_b61_141 : Exa Z T137.heap b61 "java/lang/String" := E_b61_134.keep K137
        have E_b97_142 : Exa Z T137.heap b97 "com/example/tidewheel/tidewheel/model/KeyedRequest$Answer" := E_b97_135.keep K137
        have E_b130_143 : Exa Z T137.heap b130 "com/example/tidewheel/tidewheel/model/KeyedRequest$Answer" := A130.keep K137
        obtain ⟨T144, h144, X144, e144, E144, A144, D144, -, st144⟩ := newO X137 hx hZ hown (hw _ tb_46) (hw _ tb_47) (hw _ tb_48) rfl (g := (mkF m 157 #[.val (.int p0), .val (.int p1), .val (.int p2), .val (.int p3), .val (.int p4), .val (.int p5), .val (.ref b6), .val (.ref b30), .val (.ref b61), .val (.ref b97), .val (.ref b130), .unset, .unset, .unset, .unset] [])) rfl (hb hby at_157) (by decide) (by decide)
        obtain ⟨b144, g144⟩ : ∃ z, z = T137.heap.size := ⟨_, rfl⟩
        rw [← g144] at A144 D144 st144
        have ne_b6_b144 : b6 ≠ b144 := Nat.ne_of_lt (Nat.lt_of_lt_of_le E_b6_139.lt (Nat.le_of_eq g144.symm))
        have ne_b30_b144 : b30 ≠ b144 := Nat.ne_of_lt (Nat.lt_of_lt_of_le E_b30_140.lt (Nat.le_of_eq g144.symm))
        have ne_b61_b144 : b61 ≠ b144 := Nat.ne_of_lt (Nat.lt_of_lt_of_le E_b61_141.lt (Nat.le_of_eq g144.symm))
        have ne_b97_b144 : b97 ≠ b144 := Nat.ne_of_lt (Nat.lt_of_lt_of_le E_b97_142.lt (Nat.le_of_eq g144.symm))
        have ne_b130_b144 : b130 ≠ b144 := Nat.ne_of_lt (Nat.lt_of_lt_of_le Eq137.lt (Nat.le_of_eq g144.symm))
        have sz_b144 : h0.size ≤ b144 := Nat.le_trans KP137.1 (Nat.le_of_eq g144.symm)
        have g_b144 : n0 ≤ b144 := Nat.le_trans Z137 (Nat.le_of_eq g144.symm)
        have KP144 : Keep h0 h144 [] := KP137.ext E144
        have Z144 : n0 ≤ h144.size := Nat.le_trans Z137 E144.1
        have O_145 : Old Z n0 h144 := O_138.ext E144
        have E_b6_146 : Exa Z h144 b6 "java/lang/String" := E_b6_139.ext E144
        have E_b30_147 : Exa Z h144 b30 "java/lang/String" := E_b30_140.ext E144
        have E_b61_148 : Exa Z h144 b61 "java/lang/String" := E_b61_141.ext E144
        have E_b97_149 : Exa Z h144 b97 "com/example/tidewheel/tidewheel/model/KeyedRequest$Answer" := E_b97_142.ext E144
        have E_b130_150 : Exa Z h144 b130 "com/example/tidewheel/tidewheel/model/KeyedRequest$Answer" := Eq137.ext E144
        have F_key_b144 : Fld Z h144 b144 "com/example/tidewheel/tidewheel/model/KeyedRequest" "key" "Ljava/lang/String;" .null := D144 (Or.inr (hw _ tb_54)) (ty := (.object "java/lang/String")) (by decide)
        have F_request_b144 : Fld Z h144 b144 "com/example/tidewheel/tidewheel/model/KeyedRequest" "request" "Ljava/lang/String;" .null := D144 (Or.inr (hw _ tb_56)) (ty := (.object "java/lang/String")) (by decide)
        have F_resource_b144 : Fld Z h144 b144 "com/example/tidewheel/tidewheel/model/KeyedRequest" "resource" "Ljava/lang/String;" .null := D144 (Or.inr (hw _ tb_58)) (ty := (.object "java/lang/String")) (by decide)
        have F_answer_b144 : Fld Z h144 b144 "com/example/tidewheel/tidewheel/model/KeyedRequest" "answer" "Lcom/example/tidewheel/tidewheel/model/KeyedRequest$Answer;" .null := D144 (Or.inr (hw _ tb_60)) (ty := (.object "com/example/tidewheel/tidewheel/model/KeyedRequest$Answer")) (by decide)
        replace X144 : Stand _ _ _ _ _ _ _ _ _ _ _ _ 12 34 := X144
        have pre151 : ∀ t, Steps p.tables e below (T144.setTop (mkF m 169 #[.val (.int p0), .val (.int p1), .val (.int p2), .val (.int p3), .val (.int p4), .val (.int p5), .val (.ref b6), .val (.ref b30), .val (.ref b61), .val (.ref b97), .val (.ref b130), .unset, .unset, .unset, .unset] [(.ref b97), (.ref b61), (.ref b30), (.ref b6), (.ref b144), (.ref b144)])) t → Steps p.tables e below (s₁.setTop (entryFrame m #[(.int p0), (.int p1), (.int p2), (.int p3), (.int p4), (.int p5)] maxLocals)) t := by
          intro t kk
          refine pre136 t ?_
          show Steps p.tables e below (T130.setTop (mkF m 152 #[.val (.int p0), .val (.int p1), .val (.int p2), .val (.int p3), .val (.int p4), .val (.int p5), .val (.ref b6), .val (.ref b30), .val (.ref b61), .val (.ref b97), .unset, .unset, .unset, .unset, .unset] [(.ref b30), (.int p4), (.ref b130), (.ref b130)])) _
          refine st137.trans ?_
          refine XS.astore X137.here hx rfl (hb hby at_155) rfl rfl (l' := #[.val (.int p0), .val (.int p1), .val (.int p2), .val (.int p3), .val (.int p4), .val (.int p5), .val (.ref b6), .val (.ref b30), .val (.ref b61), .val (.ref b97), .val (.ref b130), .unset, .unset, .unset, .unset]) rfl ?_
          refine st144 _ ?_
          refine XS.dup X144.here hx rfl (hb hby at_160) rfl rfl ?_
          refine XS.aload X144.here hx rfl (hb hby at_161) rfl rfl ?_
          refine XS.aload X144.here hx rfl (hb hby at_163) rfl rfl ?_
          refine XS.aload X144.here hx rfl (hb hby at_165) rfl rfl ?_
          refine XS.aload X144.here hx rfl (hb hby at_167) rfl rfl ?_
          exact kk
        clear X130 e130 st137 N137q N122 KP130 Z130 O_131 E_b6_132 E_b30_133 E_b61_134 E_b97_135 A130 F_status_b130 F_body_b130 F_refusal_b130 K137 Fq137_status Fq137_body Fq137_refusal X137 st144 O_138 E_b6_139 E_b30_140 E_b61_141 E_b97_142 Eq137 pre136
        as_aux_lemma =>
        obtain ⟨_, _, ⟨T175, L175, k175, n175⟩, -, X175, ⟨Lc175, hQ175, l175, y175, z175⟩, st175⟩ := X144.specialBack hx (y := (⟨"com/example/tidewheel/tidewheel/model/KeyedRequest", "<init>", "(Ljava/lang/String;Ljava/lang/String;Ljava/lang/String;Lcom/example/tidewheel/tidewheel/model/KeyedRequest$Answer;)V"⟩ : MethodName)) rfl hown (mt_49 hZ hw) (mt_50 hZ hw) (mt_51 hZ hw) (by decide) (backOf (W := 1) (rm9_rrrr l Z aA hw [] b144 b6 b30 b61 b97 h144 n0 Z144 A144 g_b144 F_key_b144 F_request_b144 F_resource_b144 F_answer_b144) hZ (hw _ tb_51) (hw _ tb_48) (by decide) (by decide)) (g := (mkF m 169 #[.val (.int p0), .val (.int p1), .val (.int p2), .val (.int p3), .val (.int p4), .val (.int p5), .val (.ref b6), .val (.ref b30), .val (.ref b61), .val (.ref b97), .val (.ref b130), .unset, .unset, .unset, .unset] [(.ref b97), (.ref b61), (.ref b30), (.ref b6), (.ref b144), (.ref b144)])) rfl (by rw [hml]; rfl) (Steps.refl _) (a := b144) (argsL := [(.ref b6), (.ref b30), (.ref b61), (.ref b97)]) (rest := [(.ref b144)]) (lenOf pd__28Ljava_2flang_2fString_3bLjava_2flang_2fString_3bLjava_2flang_2fString_3bLcom_2fexample_2ftidewheel_2ftidewheel_2fmodel_2fKeyedRequest_24Answer_3b_29V rfl) rfl (by show 2 * 0 + _ ≤ _; exact Nat.le_of_eq rfl) (hb hby at_169) (fun _ _ => ⟨rfl, e144, (by decide : 12 + 0 ≤ _), (by decide : 34 + 0 ≤ _)⟩)
        dsimp only [Pt.U, Pt.locs, Pt.cells, Pt.slots] at X175 l175 y175 z175 st175 hQ175
        replace l175 := l175.symm
        subst l175
        obtain rfl : k175 = 12 := y175
        obtain rfl : n175 = 34 := z175
        obtain ⟨rfl, N175q, K175, Eq175, Fq175_key, Fq175_request, Fq175_resource, Fq175_answer⟩ := hQ175
        have N175 := Fr.app N137 N175q
        have KP175 : Keep h0 T175.heap [] := KP144.trans K175 (allS (Or.inr sz_b144) all0)
        have Z175 : n0 ≤ T175.heap.size := Nat.le_trans Z144 K175.1
        have O_176 : Old Z n0 T175.heap := O_145.keep K175 (allS g_b144 all0)
        have E_b6_177 : Exa Z T175.heap b6 "java/lang/String" := E_b6_146.keep K175
        have E_b30_178 : Exa Z T175.heap b30 "java/lang/String" := E_b30_147.keep K175
        have E_b61_179 : Exa Z T175.heap b61 "java/lang/String" := E_b61_148.keep K175
        have E_b97_180 : Exa Z T175.heap b97 "com/example/tidewheel/tidewheel/model/KeyedRequest$Answer" := E_b97_149.keep K175
        have E_b130_181 : Exa Z T175.heap b130 "com/example/tidewheel/tidewheel/model/KeyedRequest$Answer" := E_b130_150.keep K175
        have E_b144_182 : Exa Z T175.heap b144 "com/example/tidewheel/tidewheel/model/KeyedRequest" := A144.keep K175
        have pre183 : ∀ t, Steps p.tables e below (T175.setTop (mkF m 178 #[.val (.int p0), .val (.int p1), .val (.int p2), .val (.int p3), .val (.int p4), .val (.int p5), .val (.ref b6), .val (.ref b30), .val (.ref b61), .val (.ref b97), .val (.ref b130), .val (.ref b144), .unset, .unset, .unset] [(.ref b130), (.ref b144)])) t → Steps p.tables e below (s₁.setTop (entryFrame m #[(.int p0), (.int p1), (.int p2), (.int p3), (.int p4), (.int p5)] maxLocals)) t := by
          intro t kk
          refine pre151 t ?_
          show Steps p.tables e below (T144.setTop (mkF m 169 #[.val (.int p0), .val (.int p1), .val (.int p2), .val (.int p3), .val (.int p4), .val (.int p5), .val (.ref b6), .val (.ref b30), .val (.ref b61), .val (.ref b97), .val (.ref b130), .unset, .unset, .unset, .unset] [(.ref b97), (.ref b61), (.ref b30), (.ref b6), (.ref b144), (.ref b144)])) _
          refine st175.trans ?_
          refine XS.astore X175.here hx rfl (hb hby at_172) rfl rfl (l' := #[.val (.int p0), .val (.int p1), .val (.int p2), .val (.int p3), .val (.int p4), .val (.int p5), .val (.ref b6), .val (.ref b30), .val (.ref b61), .val (.ref b97), .val (.ref b130), .val (.ref b144), .unset, .unset, .unset]) rfl ?_
          refine XS.aload X175.here hx rfl (hb hby at_174) rfl rfl ?_
          refine XS.aload X175.here hx rfl (hb hby at_176) rfl rfl ?_
          exact kk
        clear X144 e144 st175 N175q N137 KP144 Z144 O_145 E_b6_146 E_b30_147 E_b61_148 E_b97_149 E_b130_150 A144 F_key_b144 F_request_b144 F_resource_b144 F_answer_b144 K175 pre151
        as_aux_lemma =>
        obtain ⟨cq198, kq198, q198a, q198b, q198c⟩ := isOf hZ rfl Eq175
        obtain ⟨_, _, ⟨T198, L198, k198, n198⟩, -, X198, ⟨Lc198, hQ198, l198, y198, z198⟩, st198⟩ := X175.virtualBack hx (y := (⟨"com/example/tidewheel/tidewheel/model/KeyedRequest", "answered", "(Lcom/example/tidewheel/tidewheel/model/KeyedRequest$Answer;)Lcom/example/tidewheel/tidewheel/model/KeyedRequest;"⟩ : MethodName)) (z := (⟨"com/example/tidewheel/tidewheel/model/KeyedRequest", "answered", "(Lcom/example/tidewheel/tidewheel/model/KeyedRequest$Answer;)Lcom/example/tidewheel/tidewheel/model/KeyedRequest;"⟩ : MethodName)) hown (mt_61 hZ hw) (mt_62 hZ hw) (notFace_of_selects (args := #[]) (mt_64 hZ hw)) (mt_64 hZ hw) (mt_63 hZ hw) (by decide) (backOf (W := 0) (rm10_rr l Z aA hw [] b144 b130 b6 b30 b61 T175.heap n0 Z175 Fq175_key Fq175_request Fq175_resource) hZ (hw _ tb_65) (hw _ tb_48) (by decide) (by decide)) q198a q198c (g := (mkF m 178 #[.val (.int p0), .val (.int p1), .val (.int p2), .val (.int p3), .val (.int p4), .val (.int p5), .val (.ref b6), .val (.ref b30), .val (.ref b61), .val (.ref b97), .val (.ref b130), .val (.ref b144), .unset, .unset, .unset] [(.ref b130), (.ref b144)])) rfl (by rw [hml]; rfl) (Steps.refl _) (argsL := [(.ref b130)]) (rest := []) (lenOf pd__28Lcom_2fexample_2ftidewheel_2ftidewheel_2fmodel_2fKeyedRequest_24Answer_3b_29Lcom_2fexample_2ftidewheel_2ftidewheel_2fmodel_2fKeyedRequest_3b rfl) rfl (by show 2 * 0 + _ ≤ _; exact Nat.le_of_eq rfl) (hb hby at_178) (fun _ _ => ⟨rfl, rfl, (by decide : 12 + 1 ≤ _), (by decide : 34 + 4 ≤ _)⟩)
        dsimp only [Pt.U, Pt.locs, Pt.cells, Pt.slots] at X198 l198 y198 z198 st198 hQ198
        replace l198 := l198.symm
        subst l198
        obtain rfl : k198 = 13 := y198
        obtain rfl : n198 = 38 := z198
        obtain ⟨b198, rfl, N198q, K198, sz198, Eq198, Fq198_key, Fq198_request, Fq198_resource, Fq198_answer⟩ := hQ198
        have N198 := Fr.app N175 N198q
        have sz_b198 : h0.size ≤ b198 := Nat.le_trans KP175.1 sz198
        have g_b198 : n0 ≤ b198 := Nat.le_trans Z175 sz198
        have KP198 : Keep h0 T198.heap [] := KP175.trans K198 all0
        have Z198 : n0 ≤ T198.heap.size := Nat.le_trans Z175 K198.1
        have O_199 : Old Z n0 T198.heap := O_176.keep K198 all0
        have E_b6_200 : Exa Z T198.heap b6 "java/lang/String" := E_b6_177.keep K198
        have E_b30_201 : Exa Z T198.heap b30 "java/lang/String" := E_b30_178.keep K198
        have E_b61_202 : Exa Z T198.heap b61 "java/lang/String" := E_b61_179.keep K198
        have E_b97_203 : Exa Z T198.heap b97 "com/example/tidewheel/tidewheel/model/KeyedRequest$Answer" := E_b97_180.keep K198
        have E_b130_204 : Exa Z T198.heap b130 "com/example/tidewheel/tidewheel/model/KeyedRequest$Answer" := E_b130_181.keep K198
        have E_b144_205 : Exa Z T198.heap b144 "com/example/tidewheel/tidewheel/model/KeyedRequest" := Eq175.keep K198
        have F_b144_key_206 : Fld Z T198.heap b144 "com/example/tidewheel/tidewheel/model/KeyedRequest" "key" "Ljava/lang/String;" (.ref b6) := Fq175_key.keep K198 nin0
        have F_b144_request_207 : Fld Z T198.heap b144 "com/example/tidewheel/tidewheel/model/KeyedRequest" "request" "Ljava/lang/String;" (.ref b30) := Fq175_request.keep K198 nin0
        have F_b144_resource_208 : Fld Z T198.heap b144 "com/example/tidewheel/tidewheel/model/KeyedRequest" "resource" "Ljava/lang/String;" (.ref b61) := Fq175_resource.keep K198 nin0
        have F_b144_answer_209 : Fld Z T198.heap b144 "com/example/tidewheel/tidewheel/model/KeyedRequest" "answer" "Lcom/example/tidewheel/tidewheel/model/KeyedRequest$Answer;" (.ref b97) := Fq175_answer.keep K198 nin0
        have pre210 : ∀ t, Steps p.tables e below (T198.setTop (mkF m 192 #[.val (.int p0), .val (.int p1), .val (.int p2), .val (.int p3), .val (.int p4), .val (.int p5), .val (.ref b6), .val (.ref b30), .val (.ref b61), .val (.ref b97), .val (.ref b130), .val (.ref b144), .val (.ref b198), .unset, .unset] [(.ref b198)])) t → Steps p.tables e below (s₁.setTop (entryFrame m #[(.int p0), (.int p1), (.int p2), (.int p3), (.int p4), (.int p5)] maxLocals)) t := by
          intro t kk
          refine pre183 t ?_
          show Steps p.tables e below (T175.setTop (mkF m 178 #[.val (.int p0), .val (.int p1), .val (.int p2), .val (.int p3), .val (.int p4), .val (.int p5), .val (.ref b6), .val (.ref b30), .val (.ref b61), .val (.ref b97), .val (.ref b130), .val (.ref b144), .unset, .unset, .unset] [(.ref b130), (.ref b144)])) _
          refine st198.trans ?_
          refine XS.astore X198.here hx rfl (hb hby at_181) rfl rfl (l' := #[.val (.int p0), .val (.int p1), .val (.int p2), .val (.int p3), .val (.int p4), .val (.int p5), .val (.ref b6), .val (.ref b30), .val (.ref b61), .val (.ref b97), .val (.ref b130), .val (.ref b144), .val (.ref b198), .unset, .unset]) rfl ?_
          refine XS.aload X198.here hx rfl (hb hby at_183) rfl rfl ?_
          refine XS.ifnonnullYes X198.here hx rfl (pc0 := 185) (pc' := 190) rfl (hb hby at_185) rfl (by decide) (by decide) ?_
          refine XS.aload X198.here hx rfl (hb hby at_190) rfl rfl ?_
          exact kk
        clear X175 st198 N198q N175 KP175 Z175 O_176 E_b6_177 E_b30_178 E_b61_179 E_b97_180 E_b130_181 Eq175 Fq175_key Fq175_request Fq175_resource Fq175_answer K198 pre183
        as_aux_lemma =>
        obtain ⟨cq235, kq235, q235a, q235b, q235c⟩ := isOf hZ rfl Eq198
        obtain ⟨_, _, ⟨T235, L235, k235, n235⟩, -, X235, ⟨Lc235, hQ235, l235, y235, z235⟩, st235⟩ := X198.virtualBack hx (y := (⟨"com/example/tidewheel/tidewheel/model/KeyedRequest", "resource", "()Ljava/util/Optional;"⟩ : MethodName)) (z := (⟨"com/example/tidewheel/tidewheel/model/KeyedRequest", "resource", "()Ljava/util/Optional;"⟩ : MethodName)) hown (mt_68 hZ hw) (mt_69 hZ hw) (notFace_of_selects (args := #[]) (mt_71 hZ hw)) (mt_71 hZ hw) (mt_70 hZ hw) (by decide) (backOf (W := 0) (rm11_r l Z aA hw [] b198 b61 wE T198.heap n0 Z198 O_199 S_EMPTY X_EMPTY G_EMPTY Fq198_resource) hZ (hw _ tb_72) (hw _ tb_48) (by decide) (by decide)) q235a q235c (g := (mkF m 192 #[.val (.int p0), .val (.int p1), .val (.int p2), .val (.int p3), .val (.int p4), .val (.int p5), .val (.ref b6), .val (.ref b30), .val (.ref b61), .val (.ref b97), .val (.ref b130), .val (.ref b144), .val (.ref b198), .unset, .unset] [(.ref b198)])) rfl (by rw [hml]; rfl) (Steps.refl _) (argsL := []) (rest := []) (lenOf pd__28_29Ljava_2futil_2fOptional_3b rfl) rfl (by show 2 * 0 + _ ≤ _; exact Nat.le_of_eq rfl) (hb hby at_192) (fun _ _ => ⟨rfl, rfl, (by decide : 13 + 1 ≤ _), (by decide : 38 + 1 ≤ _)⟩)
        dsimp only [Pt.U, Pt.locs, Pt.cells, Pt.slots] at X235 l235 y235 z235 st235 hQ235
        replace l235 := l235.symm
        subst l235
        obtain rfl : k235 = 14 := y235
        obtain rfl : n235 = 39 := z235
        obtain ⟨b235, rfl, N235q, K235, Eq235, Fq235⟩ := hQ235
        have N235 := Fr.app N198 N235q
        have KP235 : Keep h0 T235.heap [] := KP198.trans K235 all0
        have Z235 : n0 ≤ T235.heap.size := Nat.le_trans Z198 K235.1
        have O_236 : Old Z n0 T235.heap := O_199.keep K235 all0
        have E_b6_237 : Exa Z T235.heap b6 "java/lang/String" := E_b6_200.keep K235
        have E_b30_238 : Exa Z T235.heap b30 "java/lang/String" := E_b30_201.keep K235
        have E_b61_239 : Exa Z T235.heap b61 "java/lang/String" := E_b61_202.keep K235
        have E_b97_240 : Exa Z T235.heap b97 "com/example/tidewheel/tidewheel/model/KeyedRequest$Answer" := E_b97_203.keep K235
        have E_b130_241 : Exa Z T235.heap b130 "com/example/tidewheel/tidewheel/model/KeyedRequest$Answer" := E_b130_204.keep K235
        have E_b144_242 : Exa Z T235.heap b144 "com/example/tidewheel/tidewheel/model/KeyedRequest" := E_b144_205.keep K235
        have F_b144_key_243 : Fld Z T235.heap b144 "com/example/tidewheel/tidewheel/model/KeyedRequest" "key" "Ljava/lang/String;" (.ref b6) := F_b144_key_206.keep K235 nin0
        have F_b144_request_244 : Fld Z T235.heap b144 "com/example/tidewheel/tidewheel/model/KeyedRequest" "request" "Ljava/lang/String;" (.ref b30) := F_b144_request_207.keep K235 nin0
        have F_b144_resource_245 : Fld Z T235.heap b144 "com/example/tidewheel/tidewheel/model/KeyedRequest" "resource" "Ljava/lang/String;" (.ref b61) := F_b144_resource_208.keep K235 nin0
        have F_b144_answer_246 : Fld Z T235.heap b144 "com/example/tidewheel/tidewheel/model/KeyedRequest" "answer" "Lcom/example/tidewheel/tidewheel/model/KeyedRequest$Answer;" (.ref b97) := F_b144_answer_209.keep K235 nin0
        have E_b198_247 : Exa Z T235.heap b198 "com/example/tidewheel/tidewheel/model/KeyedRequest" := Eq198.keep K235
        have F_b198_key_248 : Fld Z T235.heap b198 "com/example/tidewheel/tidewheel/model/KeyedRequest" "key" "Ljava/lang/String;" (.ref b6) := Fq198_key.keep K235 nin0
        have F_b198_request_249 : Fld Z T235.heap b198 "com/example/tidewheel/tidewheel/model/KeyedRequest" "request" "Ljava/lang/String;" (.ref b30) := Fq198_request.keep K235 nin0
        have F_b198_resource_250 : Fld Z T235.heap b198 "com/example/tidewheel/tidewheel/model/KeyedRequest" "resource" "Ljava/lang/String;" (.ref b61) := Fq198_resource.keep K235 nin0
        have F_b198_answer_251 : Fld Z T235.heap b198 "com/example/tidewheel/tidewheel/model/KeyedRequest" "answer" "Lcom/example/tidewheel/tidewheel/model/KeyedRequest$Answer;" (.ref b130) := Fq198_answer.keep K235 nin0
        have pre252 : ∀ t, Steps p.tables e below (T235.setTop (mkF m 196 #[.val (.int p0), .val (.int p1), .val (.int p2), .val (.int p3), .val (.int p4), .val (.int p5), .val (.ref b6), .val (.ref b30), .val (.ref b61), .val (.ref b97), .val (.ref b130), .val (.ref b144), .val (.ref b198), .unset, .unset] [.null, (.ref b235)])) t → Steps p.tables e below (s₁.setTop (entryFrame m #[(.int p0), (.int p1), (.int p2), (.int p3), (.int p4), (.int p5)] maxLocals)) t := by
          intro t kk
          refine pre210 t ?_
          show Steps p.tables e below (T198.setTop (mkF m 192 #[.val (.int p0), .val (.int p1), .val (.int p2), .val (.int p3), .val (.int p4), .val (.int p5), .val (.ref b6), .val (.ref b30), .val (.ref b61), .val (.ref b97), .val (.ref b130), .val (.ref b144), .val (.ref b198), .unset, .unset] [(.ref b198)])) _
          refine st235.trans ?_
          refine XS.aconstNull X235.here hx rfl (hb hby at_195) ?_
          exact kk
        clear X198 st235 N235q N198 KP198 Z198 O_199 E_b6_200 E_b30_201 E_b61_202 E_b97_203 E_b130_204 E_b144_205 F_b144_key_206 F_b144_request_207 F_b144_resource_208 F_b144_answer_209 Eq198 Fq198_key Fq198_request Fq198_resource Fq198_answer K235 pre210
        as_aux_lemma =>
        obtain ⟨cq256, kq256, q256a, q256b, q256c⟩ := isOf hZ rfl Eq235
        obtain ⟨_, _, ⟨T256, L256, k256, n256⟩, -, X256, ⟨Lc256, hQ256, l256, y256, z256⟩, st256⟩ := X235.virtualBack hx (y := (⟨"java/util/Optional", "orElse", "(Ljava/lang/Object;)Ljava/lang/Object;"⟩ : MethodName)) (z := (⟨"java/util/Optional", "orElse", "(Ljava/lang/Object;)Ljava/lang/Object;"⟩ : MethodName)) hown (mt_78 hZ hw) (mt_79 hZ hw) (notFace_of_selects (args := #[]) (mt_81 hZ hw)) (mt_81 hZ hw) (mt_80 hZ hw) (by decide) (backOf (W := 0) (rm13_r l Z aA hw [] b235 b61 T235.heap n0 Z235 Fq235) hZ (hw _ tb_82) (hw _ tb_75) (by decide) (by decide)) q256a q256c (g := (mkF m 196 #[.val (.int p0), .val (.int p1), .val (.int p2), .val (.int p3), .val (.int p4), .val (.int p5), .val (.ref b6), .val (.ref b30), .val (.ref b61), .val (.ref b97), .val (.ref b130), .val (.ref b144), .val (.ref b198), .unset, .unset] [.null, (.ref b235)])) rfl (by rw [hml]; rfl) (Steps.refl _) (argsL := [.null]) (rest := []) (lenOf pd__28Ljava_2flang_2fObject_3b_29Ljava_2flang_2fObject_3b rfl) rfl (by show 2 * 0 + _ ≤ _; exact Nat.le_of_eq rfl) (hb hby at_196) (fun _ _ => ⟨rfl, rfl, (by decide : 14 + 0 ≤ _), (by decide : 39 + 0 ≤ _)⟩)
        dsimp only [Pt.U, Pt.locs, Pt.cells, Pt.slots] at X256 l256 y256 z256 st256 hQ256
        replace l256 := l256.symm
        subst l256
        obtain rfl : k256 = 14 := y256
        obtain rfl : n256 = 39 := z256
        obtain ⟨rfl, N256q, e256⟩ := hQ256
        have N256 := Fr.app N235 N256q
        obtain ⟨T257, X257, e257, st257⟩ := castY X256 hx hZ hown (hw _ tb_0) e256 (Ins.self E_b61_239) (g := (mkF m 199 #[.val (.int p0), .val (.int p1), .val (.int p2), .val (.int p3), .val (.int p4), .val (.int p5), .val (.ref b6), .val (.ref b30), .val (.ref b61), .val (.ref b97), .val (.ref b130), .val (.ref b144), .val (.ref b198), .unset, .unset] [(.ref b61)])) rfl rfl (hb hby at_199)
        have pre258 : ∀ t, Steps p.tables e below (T257.setTop (mkF m 226 #[.val (.int p0), .val (.int p1), .val (.int p2), .val (.int p3), .val (.int p4), .val (.int p5), .val (.ref b6), .val (.ref b30), .val (.ref b61), .val (.ref b97), .val (.ref b130), .val (.ref b144), .val (.ref b198), .val (.ref b61), .unset] [(.ref b61), (.ref b61)])) t → Steps p.tables e below (s₁.setTop (entryFrame m #[(.int p0), (.int p1), (.int p2), (.int p3), (.int p4), (.int p5)] maxLocals)) t := by
          intro t kk
          refine pre252 t ?_
          show Steps p.tables e below (T235.setTop (mkF m 196 #[.val (.int p0), .val (.int p1), .val (.int p2), .val (.int p3), .val (.int p4), .val (.int p5), .val (.ref b6), .val (.ref b30), .val (.ref b61), .val (.ref b97), .val (.ref b130), .val (.ref b144), .val (.ref b198), .unset, .unset] [.null, (.ref b235)])) _
          refine st256.trans ?_
          refine st257 _ ?_
          refine XS.astore X257.here hx rfl (hb hby at_202) rfl rfl (l' := #[.val (.int p0), .val (.int p1), .val (.int p2), .val (.int p3), .val (.int p4), .val (.int p5), .val (.ref b6), .val (.ref b30), .val (.ref b61), .val (.ref b97), .val (.ref b130), .val (.ref b144), .val (.ref b198), .val (.ref b61), .unset]) rfl ?_
          refine XS.aload X257.here hx rfl (hb hby at_204) rfl rfl ?_
          refine XS.ifnonnullYes X257.here hx rfl (pc0 := 206) (pc' := 222) rfl (hb hby at_206) rfl (by decide) (by decide) ?_
          refine XS.aload X257.here hx rfl (hb hby at_222) rfl rfl ?_
          refine XS.aload X257.here hx rfl (hb hby at_224) rfl rfl ?_
          exact kk
        clear X235 st256 N256q N235 X256 e256 st257 pre252
        as_aux_lemma =>
        obtain ⟨cq259, kq259, q259a, q259b, q259c⟩ := isOf hZ e257 E_b61_239
        obtain ⟨_, _, ⟨T259, L259, k259, n259⟩, -, X259, ⟨Lc259, hQ259, l259, y259, z259⟩, st259⟩ := X257.virtualBack hx (y := (⟨"java/lang/String", "equals", "(Ljava/lang/Object;)Z"⟩ : MethodName)) (z := (⟨"java/lang/String", "equals", "(Ljava/lang/Object;)Z"⟩ : MethodName)) hown (mt_90 hZ hw) (mt_91 hZ hw) (notFace_of_selects (args := #[]) (mt_93 hZ hw)) (mt_93 hZ hw) (mt_92 hZ hw) (by decide) (backOf (W := 0) (rm15 l Z aA hw [] b61 T235.heap n0 Z235) hZ (hw _ tb_94) (hw _ tb_2) (by decide) (by decide)) q259a q259c (g := (mkF m 226 #[.val (.int p0), .val (.int p1), .val (.int p2), .val (.int p3), .val (.int p4), .val (.int p5), .val (.ref b6), .val (.ref b30), .val (.ref b61), .val (.ref b97), .val (.ref b130), .val (.ref b144), .val (.ref b198), .val (.ref b61), .unset] [(.ref b61), (.ref b61)])) rfl (by rw [hml]; rfl) (Steps.refl _) (argsL := [(.ref b61)]) (rest := []) (lenOf pd__28Ljava_2flang_2fObject_3b_29Z rfl) rfl (by show 2 * 0 + _ ≤ _; exact Nat.le_of_eq rfl) (hb hby at_226) (fun _ _ => ⟨rfl, e257, (by decide : 14 + 0 ≤ _), (by decide : 39 + 0 ≤ _)⟩)
        dsimp only [Pt.U, Pt.locs, Pt.cells, Pt.slots] at X259 l259 y259 z259 st259 hQ259
        replace l259 := l259.symm
        subst l259
        obtain rfl : k259 = 14 := y259
        obtain rfl : n259 = 39 := z259
        obtain ⟨rfl, N259q, e259⟩ := hQ259
        have N259 := Fr.app N256 N259q
        have pre260 : ∀ t, Steps p.tables e below (T259.setTop (mkF m 235 #[.val (.int p0), .val (.int p1), .val (.int p2), .val (.int p3), .val (.int p4), .val (.int p5), .val (.ref b6), .val (.ref b30), .val (.ref b61), .val (.ref b97), .val (.ref b130), .val (.ref b144), .val (.ref b198), .val (.ref b61), .val (.int (1 : Int32))] [(.ref b198), (.ref b6)])) t → Steps p.tables e below (s₁.setTop (entryFrame m #[(.int p0), (.int p1), (.int p2), (.int p3), (.int p4), (.int p5)] maxLocals)) t := by
          intro t kk
          refine pre258 t ?_
          show Steps p.tables e below (T257.setTop (mkF m 226 #[.val (.int p0), .val (.int p1), .val (.int p2), .val (.int p3), .val (.int p4), .val (.int p5), .val (.ref b6), .val (.ref b30), .val (.ref b61), .val (.ref b97), .val (.ref b130), .val (.ref b144), .val (.ref b198), .val (.ref b61), .unset] [(.ref b61), (.ref b61)])) _
          refine st259.trans ?_
          refine XS.istore X259.here hx rfl (hb hby at_229) rfl (l' := #[.val (.int p0), .val (.int p1), .val (.int p2), .val (.int p3), .val (.int p4), .val (.int p5), .val (.ref b6), .val (.ref b30), .val (.ref b61), .val (.ref b97), .val (.ref b130), .val (.ref b144), .val (.ref b198), .val (.ref b61), .val (.int (1 : Int32))]) rfl ?_
          refine XS.aload X259.here hx rfl (hb hby at_231) rfl rfl ?_
          refine XS.aload X259.here hx rfl (hb hby at_233) rfl rfl ?_
          exact kk
        clear X257 e257 st259 N259q N256 pre258
        as_aux_lemma =>
        obtain ⟨cq261, kq261, q261a, q261b, q261c⟩ := isOf hZ e259 E_b198_247
        obtain ⟨_, _, ⟨T261, L261, k261, n261⟩, -, X261, ⟨Lc261, hQ261, l261, y261, z261⟩, st261⟩ := X259.virtualBack hx (y := (⟨"com/example/tidewheel/tidewheel/model/KeyedRequest", "key", "()Ljava/lang/String;"⟩ : MethodName)) (z := (⟨"com/example/tidewheel/tidewheel/model/KeyedRequest", "key", "()Ljava/lang/String;"⟩ : MethodName)) hown (mt_85 hZ hw) (mt_86 hZ hw) (notFace_of_selects (args := #[]) (mt_88 hZ hw)) (mt_88 hZ hw) (mt_87 hZ hw) (by decide) (backOf (W := 1) (rm14 l Z aA hw [] b198 b6 T235.heap n0 Z235 F_b198_key_248) hZ (hw _ tb_89) (hw _ tb_48) (by decide) (by decide)) q261a q261c (g := (mkF m 235 #[.val (.int p0), .val (.int p1), .val (.int p2), .val (.int p3), .val (.int p4), .val (.int p5), .val (.ref b6), .val (.ref b30), .val (.ref b61), .val (.ref b97), .val (.ref b130), .val (.ref b144), .val (.ref b198), .val (.ref b61), .val (.int (1 : Int32))] [(.ref b198), (.ref b6)])) rfl (by rw [hml]; rfl) (Steps.refl _) (argsL := []) (rest := [(.ref b6)]) (lenOf pd__28_29Ljava_2flang_2fString_3b rfl) rfl (by show 2 * 0 + _ ≤ _; exact Nat.le_of_eq rfl) (hb hby at_235) (fun _ _ => ⟨rfl, e259, (by decide : 14 + 0 ≤ _), (by decide : 39 + 0 ≤ _)⟩)
        dsimp only [Pt.U, Pt.locs, Pt.cells, Pt.slots] at X261 l261 y261 z261 st261 hQ261
        replace l261 := l261.symm
        subst l261
        obtain rfl : k261 = 14 := y261
        obtain rfl : n261 = 39 := z261
        obtain ⟨rfl, N261q, e261⟩ := hQ261
        have N261 := Fr.app N259 N261q
        have pre262 : ∀ t, Steps p.tables e below (T261.setTop (mkF m 238 #[.val (.int p0), .val (.int p1), .val (.int p2), .val (.int p3), .val (.int p4), .val (.int p5), .val (.ref b6), .val (.ref b30), .val (.ref b61), .val (.ref b97), .val (.ref b130), .val (.ref b144), .val (.ref b198), .val (.ref b61), .val (.int (1 : Int32))] [(.ref b6), (.ref b6)])) t → Steps p.tables e below (s₁.setTop (entryFrame m #[(.int p0), (.int p1), (.int p2), (.int p3), (.int p4), (.int p5)] maxLocals)) t := by
          intro t kk
          refine pre260 t ?_
          show Steps p.tables e below (T259.setTop (mkF m 235 #[.val (.int p0), .val (.int p1), .val (.int p2), .val (.int p3), .val (.int p4), .val (.int p5), .val (.ref b6), .val (.ref b30), .val (.ref b61), .val (.ref b97), .val (.ref b130), .val (.ref b144), .val (.ref b198), .val (.ref b61), .val (.int (1 : Int32))] [(.ref b198), (.ref b6)])) _
          refine st261.trans ?_
          exact kk
        clear X259 e259 st261 N261q N259 pre260
        as_aux_lemma =>
        obtain ⟨cq263, kq263, q263a, q263b, q263c⟩ := isOf hZ e261 E_b6_237
        obtain ⟨_, _, ⟨T263, L263, k263, n263⟩, -, X263, ⟨Lc263, hQ263, l263, y263, z263⟩, st263⟩ := X261.virtualBack hx (y := (⟨"java/lang/String", "equals", "(Ljava/lang/Object;)Z"⟩ : MethodName)) (z := (⟨"java/lang/String", "equals", "(Ljava/lang/Object;)Z"⟩ : MethodName)) hown (mt_90 hZ hw) (mt_91 hZ hw) (notFace_of_selects (args := #[]) (mt_93 hZ hw)) (mt_93 hZ hw) (mt_92 hZ hw) (by decide) (backOf (W := 0) (rm15 l Z aA hw [] b6 T235.heap n0 Z235) hZ (hw _ tb_94) (hw _ tb_2) (by decide) (by decide)) q263a q263c (g := (mkF m 238 #[.val (.int p0), .val (.int p1), .val (.int p2), .val (.int p3), .val (.int p4), .val (.int p5), .val (.ref b6), .val (.ref b30), .val (.ref b61), .val (.ref b97), .val (.ref b130), .val (.ref b144), .val (.ref b198), .val (.ref b61), .val (.int (1 : Int32))] [(.ref b6), (.ref b6)])) rfl (by rw [hml]; rfl) (Steps.refl _) (argsL := [(.ref b6)]) (rest := []) (lenOf pd__28Ljava_2flang_2fObject_3b_29Z rfl) rfl (by show 2 * 0 + _ ≤ _; exact Nat.le_of_eq rfl) (hb hby at_238) (fun _ _ => ⟨rfl, e261, (by decide : 14 + 0 ≤ _), (by decide : 39 + 0 ≤ _)⟩)
        dsimp only [Pt.U, Pt.locs, Pt.cells, Pt.slots] at X263 l263 y263 z263 st263 hQ263
        replace l263 := l263.symm
        subst l263
        obtain rfl : k263 = 14 := y263
        obtain rfl : n263 = 39 := z263
        obtain ⟨rfl, N263q, e263⟩ := hQ263
        have N263 := Fr.app N261 N263q
        have pre264 : ∀ t, Steps p.tables e below (T263.setTop (mkF m 248 #[.val (.int p0), .val (.int p1), .val (.int p2), .val (.int p3), .val (.int p4), .val (.int p5), .val (.ref b6), .val (.ref b30), .val (.ref b61), .val (.ref b97), .val (.ref b130), .val (.ref b144), .val (.ref b198), .val (.ref b61), .val (.int (1 : Int32))] [(.ref b198), (.ref b30)])) t → Steps p.tables e below (s₁.setTop (entryFrame m #[(.int p0), (.int p1), (.int p2), (.int p3), (.int p4), (.int p5)] maxLocals)) t := by
          intro t kk
          refine pre262 t ?_
          show Steps p.tables e below (T261.setTop (mkF m 238 #[.val (.int p0), .val (.int p1), .val (.int p2), .val (.int p3), .val (.int p4), .val (.int p5), .val (.ref b6), .val (.ref b30), .val (.ref b61), .val (.ref b97), .val (.ref b130), .val (.ref b144), .val (.ref b198), .val (.ref b61), .val (.int (1 : Int32))] [(.ref b6), (.ref b6)])) _
          refine st263.trans ?_
          refine XS.ifNo X263.here hx rfl (hb hby at_241) rfl ((if0 _ _).trans (feq (by decide : ¬ ((1 : Int32) = (0 : Int32)))).1) ?_
          refine XS.aload X263.here hx rfl (hb hby at_244) rfl rfl ?_
          refine XS.aload X263.here hx rfl (hb hby at_246) rfl rfl ?_
          exact kk
        clear X261 e261 st263 N263q N261 pre262
        as_aux_lemma =>
        obtain ⟨cq265, kq265, q265a, q265b, q265c⟩ := isOf hZ e263 E_b198_247
        obtain ⟨_, _, ⟨T265, L265, k265, n265⟩, -, X265, ⟨Lc265, hQ265, l265, y265, z265⟩, st265⟩ := X263.virtualBack hx (y := (⟨"com/example/tidewheel/tidewheel/model/KeyedRequest", "request", "()Ljava/lang/String;"⟩ : MethodName)) (z := (⟨"com/example/tidewheel/tidewheel/model/KeyedRequest", "request", "()Ljava/lang/String;"⟩ : MethodName)) hown (mt_95 hZ hw) (mt_96 hZ hw) (notFace_of_selects (args := #[]) (mt_98 hZ hw)) (mt_98 hZ hw) (mt_97 hZ hw) (by decide) (backOf (W := 1) (rm16 l Z aA hw [] b198 b30 T235.heap n0 Z235 F_b198_request_249) hZ (hw _ tb_99) (hw _ tb_48) (by decide) (by decide)) q265a q265c (g := (mkF m 248 #[.val (.int p0), .val (.int p1), .val (.int p2), .val (.int p3), .val (.int p4), .val (.int p5), .val (.ref b6), .val (.ref b30), .val (.ref b61), .val (.ref b97), .val (.ref b130), .val (.ref b144), .val (.ref b198), .val (.ref b61), .val (.int (1 : Int32))] [(.ref b198), (.ref b30)])) rfl (by rw [hml]; rfl) (Steps.refl _) (argsL := []) (rest := [(.ref b30)]) (lenOf pd__28_29Ljava_2flang_2fString_3b rfl) rfl (by show 2 * 0 + _ ≤ _; exact Nat.le_of_eq rfl) (hb hby at_248) (fun _ _ => ⟨rfl, e263, (by decide : 14 + 0 ≤ _), (by decide : 39 + 0 ≤ _)⟩)
        dsimp only [Pt.U, Pt.locs, Pt.cells, Pt.slots] at X265 l265 y265 z265 st265 hQ265
        replace l265 := l265.symm
        subst l265
        obtain rfl : k265 = 14 := y265
        obtain rfl : n265 = 39 := z265
        obtain ⟨rfl, N265q, e265⟩ := hQ265
        have N265 := Fr.app N263 N265q
        have pre266 : ∀ t, Steps p.tables e below (T265.setTop (mkF m 251 #[.val (.int p0), .val (.int p1), .val (.int p2), .val (.int p3), .val (.int p4), .val (.int p5), .val (.ref b6), .val (.ref b30), .val (.ref b61), .val (.ref b97), .val (.ref b130), .val (.ref b144), .val (.ref b198), .val (.ref b61), .val (.int (1 : Int32))] [(.ref b30), (.ref b30)])) t → Steps p.tables e below (s₁.setTop (entryFrame m #[(.int p0), (.int p1), (.int p2), (.int p3), (.int p4), (.int p5)] maxLocals)) t := by
          intro t kk
          refine pre264 t ?_
          show Steps p.tables e below (T263.setTop (mkF m 248 #[.val (.int p0), .val (.int p1), .val (.int p2), .val (.int p3), .val (.int p4), .val (.int p5), .val (.ref b6), .val (.ref b30), .val (.ref b61), .val (.ref b97), .val (.ref b130), .val (.ref b144), .val (.ref b198), .val (.ref b61), .val (.int (1 : Int32))] [(.ref b198), (.ref b30)])) _
          refine st265.trans ?_
          exact kk
        clear X263 e263 st265 N265q N263 pre264
        as_aux_lemma =>
        obtain ⟨cq267, kq267, q267a, q267b, q267c⟩ := isOf hZ e265 E_b30_238
        obtain ⟨_, _, ⟨T267, L267, k267, n267⟩, -, X267, ⟨Lc267, hQ267, l267, y267, z267⟩, st267⟩ := X265.virtualBack hx (y := (⟨"java/lang/String", "equals", "(Ljava/lang/Object;)Z"⟩ : MethodName)) (z := (⟨"java/lang/String", "equals", "(Ljava/lang/Object;)Z"⟩ : MethodName)) hown (mt_90 hZ hw) (mt_91 hZ hw) (notFace_of_selects (args := #[]) (mt_93 hZ hw)) (mt_93 hZ hw) (mt_92 hZ hw) (by decide) (backOf (W := 0) (rm15 l Z aA hw [] b30 T235.heap n0 Z235) hZ (hw _ tb_94) (hw _ tb_2) (by decide) (by decide)) q267a q267c (g := (mkF m 251 #[.val (.int p0), .val (.int p1), .val (.int p2), .val (.int p3), .val (.int p4), .val (.int p5), .val (.ref b6), .val (.ref b30), .val (.ref b61), .val (.ref b97), .val (.ref b130), .val (.ref b144), .val (.ref b198), .val (.ref b61), .val (.int (1 : Int32))] [(.ref b30), (.ref b30)])) rfl (by rw [hml]; rfl) (Steps.refl _) (argsL := [(.ref b30)]) (rest := []) (lenOf pd__28Ljava_2flang_2fObject_3b_29Z rfl) rfl (by show 2 * 0 + _ ≤ _; exact Nat.le_of_eq rfl) (hb hby at_251) (fun _ _ => ⟨rfl, e265, (by decide : 14 + 0 ≤ _), (by decide : 39 + 0 ≤ _)⟩)
        dsimp only [Pt.U, Pt.locs, Pt.cells, Pt.slots] at X267 l267 y267 z267 st267 hQ267
        replace l267 := l267.symm
        subst l267
        obtain rfl : k267 = 14 := y267
        obtain rfl : n267 = 39 := z267
        obtain ⟨rfl, N267q, e267⟩ := hQ267
        have N267 := Fr.app N265 N267q
        have pre268 : ∀ t, Steps p.tables e below (T267.setTop (mkF m 264 #[.val (.int p0), .val (.int p1), .val (.int p2), .val (.int p3), .val (.int p4), .val (.int p5), .val (.ref b6), .val (.ref b30), .val (.ref b61), .val (.ref b97), .val (.ref b130), .val (.ref b144), .val (.ref b198), .val (.ref b61), .val (.int (1 : Int32))] [(.ref b198)])) t → Steps p.tables e below (s₁.setTop (entryFrame m #[(.int p0), (.int p1), (.int p2), (.int p3), (.int p4), (.int p5)] maxLocals)) t := by
          intro t kk
          refine pre266 t ?_
          show Steps p.tables e below (T265.setTop (mkF m 251 #[.val (.int p0), .val (.int p1), .val (.int p2), .val (.int p3), .val (.int p4), .val (.int p5), .val (.ref b6), .val (.ref b30), .val (.ref b61), .val (.ref b97), .val (.ref b130), .val (.ref b144), .val (.ref b198), .val (.ref b61), .val (.int (1 : Int32))] [(.ref b30), (.ref b30)])) _
          refine st267.trans ?_
          refine XS.ifNo X267.here hx rfl (hb hby at_254) rfl ((if0 _ _).trans (feq (by decide : ¬ ((1 : Int32) = (0 : Int32)))).1) ?_
          refine XS.iload X267.here hx rfl (hb hby at_257) rfl ?_
          refine XS.ifNo X267.here hx rfl (hb hby at_259) rfl ((if0 _ _).trans (feq (by decide : ¬ ((1 : Int32) = (0 : Int32)))).1) ?_
          refine XS.aload X267.here hx rfl (hb hby at_262) rfl rfl ?_
          exact kk
        clear X265 e265 st267 N267q N265 pre266
        as_aux_lemma =>
        obtain ⟨cq277, kq277, q277a, q277b, q277c⟩ := isOf hZ e267 E_b198_247
        obtain ⟨_, _, ⟨T277, L277, k277, n277⟩, -, X277, ⟨Lc277, hQ277, l277, y277, z277⟩, st277⟩ := X267.virtualBack hx (y := (⟨"com/example/tidewheel/tidewheel/model/KeyedRequest", "answer", "()Ljava/util/Optional;"⟩ : MethodName)) (z := (⟨"com/example/tidewheel/tidewheel/model/KeyedRequest", "answer", "()Ljava/util/Optional;"⟩ : MethodName)) hown (mt_100 hZ hw) (mt_101 hZ hw) (notFace_of_selects (args := #[]) (mt_103 hZ hw)) (mt_103 hZ hw) (mt_102 hZ hw) (by decide) (backOf (W := 0) (rm17_r l Z aA hw [] b198 b130 wE T235.heap n0 Z235 O_236 S_EMPTY X_EMPTY G_EMPTY F_b198_answer_251) hZ (hw _ tb_104) (hw _ tb_48) (by decide) (by decide)) q277a q277c (g := (mkF m 264 #[.val (.int p0), .val (.int p1), .val (.int p2), .val (.int p3), .val (.int p4), .val (.int p5), .val (.ref b6), .val (.ref b30), .val (.ref b61), .val (.ref b97), .val (.ref b130), .val (.ref b144), .val (.ref b198), .val (.ref b61), .val (.int (1 : Int32))] [(.ref b198)])) rfl (by rw [hml]; rfl) (Steps.refl _) (argsL := []) (rest := []) (lenOf pd__28_29Ljava_2futil_2fOptional_3b rfl) rfl (by show 2 * 0 + _ ≤ _; exact Nat.le_of_eq rfl) (hb hby at_264) (fun _ _ => ⟨rfl, e267, (by decide : 14 + 1 ≤ _), (by decide : 39 + 1 ≤ _)⟩)
        dsimp only [Pt.U, Pt.locs, Pt.cells, Pt.slots] at X277 l277 y277 z277 st277 hQ277
        replace l277 := l277.symm
        subst l277
        obtain rfl : k277 = 15 := y277
        obtain rfl : n277 = 40 := z277
        obtain ⟨b277, rfl, N277q, K277, Eq277, Fq277⟩ := hQ277
        have N277 := Fr.app N267 N277q
        have KP277 : Keep h0 T277.heap [] := KP235.trans K277 all0
        have Z277 : n0 ≤ T277.heap.size := Nat.le_trans Z235 K277.1
        have O_278 : Old Z n0 T277.heap := O_236.keep K277 all0
        have E_b6_279 : Exa Z T277.heap b6 "java/lang/String" := E_b6_237.keep K277
        have E_b30_280 : Exa Z T277.heap b30 "java/lang/String" := E_b30_238.keep K277
        have E_b61_281 : Exa Z T277.heap b61 "java/lang/String" := E_b61_239.keep K277
        have E_b97_282 : Exa Z T277.heap b97 "com/example/tidewheel/tidewheel/model/KeyedRequest$Answer" := E_b97_240.keep K277
        have E_b130_283 : Exa Z T277.heap b130 "com/example/tidewheel/tidewheel/model/KeyedRequest$Answer" := E_b130_241.keep K277
        have E_b144_284 : Exa Z T277.heap b144 "com/example/tidewheel/tidewheel/model/KeyedRequest" := E_b144_242.keep K277
        have F_b144_key_285 : Fld Z T277.heap b144 "com/example/tidewheel/tidewheel/model/KeyedRequest" "key" "Ljava/lang/String;" (.ref b6) := F_b144_key_243.keep K277 nin0
        have F_b144_request_286 : Fld Z T277.heap b144 "com/example/tidewheel/tidewheel/model/KeyedRequest" "request" "Ljava/lang/String;" (.ref b30) := F_b144_request_244.keep K277 nin0
        have F_b144_resource_287 : Fld Z T277.heap b144 "com/example/tidewheel/tidewheel/model/KeyedRequest" "resource" "Ljava/lang/String;" (.ref b61) := F_b144_resource_245.keep K277 nin0
        have F_b144_answer_288 : Fld Z T277.heap b144 "com/example/tidewheel/tidewheel/model/KeyedRequest" "answer" "Lcom/example/tidewheel/tidewheel/model/KeyedRequest$Answer;" (.ref b97) := F_b144_answer_246.keep K277 nin0
        have E_b198_289 : Exa Z T277.heap b198 "com/example/tidewheel/tidewheel/model/KeyedRequest" := E_b198_247.keep K277
        have F_b198_key_290 : Fld Z T277.heap b198 "com/example/tidewheel/tidewheel/model/KeyedRequest" "key" "Ljava/lang/String;" (.ref b6) := F_b198_key_248.keep K277 nin0
        have F_b198_request_291 : Fld Z T277.heap b198 "com/example/tidewheel/tidewheel/model/KeyedRequest" "request" "Ljava/lang/String;" (.ref b30) := F_b198_request_249.keep K277 nin0
        have F_b198_resource_292 : Fld Z T277.heap b198 "com/example/tidewheel/tidewheel/model/KeyedRequest" "resource" "Ljava/lang/String;" (.ref b61) := F_b198_resource_250.keep K277 nin0
        have F_b198_answer_293 : Fld Z T277.heap b198 "com/example/tidewheel/tidewheel/model/KeyedRequest" "answer" "Lcom/example/tidewheel/tidewheel/model/KeyedRequest$Answer;" (.ref b130) := F_b198_answer_251.keep K277 nin0
        have E_b235_294 : Exa Z T277.heap b235 "java/util/Optional" := Eq235.keep K277
        have F_b235_value_295 : Fld Z T277.heap b235 "java/util/Optional" "value" "Ljava/lang/Object;" (.ref b61) := Fq235.keep K277 nin0
        have pre296 : ∀ t, Steps p.tables e below (T277.setTop (mkF m 268 #[.val (.int p0), .val (.int p1), .val (.int p2), .val (.int p3), .val (.int p4), .val (.int p5), .val (.ref b6), .val (.ref b30), .val (.ref b61), .val (.ref b97), .val (.ref b130), .val (.ref b144), .val (.ref b198), .val (.ref b61), .val (.int (1 : Int32))] [.null, (.ref b277)])) t → Steps p.tables e below (s₁.setTop (entryFrame m #[(.int p0), (.int p1), (.int p2), (.int p3), (.int p4), (.int p5)] maxLocals)) t := by
          intro t kk
          refine pre268 t ?_
          show Steps p.tables e below (T267.setTop (mkF m 264 #[.val (.int p0), .val (.int p1), .val (.int p2), .val (.int p3), .val (.int p4), .val (.int p5), .val (.ref b6), .val (.ref b30), .val (.ref b61), .val (.ref b97), .val (.ref b130), .val (.ref b144), .val (.ref b198), .val (.ref b61), .val (.int (1 : Int32))] [(.ref b198)])) _
          refine st277.trans ?_
          refine XS.aconstNull X277.here hx rfl (hb hby at_267) ?_
          exact kk
        clear X267 e267 st277 N277q N267 KP235 Z235 O_236 E_b6_237 E_b30_238 E_b61_239 E_b97_240 E_b130_241 E_b144_242 F_b144_key_243 F_b144_request_244 F_b144_resource_245 F_b144_answer_246 E_b198_247 F_b198_key_248 F_b198_request_249 F_b198_resource_250 F_b198_answer_251 Eq235 Fq235 K277 pre268
        as_aux_lemma =>
        obtain ⟨cq297, kq297, q297a, q297b, q297c⟩ := isOf hZ rfl Eq277
        obtain ⟨_, _, ⟨T297, L297, k297, n297⟩, -, X297, ⟨Lc297, hQ297, l297, y297, z297⟩, st297⟩ := X277.virtualBack hx (y := (⟨"java/util/Optional", "orElse", "(Ljava/lang/Object;)Ljava/lang/Object;"⟩ : MethodName)) (z := (⟨"java/util/Optional", "orElse", "(Ljava/lang/Object;)Ljava/lang/Object;"⟩ : MethodName)) hown (mt_78 hZ hw) (mt_79 hZ hw) (notFace_of_selects (args := #[]) (mt_81 hZ hw)) (mt_81 hZ hw) (mt_80 hZ hw) (by decide) (backOf (W := 0) (rm13_r l Z aA hw [] b277 b130 T277.heap n0 Z277 Fq277) hZ (hw _ tb_82) (hw _ tb_75) (by decide) (by decide)) q297a q297c (g := (mkF m 268 #[.val (.int p0), .val (.int p1), .val (.int p2), .val (.int p3), .val (.int p4), .val (.int p5), .val (.ref b6), .val (.ref b30), .val (.ref b61), .val (.ref b97), .val (.ref b130), .val (.ref b144), .val (.ref b198), .val (.ref b61), .val (.int (1 : Int32))] [.null, (.ref b277)])) rfl (by rw [hml]; rfl) (Steps.refl _) (argsL := [.null]) (rest := []) (lenOf pd__28Ljava_2flang_2fObject_3b_29Ljava_2flang_2fObject_3b rfl) rfl (by show 2 * 0 + _ ≤ _; exact Nat.le_of_eq rfl) (hb hby at_268) (fun _ _ => ⟨rfl, rfl, (by decide : 15 + 0 ≤ _), (by decide : 40 + 0 ≤ _)⟩)
        dsimp only [Pt.U, Pt.locs, Pt.cells, Pt.slots] at X297 l297 y297 z297 st297 hQ297
        replace l297 := l297.symm
        subst l297
        obtain rfl : k297 = 15 := y297
        obtain rfl : n297 = 40 := z297
        obtain ⟨rfl, N297q, e297⟩ := hQ297
        have N297 := Fr.app N277 N297q
        have pre298 : ∀ t, Steps p.tables e below (T297.setTop (mkF m 278 #[.val (.int p0), .val (.int p1), .val (.int p2), .val (.int p3), .val (.int p4), .val (.int p5), .val (.ref b6), .val (.ref b30), .val (.ref b61), .val (.ref b97), .val (.ref b130), .val (.ref b144), .val (.ref b198), .val (.ref b61), .val (.int (1 : Int32))] [(.ref b144)])) t → Steps p.tables e below (s₁.setTop (entryFrame m #[(.int p0), (.int p1), (.int p2), (.int p3), (.int p4), (.int p5)] maxLocals)) t := by
          intro t kk
          refine pre296 t ?_
          show Steps p.tables e below (T277.setTop (mkF m 268 #[.val (.int p0), .val (.int p1), .val (.int p2), .val (.int p3), .val (.int p4), .val (.int p5), .val (.ref b6), .val (.ref b30), .val (.ref b61), .val (.ref b97), .val (.ref b130), .val (.ref b144), .val (.ref b198), .val (.ref b61), .val (.int (1 : Int32))] [.null, (.ref b277)])) _
          refine st297.trans ?_
          refine XS.aload X297.here hx rfl (hb hby at_271) rfl rfl ?_
          refine Jvm.RoadKit.acmp (g := (mkF m 273 #[.val (.int p0), .val (.int p1), .val (.int p2), .val (.int p3), .val (.int p4), .val (.int p5), .val (.ref b6), .val (.ref b30), .val (.ref b61), .val (.ref b97), .val (.ref b130), .val (.ref b144), .val (.ref b198), .val (.ref b61), .val (.int (1 : Int32))] [(.ref b130), (.ref b130)])) X297 hx rfl rfl rfl (pc0 := 273) (pc' := 276) (same := true) rfl (hb hby at_273) rfl (decide_eq_true rfl) (by decide) (by decide) ?_
          refine XS.aload X297.here hx rfl (hb hby at_276) rfl rfl ?_
          exact kk
        clear X277 st297 N297q N277 pre296
        as_aux_lemma =>
        obtain ⟨cq299, kq299, q299a, q299b, q299c⟩ := isOf hZ e297 E_b144_284
        obtain ⟨_, _, ⟨T299, L299, k299, n299⟩, -, X299, ⟨Lc299, hQ299, l299, y299, z299⟩, st299⟩ := X297.virtualBack hx (y := (⟨"com/example/tidewheel/tidewheel/model/KeyedRequest", "answer", "()Ljava/util/Optional;"⟩ : MethodName)) (z := (⟨"com/example/tidewheel/tidewheel/model/KeyedRequest", "answer", "()Ljava/util/Optional;"⟩ : MethodName)) hown (mt_100 hZ hw) (mt_101 hZ hw) (notFace_of_selects (args := #[]) (mt_103 hZ hw)) (mt_103 hZ hw) (mt_102 hZ hw) (by decide) (backOf (W := 0) (rm17_r l Z aA hw [] b144 b97 wE T277.heap n0 Z277 O_278 S_EMPTY X_EMPTY G_EMPTY F_b144_answer_288) hZ (hw _ tb_104) (hw _ tb_48) (by decide) (by decide)) q299a q299c (g := (mkF m 278 #[.val (.int p0), .val (.int p1), .val (.int p2), .val (.int p3), .val (.int p4), .val (.int p5), .val (.ref b6), .val (.ref b30), .val (.ref b61), .val (.ref b97), .val (.ref b130), .val (.ref b144), .val (.ref b198), .val (.ref b61), .val (.int (1 : Int32))] [(.ref b144)])) rfl (by rw [hml]; rfl) (Steps.refl _) (argsL := []) (rest := []) (lenOf pd__28_29Ljava_2futil_2fOptional_3b rfl) rfl (by show 2 * 0 + _ ≤ _; exact Nat.le_of_eq rfl) (hb hby at_278) (fun _ _ => ⟨rfl, e297, (by decide : 15 + 1 ≤ _), (by decide : 40 + 1 ≤ _)⟩)
        dsimp only [Pt.U, Pt.locs, Pt.cells, Pt.slots] at X299 l299 y299 z299 st299 hQ299
        replace l299 := l299.symm
        subst l299
        obtain rfl : k299 = 16 := y299
        obtain rfl : n299 = 41 := z299
        obtain ⟨b299, rfl, N299q, K299, Eq299, Fq299⟩ := hQ299
        have N299 := Fr.app N297 N299q
        have KP299 : Keep h0 T299.heap [] := KP277.trans K299 all0
        have Z299 : n0 ≤ T299.heap.size := Nat.le_trans Z277 K299.1
        have O_300 : Old Z n0 T299.heap := O_278.keep K299 all0
        have E_b6_301 : Exa Z T299.heap b6 "java/lang/String" := E_b6_279.keep K299
        have E_b30_302 : Exa Z T299.heap b30 "java/lang/String" := E_b30_280.keep K299
        have E_b61_303 : Exa Z T299.heap b61 "java/lang/String" := E_b61_281.keep K299
        have E_b97_304 : Exa Z T299.heap b97 "com/example/tidewheel/tidewheel/model/KeyedRequest$Answer" := E_b97_282.keep K299
        have E_b130_305 : Exa Z T299.heap b130 "com/example/tidewheel/tidewheel/model/KeyedRequest$Answer" := E_b130_283.keep K299
        have E_b144_306 : Exa Z T299.heap b144 "com/example/tidewheel/tidewheel/model/KeyedRequest" := E_b144_284.keep K299
        have F_b144_key_307 : Fld Z T299.heap b144 "com/example/tidewheel/tidewheel/model/KeyedRequest" "key" "Ljava/lang/String;" (.ref b6) := F_b144_key_285.keep K299 nin0
        have F_b144_request_308 : Fld Z T299.heap b144 "com/example/tidewheel/tidewheel/model/KeyedRequest" "request" "Ljava/lang/String;" (.ref b30) := F_b144_request_286.keep K299 nin0
        have F_b144_resource_309 : Fld Z T299.heap b144 "com/example/tidewheel/tidewheel/model/KeyedRequest" "resource" "Ljava/lang/String;" (.ref b61) := F_b144_resource_287.keep K299 nin0
        have F_b144_answer_310 : Fld Z T299.heap b144 "com/example/tidewheel/tidewheel/model/KeyedRequest" "answer" "Lcom/example/tidewheel/tidewheel/model/KeyedRequest$Answer;" (.ref b97) := F_b144_answer_288.keep K299 nin0
        have E_b198_311 : Exa Z T299.heap b198 "com/example/tidewheel/tidewheel/model/KeyedRequest" := E_b198_289.keep K299
        have F_b198_key_312 : Fld Z T299.heap b198 "com/example/tidewheel/tidewheel/model/KeyedRequest" "key" "Ljava/lang/String;" (.ref b6) := F_b198_key_290.keep K299 nin0
        have F_b198_request_313 : Fld Z T299.heap b198 "com/example/tidewheel/tidewheel/model/KeyedRequest" "request" "Ljava/lang/String;" (.ref b30) := F_b198_request_291.keep K299 nin0
        have F_b198_resource_314 : Fld Z T299.heap b198 "com/example/tidewheel/tidewheel/model/KeyedRequest" "resource" "Ljava/lang/String;" (.ref b61) := F_b198_resource_292.keep K299 nin0
        have F_b198_answer_315 : Fld Z T299.heap b198 "com/example/tidewheel/tidewheel/model/KeyedRequest" "answer" "Lcom/example/tidewheel/tidewheel/model/KeyedRequest$Answer;" (.ref b130) := F_b198_answer_293.keep K299 nin0
        have E_b235_316 : Exa Z T299.heap b235 "java/util/Optional" := E_b235_294.keep K299
        have F_b235_value_317 : Fld Z T299.heap b235 "java/util/Optional" "value" "Ljava/lang/Object;" (.ref b61) := F_b235_value_295.keep K299 nin0
        have E_b277_318 : Exa Z T299.heap b277 "java/util/Optional" := Eq277.keep K299
        have F_b277_value_319 : Fld Z T299.heap b277 "java/util/Optional" "value" "Ljava/lang/Object;" (.ref b130) := Fq277.keep K299 nin0
        have pre320 : ∀ t, Steps p.tables e below (T299.setTop (mkF m 282 #[.val (.int p0), .val (.int p1), .val (.int p2), .val (.int p3), .val (.int p4), .val (.int p5), .val (.ref b6), .val (.ref b30), .val (.ref b61), .val (.ref b97), .val (.ref b130), .val (.ref b144), .val (.ref b198), .val (.ref b61), .val (.int (1 : Int32))] [.null, (.ref b299)])) t → Steps p.tables e below (s₁.setTop (entryFrame m #[(.int p0), (.int p1), (.int p2), (.int p3), (.int p4), (.int p5)] maxLocals)) t := by
          intro t kk
          refine pre298 t ?_
          show Steps p.tables e below (T297.setTop (mkF m 278 #[.val (.int p0), .val (.int p1), .val (.int p2), .val (.int p3), .val (.int p4), .val (.int p5), .val (.ref b6), .val (.ref b30), .val (.ref b61), .val (.ref b97), .val (.ref b130), .val (.ref b144), .val (.ref b198), .val (.ref b61), .val (.int (1 : Int32))] [(.ref b144)])) _
          refine st299.trans ?_
          refine XS.aconstNull X299.here hx rfl (hb hby at_281) ?_
          exact kk
        clear X297 e297 st299 N299q N297 KP277 Z277 O_278 E_b6_279 E_b30_280 E_b61_281 E_b97_282 E_b130_283 E_b144_284 F_b144_key_285 F_b144_request_286 F_b144_resource_287 F_b144_answer_288 E_b198_289 F_b198_key_290 F_b198_request_291 F_b198_resource_292 F_b198_answer_293 E_b235_294 F_b235_value_295 Eq277 Fq277 K299 pre298
        as_aux_lemma =>
        obtain ⟨cq321, kq321, q321a, q321b, q321c⟩ := isOf hZ rfl Eq299
        obtain ⟨_, _, ⟨T321, L321, k321, n321⟩, -, X321, ⟨Lc321, hQ321, l321, y321, z321⟩, st321⟩ := X299.virtualBack hx (y := (⟨"java/util/Optional", "orElse", "(Ljava/lang/Object;)Ljava/lang/Object;"⟩ : MethodName)) (z := (⟨"java/util/Optional", "orElse", "(Ljava/lang/Object;)Ljava/lang/Object;"⟩ : MethodName)) hown (mt_78 hZ hw) (mt_79 hZ hw) (notFace_of_selects (args := #[]) (mt_81 hZ hw)) (mt_81 hZ hw) (mt_80 hZ hw) (by decide) (backOf (W := 0) (rm13_r l Z aA hw [] b299 b97 T299.heap n0 Z299 Fq299) hZ (hw _ tb_82) (hw _ tb_75) (by decide) (by decide)) q321a q321c (g := (mkF m 282 #[.val (.int p0), .val (.int p1), .val (.int p2), .val (.int p3), .val (.int p4), .val (.int p5), .val (.ref b6), .val (.ref b30), .val (.ref b61), .val (.ref b97), .val (.ref b130), .val (.ref b144), .val (.ref b198), .val (.ref b61), .val (.int (1 : Int32))] [.null, (.ref b299)])) rfl (by rw [hml]; rfl) (Steps.refl _) (argsL := [.null]) (rest := []) (lenOf pd__28Ljava_2flang_2fObject_3b_29Ljava_2flang_2fObject_3b rfl) rfl (by show 2 * 0 + _ ≤ _; exact Nat.le_of_eq rfl) (hb hby at_282) (fun _ _ => ⟨rfl, rfl, (by decide : 16 + 0 ≤ _), (by decide : 41 + 0 ≤ _)⟩)
        dsimp only [Pt.U, Pt.locs, Pt.cells, Pt.slots] at X321 l321 y321 z321 st321 hQ321
        replace l321 := l321.symm
        subst l321
        obtain rfl : k321 = 16 := y321
        obtain rfl : n321 = 41 := z321
        obtain ⟨rfl, N321q, e321⟩ := hQ321
        have N321 := Fr.app N299 N321q
        have pre322 : ∀ t, Steps p.tables e below (T321.setTop (mkF m 295 #[.val (.int p0), .val (.int p1), .val (.int p2), .val (.int p3), .val (.int p4), .val (.int p5), .val (.ref b6), .val (.ref b30), .val (.ref b61), .val (.ref b97), .val (.ref b130), .val (.ref b144), .val (.ref b198), .val (.ref b61), .val (.int (1 : Int32))] [(.int (1 : Int32))])) t → Steps p.tables e below (s₁.setTop (entryFrame m #[(.int p0), (.int p1), (.int p2), (.int p3), (.int p4), (.int p5)] maxLocals)) t := by
          intro t kk
          refine pre320 t ?_
          show Steps p.tables e below (T299.setTop (mkF m 282 #[.val (.int p0), .val (.int p1), .val (.int p2), .val (.int p3), .val (.int p4), .val (.int p5), .val (.ref b6), .val (.ref b30), .val (.ref b61), .val (.ref b97), .val (.ref b130), .val (.ref b144), .val (.ref b198), .val (.ref b61), .val (.int (1 : Int32))] [.null, (.ref b299)])) _
          refine st321.trans ?_
          refine XS.aload X321.here hx rfl (hb hby at_285) rfl rfl ?_
          refine Jvm.RoadKit.acmp (g := (mkF m 287 #[.val (.int p0), .val (.int p1), .val (.int p2), .val (.int p3), .val (.int p4), .val (.int p5), .val (.ref b6), .val (.ref b30), .val (.ref b61), .val (.ref b97), .val (.ref b130), .val (.ref b144), .val (.ref b198), .val (.ref b61), .val (.int (1 : Int32))] [(.ref b97), (.ref b97)])) X321 hx rfl rfl rfl (pc0 := 287) (pc' := 290) (same := true) rfl (hb hby at_287) rfl (decide_eq_true rfl) (by decide) (by decide) ?_
          refine XS.iconst X321.here hx rfl (hb hby at_290) ?_
          refine XS.goto X321.here hx rfl (pc0 := 291) (pc' := 295) rfl (hb hby at_291) (by decide) (by decide) ?_
          exact kk
        clear X299 st321 N321q N299 pre320
        as_aux_lemma =>
        obtain ⟨fs, hr, hrun, hended, hW, hsame⟩ := X321.leave (v := some (.int (1 : Int32))) (fun h => by rw [Bd.returns] at h; cases h)
        refine ⟨_, _, pre322 _ ?_, hrun, hended, _, _, rfl, ?_, ⟨_, rfl⟩, hW, hsame.mono (by decide) (by decide)⟩
        · show Steps p.tables e below (T321.setTop (mkF m 295 #[.val (.int p0), .val (.int p1), .val (.int p2), .val (.int p3), .val (.int p4), .val (.int p5), .val (.ref b6), .val (.ref b30), .val (.ref b61), .val (.ref b97), .val (.ref b130), .val (.ref b144), .val (.ref b198), .val (.ref b61), .val (.int (1 : Int32))] [(.int (1 : Int32))])) _
          exact retN X321 hx (t := .boolean) Bd.returns (by simp) (hb hby at_295) hr
        · show Q0 Z p0 p1 p2 p3 p4 p5 zcs wE h0 n0 _ T321.heap _
          rw [e321]
          exact ⟨rfl, N321⟩
      · as_aux_lemma =>
        obtain ⟨T323, h323, X323, e323, E323, A323, D323, -, st323⟩ := newO X122 hx hZ hown (hw _ tb_46) (hw _ tb_47) (hw _ tb_48) rfl (g := (mkF m 157 #[.val (.int p0), .val (.int p1), .val (.int p2), .val (.int p3), .val (.int p4), .val (.int p5), .val (.ref b6), .val (.ref b30), .val (.ref b61), .val (.ref b97), .val .null, .unset, .unset, .unset, .unset] [])) rfl (hb hby at_157) (by decide) (by decide)
        obtain ⟨b323, g323⟩ : ∃ z, z = T122.heap.size := ⟨_, rfl⟩
        rw [← g323] at A323 D323 st323
        have ne_b6_b323 : b6 ≠ b323 := Nat.ne_of_lt (Nat.lt_of_lt_of_le E_b6_124.lt (Nat.le_of_eq g323.symm))
        have ne_b30_b323 : b30 ≠ b323 := Nat.ne_of_lt (Nat.lt_of_lt_of_le E_b30_125.lt (Nat.le_of_eq g323.symm))
        have ne_b61_b323 : b61 ≠ b323 := Nat.ne_of_lt (Nat.lt_of_lt_of_le E_b61_126.lt (Nat.le_of_eq g323.symm))
        have ne_b97_b323 : b97 ≠ b323 := Nat.ne_of_lt (Nat.lt_of_lt_of_le Eq122.lt (Nat.le_of_eq g323.symm))
        have sz_b323 : h0.size ≤ b323 := Nat.le_trans KP122.1 (Nat.le_of_eq g323.symm)
        have g_b323 : n0 ≤ b323 := Nat.le_trans Z122 (Nat.le_of_eq g323.symm)
        have KP323 : Keep h0 h323 [] := KP122.ext E323
        have Z323 : n0 ≤ h323.size := Nat.le_trans Z122 E323.1
        have O_324 : Old Z n0 h323 := O_123.ext E323
        have E_b6_325 : Exa Z h323 b6 "java/lang/String" := E_b6_124.ext E323
        have E_b30_326 : Exa Z h323 b30 "java/lang/String" := E_b30_125.ext E323
        have E_b61_327 : Exa Z h323 b61 "java/lang/String" := E_b61_126.ext E323
        have E_b97_328 : Exa Z h323 b97 "com/example/tidewheel/tidewheel/model/KeyedRequest$Answer" := Eq122.ext E323
        have F_key_b323 : Fld Z h323 b323 "com/example/tidewheel/tidewheel/model/KeyedRequest" "key" "Ljava/lang/String;" .null := D323 (Or.inr (hw _ tb_54)) (ty := (.object "java/lang/String")) (by decide)
        have F_request_b323 : Fld Z h323 b323 "com/example/tidewheel/tidewheel/model/KeyedRequest" "request" "Ljava/lang/String;" .null := D323 (Or.inr (hw _ tb_56)) (ty := (.object "java/lang/String")) (by decide)
        have F_resource_b323 : Fld Z h323 b323 "com/example/tidewheel/tidewheel/model/KeyedRequest" "resource" "Ljava/lang/String;" .null := D323 (Or.inr (hw _ tb_58)) (ty := (.object "java/lang/String")) (by decide)
        have F_answer_b323 : Fld Z h323 b323 "com/example/tidewheel/tidewheel/model/KeyedRequest" "answer" "Lcom/example/tidewheel/tidewheel/model/KeyedRequest$Answer;" .null := D323 (Or.inr (hw _ tb_60)) (ty := (.object "com/example/tidewheel/tidewheel/model/KeyedRequest$Answer")) (by decide)
        replace X323 : Stand _ _ _ _ _ _ _ _ _ _ _ _ 11 31 := X323
        have pre329 : ∀ t, Steps p.tables e below (T323.setTop (mkF m 169 #[.val (.int p0), .val (.int p1), .val (.int p2), .val (.int p3), .val (.int p4), .val (.int p5), .val (.ref b6), .val (.ref b30), .val (.ref b61), .val (.ref b97), .val .null, .unset, .unset, .unset, .unset] [(.ref b97), (.ref b61), (.ref b30), (.ref b6), (.ref b323), (.ref b323)])) t → Steps p.tables e below (s₁.setTop (entryFrame m #[(.int p0), (.int p1), (.int p2), (.int p3), (.int p4), (.int p5)] maxLocals)) t := by
          intro t kk
          refine pre129 t ?_
          show Steps p.tables e below (T122.setTop (mkF m 137 #[.val (.int p0), .val (.int p1), .val (.int p2), .val (.int p3), .val (.int p4), .val (.int p5), .val (.ref b6), .val (.ref b30), .val (.ref b61), .val (.ref b97), .unset, .unset, .unset, .unset, .unset] [(.int (p5 &&& (4 : Int32)))])) _
          refine XS.ifNo X122.here hx rfl (hb hby at_137) rfl ((if0 _ _).trans (feq hc137_128).1) ?_
          refine XS.aconstNull X122.here hx rfl (hb hby at_140) ?_
          refine XS.goto X122.here hx rfl (pc0 := 141) (pc' := 155) rfl (hb hby at_141) (by decide) (by decide) ?_
          refine XS.astore X122.here hx rfl (hb hby at_155) rfl rfl (l' := #[.val (.int p0), .val (.int p1), .val (.int p2), .val (.int p3), .val (.int p4), .val (.int p5), .val (.ref b6), .val (.ref b30), .val (.ref b61), .val (.ref b97), .val .null, .unset, .unset, .unset, .unset]) rfl ?_
          refine st323 _ ?_
          refine XS.dup X323.here hx rfl (hb hby at_160) rfl rfl ?_
          refine XS.aload X323.here hx rfl (hb hby at_161) rfl rfl ?_
          refine XS.aload X323.here hx rfl (hb hby at_163) rfl rfl ?_
          refine XS.aload X323.here hx rfl (hb hby at_165) rfl rfl ?_
          refine XS.aload X323.here hx rfl (hb hby at_167) rfl rfl ?_
          exact kk
        clear X122 st323 O_123 E_b6_124 E_b30_125 E_b61_126 Eq122 pre129
        as_aux_lemma =>
        obtain ⟨_, _, ⟨T330, L330, k330, n330⟩, -, X330, ⟨Lc330, hQ330, l330, y330, z330⟩, st330⟩ := X323.specialBack hx (y := (⟨"com/example/tidewheel/tidewheel/model/KeyedRequest", "<init>", "(Ljava/lang/String;Ljava/lang/String;Ljava/lang/String;Lcom/example/tidewheel/tidewheel/model/KeyedRequest$Answer;)V"⟩ : MethodName)) rfl hown (mt_49 hZ hw) (mt_50 hZ hw) (mt_51 hZ hw) (by decide) (backOf (W := 1) (rm9_rrrr l Z aA hw [] b323 b6 b30 b61 b97 h323 n0 Z323 A323 g_b323 F_key_b323 F_request_b323 F_resource_b323 F_answer_b323) hZ (hw _ tb_51) (hw _ tb_48) (by decide) (by decide)) (g := (mkF m 169 #[.val (.int p0), .val (.int p1), .val (.int p2), .val (.int p3), .val (.int p4), .val (.int p5), .val (.ref b6), .val (.ref b30), .val (.ref b61), .val (.ref b97), .val .null, .unset, .unset, .unset, .unset] [(.ref b97), (.ref b61), (.ref b30), (.ref b6), (.ref b323), (.ref b323)])) rfl (by rw [hml]; rfl) (Steps.refl _) (a := b323) (argsL := [(.ref b6), (.ref b30), (.ref b61), (.ref b97)]) (rest := [(.ref b323)]) (lenOf pd__28Ljava_2flang_2fString_3bLjava_2flang_2fString_3bLjava_2flang_2fString_3bLcom_2fexample_2ftidewheel_2ftidewheel_2fmodel_2fKeyedRequest_24Answer_3b_29V rfl) rfl (by show 2 * 0 + _ ≤ _; exact Nat.le_of_eq rfl) (hb hby at_169) (fun _ _ => ⟨rfl, e323, (by decide : 11 + 0 ≤ _), (by decide : 31 + 0 ≤ _)⟩)
        dsimp only [Pt.U, Pt.locs, Pt.cells, Pt.slots] at X330 l330 y330 z330 st330 hQ330
        replace l330 := l330.symm
        subst l330
        obtain rfl : k330 = 11 := y330
        obtain rfl : n330 = 31 := z330
        obtain ⟨rfl, N330q, K330, Eq330, Fq330_key, Fq330_request, Fq330_resource, Fq330_answer⟩ := hQ330
        have N330 := Fr.app N122 N330q
        have KP330 : Keep h0 T330.heap [] := KP323.trans K330 (allS (Or.inr sz_b323) all0)
        have Z330 : n0 ≤ T330.heap.size := Nat.le_trans Z323 K330.1
        have O_331 : Old Z n0 T330.heap := O_324.keep K330 (allS g_b323 all0)
        have E_b6_332 : Exa Z T330.heap b6 "java/lang/String" := E_b6_325.keep K330
        have E_b30_333 : Exa Z T330.heap b30 "java/lang/String" := E_b30_326.keep K330
        have E_b61_334 : Exa Z T330.heap b61 "java/lang/String" := E_b61_327.keep K330
        have E_b97_335 : Exa Z T330.heap b97 "com/example/tidewheel/tidewheel/model/KeyedRequest$Answer" := E_b97_328.keep K330
        have E_b323_336 : Exa Z T330.heap b323 "com/example/tidewheel/tidewheel/model/KeyedRequest" := A323.keep K330
        have pre337 : ∀ t, Steps p.tables e below (T330.setTop (mkF m 178 #[.val (.int p0), .val (.int p1), .val (.int p2), .val (.int p3), .val (.int p4), .val (.int p5), .val (.ref b6), .val (.ref b30), .val (.ref b61), .val (.ref b97), .val .null, .val (.ref b323), .unset, .unset, .unset] [.null, (.ref b323)])) t → Steps p.tables e below (s₁.setTop (entryFrame m #[(.int p0), (.int p1), (.int p2), (.int p3), (.int p4), (.int p5)] maxLocals)) t := by
          intro t kk
          refine pre329 t ?_
          show Steps p.tables e below (T323.setTop (mkF m 169 #[.val (.int p0), .val (.int p1), .val (.int p2), .val (.int p3), .val (.int p4), .val (.int p5), .val (.ref b6), .val (.ref b30), .val (.ref b61), .val (.ref b97), .val .null, .unset, .unset, .unset, .unset] [(.ref b97), (.ref b61), (.ref b30), (.ref b6), (.ref b323), (.ref b323)])) _
          refine st330.trans ?_
          refine XS.astore X330.here hx rfl (hb hby at_172) rfl rfl (l' := #[.val (.int p0), .val (.int p1), .val (.int p2), .val (.int p3), .val (.int p4), .val (.int p5), .val (.ref b6), .val (.ref b30), .val (.ref b61), .val (.ref b97), .val .null, .val (.ref b323), .unset, .unset, .unset]) rfl ?_
          refine XS.aload X330.here hx rfl (hb hby at_174) rfl rfl ?_
          refine XS.aload X330.here hx rfl (hb hby at_176) rfl rfl ?_
          exact kk
        clear X323 e323 st330 N330q N122 KP323 Z323 O_324 E_b6_325 E_b30_326 E_b61_327 E_b97_328 A323 F_key_b323 F_request_b323 F_resource_b323 F_answer_b323 K330 pre329
        as_aux_lemma =>
        obtain ⟨cq375, kq375, q375a, q375b, q375c⟩ := isOf hZ rfl Eq330
        obtain ⟨_, _, ⟨T375, L375, k375, n375⟩, -, X375, ⟨Lc375, hQ375, l375, y375, z375⟩, st375⟩ := X330.virtualBack hx (y := (⟨"com/example/tidewheel/tidewheel/model/KeyedRequest", "answered", "(Lcom/example/tidewheel/tidewheel/model/KeyedRequest$Answer;)Lcom/example/tidewheel/tidewheel/model/KeyedRequest;"⟩ : MethodName)) (z := (⟨"com/example/tidewheel/tidewheel/model/KeyedRequest", "answered", "(Lcom/example/tidewheel/tidewheel/model/KeyedRequest$Answer;)Lcom/example/tidewheel/tidewheel/model/KeyedRequest;"⟩ : MethodName)) hown (mt_61 hZ hw) (mt_62 hZ hw) (notFace_of_selects (args := #[]) (mt_64 hZ hw)) (mt_64 hZ hw) (mt_63 hZ hw) (by decide) (backOf (W := 0) (rm10_rn l Z aA hw [] b323 b6 b30 b61 T330.heap n0 Z330 Fq330_key Fq330_request Fq330_resource) hZ (hw _ tb_65) (hw _ tb_48) (by decide) (by decide)) q375a q375c (g := (mkF m 178 #[.val (.int p0), .val (.int p1), .val (.int p2), .val (.int p3), .val (.int p4), .val (.int p5), .val (.ref b6), .val (.ref b30), .val (.ref b61), .val (.ref b97), .val .null, .val (.ref b323), .unset, .unset, .unset] [.null, (.ref b323)])) rfl (by rw [hml]; rfl) (Steps.refl _) (argsL := [.null]) (rest := []) (lenOf pd__28Lcom_2fexample_2ftidewheel_2ftidewheel_2fmodel_2fKeyedRequest_24Answer_3b_29Lcom_2fexample_2ftidewheel_2ftidewheel_2fmodel_2fKeyedRequest_3b rfl) rfl (by show 2 * 0 + _ ≤ _; exact Nat.le_of_eq rfl) (hb hby at_178) (fun _ _ => ⟨rfl, rfl, (by decide : 11 + 1 ≤ _), (by decide : 31 + 4 ≤ _)⟩)
        dsimp only [Pt.U, Pt.locs, Pt.cells, Pt.slots] at X375 l375 y375 z375 st375 hQ375
        replace l375 := l375.symm
        subst l375
        obtain rfl : k375 = 12 := y375
        obtain rfl : n375 = 35 := z375
        obtain ⟨b375, rfl, N375q, K375, sz375, Eq375, Fq375_key, Fq375_request, Fq375_resource, Fq375_answer⟩ := hQ375
        have N375 := Fr.app N330 N375q
        have sz_b375 : h0.size ≤ b375 := Nat.le_trans KP330.1 sz375
        have g_b375 : n0 ≤ b375 := Nat.le_trans Z330 sz375
        have KP375 : Keep h0 T375.heap [] := KP330.trans K375 all0
        have Z375 : n0 ≤ T375.heap.size := Nat.le_trans Z330 K375.1
        have O_376 : Old Z n0 T375.heap := O_331.keep K375 all0
        have E_b6_377 : Exa Z T375.heap b6 "java/lang/String" := E_b6_332.keep K375
        have E_b30_378 : Exa Z T375.heap b30 "java/lang/String" := E_b30_333.keep K375
        have E_b61_379 : Exa Z T375.heap b61 "java/lang/String" := E_b61_334.keep K375
        have E_b97_380 : Exa Z T375.heap b97 "com/example/tidewheel/tidewheel/model/KeyedRequest$Answer" := E_b97_335.keep K375
        have E_b323_381 : Exa Z T375.heap b323 "com/example/tidewheel/tidewheel/model/KeyedRequest" := Eq330.keep K375
        have F_b323_key_382 : Fld Z T375.heap b323 "com/example/tidewheel/tidewheel/model/KeyedRequest" "key" "Ljava/lang/String;" (.ref b6) := Fq330_key.keep K375 nin0
        have F_b323_request_383 : Fld Z T375.heap b323 "com/example/tidewheel/tidewheel/model/KeyedRequest" "request" "Ljava/lang/String;" (.ref b30) := Fq330_request.keep K375 nin0
        have F_b323_resource_384 : Fld Z T375.heap b323 "com/example/tidewheel/tidewheel/model/KeyedRequest" "resource" "Ljava/lang/String;" (.ref b61) := Fq330_resource.keep K375 nin0
        have F_b323_answer_385 : Fld Z T375.heap b323 "com/example/tidewheel/tidewheel/model/KeyedRequest" "answer" "Lcom/example/tidewheel/tidewheel/model/KeyedRequest$Answer;" (.ref b97) := Fq330_answer.keep K375 nin0
        have pre386 : ∀ t, Steps p.tables e below (T375.setTop (mkF m 192 #[.val (.int p0), .val (.int p1), .val (.int p2), .val (.int p3), .val (.int p4), .val (.int p5), .val (.ref b6), .val (.ref b30), .val (.ref b61), .val (.ref b97), .val .null, .val (.ref b323), .val (.ref b375), .unset, .unset] [(.ref b375)])) t → Steps p.tables e below (s₁.setTop (entryFrame m #[(.int p0), (.int p1), (.int p2), (.int p3), (.int p4), (.int p5)] maxLocals)) t := by
          intro t kk
          refine pre337 t ?_
          show Steps p.tables e below (T330.setTop (mkF m 178 #[.val (.int p0), .val (.int p1), .val (.int p2), .val (.int p3), .val (.int p4), .val (.int p5), .val (.ref b6), .val (.ref b30), .val (.ref b61), .val (.ref b97), .val .null, .val (.ref b323), .unset, .unset, .unset] [.null, (.ref b323)])) _
          refine st375.trans ?_
          refine XS.astore X375.here hx rfl (hb hby at_181) rfl rfl (l' := #[.val (.int p0), .val (.int p1), .val (.int p2), .val (.int p3), .val (.int p4), .val (.int p5), .val (.ref b6), .val (.ref b30), .val (.ref b61), .val (.ref b97), .val .null, .val (.ref b323), .val (.ref b375), .unset, .unset]) rfl ?_
          refine XS.aload X375.here hx rfl (hb hby at_183) rfl rfl ?_
          refine XS.ifnonnullYes X375.here hx rfl (pc0 := 185) (pc' := 190) rfl (hb hby at_185) rfl (by decide) (by decide) ?_
          refine XS.aload X375.here hx rfl (hb hby at_190) rfl rfl ?_
          exact kk
        clear X330 st375 N375q N330 KP330 Z330 O_331 E_b6_332 E_b30_333 E_b61_334 E_b97_335 Eq330 Fq330_key Fq330_request Fq330_resource Fq330_answer K375 pre337
        as_aux_lemma =>
        obtain ⟨cq387, kq387, q387a, q387b, q387c⟩ := isOf hZ rfl Eq375
        obtain ⟨_, _, ⟨T387, L387, k387, n387⟩, -, X387, ⟨Lc387, hQ387, l387, y387, z387⟩, st387⟩ := X375.virtualBack hx (y := (⟨"com/example/tidewheel/tidewheel/model/KeyedRequest", "resource", "()Ljava/util/Optional;"⟩ : MethodName)) (z := (⟨"com/example/tidewheel/tidewheel/model/KeyedRequest", "resource", "()Ljava/util/Optional;"⟩ : MethodName)) hown (mt_68 hZ hw) (mt_69 hZ hw) (notFace_of_selects (args := #[]) (mt_71 hZ hw)) (mt_71 hZ hw) (mt_70 hZ hw) (by decide) (backOf (W := 0) (rm11_r l Z aA hw [] b375 b61 wE T375.heap n0 Z375 O_376 S_EMPTY X_EMPTY G_EMPTY Fq375_resource) hZ (hw _ tb_72) (hw _ tb_48) (by decide) (by decide)) q387a q387c (g := (mkF m 192 #[.val (.int p0), .val (.int p1), .val (.int p2), .val (.int p3), .val (.int p4), .val (.int p5), .val (.ref b6), .val (.ref b30), .val (.ref b61), .val (.ref b97), .val .null, .val (.ref b323), .val (.ref b375), .unset, .unset] [(.ref b375)])) rfl (by rw [hml]; rfl) (Steps.refl _) (argsL := []) (rest := []) (lenOf pd__28_29Ljava_2futil_2fOptional_3b rfl) rfl (by show 2 * 0 + _ ≤ _; exact Nat.le_of_eq rfl) (hb hby at_192) (fun _ _ => ⟨rfl, rfl, (by decide : 12 + 1 ≤ _), (by decide : 35 + 1 ≤ _)⟩)
        dsimp only [Pt.U, Pt.locs, Pt.cells, Pt.slots] at X387 l387 y387 z387 st387 hQ387
        replace l387 := l387.symm
        subst l387
        obtain rfl : k387 = 13 := y387
        obtain rfl : n387 = 36 := z387
        obtain ⟨b387, rfl, N387q, K387, Eq387, Fq387⟩ := hQ387
        have N387 := Fr.app N375 N387q
        have KP387 : Keep h0 T387.heap [] := KP375.trans K387 all0
        have Z387 : n0 ≤ T387.heap.size := Nat.le_trans Z375 K387.1
        have O_388 : Old Z n0 T387.heap := O_376.keep K387 all0
        have E_b6_389 : Exa Z T387.heap b6 "java/lang/String" := E_b6_377.keep K387
        have E_b30_390 : Exa Z T387.heap b30 "java/lang/String" := E_b30_378.keep K387
        have E_b61_391 : Exa Z T387.heap b61 "java/lang/String" := E_b61_379.keep K387
        have E_b97_392 : Exa Z T387.heap b97 "com/example/tidewheel/tidewheel/model/KeyedRequest$Answer" := E_b97_380.keep K387
        have E_b323_393 : Exa Z T387.heap b323 "com/example/tidewheel/tidewheel/model/KeyedRequest" := E_b323_381.keep K387
        have F_b323_key_394 : Fld Z T387.heap b323 "com/example/tidewheel/tidewheel/model/KeyedRequest" "key" "Ljava/lang/String;" (.ref b6) := F_b323_key_382.keep K387 nin0
        have F_b323_request_395 : Fld Z T387.heap b323 "com/example/tidewheel/tidewheel/model/KeyedRequest" "request" "Ljava/lang/String;" (.ref b30) := F_b323_request_383.keep K387 nin0
        have F_b323_resource_396 : Fld Z T387.heap b323 "com/example/tidewheel/tidewheel/model/KeyedRequest" "resource" "Ljava/lang/String;" (.ref b61) := F_b323_resource_384.keep K387 nin0
        have F_b323_answer_397 : Fld Z T387.heap b323 "com/example/tidewheel/tidewheel/model/KeyedRequest" "answer" "Lcom/example/tidewheel/tidewheel/model/KeyedRequest$Answer;" (.ref b97) := F_b323_answer_385.keep K387 nin0
        have E_b375_398 : Exa Z T387.heap b375 "com/example/tidewheel/tidewheel/model/KeyedRequest" := Eq375.keep K387
        have F_b375_key_399 : Fld Z T387.heap b375 "com/example/tidewheel/tidewheel/model/KeyedRequest" "key" "Ljava/lang/String;" (.ref b6) := Fq375_key.keep K387 nin0
        have F_b375_request_400 : Fld Z T387.heap b375 "com/example/tidewheel/tidewheel/model/KeyedRequest" "request" "Ljava/lang/String;" (.ref b30) := Fq375_request.keep K387 nin0
        have F_b375_resource_401 : Fld Z T387.heap b375 "com/example/tidewheel/tidewheel/model/KeyedRequest" "resource" "Ljava/lang/String;" (.ref b61) := Fq375_resource.keep K387 nin0
        have F_b375_answer_402 : Fld Z T387.heap b375 "com/example/tidewheel/tidewheel/model/KeyedRequest" "answer" "Lcom/example/tidewheel/tidewheel/model/KeyedRequest$Answer;" .null := Fq375_answer.keep K387 nin0
        have pre403 : ∀ t, Steps p.tables e below (T387.setTop (mkF m 196 #[.val (.int p0), .val (.int p1), .val (.int p2), .val (.int p3), .val (.int p4), .val (.int p5), .val (.ref b6), .val (.ref b30), .val (.ref b61), .val (.ref b97), .val .null, .val (.ref b323), .val (.ref b375), .unset, .unset] [.null, (.ref b387)])) t → Steps p.tables e below (s₁.setTop (entryFrame m #[(.int p0), (.int p1), (.int p2), (.int p3), (.int p4), (.int p5)] maxLocals)) t := by
          intro t kk
          refine pre386 t ?_
          show Steps p.tables e below (T375.setTop (mkF m 192 #[.val (.int p0), .val (.int p1), .val (.int p2), .val (.int p3), .val (.int p4), .val (.int p5), .val (.ref b6), .val (.ref b30), .val (.ref b61), .val (.ref b97), .val .null, .val (.ref b323), .val (.ref b375), .unset, .unset] [(.ref b375)])) _
          refine st387.trans ?_
          refine XS.aconstNull X387.here hx rfl (hb hby at_195) ?_
          exact kk
        clear X375 st387 N387q N375 KP375 Z375 O_376 E_b6_377 E_b30_378 E_b61_379 E_b97_380 E_b323_381 F_b323_key_382 F_b323_request_383 F_b323_resource_384 F_b323_answer_385 Eq375 Fq375_key Fq375_request Fq375_resource Fq375_answer K387 pre386
        as_aux_lemma =>
        obtain ⟨cq404, kq404, q404a, q404b, q404c⟩ := isOf hZ rfl Eq387
        obtain ⟨_, _, ⟨T404, L404, k404, n404⟩, -, X404, ⟨Lc404, hQ404, l404, y404, z404⟩, st404⟩ := X387.virtualBack hx (y := (⟨"java/util/Optional", "orElse", "(Ljava/lang/Object;)Ljava/lang/Object;"⟩ : MethodName)) (z := (⟨"java/util/Optional", "orElse", "(Ljava/lang/Object;)Ljava/lang/Object;"⟩ : MethodName)) hown (mt_78 hZ hw) (mt_79 hZ hw) (notFace_of_selects (args := #[]) (mt_81 hZ hw)) (mt_81 hZ hw) (mt_80 hZ hw) (by decide) (backOf (W := 0) (rm13_r l Z aA hw [] b387 b61 T387.heap n0 Z387 Fq387) hZ (hw _ tb_82) (hw _ tb_75) (by decide) (by decide)) q404a q404c (g := (mkF m 196 #[.val (.int p0), .val (.int p1), .val (.int p2), .val (.int p3), .val (.int p4), .val (.int p5), .val (.ref b6), .val (.ref b30), .val (.ref b61), .val (.ref b97), .val .null, .val (.ref b323), .val (.ref b375), .unset, .unset] [.null, (.ref b387)])) rfl (by rw [hml]; rfl) (Steps.refl _) (argsL := [.null]) (rest := []) (lenOf pd__28Ljava_2flang_2fObject_3b_29Ljava_2flang_2fObject_3b rfl) rfl (by show 2 * 0 + _ ≤ _; exact Nat.le_of_eq rfl) (hb hby at_196) (fun _ _ => ⟨rfl, rfl, (by decide : 13 + 0 ≤ _), (by decide : 36 + 0 ≤ _)⟩)
        dsimp only [Pt.U, Pt.locs, Pt.cells, Pt.slots] at X404 l404 y404 z404 st404 hQ404
        replace l404 := l404.symm
        subst l404
        obtain rfl : k404 = 13 := y404
        obtain rfl : n404 = 36 := z404
        obtain ⟨rfl, N404q, e404⟩ := hQ404
        have N404 := Fr.app N387 N404q
        obtain ⟨T405, X405, e405, st405⟩ := castY X404 hx hZ hown (hw _ tb_0) e404 (Ins.self E_b61_391) (g := (mkF m 199 #[.val (.int p0), .val (.int p1), .val (.int p2), .val (.int p3), .val (.int p4), .val (.int p5), .val (.ref b6), .val (.ref b30), .val (.ref b61), .val (.ref b97), .val .null, .val (.ref b323), .val (.ref b375), .unset, .unset] [(.ref b61)])) rfl rfl (hb hby at_199)
        have pre406 : ∀ t, Steps p.tables e below (T405.setTop (mkF m 226 #[.val (.int p0), .val (.int p1), .val (.int p2), .val (.int p3), .val (.int p4), .val (.int p5), .val (.ref b6), .val (.ref b30), .val (.ref b61), .val (.ref b97), .val .null, .val (.ref b323), .val (.ref b375), .val (.ref b61), .unset] [(.ref b61), (.ref b61)])) t → Steps p.tables e below (s₁.setTop (entryFrame m #[(.int p0), (.int p1), (.int p2), (.int p3), (.int p4), (.int p5)] maxLocals)) t := by
          intro t kk
          refine pre403 t ?_
          show Steps p.tables e below (T387.setTop (mkF m 196 #[.val (.int p0), .val (.int p1), .val (.int p2), .val (.int p3), .val (.int p4), .val (.int p5), .val (.ref b6), .val (.ref b30), .val (.ref b61), .val (.ref b97), .val .null, .val (.ref b323), .val (.ref b375), .unset, .unset] [.null, (.ref b387)])) _
          refine st404.trans ?_
          refine st405 _ ?_
          refine XS.astore X405.here hx rfl (hb hby at_202) rfl rfl (l' := #[.val (.int p0), .val (.int p1), .val (.int p2), .val (.int p3), .val (.int p4), .val (.int p5), .val (.ref b6), .val (.ref b30), .val (.ref b61), .val (.ref b97), .val .null, .val (.ref b323), .val (.ref b375), .val (.ref b61), .unset]) rfl ?_
          refine XS.aload X405.here hx rfl (hb hby at_204) rfl rfl ?_
          refine XS.ifnonnullYes X405.here hx rfl (pc0 := 206) (pc' := 222) rfl (hb hby at_206) rfl (by decide) (by decide) ?_
          refine XS.aload X405.here hx rfl (hb hby at_222) rfl rfl ?_
          refine XS.aload X405.here hx rfl (hb hby at_224) rfl rfl ?_
          exact kk
        clear X387 st404 N404q N387 X404 e404 st405 pre403
        as_aux_lemma =>
        obtain ⟨cq407, kq407, q407a, q407b, q407c⟩ := isOf hZ e405 E_b61_391
        obtain ⟨_, _, ⟨T407, L407, k407, n407⟩, -, X407, ⟨Lc407, hQ407, l407, y407, z407⟩, st407⟩ := X405.virtualBack hx (y := (⟨"java/lang/String", "equals", "(Ljava/lang/Object;)Z"⟩ : MethodName)) (z := (⟨"java/lang/String", "equals", "(Ljava/lang/Object;)Z"⟩ : MethodName)) hown (mt_90 hZ hw) (mt_91 hZ hw) (notFace_of_selects (args := #[]) (mt_93 hZ hw)) (mt_93 hZ hw) (mt_92 hZ hw) (by decide) (backOf (W := 0) (rm15 l Z aA hw [] b61 T387.heap n0 Z387) hZ (hw _ tb_94) (hw _ tb_2) (by decide) (by decide)) q407a q407c (g := (mkF m 226 #[.val (.int p0), .val (.int p1), .val (.int p2), .val (.int p3), .val (.int p4), .val (.int p5), .val (.ref b6), .val (.ref b30), .val (.ref b61), .val (.ref b97), .val .null, .val (.ref b323), .val (.ref b375), .val (.ref b61), .unset] [(.ref b61), (.ref b61)])) rfl (by rw [hml]; rfl) (Steps.refl _) (argsL := [(.ref b61)]) (rest := []) (lenOf pd__28Ljava_2flang_2fObject_3b_29Z rfl) rfl (by show 2 * 0 + _ ≤ _; exact Nat.le_of_eq rfl) (hb hby at_226) (fun _ _ => ⟨rfl, e405, (by decide : 13 + 0 ≤ _), (by decide : 36 + 0 ≤ _)⟩)
        dsimp only [Pt.U, Pt.locs, Pt.cells, Pt.slots] at X407 l407 y407 z407 st407 hQ407
        replace l407 := l407.symm
        subst l407
        obtain rfl : k407 = 13 := y407
        obtain rfl : n407 = 36 := z407
        obtain ⟨rfl, N407q, e407⟩ := hQ407
        have N407 := Fr.app N404 N407q
        have pre408 : ∀ t, Steps p.tables e below (T407.setTop (mkF m 235 #[.val (.int p0), .val (.int p1), .val (.int p2), .val (.int p3), .val (.int p4), .val (.int p5), .val (.ref b6), .val (.ref b30), .val (.ref b61), .val (.ref b97), .val .null, .val (.ref b323), .val (.ref b375), .val (.ref b61), .val (.int (1 : Int32))] [(.ref b375), (.ref b6)])) t → Steps p.tables e below (s₁.setTop (entryFrame m #[(.int p0), (.int p1), (.int p2), (.int p3), (.int p4), (.int p5)] maxLocals)) t := by
          intro t kk
          refine pre406 t ?_
          show Steps p.tables e below (T405.setTop (mkF m 226 #[.val (.int p0), .val (.int p1), .val (.int p2), .val (.int p3), .val (.int p4), .val (.int p5), .val (.ref b6), .val (.ref b30), .val (.ref b61), .val (.ref b97), .val .null, .val (.ref b323), .val (.ref b375), .val (.ref b61), .unset] [(.ref b61), (.ref b61)])) _
          refine st407.trans ?_
          refine XS.istore X407.here hx rfl (hb hby at_229) rfl (l' := #[.val (.int p0), .val (.int p1), .val (.int p2), .val (.int p3), .val (.int p4), .val (.int p5), .val (.ref b6), .val (.ref b30), .val (.ref b61), .val (.ref b97), .val .null, .val (.ref b323), .val (.ref b375), .val (.ref b61), .val (.int (1 : Int32))]) rfl ?_
          refine XS.aload X407.here hx rfl (hb hby at_231) rfl rfl ?_
          refine XS.aload X407.here hx rfl (hb hby at_233) rfl rfl ?_
          exact kk
        clear X405 e405 st407 N407q N404 pre406
        as_aux_lemma =>
        obtain ⟨cq409, kq409, q409a, q409b, q409c⟩ := isOf hZ e407 E_b375_398
        obtain ⟨_, _, ⟨T409, L409, k409, n409⟩, -, X409, ⟨Lc409, hQ409, l409, y409, z409⟩, st409⟩ := X407.virtualBack hx (y := (⟨"com/example/tidewheel/tidewheel/model/KeyedRequest", "key", "()Ljava/lang/String;"⟩ : MethodName)) (z := (⟨"com/example/tidewheel/tidewheel/model/KeyedRequest", "key", "()Ljava/lang/String;"⟩ : MethodName)) hown (mt_85 hZ hw) (mt_86 hZ hw) (notFace_of_selects (args := #[]) (mt_88 hZ hw)) (mt_88 hZ hw) (mt_87 hZ hw) (by decide) (backOf (W := 1) (rm14 l Z aA hw [] b375 b6 T387.heap n0 Z387 F_b375_key_399) hZ (hw _ tb_89) (hw _ tb_48) (by decide) (by decide)) q409a q409c (g := (mkF m 235 #[.val (.int p0), .val (.int p1), .val (.int p2), .val (.int p3), .val (.int p4), .val (.int p5), .val (.ref b6), .val (.ref b30), .val (.ref b61), .val (.ref b97), .val .null, .val (.ref b323), .val (.ref b375), .val (.ref b61), .val (.int (1 : Int32))] [(.ref b375), (.ref b6)])) rfl (by rw [hml]; rfl) (Steps.refl _) (argsL := []) (rest := [(.ref b6)]) (lenOf pd__28_29Ljava_2flang_2fString_3b rfl) rfl (by show 2 * 0 + _ ≤ _; exact Nat.le_of_eq rfl) (hb hby at_235) (fun _ _ => ⟨rfl, e407, (by decide : 13 + 0 ≤ _), (by decide : 36 + 0 ≤ _)⟩)
        dsimp only [Pt.U, Pt.locs, Pt.cells, Pt.slots] at X409 l409 y409 z409 st409 hQ409
        replace l409 := l409.symm
        subst l409
        obtain rfl : k409 = 13 := y409
        obtain rfl : n409 = 36 := z409
        obtain ⟨rfl, N409q, e409⟩ := hQ409
        have N409 := Fr.app N407 N409q
        have pre410 : ∀ t, Steps p.tables e below (T409.setTop (mkF m 238 #[.val (.int p0), .val (.int p1), .val (.int p2), .val (.int p3), .val (.int p4), .val (.int p5), .val (.ref b6), .val (.ref b30), .val (.ref b61), .val (.ref b97), .val .null, .val (.ref b323), .val (.ref b375), .val (.ref b61), .val (.int (1 : Int32))] [(.ref b6), (.ref b6)])) t → Steps p.tables e below (s₁.setTop (entryFrame m #[(.int p0), (.int p1), (.int p2), (.int p3), (.int p4), (.int p5)] maxLocals)) t := by
          intro t kk
          refine pre408 t ?_
          show Steps p.tables e below (T407.setTop (mkF m 235 #[.val (.int p0), .val (.int p1), .val (.int p2), .val (.int p3), .val (.int p4), .val (.int p5), .val (.ref b6), .val (.ref b30), .val (.ref b61), .val (.ref b97), .val .null, .val (.ref b323), .val (.ref b375), .val (.ref b61), .val (.int (1 : Int32))] [(.ref b375), (.ref b6)])) _
          refine st409.trans ?_
          exact kk
        clear X407 e407 st409 N409q N407 pre408
        as_aux_lemma =>
        obtain ⟨cq411, kq411, q411a, q411b, q411c⟩ := isOf hZ e409 E_b6_389
        obtain ⟨_, _, ⟨T411, L411, k411, n411⟩, -, X411, ⟨Lc411, hQ411, l411, y411, z411⟩, st411⟩ := X409.virtualBack hx (y := (⟨"java/lang/String", "equals", "(Ljava/lang/Object;)Z"⟩ : MethodName)) (z := (⟨"java/lang/String", "equals", "(Ljava/lang/Object;)Z"⟩ : MethodName)) hown (mt_90 hZ hw) (mt_91 hZ hw) (notFace_of_selects (args := #[]) (mt_93 hZ hw)) (mt_93 hZ hw) (mt_92 hZ hw) (by decide) (backOf (W := 0) (rm15 l Z aA hw [] b6 T387.heap n0 Z387) hZ (hw _ tb_94) (hw _ tb_2) (by decide) (by decide)) q411a q411c (g := (mkF m 238 #[.val (.int p0), .val (.int p1), .val (.int p2), .val (.int p3), .val (.int p4), .val (.int p5), .val (.ref b6), .val (.ref b30), .val (.ref b61), .val (.ref b97), .val .null, .val (.ref b323), .val (.ref b375), .val (.ref b61), .val (.int (1 : Int32))] [(.ref b6), (.ref b6)])) rfl (by rw [hml]; rfl) (Steps.refl _) (argsL := [(.ref b6)]) (rest := []) (lenOf pd__28Ljava_2flang_2fObject_3b_29Z rfl) rfl (by show 2 * 0 + _ ≤ _; exact Nat.le_of_eq rfl) (hb hby at_238) (fun _ _ => ⟨rfl, e409, (by decide : 13 + 0 ≤ _), (by decide : 36 + 0 ≤ _)⟩)
        dsimp only [Pt.U, Pt.locs, Pt.cells, Pt.slots] at X411 l411 y411 z411 st411 hQ411
        replace l411 := l411.symm
        subst l411
        obtain rfl : k411 = 13 := y411
        obtain rfl : n411 = 36 := z411
        obtain ⟨rfl, N411q, e411⟩ := hQ411
        have N411 := Fr.app N409 N411q
        have pre412 : ∀ t, Steps p.tables e below (T411.setTop (mkF m 248 #[.val (.int p0), .val (.int p1), .val (.int p2), .val (.int p3), .val (.int p4), .val (.int p5), .val (.ref b6), .val (.ref b30), .val (.ref b61), .val (.ref b97), .val .null, .val (.ref b323), .val (.ref b375), .val (.ref b61), .val (.int (1 : Int32))] [(.ref b375), (.ref b30)])) t → Steps p.tables e below (s₁.setTop (entryFrame m #[(.int p0), (.int p1), (.int p2), (.int p3), (.int p4), (.int p5)] maxLocals)) t := by
          intro t kk
          refine pre410 t ?_
          show Steps p.tables e below (T409.setTop (mkF m 238 #[.val (.int p0), .val (.int p1), .val (.int p2), .val (.int p3), .val (.int p4), .val (.int p5), .val (.ref b6), .val (.ref b30), .val (.ref b61), .val (.ref b97), .val .null, .val (.ref b323), .val (.ref b375), .val (.ref b61), .val (.int (1 : Int32))] [(.ref b6), (.ref b6)])) _
          refine st411.trans ?_
          refine XS.ifNo X411.here hx rfl (hb hby at_241) rfl ((if0 _ _).trans (feq (by decide : ¬ ((1 : Int32) = (0 : Int32)))).1) ?_
          refine XS.aload X411.here hx rfl (hb hby at_244) rfl rfl ?_
          refine XS.aload X411.here hx rfl (hb hby at_246) rfl rfl ?_
          exact kk
        clear X409 e409 st411 N411q N409 pre410
        as_aux_lemma =>
        obtain ⟨cq413, kq413, q413a, q413b, q413c⟩ := isOf hZ e411 E_b375_398
        obtain ⟨_, _, ⟨T413, L413, k413, n413⟩, -, X413, ⟨Lc413, hQ413, l413, y413, z413⟩, st413⟩ := X411.virtualBack hx (y := (⟨"com/example/tidewheel/tidewheel/model/KeyedRequest", "request", "()Ljava/lang/String;"⟩ : MethodName)) (z := (⟨"com/example/tidewheel/tidewheel/model/KeyedRequest", "request", "()Ljava/lang/String;"⟩ : MethodName)) hown (mt_95 hZ hw) (mt_96 hZ hw) (notFace_of_selects (args := #[]) (mt_98 hZ hw)) (mt_98 hZ hw) (mt_97 hZ hw) (by decide) (backOf (W := 1) (rm16 l Z aA hw [] b375 b30 T387.heap n0 Z387 F_b375_request_400) hZ (hw _ tb_99) (hw _ tb_48) (by decide) (by decide)) q413a q413c (g := (mkF m 248 #[.val (.int p0), .val (.int p1), .val (.int p2), .val (.int p3), .val (.int p4), .val (.int p5), .val (.ref b6), .val (.ref b30), .val (.ref b61), .val (.ref b97), .val .null, .val (.ref b323), .val (.ref b375), .val (.ref b61), .val (.int (1 : Int32))] [(.ref b375), (.ref b30)])) rfl (by rw [hml]; rfl) (Steps.refl _) (argsL := []) (rest := [(.ref b30)]) (lenOf pd__28_29Ljava_2flang_2fString_3b rfl) rfl (by show 2 * 0 + _ ≤ _; exact Nat.le_of_eq rfl) (hb hby at_248) (fun _ _ => ⟨rfl, e411, (by decide : 13 + 0 ≤ _), (by decide : 36 + 0 ≤ _)⟩)
        dsimp only [Pt.U, Pt.locs, Pt.cells, Pt.slots] at X413 l413 y413 z413 st413 hQ413
        replace l413 := l413.symm
        subst l413
        obtain rfl : k413 = 13 := y413
        obtain rfl : n413 = 36 := z413
        obtain ⟨rfl, N413q, e413⟩ := hQ413
        have N413 := Fr.app N411 N413q
        have pre414 : ∀ t, Steps p.tables e below (T413.setTop (mkF m 251 #[.val (.int p0), .val (.int p1), .val (.int p2), .val (.int p3), .val (.int p4), .val (.int p5), .val (.ref b6), .val (.ref b30), .val (.ref b61), .val (.ref b97), .val .null, .val (.ref b323), .val (.ref b375), .val (.ref b61), .val (.int (1 : Int32))] [(.ref b30), (.ref b30)])) t → Steps p.tables e below (s₁.setTop (entryFrame m #[(.int p0), (.int p1), (.int p2), (.int p3), (.int p4), (.int p5)] maxLocals)) t := by
          intro t kk
          refine pre412 t ?_
          show Steps p.tables e below (T411.setTop (mkF m 248 #[.val (.int p0), .val (.int p1), .val (.int p2), .val (.int p3), .val (.int p4), .val (.int p5), .val (.ref b6), .val (.ref b30), .val (.ref b61), .val (.ref b97), .val .null, .val (.ref b323), .val (.ref b375), .val (.ref b61), .val (.int (1 : Int32))] [(.ref b375), (.ref b30)])) _
          refine st413.trans ?_
          exact kk
        clear X411 e411 st413 N413q N411 pre412
        as_aux_lemma =>
        obtain ⟨cq415, kq415, q415a, q415b, q415c⟩ := isOf hZ e413 E_b30_390
        obtain ⟨_, _, ⟨T415, L415, k415, n415⟩, -, X415, ⟨Lc415, hQ415, l415, y415, z415⟩, st415⟩ := X413.virtualBack hx (y := (⟨"java/lang/String", "equals", "(Ljava/lang/Object;)Z"⟩ : MethodName)) (z := (⟨"java/lang/String", "equals", "(Ljava/lang/Object;)Z"⟩ : MethodName)) hown (mt_90 hZ hw) (mt_91 hZ hw) (notFace_of_selects (args := #[]) (mt_93 hZ hw)) (mt_93 hZ hw) (mt_92 hZ hw) (by decide) (backOf (W := 0) (rm15 l Z aA hw [] b30 T387.heap n0 Z387) hZ (hw _ tb_94) (hw _ tb_2) (by decide) (by decide)) q415a q415c (g := (mkF m 251 #[.val (.int p0), .val (.int p1), .val (.int p2), .val (.int p3), .val (.int p4), .val (.int p5), .val (.ref b6), .val (.ref b30), .val (.ref b61), .val (.ref b97), .val .null, .val (.ref b323), .val (.ref b375), .val (.ref b61), .val (.int (1 : Int32))] [(.ref b30), (.ref b30)])) rfl (by rw [hml]; rfl) (Steps.refl _) (argsL := [(.ref b30)]) (rest := []) (lenOf pd__28Ljava_2flang_2fObject_3b_29Z rfl) rfl (by show 2 * 0 + _ ≤ _; exact Nat.le_of_eq rfl) (hb hby at_251) (fun _ _ => ⟨rfl, e413, (by decide : 13 + 0 ≤ _), (by decide : 36 + 0 ≤ _)⟩)
        dsimp only [Pt.U, Pt.locs, Pt.cells, Pt.slots] at X415 l415 y415 z415 st415 hQ415
        replace l415 := l415.symm
        subst l415
        obtain rfl : k415 = 13 := y415
        obtain rfl : n415 = 36 := z415
        obtain ⟨rfl, N415q, e415⟩ := hQ415
        have N415 := Fr.app N413 N415q
        have pre416 : ∀ t, Steps p.tables e below (T415.setTop (mkF m 264 #[.val (.int p0), .val (.int p1), .val (.int p2), .val (.int p3), .val (.int p4), .val (.int p5), .val (.ref b6), .val (.ref b30), .val (.ref b61), .val (.ref b97), .val .null, .val (.ref b323), .val (.ref b375), .val (.ref b61), .val (.int (1 : Int32))] [(.ref b375)])) t → Steps p.tables e below (s₁.setTop (entryFrame m #[(.int p0), (.int p1), (.int p2), (.int p3), (.int p4), (.int p5)] maxLocals)) t := by
          intro t kk
          refine pre414 t ?_
          show Steps p.tables e below (T413.setTop (mkF m 251 #[.val (.int p0), .val (.int p1), .val (.int p2), .val (.int p3), .val (.int p4), .val (.int p5), .val (.ref b6), .val (.ref b30), .val (.ref b61), .val (.ref b97), .val .null, .val (.ref b323), .val (.ref b375), .val (.ref b61), .val (.int (1 : Int32))] [(.ref b30), (.ref b30)])) _
          refine st415.trans ?_
          refine XS.ifNo X415.here hx rfl (hb hby at_254) rfl ((if0 _ _).trans (feq (by decide : ¬ ((1 : Int32) = (0 : Int32)))).1) ?_
          refine XS.iload X415.here hx rfl (hb hby at_257) rfl ?_
          refine XS.ifNo X415.here hx rfl (hb hby at_259) rfl ((if0 _ _).trans (feq (by decide : ¬ ((1 : Int32) = (0 : Int32)))).1) ?_
          refine XS.aload X415.here hx rfl (hb hby at_262) rfl rfl ?_
          exact kk
        clear X413 e413 st415 N415q N413 pre414
        as_aux_lemma =>
        obtain ⟨cq427, kq427, q427a, q427b, q427c⟩ := isOf hZ e415 E_b375_398
        obtain ⟨_, _, ⟨T427, L427, k427, n427⟩, -, X427, ⟨Lc427, hQ427, l427, y427, z427⟩, st427⟩ := X415.virtualBack hx (y := (⟨"com/example/tidewheel/tidewheel/model/KeyedRequest", "answer", "()Ljava/util/Optional;"⟩ : MethodName)) (z := (⟨"com/example/tidewheel/tidewheel/model/KeyedRequest", "answer", "()Ljava/util/Optional;"⟩ : MethodName)) hown (mt_100 hZ hw) (mt_101 hZ hw) (notFace_of_selects (args := #[]) (mt_103 hZ hw)) (mt_103 hZ hw) (mt_102 hZ hw) (by decide) (backOf (W := 0) (rm17_n l Z aA hw [] b375  wE T387.heap n0 Z387 O_388 S_EMPTY X_EMPTY G_EMPTY F_b375_answer_402) hZ (hw _ tb_104) (hw _ tb_48) (by decide) (by decide)) q427a q427c (g := (mkF m 264 #[.val (.int p0), .val (.int p1), .val (.int p2), .val (.int p3), .val (.int p4), .val (.int p5), .val (.ref b6), .val (.ref b30), .val (.ref b61), .val (.ref b97), .val .null, .val (.ref b323), .val (.ref b375), .val (.ref b61), .val (.int (1 : Int32))] [(.ref b375)])) rfl (by rw [hml]; rfl) (Steps.refl _) (argsL := []) (rest := []) (lenOf pd__28_29Ljava_2futil_2fOptional_3b rfl) rfl (by show 2 * 0 + _ ≤ _; exact Nat.le_of_eq rfl) (hb hby at_264) (fun _ _ => ⟨rfl, e415, (by decide : 13 + 1 ≤ _), (by decide : 36 + 1 ≤ _)⟩)
        dsimp only [Pt.U, Pt.locs, Pt.cells, Pt.slots] at X427 l427 y427 z427 st427 hQ427
        replace l427 := l427.symm
        subst l427
        obtain rfl : k427 = 14 := y427
        obtain rfl : n427 = 37 := z427
        obtain ⟨b427, rfl, N427q, K427, Eq427, Fq427⟩ := hQ427
        have N427 := Fr.app N415 N427q
        have KP427 : Keep h0 T427.heap [] := KP387.trans K427 all0
        have Z427 : n0 ≤ T427.heap.size := Nat.le_trans Z387 K427.1
        have O_428 : Old Z n0 T427.heap := O_388.keep K427 all0
        have E_b6_429 : Exa Z T427.heap b6 "java/lang/String" := E_b6_389.keep K427
        have E_b30_430 : Exa Z T427.heap b30 "java/lang/String" := E_b30_390.keep K427
        have E_b61_431 : Exa Z T427.heap b61 "java/lang/String" := E_b61_391.keep K427
        have E_b97_432 : Exa Z T427.heap b97 "com/example/tidewheel/tidewheel/model/KeyedRequest$Answer" := E_b97_392.keep K427
        have E_b323_433 : Exa Z T427.heap b323 "com/example/tidewheel/tidewheel/model/KeyedRequest" := E_b323_393.keep K427
        have F_b323_key_434 : Fld Z T427.heap b323 "com/example/tidewheel/tidewheel/model/KeyedRequest" "key" "Ljava/lang/String;" (.ref b6) := F_b323_key_394.keep K427 nin0
        have F_b323_request_435 : Fld Z T427.heap b323 "com/example/tidewheel/tidewheel/model/KeyedRequest" "request" "Ljava/lang/String;" (.ref b30) := F_b323_request_395.keep K427 nin0
        have F_b323_resource_436 : Fld Z T427.heap b323 "com/example/tidewheel/tidewheel/model/KeyedRequest" "resource" "Ljava/lang/String;" (.ref b61) := F_b323_resource_396.keep K427 nin0
        have F_b323_answer_437 : Fld Z T427.heap b323 "com/example/tidewheel/tidewheel/model/KeyedRequest" "answer" "Lcom/example/tidewheel/tidewheel/model/KeyedRequest$Answer;" (.ref b97) := F_b323_answer_397.keep K427 nin0
        have E_b375_438 : Exa Z T427.heap b375 "com/example/tidewheel/tidewheel/model/KeyedRequest" := E_b375_398.keep K427
        have F_b375_key_439 : Fld Z T427.heap b375 "com/example/tidewheel/tidewheel/model/KeyedRequest" "key" "Ljava/lang/String;" (.ref b6) := F_b375_key_399.keep K427 nin0
        have F_b375_request_440 : Fld Z T427.heap b375 "com/example/tidewheel/tidewheel/model/KeyedRequest" "request" "Ljava/lang/String;" (.ref b30) := F_b375_request_400.keep K427 nin0
        have F_b375_resource_441 : Fld Z T427.heap b375 "com/example/tidewheel/tidewheel/model/KeyedRequest" "resource" "Ljava/lang/String;" (.ref b61) := F_b375_resource_401.keep K427 nin0
        have F_b375_answer_442 : Fld Z T427.heap b375 "com/example/tidewheel/tidewheel/model/KeyedRequest" "answer" "Lcom/example/tidewheel/tidewheel/model/KeyedRequest$Answer;" .null := F_b375_answer_402.keep K427 nin0
        have E_b387_443 : Exa Z T427.heap b387 "java/util/Optional" := Eq387.keep K427
        have F_b387_value_444 : Fld Z T427.heap b387 "java/util/Optional" "value" "Ljava/lang/Object;" (.ref b61) := Fq387.keep K427 nin0
        have pre445 : ∀ t, Steps p.tables e below (T427.setTop (mkF m 268 #[.val (.int p0), .val (.int p1), .val (.int p2), .val (.int p3), .val (.int p4), .val (.int p5), .val (.ref b6), .val (.ref b30), .val (.ref b61), .val (.ref b97), .val .null, .val (.ref b323), .val (.ref b375), .val (.ref b61), .val (.int (1 : Int32))] [.null, (.ref b427)])) t → Steps p.tables e below (s₁.setTop (entryFrame m #[(.int p0), (.int p1), (.int p2), (.int p3), (.int p4), (.int p5)] maxLocals)) t := by
          intro t kk
          refine pre416 t ?_
          show Steps p.tables e below (T415.setTop (mkF m 264 #[.val (.int p0), .val (.int p1), .val (.int p2), .val (.int p3), .val (.int p4), .val (.int p5), .val (.ref b6), .val (.ref b30), .val (.ref b61), .val (.ref b97), .val .null, .val (.ref b323), .val (.ref b375), .val (.ref b61), .val (.int (1 : Int32))] [(.ref b375)])) _
          refine st427.trans ?_
          refine XS.aconstNull X427.here hx rfl (hb hby at_267) ?_
          exact kk
        clear X415 e415 st427 N427q N415 KP387 Z387 O_388 E_b6_389 E_b30_390 E_b61_391 E_b97_392 E_b323_393 F_b323_key_394 F_b323_request_395 F_b323_resource_396 F_b323_answer_397 E_b375_398 F_b375_key_399 F_b375_request_400 F_b375_resource_401 F_b375_answer_402 Eq387 Fq387 K427 pre416
        as_aux_lemma =>
        obtain ⟨cq448, kq448, q448a, q448b, q448c⟩ := isOf hZ rfl Eq427
        obtain ⟨_, _, ⟨T448, L448, k448, n448⟩, -, X448, ⟨Lc448, hQ448, l448, y448, z448⟩, st448⟩ := X427.virtualBack hx (y := (⟨"java/util/Optional", "orElse", "(Ljava/lang/Object;)Ljava/lang/Object;"⟩ : MethodName)) (z := (⟨"java/util/Optional", "orElse", "(Ljava/lang/Object;)Ljava/lang/Object;"⟩ : MethodName)) hown (mt_78 hZ hw) (mt_79 hZ hw) (notFace_of_selects (args := #[]) (mt_81 hZ hw)) (mt_81 hZ hw) (mt_80 hZ hw) (by decide) (backOf (W := 0) (rm13_n l Z aA hw [] b427  T427.heap n0 Z427 Fq427) hZ (hw _ tb_82) (hw _ tb_75) (by decide) (by decide)) q448a q448c (g := (mkF m 268 #[.val (.int p0), .val (.int p1), .val (.int p2), .val (.int p3), .val (.int p4), .val (.int p5), .val (.ref b6), .val (.ref b30), .val (.ref b61), .val (.ref b97), .val .null, .val (.ref b323), .val (.ref b375), .val (.ref b61), .val (.int (1 : Int32))] [.null, (.ref b427)])) rfl (by rw [hml]; rfl) (Steps.refl _) (argsL := [.null]) (rest := []) (lenOf pd__28Ljava_2flang_2fObject_3b_29Ljava_2flang_2fObject_3b rfl) rfl (by show 2 * 0 + _ ≤ _; exact Nat.le_of_eq rfl) (hb hby at_268) (fun _ _ => ⟨rfl, rfl, (by decide : 14 + 0 ≤ _), (by decide : 37 + 0 ≤ _)⟩)
        dsimp only [Pt.U, Pt.locs, Pt.cells, Pt.slots] at X448 l448 y448 z448 st448 hQ448
        replace l448 := l448.symm
        subst l448
        obtain rfl : k448 = 14 := y448
        obtain rfl : n448 = 37 := z448
        obtain ⟨rfl, N448q, e448⟩ := hQ448
        have N448 := Fr.app N427 N448q
        have pre449 : ∀ t, Steps p.tables e below (T448.setTop (mkF m 278 #[.val (.int p0), .val (.int p1), .val (.int p2), .val (.int p3), .val (.int p4), .val (.int p5), .val (.ref b6), .val (.ref b30), .val (.ref b61), .val (.ref b97), .val .null, .val (.ref b323), .val (.ref b375), .val (.ref b61), .val (.int (1 : Int32))] [(.ref b323)])) t → Steps p.tables e below (s₁.setTop (entryFrame m #[(.int p0), (.int p1), (.int p2), (.int p3), (.int p4), (.int p5)] maxLocals)) t := by
          intro t kk
          refine pre445 t ?_
          show Steps p.tables e below (T427.setTop (mkF m 268 #[.val (.int p0), .val (.int p1), .val (.int p2), .val (.int p3), .val (.int p4), .val (.int p5), .val (.ref b6), .val (.ref b30), .val (.ref b61), .val (.ref b97), .val .null, .val (.ref b323), .val (.ref b375), .val (.ref b61), .val (.int (1 : Int32))] [.null, (.ref b427)])) _
          refine st448.trans ?_
          refine XS.aload X448.here hx rfl (hb hby at_271) rfl rfl ?_
          refine Jvm.RoadKit.acmp (g := (mkF m 273 #[.val (.int p0), .val (.int p1), .val (.int p2), .val (.int p3), .val (.int p4), .val (.int p5), .val (.ref b6), .val (.ref b30), .val (.ref b61), .val (.ref b97), .val .null, .val (.ref b323), .val (.ref b375), .val (.ref b61), .val (.int (1 : Int32))] [.null, .null])) X448 hx rfl rfl rfl (pc0 := 273) (pc' := 276) (same := true) rfl (hb hby at_273) rfl (decide_eq_true rfl) (by decide) (by decide) ?_
          refine XS.aload X448.here hx rfl (hb hby at_276) rfl rfl ?_
          exact kk
        clear X427 st448 N448q N427 pre445
        as_aux_lemma =>
        obtain ⟨cq450, kq450, q450a, q450b, q450c⟩ := isOf hZ e448 E_b323_433
        obtain ⟨_, _, ⟨T450, L450, k450, n450⟩, -, X450, ⟨Lc450, hQ450, l450, y450, z450⟩, st450⟩ := X448.virtualBack hx (y := (⟨"com/example/tidewheel/tidewheel/model/KeyedRequest", "answer", "()Ljava/util/Optional;"⟩ : MethodName)) (z := (⟨"com/example/tidewheel/tidewheel/model/KeyedRequest", "answer", "()Ljava/util/Optional;"⟩ : MethodName)) hown (mt_100 hZ hw) (mt_101 hZ hw) (notFace_of_selects (args := #[]) (mt_103 hZ hw)) (mt_103 hZ hw) (mt_102 hZ hw) (by decide) (backOf (W := 0) (rm17_r l Z aA hw [] b323 b97 wE T427.heap n0 Z427 O_428 S_EMPTY X_EMPTY G_EMPTY F_b323_answer_437) hZ (hw _ tb_104) (hw _ tb_48) (by decide) (by decide)) q450a q450c (g := (mkF m 278 #[.val (.int p0), .val (.int p1), .val (.int p2), .val (.int p3), .val (.int p4), .val (.int p5), .val (.ref b6), .val (.ref b30), .val (.ref b61), .val (.ref b97), .val .null, .val (.ref b323), .val (.ref b375), .val (.ref b61), .val (.int (1 : Int32))] [(.ref b323)])) rfl (by rw [hml]; rfl) (Steps.refl _) (argsL := []) (rest := []) (lenOf pd__28_29Ljava_2futil_2fOptional_3b rfl) rfl (by show 2 * 0 + _ ≤ _; exact Nat.le_of_eq rfl) (hb hby at_278) (fun _ _ => ⟨rfl, e448, (by decide : 14 + 1 ≤ _), (by decide : 37 + 1 ≤ _)⟩)
        dsimp only [Pt.U, Pt.locs, Pt.cells, Pt.slots] at X450 l450 y450 z450 st450 hQ450
        replace l450 := l450.symm
        subst l450
        obtain rfl : k450 = 15 := y450
        obtain rfl : n450 = 38 := z450
        obtain ⟨b450, rfl, N450q, K450, Eq450, Fq450⟩ := hQ450
        have N450 := Fr.app N448 N450q
        have KP450 : Keep h0 T450.heap [] := KP427.trans K450 all0
        have Z450 : n0 ≤ T450.heap.size := Nat.le_trans Z427 K450.1
        have O_451 : Old Z n0 T450.heap := O_428.keep K450 all0
        have E_b6_452 : Exa Z T450.heap b6 "java/lang/String" := E_b6_429.keep K450
        have E_b30_453 : Exa Z T450.heap b30 "java/lang/String" := E_b30_430.keep K450
        have E_b61_454 : Exa Z T450.heap b61 "java/lang/String" := E_b61_431.keep K450
        have E_b97_455 : Exa Z T450.heap b97 "com/example/tidewheel/tidewheel/model/KeyedRequest$Answer" := E_b97_432.keep K450
        have E_b323_456 : Exa Z T450.heap b323 "com/example/tidewheel/tidewheel/model/KeyedRequest" := E_b323_433.keep K450
        have F_b323_key_457 : Fld Z T450.heap b323 "com/example/tidewheel/tidewheel/model/KeyedRequest" "key" "Ljava/lang/String;" (.ref b6) := F_b323_key_434.keep K450 nin0
        have F_b323_request_458 : Fld Z T450.heap b323 "com/example/tidewheel/tidewheel/model/KeyedRequest" "request" "Ljava/lang/String;" (.ref b30) := F_b323_request_435.keep K450 nin0
        have F_b323_resource_459 : Fld Z T450.heap b323 "com/example/tidewheel/tidewheel/model/KeyedRequest" "resource" "Ljava/lang/String;" (.ref b61) := F_b323_resource_436.keep K450 nin0
        have F_b323_answer_460 : Fld Z T450.heap b323 "com/example/tidewheel/tidewheel/model/KeyedRequest" "answer" "Lcom/example/tidewheel/tidewheel/model/KeyedRequest$Answer;" (.ref b97) := F_b323_answer_437.keep K450 nin0
        have E_b375_461 : Exa Z T450.heap b375 "com/example/tidewheel/tidewheel/model/KeyedRequest" := E_b375_438.keep K450
        have F_b375_key_462 : Fld Z T450.heap b375 "com/example/tidewheel/tidewheel/model/KeyedRequest" "key" "Ljava/lang/String;" (.ref b6) := F_b375_key_439.keep K450 nin0
        have F_b375_request_463 : Fld Z T450.heap b375 "com/example/tidewheel/tidewheel/model/KeyedRequest" "request" "Ljava/lang/String;" (.ref b30) := F_b375_request_440.keep K450 nin0
        have F_b375_resource_464 : Fld Z T450.heap b375 "com/example/tidewheel/tidewheel/model/KeyedRequest" "resource" "Ljava/lang/String;" (.ref b61) := F_b375_resource_441.keep K450 nin0
        have F_b375_answer_465 : Fld Z T450.heap b375 "com/example/tidewheel/tidewheel/model/KeyedRequest" "answer" "Lcom/example/tidewheel/tidewheel/model/KeyedRequest$Answer;" .null := F_b375_answer_442.keep K450 nin0
        have E_b387_466 : Exa Z T450.heap b387 "java/util/Optional" := E_b387_443.keep K450
        have F_b387_value_467 : Fld Z T450.heap b387 "java/util/Optional" "value" "Ljava/lang/Object;" (.ref b61) := F_b387_value_444.keep K450 nin0
        have E_b427_468 : Exa Z T450.heap b427 "java/util/Optional" := Eq427.keep K450
        have F_b427_value_469 : Fld Z T450.heap b427 "java/util/Optional" "value" "Ljava/lang/Object;" .null := Fq427.keep K450 nin0
        have pre470 : ∀ t, Steps p.tables e below (T450.setTop (mkF m 282 #[.val (.int p0), .val (.int p1), .val (.int p2), .val (.int p3), .val (.int p4), .val (.int p5), .val (.ref b6), .val (.ref b30), .val (.ref b61), .val (.ref b97), .val .null, .val (.ref b323), .val (.ref b375), .val (.ref b61), .val (.int (1 : Int32))] [.null, (.ref b450)])) t → Steps p.tables e below (s₁.setTop (entryFrame m #[(.int p0), (.int p1), (.int p2), (.int p3), (.int p4), (.int p5)] maxLocals)) t := by
          intro t kk
          refine pre449 t ?_
          show Steps p.tables e below (T448.setTop (mkF m 278 #[.val (.int p0), .val (.int p1), .val (.int p2), .val (.int p3), .val (.int p4), .val (.int p5), .val (.ref b6), .val (.ref b30), .val (.ref b61), .val (.ref b97), .val .null, .val (.ref b323), .val (.ref b375), .val (.ref b61), .val (.int (1 : Int32))] [(.ref b323)])) _
          refine st450.trans ?_
          refine XS.aconstNull X450.here hx rfl (hb hby at_281) ?_
          exact kk
        clear X448 e448 st450 N450q N448 KP427 Z427 O_428 E_b6_429 E_b30_430 E_b61_431 E_b97_432 E_b323_433 F_b323_key_434 F_b323_request_435 F_b323_resource_436 F_b323_answer_437 E_b375_438 F_b375_key_439 F_b375_request_440 F_b375_resource_441 F_b375_answer_442 E_b387_443 F_b387_value_444 Eq427 Fq427 K450 pre449
        as_aux_lemma =>
        obtain ⟨cq471, kq471, q471a, q471b, q471c⟩ := isOf hZ rfl Eq450
        obtain ⟨_, _, ⟨T471, L471, k471, n471⟩, -, X471, ⟨Lc471, hQ471, l471, y471, z471⟩, st471⟩ := X450.virtualBack hx (y := (⟨"java/util/Optional", "orElse", "(Ljava/lang/Object;)Ljava/lang/Object;"⟩ : MethodName)) (z := (⟨"java/util/Optional", "orElse", "(Ljava/lang/Object;)Ljava/lang/Object;"⟩ : MethodName)) hown (mt_78 hZ hw) (mt_79 hZ hw) (notFace_of_selects (args := #[]) (mt_81 hZ hw)) (mt_81 hZ hw) (mt_80 hZ hw) (by decide) (backOf (W := 0) (rm13_r l Z aA hw [] b450 b97 T450.heap n0 Z450 Fq450) hZ (hw _ tb_82) (hw _ tb_75) (by decide) (by decide)) q471a q471c (g := (mkF m 282 #[.val (.int p0), .val (.int p1), .val (.int p2), .val (.int p3), .val (.int p4), .val (.int p5), .val (.ref b6), .val (.ref b30), .val (.ref b61), .val (.ref b97), .val .null, .val (.ref b323), .val (.ref b375), .val (.ref b61), .val (.int (1 : Int32))] [.null, (.ref b450)])) rfl (by rw [hml]; rfl) (Steps.refl _) (argsL := [.null]) (rest := []) (lenOf pd__28Ljava_2flang_2fObject_3b_29Ljava_2flang_2fObject_3b rfl) rfl (by show 2 * 0 + _ ≤ _; exact Nat.le_of_eq rfl) (hb hby at_282) (fun _ _ => ⟨rfl, rfl, (by decide : 15 + 0 ≤ _), (by decide : 38 + 0 ≤ _)⟩)
        dsimp only [Pt.U, Pt.locs, Pt.cells, Pt.slots] at X471 l471 y471 z471 st471 hQ471
        replace l471 := l471.symm
        subst l471
        obtain rfl : k471 = 15 := y471
        obtain rfl : n471 = 38 := z471
        obtain ⟨rfl, N471q, e471⟩ := hQ471
        have N471 := Fr.app N450 N471q
        have pre472 : ∀ t, Steps p.tables e below (T471.setTop (mkF m 295 #[.val (.int p0), .val (.int p1), .val (.int p2), .val (.int p3), .val (.int p4), .val (.int p5), .val (.ref b6), .val (.ref b30), .val (.ref b61), .val (.ref b97), .val .null, .val (.ref b323), .val (.ref b375), .val (.ref b61), .val (.int (1 : Int32))] [(.int (1 : Int32))])) t → Steps p.tables e below (s₁.setTop (entryFrame m #[(.int p0), (.int p1), (.int p2), (.int p3), (.int p4), (.int p5)] maxLocals)) t := by
          intro t kk
          refine pre470 t ?_
          show Steps p.tables e below (T450.setTop (mkF m 282 #[.val (.int p0), .val (.int p1), .val (.int p2), .val (.int p3), .val (.int p4), .val (.int p5), .val (.ref b6), .val (.ref b30), .val (.ref b61), .val (.ref b97), .val .null, .val (.ref b323), .val (.ref b375), .val (.ref b61), .val (.int (1 : Int32))] [.null, (.ref b450)])) _
          refine st471.trans ?_
          refine XS.aload X471.here hx rfl (hb hby at_285) rfl rfl ?_
          refine Jvm.RoadKit.acmp (g := (mkF m 287 #[.val (.int p0), .val (.int p1), .val (.int p2), .val (.int p3), .val (.int p4), .val (.int p5), .val (.ref b6), .val (.ref b30), .val (.ref b61), .val (.ref b97), .val .null, .val (.ref b323), .val (.ref b375), .val (.ref b61), .val (.int (1 : Int32))] [(.ref b97), (.ref b97)])) X471 hx rfl rfl rfl (pc0 := 287) (pc' := 290) (same := true) rfl (hb hby at_287) rfl (decide_eq_true rfl) (by decide) (by decide) ?_
          refine XS.iconst X471.here hx rfl (hb hby at_290) ?_
          refine XS.goto X471.here hx rfl (pc0 := 291) (pc' := 295) rfl (hb hby at_291) (by decide) (by decide) ?_
          exact kk
        clear X450 st471 N471q N450 pre470
        as_aux_lemma =>
        obtain ⟨fs, hr, hrun, hended, hW, hsame⟩ := X471.leave (v := some (.int (1 : Int32))) (fun h => by rw [Bd.returns] at h; cases h)
        refine ⟨_, _, pre472 _ ?_, hrun, hended, _, _, rfl, ?_, ⟨_, rfl⟩, hW, hsame.mono (by decide) (by decide)⟩
        · show Steps p.tables e below (T471.setTop (mkF m 295 #[.val (.int p0), .val (.int p1), .val (.int p2), .val (.int p3), .val (.int p4), .val (.int p5), .val (.ref b6), .val (.ref b30), .val (.ref b61), .val (.ref b97), .val .null, .val (.ref b323), .val (.ref b375), .val (.ref b61), .val (.int (1 : Int32))] [(.int (1 : Int32))])) _
          exact retN X471 hx (t := .boolean) Bd.returns (by simp) (hb hby at_295) hr
        · show Q0 Z p0 p1 p2 p3 p4 p5 zcs wE h0 n0 _ T471.heap _
          rw [e471]
          exact ⟨rfl, N471⟩
    · as_aux_lemma =>
      have pre474 : ∀ t, Steps p.tables e below (T89.setTop (mkF m 137 #[.val (.int p0), .val (.int p1), .val (.int p2), .val (.int p3), .val (.int p4), .val (.int p5), .val (.ref b6), .val (.ref b30), .val (.ref b61), .val .null, .unset, .unset, .unset, .unset, .unset] [(.int (p5 &&& (4 : Int32)))])) t → Steps p.tables e below (s₁.setTop (entryFrame m #[(.int p0), (.int p1), (.int p2), (.int p3), (.int p4), (.int p5)] maxLocals)) t := by
        intro t kk
        refine pre96 t ?_
        show Steps p.tables e below (T89.setTop (mkF m 114 #[.val (.int p0), .val (.int p1), .val (.int p2), .val (.int p3), .val (.int p4), .val (.int p5), .val (.ref b6), .val (.ref b30), .val (.ref b61), .unset, .unset, .unset, .unset, .unset, .unset] [(.int (p5 &&& (2 : Int32)))])) _
        refine XS.ifNo X89.here hx rfl (hb hby at_114) rfl ((if0 _ _).trans (feq hc114_95).1) ?_
        refine XS.aconstNull X89.here hx rfl (hb hby at_117) ?_
        refine XS.goto X89.here hx rfl (pc0 := 118) (pc' := 131) rfl (hb hby at_118) (by decide) (by decide) ?_
        refine XS.astore X89.here hx rfl (hb hby at_131) rfl rfl (l' := #[.val (.int p0), .val (.int p1), .val (.int p2), .val (.int p3), .val (.int p4), .val (.int p5), .val (.ref b6), .val (.ref b30), .val (.ref b61), .val .null, .unset, .unset, .unset, .unset, .unset]) rfl ?_
        refine XS.iload X89.here hx rfl (hb hby at_133) rfl ?_
        refine XS.iconst X89.here hx rfl (hb hby at_135) ?_
        refine XS.iand X89.here hx rfl (hb hby at_136) rfl ?_
        exact kk
      clear pre96
      as_aux_lemma =>
      by_cases hc137_473 : (p5 &&& (4 : Int32)) = (0 : Int32)
      · as_aux_lemma =>
        obtain ⟨T475, h475, X475, e475, E475, A475, D475, -, st475⟩ := newO X89 hx hZ hown (hw _ tb_30) (hw _ tb_31) (hw _ tb_32) rfl (g := (mkF m 144 #[.val (.int p0), .val (.int p1), .val (.int p2), .val (.int p3), .val (.int p4), .val (.int p5), .val (.ref b6), .val (.ref b30), .val (.ref b61), .val .null, .unset, .unset, .unset, .unset, .unset] [])) rfl (hb hby at_144) (by decide) (by decide)
        obtain ⟨b475, g475⟩ : ∃ z, z = T89.heap.size := ⟨_, rfl⟩
        rw [← g475] at A475 D475 st475
        have ne_b6_b475 : b6 ≠ b475 := Nat.ne_of_lt (Nat.lt_of_lt_of_le E_b6_92.lt (Nat.le_of_eq g475.symm))
        have ne_b30_b475 : b30 ≠ b475 := Nat.ne_of_lt (Nat.lt_of_lt_of_le E_b30_93.lt (Nat.le_of_eq g475.symm))
        have ne_b61_b475 : b61 ≠ b475 := Nat.ne_of_lt (Nat.lt_of_lt_of_le E_b61_94.lt (Nat.le_of_eq g475.symm))
        have sz_b475 : h0.size ≤ b475 := Nat.le_trans KP89.1 (Nat.le_of_eq g475.symm)
        have g_b475 : n0 ≤ b475 := Nat.le_trans Z89 (Nat.le_of_eq g475.symm)
        have KP475 : Keep h0 h475 [] := KP89.ext E475
        have Z475 : n0 ≤ h475.size := Nat.le_trans Z89 E475.1
        have O_476 : Old Z n0 h475 := O_91.ext E475
        have E_b6_477 : Exa Z h475 b6 "java/lang/String" := E_b6_92.ext E475
        have E_b30_478 : Exa Z h475 b30 "java/lang/String" := E_b30_93.ext E475
        have E_b61_479 : Exa Z h475 b61 "java/lang/String" := E_b61_94.ext E475
        have F_status_b475 : Fld Z h475 b475 "com/example/tidewheel/tidewheel/model/KeyedRequest$Answer" "status" "I" (.int (0 : Int32)) := D475 (Or.inr (hw _ tb_41)) (ty := .int) (by decide)
        have F_body_b475 : Fld Z h475 b475 "com/example/tidewheel/tidewheel/model/KeyedRequest$Answer" "body" "Ljava/lang/String;" .null := D475 (Or.inr (hw _ tb_43)) (ty := (.object "java/lang/String")) (by decide)
        have F_refusal_b475 : Fld Z h475 b475 "com/example/tidewheel/tidewheel/model/KeyedRequest$Answer" "refusal" "Lcom/example/tidewheel/tidewheel/model/RefusedException$Reason;" .null := D475 (Or.inr (hw _ tb_45)) (ty := (.object "com/example/tidewheel/tidewheel/model/RefusedException$Reason")) (by decide)
        replace X475 : Stand _ _ _ _ _ _ _ _ _ _ _ _ 10 27 := X475
        have pre480 : ∀ t, Steps p.tables e below (T475.setTop (mkF m 152 #[.val (.int p0), .val (.int p1), .val (.int p2), .val (.int p3), .val (.int p4), .val (.int p5), .val (.ref b6), .val (.ref b30), .val (.ref b61), .val .null, .unset, .unset, .unset, .unset, .unset] [(.ref b30), (.int p4), (.ref b475), (.ref b475)])) t → Steps p.tables e below (s₁.setTop (entryFrame m #[(.int p0), (.int p1), (.int p2), (.int p3), (.int p4), (.int p5)] maxLocals)) t := by
          intro t kk
          refine pre474 t ?_
          show Steps p.tables e below (T89.setTop (mkF m 137 #[.val (.int p0), .val (.int p1), .val (.int p2), .val (.int p3), .val (.int p4), .val (.int p5), .val (.ref b6), .val (.ref b30), .val (.ref b61), .val .null, .unset, .unset, .unset, .unset, .unset] [(.int (p5 &&& (4 : Int32)))])) _
          refine XS.ifYes X89.here hx rfl (pc0 := 137) (pc' := 144) rfl (hb hby at_137) rfl ((if0 _ _).trans (teq hc137_473).1) (by decide) (by decide) ?_
          refine st475 _ ?_
          refine XS.dup X475.here hx rfl (hb hby at_147) rfl rfl ?_
          refine XS.iload X475.here hx rfl (hb hby at_148) rfl ?_
          refine XS.aload X475.here hx rfl (hb hby at_150) rfl rfl ?_
          exact kk
        clear X89 st475 O_91 E_b6_92 E_b30_93 E_b61_94 pre474
        as_aux_lemma =>
        obtain ⟨_, _, ⟨T481, L481, k481, n481⟩, -, X481, ⟨Lc481, hQ481, l481, y481, z481⟩, st481⟩ := X475.specialBack hx (y := (⟨"com/example/tidewheel/tidewheel/model/KeyedRequest$Answer", "<init>", "(ILjava/lang/String;)V"⟩ : MethodName)) rfl hown (mt_33 hZ hw) (mt_34 hZ hw) (mt_35 hZ hw) (by decide) (backOf (W := 1) (rm7_rr l Z aA hw [] b475 p4 b30 h475 n0 Z475 A475 g_b475 F_status_b475 F_body_b475 F_refusal_b475) hZ (hw _ tb_35) (hw _ tb_32) (by decide) (by decide)) (g := (mkF m 152 #[.val (.int p0), .val (.int p1), .val (.int p2), .val (.int p3), .val (.int p4), .val (.int p5), .val (.ref b6), .val (.ref b30), .val (.ref b61), .val .null, .unset, .unset, .unset, .unset, .unset] [(.ref b30), (.int p4), (.ref b475), (.ref b475)])) rfl (by rw [hml]; rfl) (Steps.refl _) (a := b475) (argsL := [(.int p4), (.ref b30)]) (rest := [(.ref b475)]) (lenOf pd__28ILjava_2flang_2fString_3b_29V rfl) rfl (by show 2 * 0 + _ ≤ _; exact Nat.le_of_eq rfl) (hb hby at_152) (fun _ _ => ⟨rfl, e475, (by decide : 10 + 0 ≤ _), (by decide : 27 + 0 ≤ _)⟩)
        dsimp only [Pt.U, Pt.locs, Pt.cells, Pt.slots] at X481 l481 y481 z481 st481 hQ481
        replace l481 := l481.symm
        subst l481
        obtain rfl : k481 = 10 := y481
        obtain rfl : n481 = 27 := z481
        obtain ⟨rfl, N481q, K481, Eq481, Fq481_status, Fq481_body, Fq481_refusal⟩ := hQ481
        have N481 := Fr.app N89 N481q
        have KP481 : Keep h0 T481.heap [] := KP475.trans K481 (allS (Or.inr sz_b475) all0)
        have Z481 : n0 ≤ T481.heap.size := Nat.le_trans Z475 K481.1
        have O_482 : Old Z n0 T481.heap := O_476.keep K481 (allS g_b475 all0)
        have E_b6_483 : Exa Z T481.heap b6 "java/lang/String" := E_b6_477.keep K481
        have E_b30_484 : Exa Z T481.heap b30 "java/lang/String" := E_b30_478.keep K481
        have E_b61_485 : Exa Z T481.heap b61 "java/lang/String" := E_b61_479.keep K481
        have E_b475_486 : Exa Z T481.heap b475 "com/example/tidewheel/tidewheel/model/KeyedRequest$Answer" := A475.keep K481
        obtain ⟨T487, h487, X487, e487, E487, A487, D487, -, st487⟩ := newO X481 hx hZ hown (hw _ tb_46) (hw _ tb_47) (hw _ tb_48) rfl (g := (mkF m 157 #[.val (.int p0), .val (.int p1), .val (.int p2), .val (.int p3), .val (.int p4), .val (.int p5), .val (.ref b6), .val (.ref b30), .val (.ref b61), .val .null, .val (.ref b475), .unset, .unset, .unset, .unset] [])) rfl (hb hby at_157) (by decide) (by decide)
        obtain ⟨b487, g487⟩ : ∃ z, z = T481.heap.size := ⟨_, rfl⟩
        rw [← g487] at A487 D487 st487
        have ne_b6_b487 : b6 ≠ b487 := Nat.ne_of_lt (Nat.lt_of_lt_of_le E_b6_483.lt (Nat.le_of_eq g487.symm))
        have ne_b30_b487 : b30 ≠ b487 := Nat.ne_of_lt (Nat.lt_of_lt_of_le E_b30_484.lt (Nat.le_of_eq g487.symm))
        have ne_b61_b487 : b61 ≠ b487 := Nat.ne_of_lt (Nat.lt_of_lt_of_le E_b61_485.lt (Nat.le_of_eq g487.symm))
        have ne_b475_b487 : b475 ≠ b487 := Nat.ne_of_lt (Nat.lt_of_lt_of_le Eq481.lt (Nat.le_of_eq g487.symm))
        have sz_b487 : h0.size ≤ b487 := Nat.le_trans KP481.1 (Nat.le_of_eq g487.symm)
        have g_b487 : n0 ≤ b487 := Nat.le_trans Z481 (Nat.le_of_eq g487.symm)
        have KP487 : Keep h0 h487 [] := KP481.ext E487
        have Z487 : n0 ≤ h487.size := Nat.le_trans Z481 E487.1
        have O_488 : Old Z n0 h487 := O_482.ext E487
        have E_b6_489 : Exa Z h487 b6 "java/lang/String" := E_b6_483.ext E487
        have E_b30_490 : Exa Z h487 b30 "java/lang/String" := E_b30_484.ext E487
        have E_b61_491 : Exa Z h487 b61 "java/lang/String" := E_b61_485.ext E487
        have E_b475_492 : Exa Z h487 b475 "com/example/tidewheel/tidewheel/model/KeyedRequest$Answer" := Eq481.ext E487
        have F_key_b487 : Fld Z h487 b487 "com/example/tidewheel/tidewheel/model/KeyedRequest" "key" "Ljava/lang/String;" .null := D487 (Or.inr (hw _ tb_54)) (ty := (.object "java/lang/String")) (by decide)
        have F_request_b487 : Fld Z h487 b487 "com/example/tidewheel/tidewheel/model/KeyedRequest" "request" "Ljava/lang/String;" .null := D487 (Or.inr (hw _ tb_56)) (ty := (.object "java/lang/String")) (by decide)
        have F_resource_b487 : Fld Z h487 b487 "com/example/tidewheel/tidewheel/model/KeyedRequest" "resource" "Ljava/lang/String;" .null := D487 (Or.inr (hw _ tb_58)) (ty := (.object "java/lang/String")) (by decide)
        have F_answer_b487 : Fld Z h487 b487 "com/example/tidewheel/tidewheel/model/KeyedRequest" "answer" "Lcom/example/tidewheel/tidewheel/model/KeyedRequest$Answer;" .null := D487 (Or.inr (hw _ tb_60)) (ty := (.object "com/example/tidewheel/tidewheel/model/KeyedRequest$Answer")) (by decide)
        replace X487 : Stand _ _ _ _ _ _ _ _ _ _ _ _ 11 31 := X487
        have pre493 : ∀ t, Steps p.tables e below (T487.setTop (mkF m 169 #[.val (.int p0), .val (.int p1), .val (.int p2), .val (.int p3), .val (.int p4), .val (.int p5), .val (.ref b6), .val (.ref b30), .val (.ref b61), .val .null, .val (.ref b475), .unset, .unset, .unset, .unset] [.null, (.ref b61), (.ref b30), (.ref b6), (.ref b487), (.ref b487)])) t → Steps p.tables e below (s₁.setTop (entryFrame m #[(.int p0), (.int p1), (.int p2), (.int p3), (.int p4), (.int p5)] maxLocals)) t := by
          intro t kk
          refine pre480 t ?_
          show Steps p.tables e below (T475.setTop (mkF m 152 #[.val (.int p0), .val (.int p1), .val (.int p2), .val (.int p3), .val (.int p4), .val (.int p5), .val (.ref b6), .val (.ref b30), .val (.ref b61), .val .null, .unset, .unset, .unset, .unset, .unset] [(.ref b30), (.int p4), (.ref b475), (.ref b475)])) _
          refine st481.trans ?_
          refine XS.astore X481.here hx rfl (hb hby at_155) rfl rfl (l' := #[.val (.int p0), .val (.int p1), .val (.int p2), .val (.int p3), .val (.int p4), .val (.int p5), .val (.ref b6), .val (.ref b30), .val (.ref b61), .val .null, .val (.ref b475), .unset, .unset, .unset, .unset]) rfl ?_
          refine st487 _ ?_
          refine XS.dup X487.here hx rfl (hb hby at_160) rfl rfl ?_
          refine XS.aload X487.here hx rfl (hb hby at_161) rfl rfl ?_
          refine XS.aload X487.here hx rfl (hb hby at_163) rfl rfl ?_
          refine XS.aload X487.here hx rfl (hb hby at_165) rfl rfl ?_
          refine XS.aload X487.here hx rfl (hb hby at_167) rfl rfl ?_
          exact kk
        clear X475 e475 st481 N481q N89 KP475 Z475 O_476 E_b6_477 E_b30_478 E_b61_479 A475 F_status_b475 F_body_b475 F_refusal_b475 K481 Fq481_status Fq481_body Fq481_refusal X481 st487 O_482 E_b6_483 E_b30_484 E_b61_485 Eq481 pre480
        as_aux_lemma =>
        obtain ⟨_, _, ⟨T494, L494, k494, n494⟩, -, X494, ⟨Lc494, hQ494, l494, y494, z494⟩, st494⟩ := X487.specialBack hx (y := (⟨"com/example/tidewheel/tidewheel/model/KeyedRequest", "<init>", "(Ljava/lang/String;Ljava/lang/String;Ljava/lang/String;Lcom/example/tidewheel/tidewheel/model/KeyedRequest$Answer;)V"⟩ : MethodName)) rfl hown (mt_49 hZ hw) (mt_50 hZ hw) (mt_51 hZ hw) (by decide) (backOf (W := 1) (rm9_rrrn l Z aA hw [] b487 b6 b30 b61 h487 n0 Z487 A487 g_b487 F_key_b487 F_request_b487 F_resource_b487 F_answer_b487) hZ (hw _ tb_51) (hw _ tb_48) (by decide) (by decide)) (g := (mkF m 169 #[.val (.int p0), .val (.int p1), .val (.int p2), .val (.int p3), .val (.int p4), .val (.int p5), .val (.ref b6), .val (.ref b30), .val (.ref b61), .val .null, .val (.ref b475), .unset, .unset, .unset, .unset] [.null, (.ref b61), (.ref b30), (.ref b6), (.ref b487), (.ref b487)])) rfl (by rw [hml]; rfl) (Steps.refl _) (a := b487) (argsL := [(.ref b6), (.ref b30), (.ref b61), .null]) (rest := [(.ref b487)]) (lenOf pd__28Ljava_2flang_2fString_3bLjava_2flang_2fString_3bLjava_2flang_2fString_3bLcom_2fexample_2ftidewheel_2ftidewheel_2fmodel_2fKeyedRequest_24Answer_3b_29V rfl) rfl (by show 2 * 0 + _ ≤ _; exact Nat.le_of_eq rfl) (hb hby at_169) (fun _ _ => ⟨rfl, e487, (by decide : 11 + 0 ≤ _), (by decide : 31 + 0 ≤ _)⟩)
        dsimp only [Pt.U, Pt.locs, Pt.cells, Pt.slots] at X494 l494 y494 z494 st494 hQ494
        replace l494 := l494.symm
        subst l494
        obtain rfl : k494 = 11 := y494
        obtain rfl : n494 = 31 := z494
        obtain ⟨rfl, N494q, K494, Eq494, Fq494_key, Fq494_request, Fq494_resource, Fq494_answer⟩ := hQ494
        have N494 := Fr.app N481 N494q
        have KP494 : Keep h0 T494.heap [] := KP487.trans K494 (allS (Or.inr sz_b487) all0)
        have Z494 : n0 ≤ T494.heap.size := Nat.le_trans Z487 K494.1
        have O_495 : Old Z n0 T494.heap := O_488.keep K494 (allS g_b487 all0)
        have E_b6_496 : Exa Z T494.heap b6 "java/lang/String" := E_b6_489.keep K494
        have E_b30_497 : Exa Z T494.heap b30 "java/lang/String" := E_b30_490.keep K494
        have E_b61_498 : Exa Z T494.heap b61 "java/lang/String" := E_b61_491.keep K494
        have E_b475_499 : Exa Z T494.heap b475 "com/example/tidewheel/tidewheel/model/KeyedRequest$Answer" := E_b475_492.keep K494
        have E_b487_500 : Exa Z T494.heap b487 "com/example/tidewheel/tidewheel/model/KeyedRequest" := A487.keep K494
        have pre501 : ∀ t, Steps p.tables e below (T494.setTop (mkF m 178 #[.val (.int p0), .val (.int p1), .val (.int p2), .val (.int p3), .val (.int p4), .val (.int p5), .val (.ref b6), .val (.ref b30), .val (.ref b61), .val .null, .val (.ref b475), .val (.ref b487), .unset, .unset, .unset] [(.ref b475), (.ref b487)])) t → Steps p.tables e below (s₁.setTop (entryFrame m #[(.int p0), (.int p1), (.int p2), (.int p3), (.int p4), (.int p5)] maxLocals)) t := by
          intro t kk
          refine pre493 t ?_
          show Steps p.tables e below (T487.setTop (mkF m 169 #[.val (.int p0), .val (.int p1), .val (.int p2), .val (.int p3), .val (.int p4), .val (.int p5), .val (.ref b6), .val (.ref b30), .val (.ref b61), .val .null, .val (.ref b475), .unset, .unset, .unset, .unset] [.null, (.ref b61), (.ref b30), (.ref b6), (.ref b487), (.ref b487)])) _
          refine st494.trans ?_
          refine XS.astore X494.here hx rfl (hb hby at_172) rfl rfl (l' := #[.val (.int p0), .val (.int p1), .val (.int p2), .val (.int p3), .val (.int p4), .val (.int p5), .val (.ref b6), .val (.ref b30), .val (.ref b61), .val .null, .val (.ref b475), .val (.ref b487), .unset, .unset, .unset]) rfl ?_
          refine XS.aload X494.here hx rfl (hb hby at_174) rfl rfl ?_
          refine XS.aload X494.here hx rfl (hb hby at_176) rfl rfl ?_
          exact kk
        clear X487 e487 st494 N494q N481 KP487 Z487 O_488 E_b6_489 E_b30_490 E_b61_491 E_b475_492 A487 F_key_b487 F_request_b487 F_resource_b487 F_answer_b487 K494 pre493
        as_aux_lemma =>
        obtain ⟨cq502, kq502, q502a, q502b, q502c⟩ := isOf hZ rfl Eq494
        obtain ⟨_, _, ⟨T502, L502, k502, n502⟩, -, X502, ⟨Lc502, hQ502, l502, y502, z502⟩, st502⟩ := X494.virtualBack hx (y := (⟨"com/example/tidewheel/tidewheel/model/KeyedRequest", "answered", "(Lcom/example/tidewheel/tidewheel/model/KeyedRequest$Answer;)Lcom/example/tidewheel/tidewheel/model/KeyedRequest;"⟩ : MethodName)) (z := (⟨"com/example/tidewheel/tidewheel/model/KeyedRequest", "answered", "(Lcom/example/tidewheel/tidewheel/model/KeyedRequest$Answer;)Lcom/example/tidewheel/tidewheel/model/KeyedRequest;"⟩ : MethodName)) hown (mt_61 hZ hw) (mt_62 hZ hw) (notFace_of_selects (args := #[]) (mt_64 hZ hw)) (mt_64 hZ hw) (mt_63 hZ hw) (by decide) (backOf (W := 0) (rm10_rr l Z aA hw [] b487 b475 b6 b30 b61 T494.heap n0 Z494 Fq494_key Fq494_request Fq494_resource) hZ (hw _ tb_65) (hw _ tb_48) (by decide) (by decide)) q502a q502c (g := (mkF m 178 #[.val (.int p0), .val (.int p1), .val (.int p2), .val (.int p3), .val (.int p4), .val (.int p5), .val (.ref b6), .val (.ref b30), .val (.ref b61), .val .null, .val (.ref b475), .val (.ref b487), .unset, .unset, .unset] [(.ref b475), (.ref b487)])) rfl (by rw [hml]; rfl) (Steps.refl _) (argsL := [(.ref b475)]) (rest := []) (lenOf pd__28Lcom_2fexample_2ftidewheel_2ftidewheel_2fmodel_2fKeyedRequest_24Answer_3b_29Lcom_2fexample_2ftidewheel_2ftidewheel_2fmodel_2fKeyedRequest_3b rfl) rfl (by show 2 * 0 + _ ≤ _; exact Nat.le_of_eq rfl) (hb hby at_178) (fun _ _ => ⟨rfl, rfl, (by decide : 11 + 1 ≤ _), (by decide : 31 + 4 ≤ _)⟩)
        dsimp only [Pt.U, Pt.locs, Pt.cells, Pt.slots] at X502 l502 y502 z502 st502 hQ502
        replace l502 := l502.symm
        subst l502
        obtain rfl : k502 = 12 := y502
        obtain rfl : n502 = 35 := z502
        obtain ⟨b502, rfl, N502q, K502, sz502, Eq502, Fq502_key, Fq502_request, Fq502_resource, Fq502_answer⟩ := hQ502
        have N502 := Fr.app N494 N502q
        have sz_b502 : h0.size ≤ b502 := Nat.le_trans KP494.1 sz502
        have g_b502 : n0 ≤ b502 := Nat.le_trans Z494 sz502
        have KP502 : Keep h0 T502.heap [] := KP494.trans K502 all0
        have Z502 : n0 ≤ T502.heap.size := Nat.le_trans Z494 K502.1
        have O_503 : Old Z n0 T502.heap := O_495.keep K502 all0
        have E_b6_504 : Exa Z T502.heap b6 "java/lang/String" := E_b6_496.keep K502
        have E_b30_505 : Exa Z T502.heap b30 "java/lang/String" := E_b30_497.keep K502
        have E_b61_506 : Exa Z T502.heap b61 "java/lang/String" := E_b61_498.keep K502
        have E_b475_507 : Exa Z T502.heap b475 "com/example/tidewheel/tidewheel/model/KeyedRequest$Answer" := E_b475_499.keep K502
        have E_b487_508 : Exa Z T502.heap b487 "com/example/tidewheel/tidewheel/model/KeyedRequest" := Eq494.keep K502
        have F_b487_key_509 : Fld Z T502.heap b487 "com/example/tidewheel/tidewheel/model/KeyedRequest" "key" "Ljava/lang/String;" (.ref b6) := Fq494_key.keep K502 nin0
        have F_b487_request_510 : Fld Z T502.heap b487 "com/example/tidewheel/tidewheel/model/KeyedRequest" "request" "Ljava/lang/String;" (.ref b30) := Fq494_request.keep K502 nin0
        have F_b487_resource_511 : Fld Z T502.heap b487 "com/example/tidewheel/tidewheel/model/KeyedRequest" "resource" "Ljava/lang/String;" (.ref b61) := Fq494_resource.keep K502 nin0
        have F_b487_answer_512 : Fld Z T502.heap b487 "com/example/tidewheel/tidewheel/model/KeyedRequest" "answer" "Lcom/example/tidewheel/tidewheel/model/KeyedRequest$Answer;" .null := Fq494_answer.keep K502 nin0
        have pre513 : ∀ t, Steps p.tables e below (T502.setTop (mkF m 192 #[.val (.int p0), .val (.int p1), .val (.int p2), .val (.int p3), .val (.int p4), .val (.int p5), .val (.ref b6), .val (.ref b30), .val (.ref b61), .val .null, .val (.ref b475), .val (.ref b487), .val (.ref b502), .unset, .unset] [(.ref b502)])) t → Steps p.tables e below (s₁.setTop (entryFrame m #[(.int p0), (.int p1), (.int p2), (.int p3), (.int p4), (.int p5)] maxLocals)) t := by
          intro t kk
          refine pre501 t ?_
          show Steps p.tables e below (T494.setTop (mkF m 178 #[.val (.int p0), .val (.int p1), .val (.int p2), .val (.int p3), .val (.int p4), .val (.int p5), .val (.ref b6), .val (.ref b30), .val (.ref b61), .val .null, .val (.ref b475), .val (.ref b487), .unset, .unset, .unset] [(.ref b475), (.ref b487)])) _
          refine st502.trans ?_
          refine XS.astore X502.here hx rfl (hb hby at_181) rfl rfl (l' := #[.val (.int p0), .val (.int p1), .val (.int p2), .val (.int p3), .val (.int p4), .val (.int p5), .val (.ref b6), .val (.ref b30), .val (.ref b61), .val .null, .val (.ref b475), .val (.ref b487), .val (.ref b502), .unset, .unset]) rfl ?_
          refine XS.aload X502.here hx rfl (hb hby at_183) rfl rfl ?_
          refine XS.ifnonnullYes X502.here hx rfl (pc0 := 185) (pc' := 190) rfl (hb hby at_185) rfl (by decide) (by decide) ?_
          refine XS.aload X502.here hx rfl (hb hby at_190) rfl rfl ?_
          exact kk
        clear X494 st502 N502q N494 KP494 Z494 O_495 E_b6_496 E_b30_497 E_b61_498 E_b475_499 Eq494 Fq494_key Fq494_request Fq494_resource Fq494_answer K502 pre501
        as_aux_lemma =>
        obtain ⟨cq514, kq514, q514a, q514b, q514c⟩ := isOf hZ rfl Eq502
        obtain ⟨_, _, ⟨T514, L514, k514, n514⟩, -, X514, ⟨Lc514, hQ514, l514, y514, z514⟩, st514⟩ := X502.virtualBack hx (y := (⟨"com/example/tidewheel/tidewheel/model/KeyedRequest", "resource", "()Ljava/util/Optional;"⟩ : MethodName)) (z := (⟨"com/example/tidewheel/tidewheel/model/KeyedRequest", "resource", "()Ljava/util/Optional;"⟩ : MethodName)) hown (mt_68 hZ hw) (mt_69 hZ hw) (notFace_of_selects (args := #[]) (mt_71 hZ hw)) (mt_71 hZ hw) (mt_70 hZ hw) (by decide) (backOf (W := 0) (rm11_r l Z aA hw [] b502 b61 wE T502.heap n0 Z502 O_503 S_EMPTY X_EMPTY G_EMPTY Fq502_resource) hZ (hw _ tb_72) (hw _ tb_48) (by decide) (by decide)) q514a q514c (g := (mkF m 192 #[.val (.int p0), .val (.int p1), .val (.int p2), .val (.int p3), .val (.int p4), .val (.int p5), .val (.ref b6), .val (.ref b30), .val (.ref b61), .val .null, .val (.ref b475), .val (.ref b487), .val (.ref b502), .unset, .unset] [(.ref b502)])) rfl (by rw [hml]; rfl) (Steps.refl _) (argsL := []) (rest := []) (lenOf pd__28_29Ljava_2futil_2fOptional_3b rfl) rfl (by show 2 * 0 + _ ≤ _; exact Nat.le_of_eq rfl) (hb hby at_192) (fun _ _ => ⟨rfl, rfl, (by decide : 12 + 1 ≤ _), (by decide : 35 + 1 ≤ _)⟩)
        dsimp only [Pt.U, Pt.locs, Pt.cells, Pt.slots] at X514 l514 y514 z514 st514 hQ514
        replace l514 := l514.symm
        subst l514
        obtain rfl : k514 = 13 := y514
        obtain rfl : n514 = 36 := z514
        obtain ⟨b514, rfl, N514q, K514, Eq514, Fq514⟩ := hQ514
        have N514 := Fr.app N502 N514q
        have KP514 : Keep h0 T514.heap [] := KP502.trans K514 all0
        have Z514 : n0 ≤ T514.heap.size := Nat.le_trans Z502 K514.1
        have O_515 : Old Z n0 T514.heap := O_503.keep K514 all0
        have E_b6_516 : Exa Z T514.heap b6 "java/lang/String" := E_b6_504.keep K514
        have E_b30_517 : Exa Z T514.heap b30 "java/lang/String" := E_b30_505.keep K514
        have E_b61_518 : Exa Z T514.heap b61 "java/lang/String" := E_b61_506.keep K514
        have E_b475_519 : Exa Z T514.heap b475 "com/example/tidewheel/tidewheel/model/KeyedRequest$Answer" := E_b475_507.keep K514
        have E_b487_520 : Exa Z T514.heap b487 "com/example/tidewheel/tidewheel/model/KeyedRequest" := E_b487_508.keep K514
        have F_b487_key_521 : Fld Z T514.heap b487 "com/example/tidewheel/tidewheel/model/KeyedRequest" "key" "Ljava/lang/String;" (.ref b6) := F_b487_key_509.keep K514 nin0
        have F_b487_request_522 : Fld Z T514.heap b487 "com/example/tidewheel/tidewheel/model/KeyedRequest" "request" "Ljava/lang/String;" (.ref b30) := F_b487_request_510.keep K514 nin0
        have F_b487_resource_523 : Fld Z T514.heap b487 "com/example/tidewheel/tidewheel/model/KeyedRequest" "resource" "Ljava/lang/String;" (.ref b61) := F_b487_resource_511.keep K514 nin0
        have F_b487_answer_524 : Fld Z T514.heap b487 "com/example/tidewheel/tidewheel/model/KeyedRequest" "answer" "Lcom/example/tidewheel/tidewheel/model/KeyedRequest$Answer;" .null := F_b487_answer_512.keep K514 nin0
        have E_b502_525 : Exa Z T514.heap b502 "com/example/tidewheel/tidewheel/model/KeyedRequest" := Eq502.keep K514
        have F_b502_key_526 : Fld Z T514.heap b502 "com/example/tidewheel/tidewheel/model/KeyedRequest" "key" "Ljava/lang/String;" (.ref b6) := Fq502_key.keep K514 nin0
        have F_b502_request_527 : Fld Z T514.heap b502 "com/example/tidewheel/tidewheel/model/KeyedRequest" "request" "Ljava/lang/String;" (.ref b30) := Fq502_request.keep K514 nin0
        have F_b502_resource_528 : Fld Z T514.heap b502 "com/example/tidewheel/tidewheel/model/KeyedRequest" "resource" "Ljava/lang/String;" (.ref b61) := Fq502_resource.keep K514 nin0
        have F_b502_answer_529 : Fld Z T514.heap b502 "com/example/tidewheel/tidewheel/model/KeyedRequest" "answer" "Lcom/example/tidewheel/tidewheel/model/KeyedRequest$Answer;" (.ref b475) := Fq502_answer.keep K514 nin0
        have pre530 : ∀ t, Steps p.tables e below (T514.setTop (mkF m 196 #[.val (.int p0), .val (.int p1), .val (.int p2), .val (.int p3), .val (.int p4), .val (.int p5), .val (.ref b6), .val (.ref b30), .val (.ref b61), .val .null, .val (.ref b475), .val (.ref b487), .val (.ref b502), .unset, .unset] [.null, (.ref b514)])) t → Steps p.tables e below (s₁.setTop (entryFrame m #[(.int p0), (.int p1), (.int p2), (.int p3), (.int p4), (.int p5)] maxLocals)) t := by
          intro t kk
          refine pre513 t ?_
          show Steps p.tables e below (T502.setTop (mkF m 192 #[.val (.int p0), .val (.int p1), .val (.int p2), .val (.int p3), .val (.int p4), .val (.int p5), .val (.ref b6), .val (.ref b30), .val (.ref b61), .val .null, .val (.ref b475), .val (.ref b487), .val (.ref b502), .unset, .unset] [(.ref b502)])) _
          refine st514.trans ?_
          refine XS.aconstNull X514.here hx rfl (hb hby at_195) ?_
          exact kk
        clear X502 st514 N514q N502 KP502 Z502 O_503 E_b6_504 E_b30_505 E_b61_506 E_b475_507 E_b487_508 F_b487_key_509 F_b487_request_510 F_b487_resource_511 F_b487_answer_512 Eq502 Fq502_key Fq502_request Fq502_resource Fq502_answer K514 pre513
        as_aux_lemma =>
        obtain ⟨cq531, kq531, q531a, q531b, q531c⟩ := isOf hZ rfl Eq514
        obtain ⟨_, _, ⟨T531, L531, k531, n531⟩, -, X531, ⟨Lc531, hQ531, l531, y531, z531⟩, st531⟩ := X514.virtualBack hx (y := (⟨"java/util/Optional", "orElse", "(Ljava/lang/Object;)Ljava/lang/Object;"⟩ : MethodName)) (z := (⟨"java/util/Optional", "orElse", "(Ljava/lang/Object;)Ljava/lang/Object;"⟩ : MethodName)) hown (mt_78 hZ hw) (mt_79 hZ hw) (notFace_of_selects (args := #[]) (mt_81 hZ hw)) (mt_81 hZ hw) (mt_80 hZ hw) (by decide) (backOf (W := 0) (rm13_r l Z aA hw [] b514 b61 T514.heap n0 Z514 Fq514) hZ (hw _ tb_82) (hw _ tb_75) (by decide) (by decide)) q531a q531c (g := (mkF m 196 #[.val (.int p0), .val (.int p1), .val (.int p2), .val (.int p3), .val (.int p4), .val (.int p5), .val (.ref b6), .val (.ref b30), .val (.ref b61), .val .null, .val (.ref b475), .val (.ref b487), .val (.ref b502), .unset, .unset] [.null, (.ref b514)])) rfl (by rw [hml]; rfl) (Steps.refl _) (argsL := [.null]) (rest := []) (lenOf pd__28Ljava_2flang_2fObject_3b_29Ljava_2flang_2fObject_3b rfl) rfl (by show 2 * 0 + _ ≤ _; exact Nat.le_of_eq rfl) (hb hby at_196) (fun _ _ => ⟨rfl, rfl, (by decide : 13 + 0 ≤ _), (by decide : 36 + 0 ≤ _)⟩)
        dsimp only [Pt.U, Pt.locs, Pt.cells, Pt.slots] at X531 l531 y531 z531 st531 hQ531
        replace l531 := l531.symm
        subst l531
        obtain rfl : k531 = 13 := y531
        obtain rfl : n531 = 36 := z531
        obtain ⟨rfl, N531q, e531⟩ := hQ531
        have N531 := Fr.app N514 N531q
        obtain ⟨T532, X532, e532, st532⟩ := castY X531 hx hZ hown (hw _ tb_0) e531 (Ins.self E_b61_518) (g := (mkF m 199 #[.val (.int p0), .val (.int p1), .val (.int p2), .val (.int p3), .val (.int p4), .val (.int p5), .val (.ref b6), .val (.ref b30), .val (.ref b61), .val .null, .val (.ref b475), .val (.ref b487), .val (.ref b502), .unset, .unset] [(.ref b61)])) rfl rfl (hb hby at_199)
        have pre533 : ∀ t, Steps p.tables e below (T532.setTop (mkF m 226 #[.val (.int p0), .val (.int p1), .val (.int p2), .val (.int p3), .val (.int p4), .val (.int p5), .val (.ref b6), .val (.ref b30), .val (.ref b61), .val .null, .val (.ref b475), .val (.ref b487), .val (.ref b502), .val (.ref b61), .unset] [(.ref b61), (.ref b61)])) t → Steps p.tables e below (s₁.setTop (entryFrame m #[(.int p0), (.int p1), (.int p2), (.int p3), (.int p4), (.int p5)] maxLocals)) t := by
          intro t kk
          refine pre530 t ?_
          show Steps p.tables e below (T514.setTop (mkF m 196 #[.val (.int p0), .val (.int p1), .val (.int p2), .val (.int p3), .val (.int p4), .val (.int p5), .val (.ref b6), .val (.ref b30), .val (.ref b61), .val .null, .val (.ref b475), .val (.ref b487), .val (.ref b502), .unset, .unset] [.null, (.ref b514)])) _
          refine st531.trans ?_
          refine st532 _ ?_
          refine XS.astore X532.here hx rfl (hb hby at_202) rfl rfl (l' := #[.val (.int p0), .val (.int p1), .val (.int p2), .val (.int p3), .val (.int p4), .val (.int p5), .val (.ref b6), .val (.ref b30), .val (.ref b61), .val .null, .val (.ref b475), .val (.ref b487), .val (.ref b502), .val (.ref b61), .unset]) rfl ?_
          refine XS.aload X532.here hx rfl (hb hby at_204) rfl rfl ?_
          refine XS.ifnonnullYes X532.here hx rfl (pc0 := 206) (pc' := 222) rfl (hb hby at_206) rfl (by decide) (by decide) ?_
          refine XS.aload X532.here hx rfl (hb hby at_222) rfl rfl ?_
          refine XS.aload X532.here hx rfl (hb hby at_224) rfl rfl ?_
          exact kk
        clear X514 st531 N531q N514 X531 e531 st532 pre530
        as_aux_lemma =>
        obtain ⟨cq534, kq534, q534a, q534b, q534c⟩ := isOf hZ e532 E_b61_518
        obtain ⟨_, _, ⟨T534, L534, k534, n534⟩, -, X534, ⟨Lc534, hQ534, l534, y534, z534⟩, st534⟩ := X532.virtualBack hx (y := (⟨"java/lang/String", "equals", "(Ljava/lang/Object;)Z"⟩ : MethodName)) (z := (⟨"java/lang/String", "equals", "(Ljava/lang/Object;)Z"⟩ : MethodName)) hown (mt_90 hZ hw) (mt_91 hZ hw) (notFace_of_selects (args := #[]) (mt_93 hZ hw)) (mt_93 hZ hw) (mt_92 hZ hw) (by decide) (backOf (W := 0) (rm15 l Z aA hw [] b61 T514.heap n0 Z514) hZ (hw _ tb_94) (hw _ tb_2) (by decide) (by decide)) q534a q534c (g := (mkF m 226 #[.val (.int p0), .val (.int p1), .val (.int p2), .val (.int p3), .val (.int p4), .val (.int p5), .val (.ref b6), .val (.ref b30), .val (.ref b61), .val .null, .val (.ref b475), .val (.ref b487), .val (.ref b502), .val (.ref b61), .unset] [(.ref b61), (.ref b61)])) rfl (by rw [hml]; rfl) (Steps.refl _) (argsL := [(.ref b61)]) (rest := []) (lenOf pd__28Ljava_2flang_2fObject_3b_29Z rfl) rfl (by show 2 * 0 + _ ≤ _; exact Nat.le_of_eq rfl) (hb hby at_226) (fun _ _ => ⟨rfl, e532, (by decide : 13 + 0 ≤ _), (by decide : 36 + 0 ≤ _)⟩)
        dsimp only [Pt.U, Pt.locs, Pt.cells, Pt.slots] at X534 l534 y534 z534 st534 hQ534
        replace l534 := l534.symm
        subst l534
        obtain rfl : k534 = 13 := y534
        obtain rfl : n534 = 36 := z534
        obtain ⟨rfl, N534q, e534⟩ := hQ534
        have N534 := Fr.app N531 N534q
        have pre535 : ∀ t, Steps p.tables e below (T534.setTop (mkF m 235 #[.val (.int p0), .val (.int p1), .val (.int p2), .val (.int p3), .val (.int p4), .val (.int p5), .val (.ref b6), .val (.ref b30), .val (.ref b61), .val .null, .val (.ref b475), .val (.ref b487), .val (.ref b502), .val (.ref b61), .val (.int (1 : Int32))] [(.ref b502), (.ref b6)])) t → Steps p.tables e below (s₁.setTop (entryFrame m #[(.int p0), (.int p1), (.int p2), (.int p3), (.int p4), (.int p5)] maxLocals)) t := by
          intro t kk
          refine pre533 t ?_
          show Steps p.tables e below (T532.setTop (mkF m 226 #[.val (.int p0), .val (.int p1), .val (.int p2), .val (.int p3), .val (.int p4), .val (.int p5), .val (.ref b6), .val (.ref b30), .val (.ref b61), .val .null, .val (.ref b475), .val (.ref b487), .val (.ref b502), .val (.ref b61), .unset] [(.ref b61), (.ref b61)])) _
          refine st534.trans ?_
          refine XS.istore X534.here hx rfl (hb hby at_229) rfl (l' := #[.val (.int p0), .val (.int p1), .val (.int p2), .val (.int p3), .val (.int p4), .val (.int p5), .val (.ref b6), .val (.ref b30), .val (.ref b61), .val .null, .val (.ref b475), .val (.ref b487), .val (.ref b502), .val (.ref b61), .val (.int (1 : Int32))]) rfl ?_
          refine XS.aload X534.here hx rfl (hb hby at_231) rfl rfl ?_
          refine XS.aload X534.here hx rfl (hb hby at_233) rfl rfl ?_
          exact kk
        clear X532 e532 st534 N534q N531 pre533
        as_aux_lemma =>
        obtain ⟨cq536, kq536, q536a, q536b, q536c⟩ := isOf hZ e534 E_b502_525
        obtain ⟨_, _, ⟨T536, L536, k536, n536⟩, -, X536, ⟨Lc536, hQ536, l536, y536, z536⟩, st536⟩ := X534.virtualBack hx (y := (⟨"com/example/tidewheel/tidewheel/model/KeyedRequest", "key", "()Ljava/lang/String;"⟩ : MethodName)) (z := (⟨"com/example/tidewheel/tidewheel/model/KeyedRequest", "key", "()Ljava/lang/String;"⟩ : MethodName)) hown (mt_85 hZ hw) (mt_86 hZ hw) (notFace_of_selects (args := #[]) (mt_88 hZ hw)) (mt_88 hZ hw) (mt_87 hZ hw) (by decide) (backOf (W := 1) (rm14 l Z aA hw [] b502 b6 T514.heap n0 Z514 F_b502_key_526) hZ (hw _ tb_89) (hw _ tb_48) (by decide) (by decide)) q536a q536c (g := (mkF m 235 #[.val (.int p0), .val (.int p1), .val (.int p2), .val (.int p3), .val (.int p4), .val (.int p5), .val (.ref b6), .val (.ref b30), .val (.ref b61), .val .null, .val (.ref b475), .val (.ref b487), .val (.ref b502), .val (.ref b61), .val (.int (1 : Int32))] [(.ref b502), (.ref b6)])) rfl (by rw [hml]; rfl) (Steps.refl _) (argsL := []) (rest := [(.ref b6)]) (lenOf pd__28_29Ljava_2flang_2fString_3b rfl) rfl (by show 2 * 0 + _ ≤ _; exact Nat.le_of_eq rfl) (hb hby at_235) (fun _ _ => ⟨rfl, e534, (by decide : 13 + 0 ≤ _), (by decide : 36 + 0 ≤ _)⟩)
        dsimp only [Pt.U, Pt.locs, Pt.cells, Pt.slots] at X536 l536 y536 z536 st536 hQ536
        replace l536 := l536.symm
        subst l536
        obtain rfl : k536 = 13 := y536
        obtain rfl : n536 = 36 := z536
        obtain ⟨rfl, N536q, e536⟩ := hQ536
        have N536 := Fr.app N534 N536q
        have pre537 : ∀ t, Steps p.tables e below (T536.setTop (mkF m 238 #[.val (.int p0), .val (.int p1), .val (.int p2), .val (.int p3), .val (.int p4), .val (.int p5), .val (.ref b6), .val (.ref b30), .val (.ref b61), .val .null, .val (.ref b475), .val (.ref b487), .val (.ref b502), .val (.ref b61), .val (.int (1 : Int32))] [(.ref b6), (.ref b6)])) t → Steps p.tables e below (s₁.setTop (entryFrame m #[(.int p0), (.int p1), (.int p2), (.int p3), (.int p4), (.int p5)] maxLocals)) t := by
          intro t kk
          refine pre535 t ?_
          show Steps p.tables e below (T534.setTop (mkF m 235 #[.val (.int p0), .val (.int p1), .val (.int p2), .val (.int p3), .val (.int p4), .val (.int p5), .val (.ref b6), .val (.ref b30), .val (.ref b61), .val .null, .val (.ref b475), .val (.ref b487), .val (.ref b502), .val (.ref b61), .val (.int (1 : Int32))] [(.ref b502), (.ref b6)])) _
          refine st536.trans ?_
          exact kk
        clear X534 e534 st536 N536q N534 pre535
        as_aux_lemma =>
        obtain ⟨cq538, kq538, q538a, q538b, q538c⟩ := isOf hZ e536 E_b6_516
        obtain ⟨_, _, ⟨T538, L538, k538, n538⟩, -, X538, ⟨Lc538, hQ538, l538, y538, z538⟩, st538⟩ := X536.virtualBack hx (y := (⟨"java/lang/String", "equals", "(Ljava/lang/Object;)Z"⟩ : MethodName)) (z := (⟨"java/lang/String", "equals", "(Ljava/lang/Object;)Z"⟩ : MethodName)) hown (mt_90 hZ hw) (mt_91 hZ hw) (notFace_of_selects (args := #[]) (mt_93 hZ hw)) (mt_93 hZ hw) (mt_92 hZ hw) (by decide) (backOf (W := 0) (rm15 l Z aA hw [] b6 T514.heap n0 Z514) hZ (hw _ tb_94) (hw _ tb_2) (by decide) (by decide)) q538a q538c (g := (mkF m 238 #[.val (.int p0), .val (.int p1), .val (.int p2), .val (.int p3), .val (.int p4), .val (.int p5), .val (.ref b6), .val (.ref b30), .val (.ref b61), .val .null, .val (.ref b475), .val (.ref b487), .val (.ref b502), .val (.ref b61), .val (.int (1 : Int32))] [(.ref b6), (.ref b6)])) rfl (by rw [hml]; rfl) (Steps.refl _) (argsL := [(.ref b6)]) (rest := []) (lenOf pd__28Ljava_2flang_2fObject_3b_29Z rfl) rfl (by show 2 * 0 + _ ≤ _; exact Nat.le_of_eq rfl) (hb hby at_238) (fun _ _ => ⟨rfl, e536, (by decide : 13 + 0 ≤ _), (by decide : 36 + 0 ≤ _)⟩)
        dsimp only [Pt.U, Pt.locs, Pt.cells, Pt.slots] at X538 l538 y538 z538 st538 hQ538
        replace l538 := l538.symm
        subst l538
        obtain rfl : k538 = 13 := y538
        obtain rfl : n538 = 36 := z538
        obtain ⟨rfl, N538q, e538⟩ := hQ538
        have N538 := Fr.app N536 N538q
        have pre539 : ∀ t, Steps p.tables e below (T538.setTop (mkF m 248 #[.val (.int p0), .val (.int p1), .val (.int p2), .val (.int p3), .val (.int p4), .val (.int p5), .val (.ref b6), .val (.ref b30), .val (.ref b61), .val .null, .val (.ref b475), .val (.ref b487), .val (.ref b502), .val (.ref b61), .val (.int (1 : Int32))] [(.ref b502), (.ref b30)])) t → Steps p.tables e below (s₁.setTop (entryFrame m #[(.int p0), (.int p1), (.int p2), (.int p3), (.int p4), (.int p5)] maxLocals)) t := by
          intro t kk
          refine pre537 t ?_
          show Steps p.tables e below (T536.setTop (mkF m 238 #[.val (.int p0), .val (.int p1), .val (.int p2), .val (.int p3), .val (.int p4), .val (.int p5), .val (.ref b6), .val (.ref b30), .val (.ref b61), .val .null, .val (.ref b475), .val (.ref b487), .val (.ref b502), .val (.ref b61), .val (.int (1 : Int32))] [(.ref b6), (.ref b6)])) _
          refine st538.trans ?_
          refine XS.ifNo X538.here hx rfl (hb hby at_241) rfl ((if0 _ _).trans (feq (by decide : ¬ ((1 : Int32) = (0 : Int32)))).1) ?_
          refine XS.aload X538.here hx rfl (hb hby at_244) rfl rfl ?_
          refine XS.aload X538.here hx rfl (hb hby at_246) rfl rfl ?_
          exact kk
        clear X536 e536 st538 N538q N536 pre537
        as_aux_lemma =>
        obtain ⟨cq540, kq540, q540a, q540b, q540c⟩ := isOf hZ e538 E_b502_525
        obtain ⟨_, _, ⟨T540, L540, k540, n540⟩, -, X540, ⟨Lc540, hQ540, l540, y540, z540⟩, st540⟩ := X538.virtualBack hx (y := (⟨"com/example/tidewheel/tidewheel/model/KeyedRequest", "request", "()Ljava/lang/String;"⟩ : MethodName)) (z := (⟨"com/example/tidewheel/tidewheel/model/KeyedRequest", "request", "()Ljava/lang/String;"⟩ : MethodName)) hown (mt_95 hZ hw) (mt_96 hZ hw) (notFace_of_selects (args := #[]) (mt_98 hZ hw)) (mt_98 hZ hw) (mt_97 hZ hw) (by decide) (backOf (W := 1) (rm16 l Z aA hw [] b502 b30 T514.heap n0 Z514 F_b502_request_527) hZ (hw _ tb_99) (hw _ tb_48) (by decide) (by decide)) q540a q540c (g := (mkF m 248 #[.val (.int p0), .val (.int p1), .val (.int p2), .val (.int p3), .val (.int p4), .val (.int p5), .val (.ref b6), .val (.ref b30), .val (.ref b61), .val .null, .val (.ref b475), .val (.ref b487), .val (.ref b502), .val (.ref b61), .val (.int (1 : Int32))] [(.ref b502), (.ref b30)])) rfl (by rw [hml]; rfl) (Steps.refl _) (argsL := []) (rest := [(.ref b30)]) (lenOf pd__28_29Ljava_2flang_2fString_3b rfl) rfl (by show 2 * 0 + _ ≤ _; exact Nat.le_of_eq rfl) (hb hby at_248) (fun _ _ => ⟨rfl, e538, (by decide : 13 + 0 ≤ _), (by decide : 36 + 0 ≤ _)⟩)
        dsimp only [Pt.U, Pt.locs, Pt.cells, Pt.slots] at X540 l540 y540 z540 st540 hQ540
        replace l540 := l540.symm
        subst l540
        obtain rfl : k540 = 13 := y540
        obtain rfl : n540 = 36 := z540
        obtain ⟨rfl, N540q, e540⟩ := hQ540
        have N540 := Fr.app N538 N540q
        have pre541 : ∀ t, Steps p.tables e below (T540.setTop (mkF m 251 #[.val (.int p0), .val (.int p1), .val (.int p2), .val (.int p3), .val (.int p4), .val (.int p5), .val (.ref b6), .val (.ref b30), .val (.ref b61), .val .null, .val (.ref b475), .val (.ref b487), .val (.ref b502), .val (.ref b61), .val (.int (1 : Int32))] [(.ref b30), (.ref b30)])) t → Steps p.tables e below (s₁.setTop (entryFrame m #[(.int p0), (.int p1), (.int p2), (.int p3), (.int p4), (.int p5)] maxLocals)) t := by
          intro t kk
          refine pre539 t ?_
          show Steps p.tables e below (T538.setTop (mkF m 248 #[.val (.int p0), .val (.int p1), .val (.int p2), .val (.int p3), .val (.int p4), .val (.int p5), .val (.ref b6), .val (.ref b30), .val (.ref b61), .val .null, .val (.ref b475), .val (.ref b487), .val (.ref b502), .val (.ref b61), .val (.int (1 : Int32))] [(.ref b502), (.ref b30)])) _
          refine st540.trans ?_
          exact kk
        clear X538 e538 st540 N540q N538 pre539
        as_aux_lemma =>
        obtain ⟨cq542, kq542, q542a, q542b, q542c⟩ := isOf hZ e540 E_b30_517
        obtain ⟨_, _, ⟨T542, L542, k542, n542⟩, -, X542, ⟨Lc542, hQ542, l542, y542, z542⟩, st542⟩ := X540.virtualBack hx (y := (⟨"java/lang/String", "equals", "(Ljava/lang/Object;)Z"⟩ : MethodName)) (z := (⟨"java/lang/String", "equals", "(Ljava/lang/Object;)Z"⟩ : MethodName)) hown (mt_90 hZ hw) (mt_91 hZ hw) (notFace_of_selects (args := #[]) (mt_93 hZ hw)) (mt_93 hZ hw) (mt_92 hZ hw) (by decide) (backOf (W := 0) (rm15 l Z aA hw [] b30 T514.heap n0 Z514) hZ (hw _ tb_94) (hw _ tb_2) (by decide) (by decide)) q542a q542c (g := (mkF m 251 #[.val (.int p0), .val (.int p1), .val (.int p2), .val (.int p3), .val (.int p4), .val (.int p5), .val (.ref b6), .val (.ref b30), .val (.ref b61), .val .null, .val (.ref b475), .val (.ref b487), .val (.ref b502), .val (.ref b61), .val (.int (1 : Int32))] [(.ref b30), (.ref b30)])) rfl (by rw [hml]; rfl) (Steps.refl _) (argsL := [(.ref b30)]) (rest := []) (lenOf pd__28Ljava_2flang_2fObject_3b_29Z rfl) rfl (by show 2 * 0 + _ ≤ _; exact Nat.le_of_eq rfl) (hb hby at_251) (fun _ _ => ⟨rfl, e540, (by decide : 13 + 0 ≤ _), (by decide : 36 + 0 ≤ _)⟩)
        dsimp only [Pt.U, Pt.locs, Pt.cells, Pt.slots] at X542 l542 y542 z542 st542 hQ542
        replace l542 := l542.symm
        subst l542
        obtain rfl : k542 = 13 := y542
        obtain rfl : n542 = 36 := z542
        obtain ⟨rfl, N542q, e542⟩ := hQ542
        have N542 := Fr.app N540 N542q
        have pre543 : ∀ t, Steps p.tables e below (T542.setTop (mkF m 264 #[.val (.int p0), .val (.int p1), .val (.int p2), .val (.int p3), .val (.int p4), .val (.int p5), .val (.ref b6), .val (.ref b30), .val (.ref b61), .val .null, .val (.ref b475), .val (.ref b487), .val (.ref b502), .val (.ref b61), .val (.int (1 : Int32))] [(.ref b502)])) t → Steps p.tables e below (s₁.setTop (entryFrame m #[(.int p0), (.int p1), (.int p2), (.int p3), (.int p4), (.int p5)] maxLocals)) t := by
          intro t kk
          refine pre541 t ?_
          show Steps p.tables e below (T540.setTop (mkF m 251 #[.val (.int p0), .val (.int p1), .val (.int p2), .val (.int p3), .val (.int p4), .val (.int p5), .val (.ref b6), .val (.ref b30), .val (.ref b61), .val .null, .val (.ref b475), .val (.ref b487), .val (.ref b502), .val (.ref b61), .val (.int (1 : Int32))] [(.ref b30), (.ref b30)])) _
          refine st542.trans ?_
          refine XS.ifNo X542.here hx rfl (hb hby at_254) rfl ((if0 _ _).trans (feq (by decide : ¬ ((1 : Int32) = (0 : Int32)))).1) ?_
          refine XS.iload X542.here hx rfl (hb hby at_257) rfl ?_
          refine XS.ifNo X542.here hx rfl (hb hby at_259) rfl ((if0 _ _).trans (feq (by decide : ¬ ((1 : Int32) = (0 : Int32)))).1) ?_
          refine XS.aload X542.here hx rfl (hb hby at_262) rfl rfl ?_
          exact kk
        clear X540 e540 st542 N542q N540 pre541
        as_aux_lemma =>
        obtain ⟨cq544, kq544, q544a, q544b, q544c⟩ := isOf hZ e542 E_b502_525
        obtain ⟨_, _, ⟨T544, L544, k544, n544⟩, -, X544, ⟨Lc544, hQ544, l544, y544, z544⟩, st544⟩ := X542.virtualBack hx (y := (⟨"com/example/tidewheel/tidewheel/model/KeyedRequest", "answer", "()Ljava/util/Optional;"⟩ : MethodName)) (z := (⟨"com/example/tidewheel/tidewheel/model/KeyedRequest", "answer", "()Ljava/util/Optional;"⟩ : MethodName)) hown (mt_100 hZ hw) (mt_101 hZ hw) (notFace_of_selects (args := #[]) (mt_103 hZ hw)) (mt_103 hZ hw) (mt_102 hZ hw) (by decide) (backOf (W := 0) (rm17_r l Z aA hw [] b502 b475 wE T514.heap n0 Z514 O_515 S_EMPTY X_EMPTY G_EMPTY F_b502_answer_529) hZ (hw _ tb_104) (hw _ tb_48) (by decide) (by decide)) q544a q544c (g := (mkF m 264 #[.val (.int p0), .val (.int p1), .val (.int p2), .val (.int p3), .val (.int p4), .val (.int p5), .val (.ref b6), .val (.ref b30), .val (.ref b61), .val .null, .val (.ref b475), .val (.ref b487), .val (.ref b502), .val (.ref b61), .val (.int (1 : Int32))] [(.ref b502)])) rfl (by rw [hml]; rfl) (Steps.refl _) (argsL := []) (rest := []) (lenOf pd__28_29Ljava_2futil_2fOptional_3b rfl) rfl (by show 2 * 0 + _ ≤ _; exact Nat.le_of_eq rfl) (hb hby at_264) (fun _ _ => ⟨rfl, e542, (by decide : 13 + 1 ≤ _), (by decide : 36 + 1 ≤ _)⟩)
        dsimp only [Pt.U, Pt.locs, Pt.cells, Pt.slots] at X544 l544 y544 z544 st544 hQ544
        replace l544 := l544.symm
        subst l544
        obtain rfl : k544 = 14 := y544
        obtain rfl : n544 = 37 := z544
        obtain ⟨b544, rfl, N544q, K544, Eq544, Fq544⟩ := hQ544
        have N544 := Fr.app N542 N544q
        have KP544 : Keep h0 T544.heap [] := KP514.trans K544 all0
        have Z544 : n0 ≤ T544.heap.size := Nat.le_trans Z514 K544.1
        have O_545 : Old Z n0 T544.heap := O_515.keep K544 all0
        have E_b6_546 : Exa Z T544.heap b6 "java/lang/String" := E_b6_516.keep K544
        have E_b30_547 : Exa Z T544.heap b30 "java/lang/String" := E_b30_517.keep K544
        have E_b61_548 : Exa Z T544.heap b61 "java/lang/String" := E_b61_518.keep K544
        have E_b475_549 : Exa Z T544.heap b475 "com/example/tidewheel/tidewheel/model/KeyedRequest$Answer" := E_b475_519.keep K544
        have E_b487_550 : Exa Z T544.heap b487 "com/example/tidewheel/tidewheel/model/KeyedRequest" := E_b487_520.keep K544
        have F_b487_key_551 : Fld Z T544.heap b487 "com/example/tidewheel/tidewheel/model/KeyedRequest" "key" "Ljava/lang/String;" (.ref b6) := F_b487_key_521.keep K544 nin0
        have F_b487_request_552 : Fld Z T544.heap b487 "com/example/tidewheel/tidewheel/model/KeyedRequest" "request" "Ljava/lang/String;" (.ref b30) := F_b487_request_522.keep K544 nin0
        have F_b487_resource_553 : Fld Z T544.heap b487 "com/example/tidewheel/tidewheel/model/KeyedRequest" "resource" "Ljava/lang/String;" (.ref b61) := F_b487_resource_523.keep K544 nin0
        have F_b487_answer_554 : Fld Z T544.heap b487 "com/example/tidewheel/tidewheel/model/KeyedRequest" "answer" "Lcom/example/tidewheel/tidewheel/model/KeyedRequest$Answer;" .null := F_b487_answer_524.keep K544 nin0
        have E_b502_555 : Exa Z T544.heap b502 "com/example/tidewheel/tidewheel/model/KeyedRequest" := E_b502_525.keep K544
        have F_b502_key_556 : Fld Z T544.heap b502 "com/example/tidewheel/tidewheel/model/KeyedRequest" "key" "Ljava/lang/String;" (.ref b6) := F_b502_key_526.keep K544 nin0
        have F_b502_request_557 : Fld Z T544.heap b502 "com/example/tidewheel/tidewheel/model/KeyedRequest" "request" "Ljava/lang/String;" (.ref b30) := F_b502_request_527.keep K544 nin0
        have F_b502_resource_558 : Fld Z T544.heap b502 "com/example/tidewheel/tidewheel/model/KeyedRequest" "resource" "Ljava/lang/String;" (.ref b61) := F_b502_resource_528.keep K544 nin0
        have F_b502_answer_559 : Fld Z T544.heap b502 "com/example/tidewheel/tidewheel/model/KeyedRequest" "answer" "Lcom/example/tidewheel/tidewheel/model/KeyedRequest$Answer;" (.ref b475) := F_b502_answer_529.keep K544 nin0
        have E_b514_560 : Exa Z T544.heap b514 "java/util/Optional" := Eq514.keep K544
        have F_b514_value_561 : Fld Z T544.heap b514 "java/util/Optional" "value" "Ljava/lang/Object;" (.ref b61) := Fq514.keep K544 nin0
        have pre562 : ∀ t, Steps p.tables e below (T544.setTop (mkF m 268 #[.val (.int p0), .val (.int p1), .val (.int p2), .val (.int p3), .val (.int p4), .val (.int p5), .val (.ref b6), .val (.ref b30), .val (.ref b61), .val .null, .val (.ref b475), .val (.ref b487), .val (.ref b502), .val (.ref b61), .val (.int (1 : Int32))] [.null, (.ref b544)])) t → Steps p.tables e below (s₁.setTop (entryFrame m #[(.int p0), (.int p1), (.int p2), (.int p3), (.int p4), (.int p5)] maxLocals)) t := by
          intro t kk
          refine pre543 t ?_
          show Steps p.tables e below (T542.setTop (mkF m 264 #[.val (.int p0), .val (.int p1), .val (.int p2), .val (.int p3), .val (.int p4), .val (.int p5), .val (.ref b6), .val (.ref b30), .val (.ref b61), .val .null, .val (.ref b475), .val (.ref b487), .val (.ref b502), .val (.ref b61), .val (.int (1 : Int32))] [(.ref b502)])) _
          refine st544.trans ?_
          refine XS.aconstNull X544.here hx rfl (hb hby at_267) ?_
          exact kk
        clear X542 e542 st544 N544q N542 KP514 Z514 O_515 E_b6_516 E_b30_517 E_b61_518 E_b475_519 E_b487_520 F_b487_key_521 F_b487_request_522 F_b487_resource_523 F_b487_answer_524 E_b502_525 F_b502_key_526 F_b502_request_527 F_b502_resource_528 F_b502_answer_529 Eq514 Fq514 K544 pre543
        as_aux_lemma =>
        obtain ⟨cq563, kq563, q563a, q563b, q563c⟩ := isOf hZ rfl Eq544
        obtain ⟨_, _, ⟨T563, L563, k563, n563⟩, -, X563, ⟨Lc563, hQ563, l563, y563, z563⟩, st563⟩ := X544.virtualBack hx (y := (⟨"java/util/Optional", "orElse", "(Ljava/lang/Object;)Ljava/lang/Object;"⟩ : MethodName)) (z := (⟨"java/util/Optional", "orElse", "(Ljava/lang/Object;)Ljava/lang/Object;"⟩ : MethodName)) hown (mt_78 hZ hw) (mt_79 hZ hw) (notFace_of_selects (args := #[]) (mt_81 hZ hw)) (mt_81 hZ hw) (mt_80 hZ hw) (by decide) (backOf (W := 0) (rm13_r l Z aA hw [] b544 b475 T544.heap n0 Z544 Fq544) hZ (hw _ tb_82) (hw _ tb_75) (by decide) (by decide)) q563a q563c (g := (mkF m 268 #[.val (.int p0), .val (.int p1), .val (.int p2), .val (.int p3), .val (.int p4), .val (.int p5), .val (.ref b6), .val (.ref b30), .val (.ref b61), .val .null, .val (.ref b475), .val (.ref b487), .val (.ref b502), .val (.ref b61), .val (.int (1 : Int32))] [.null, (.ref b544)])) rfl (by rw [hml]; rfl) (Steps.refl _) (argsL := [.null]) (rest := []) (lenOf pd__28Ljava_2flang_2fObject_3b_29Ljava_2flang_2fObject_3b rfl) rfl (by show 2 * 0 + _ ≤ _; exact Nat.le_of_eq rfl) (hb hby at_268) (fun _ _ => ⟨rfl, rfl, (by decide : 14 + 0 ≤ _), (by decide : 37 + 0 ≤ _)⟩)
        dsimp only [Pt.U, Pt.locs, Pt.cells, Pt.slots] at X563 l563 y563 z563 st563 hQ563
        replace l563 := l563.symm
        subst l563
        obtain rfl : k563 = 14 := y563
        obtain rfl : n563 = 37 := z563
        obtain ⟨rfl, N563q, e563⟩ := hQ563
        have N563 := Fr.app N544 N563q
        have pre564 : ∀ t, Steps p.tables e below (T563.setTop (mkF m 278 #[.val (.int p0), .val (.int p1), .val (.int p2), .val (.int p3), .val (.int p4), .val (.int p5), .val (.ref b6), .val (.ref b30), .val (.ref b61), .val .null, .val (.ref b475), .val (.ref b487), .val (.ref b502), .val (.ref b61), .val (.int (1 : Int32))] [(.ref b487)])) t → Steps p.tables e below (s₁.setTop (entryFrame m #[(.int p0), (.int p1), (.int p2), (.int p3), (.int p4), (.int p5)] maxLocals)) t := by
          intro t kk
          refine pre562 t ?_
          show Steps p.tables e below (T544.setTop (mkF m 268 #[.val (.int p0), .val (.int p1), .val (.int p2), .val (.int p3), .val (.int p4), .val (.int p5), .val (.ref b6), .val (.ref b30), .val (.ref b61), .val .null, .val (.ref b475), .val (.ref b487), .val (.ref b502), .val (.ref b61), .val (.int (1 : Int32))] [.null, (.ref b544)])) _
          refine st563.trans ?_
          refine XS.aload X563.here hx rfl (hb hby at_271) rfl rfl ?_
          refine Jvm.RoadKit.acmp (g := (mkF m 273 #[.val (.int p0), .val (.int p1), .val (.int p2), .val (.int p3), .val (.int p4), .val (.int p5), .val (.ref b6), .val (.ref b30), .val (.ref b61), .val .null, .val (.ref b475), .val (.ref b487), .val (.ref b502), .val (.ref b61), .val (.int (1 : Int32))] [(.ref b475), (.ref b475)])) X563 hx rfl rfl rfl (pc0 := 273) (pc' := 276) (same := true) rfl (hb hby at_273) rfl (decide_eq_true rfl) (by decide) (by decide) ?_
          refine XS.aload X563.here hx rfl (hb hby at_276) rfl rfl ?_
          exact kk
        clear X544 st563 N563q N544 pre562
        as_aux_lemma =>
        obtain ⟨cq565, kq565, q565a, q565b, q565c⟩ := isOf hZ e563 E_b487_550
        obtain ⟨_, _, ⟨T565, L565, k565, n565⟩, -, X565, ⟨Lc565, hQ565, l565, y565, z565⟩, st565⟩ := X563.virtualBack hx (y := (⟨"com/example/tidewheel/tidewheel/model/KeyedRequest", "answer", "()Ljava/util/Optional;"⟩ : MethodName)) (z := (⟨"com/example/tidewheel/tidewheel/model/KeyedRequest", "answer", "()Ljava/util/Optional;"⟩ : MethodName)) hown (mt_100 hZ hw) (mt_101 hZ hw) (notFace_of_selects (args := #[]) (mt_103 hZ hw)) (mt_103 hZ hw) (mt_102 hZ hw) (by decide) (backOf (W := 0) (rm17_n l Z aA hw [] b487  wE T544.heap n0 Z544 O_545 S_EMPTY X_EMPTY G_EMPTY F_b487_answer_554) hZ (hw _ tb_104) (hw _ tb_48) (by decide) (by decide)) q565a q565c (g := (mkF m 278 #[.val (.int p0), .val (.int p1), .val (.int p2), .val (.int p3), .val (.int p4), .val (.int p5), .val (.ref b6), .val (.ref b30), .val (.ref b61), .val .null, .val (.ref b475), .val (.ref b487), .val (.ref b502), .val (.ref b61), .val (.int (1 : Int32))] [(.ref b487)])) rfl (by rw [hml]; rfl) (Steps.refl _) (argsL := []) (rest := []) (lenOf pd__28_29Ljava_2futil_2fOptional_3b rfl) rfl (by show 2 * 0 + _ ≤ _; exact Nat.le_of_eq rfl) (hb hby at_278) (fun _ _ => ⟨rfl, e563, (by decide : 14 + 1 ≤ _), (by decide : 37 + 1 ≤ _)⟩)
        dsimp only [Pt.U, Pt.locs, Pt.cells, Pt.slots] at X565 l565 y565 z565 st565 hQ565
        replace l565 := l565.symm
        subst l565
        obtain rfl : k565 = 15 := y565
        obtain rfl : n565 = 38 := z565
        obtain ⟨b565, rfl, N565q, K565, Eq565, Fq565⟩ := hQ565
        have N565 := Fr.app N563 N565q
        have KP565 : Keep h0 T565.heap [] := KP544.trans K565 all0
        have Z565 : n0 ≤ T565.heap.size := Nat.le_trans Z544 K565.1
        have O_566 : Old Z n0 T565.heap := O_545.keep K565 all0
        have E_b6_567 : Exa Z T565.heap b6 "java/lang/String" := E_b6_546.keep K565
        have E_b30_568 : Exa Z T565.heap b30 "java/lang/String" := E_b30_547.keep K565
        have E_b61_569 : Exa Z T565.heap b61 "java/lang/String" := E_b61_548.keep K565
        have E_b475_570 : Exa Z T565.heap b475 "com/example/tidewheel/tidewheel/model/KeyedRequest$Answer" := E_b475_549.keep K565
        have E_b487_571 : Exa Z T565.heap b487 "com/example/tidewheel/tidewheel/model/KeyedRequest" := E_b487_550.keep K565
        have F_b487_key_572 : Fld Z T565.heap b487 "com/example/tidewheel/tidewheel/model/KeyedRequest" "key" "Ljava/lang/String;" (.ref b6) := F_b487_key_551.keep K565 nin0
        have F_b487_request_573 : Fld Z T565.heap b487 "com/example/tidewheel/tidewheel/model/KeyedRequest" "request" "Ljava/lang/String;" (.ref b30) := F_b487_request_552.keep K565 nin0
        have F_b487_resource_574 : Fld Z T565.heap b487 "com/example/tidewheel/tidewheel/model/KeyedRequest" "resource" "Ljava/lang/String;" (.ref b61) := F_b487_resource_553.keep K565 nin0
        have F_b487_answer_575 : Fld Z T565.heap b487 "com/example/tidewheel/tidewheel/model/KeyedRequest" "answer" "Lcom/example/tidewheel/tidewheel/model/KeyedRequest$Answer;" .null := F_b487_answer_554.keep K565 nin0
        have E_b502_576 : Exa Z T565.heap b502 "com/example/tidewheel/tidewheel/model/KeyedRequest" := E_b502_555.keep K565
        have F_b502_key_577 : Fld Z T565.heap b502 "com/example/tidewheel/tidewheel/model/KeyedRequest" "key" "Ljava/lang/String;" (.ref b6) := F_b502_key_556.keep K565 nin0
        have F_b502_request_578 : Fld Z T565.heap b502 "com/example/tidewheel/tidewheel/model/KeyedRequest" "request" "Ljava/lang/String;" (.ref b30) := F_b502_request_557.keep K565 nin0
        have F_b502_resource_579 : Fld Z T565.heap b502 "com/example/tidewheel/tidewheel/model/KeyedRequest" "resource" "Ljava/lang/String;" (.ref b61) := F_b502_resource_558.keep K565 nin0
        have F_b502_answer_580 : Fld Z T565.heap b502 "com/example/tidewheel/tidewheel/model/KeyedRequest" "answer" "Lcom/example/tidewheel/tidewheel/model/KeyedRequest$Answer;" (.ref b475) := F_b502_answer_559.keep K565 nin0
        have E_b514_581 : Exa Z T565.heap b514 "java/util/Optional" := E_b514_560.keep K565
        have F_b514_value_582 : Fld Z T565.heap b514 "java/util/Optional" "value" "Ljava/lang/Object;" (.ref b61) := F_b514_value_561.keep K565 nin0
        have E_b544_583 : Exa Z T565.heap b544 "java/util/Optional" := Eq544.keep K565
        have F_b544_value_584 : Fld Z T565.heap b544 "java/util/Optional" "value" "Ljava/lang/Object;" (.ref b475) := Fq544.keep K565 nin0
        have pre585 : ∀ t, Steps p.tables e below (T565.setTop (mkF m 282 #[.val (.int p0), .val (.int p1), .val (.int p2), .val (.int p3), .val (.int p4), .val (.int p5), .val (.ref b6), .val (.ref b30), .val (.ref b61), .val .null, .val (.ref b475), .val (.ref b487), .val (.ref b502), .val (.ref b61), .val (.int (1 : Int32))] [.null, (.ref b565)])) t → Steps p.tables e below (s₁.setTop (entryFrame m #[(.int p0), (.int p1), (.int p2), (.int p3), (.int p4), (.int p5)] maxLocals)) t := by
          intro t kk
          refine pre564 t ?_
          show Steps p.tables e below (T563.setTop (mkF m 278 #[.val (.int p0), .val (.int p1), .val (.int p2), .val (.int p3), .val (.int p4), .val (.int p5), .val (.ref b6), .val (.ref b30), .val (.ref b61), .val .null, .val (.ref b475), .val (.ref b487), .val (.ref b502), .val (.ref b61), .val (.int (1 : Int32))] [(.ref b487)])) _
          refine st565.trans ?_
          refine XS.aconstNull X565.here hx rfl (hb hby at_281) ?_
          exact kk
        clear X563 e563 st565 N565q N563 KP544 Z544 O_545 E_b6_546 E_b30_547 E_b61_548 E_b475_549 E_b487_550 F_b487_key_551 F_b487_request_552 F_b487_resource_553 F_b487_answer_554 E_b502_555 F_b502_key_556 F_b502_request_557 F_b502_resource_558 F_b502_answer_559 E_b514_560 F_b514_value_561 Eq544 Fq544 K565 pre564
        as_aux_lemma =>
        obtain ⟨cq586, kq586, q586a, q586b, q586c⟩ := isOf hZ rfl Eq565
        obtain ⟨_, _, ⟨T586, L586, k586, n586⟩, -, X586, ⟨Lc586, hQ586, l586, y586, z586⟩, st586⟩ := X565.virtualBack hx (y := (⟨"java/util/Optional", "orElse", "(Ljava/lang/Object;)Ljava/lang/Object;"⟩ : MethodName)) (z := (⟨"java/util/Optional", "orElse", "(Ljava/lang/Object;)Ljava/lang/Object;"⟩ : MethodName)) hown (mt_78 hZ hw) (mt_79 hZ hw) (notFace_of_selects (args := #[]) (mt_81 hZ hw)) (mt_81 hZ hw) (mt_80 hZ hw) (by decide) (backOf (W := 0) (rm13_n l Z aA hw [] b565  T565.heap n0 Z565 Fq565) hZ (hw _ tb_82) (hw _ tb_75) (by decide) (by decide)) q586a q586c (g := (mkF m 282 #[.val (.int p0), .val (.int p1), .val (.int p2), .val (.int p3), .val (.int p4), .val (.int p5), .val (.ref b6), .val (.ref b30), .val (.ref b61), .val .null, .val (.ref b475), .val (.ref b487), .val (.ref b502), .val (.ref b61), .val (.int (1 : Int32))] [.null, (.ref b565)])) rfl (by rw [hml]; rfl) (Steps.refl _) (argsL := [.null]) (rest := []) (lenOf pd__28Ljava_2flang_2fObject_3b_29Ljava_2flang_2fObject_3b rfl) rfl (by show 2 * 0 + _ ≤ _; exact Nat.le_of_eq rfl) (hb hby at_282) (fun _ _ => ⟨rfl, rfl, (by decide : 15 + 0 ≤ _), (by decide : 38 + 0 ≤ _)⟩)
        dsimp only [Pt.U, Pt.locs, Pt.cells, Pt.slots] at X586 l586 y586 z586 st586 hQ586
        replace l586 := l586.symm
        subst l586
        obtain rfl : k586 = 15 := y586
        obtain rfl : n586 = 38 := z586
        obtain ⟨rfl, N586q, e586⟩ := hQ586
        have N586 := Fr.app N565 N586q
        have pre587 : ∀ t, Steps p.tables e below (T586.setTop (mkF m 295 #[.val (.int p0), .val (.int p1), .val (.int p2), .val (.int p3), .val (.int p4), .val (.int p5), .val (.ref b6), .val (.ref b30), .val (.ref b61), .val .null, .val (.ref b475), .val (.ref b487), .val (.ref b502), .val (.ref b61), .val (.int (1 : Int32))] [(.int (1 : Int32))])) t → Steps p.tables e below (s₁.setTop (entryFrame m #[(.int p0), (.int p1), (.int p2), (.int p3), (.int p4), (.int p5)] maxLocals)) t := by
          intro t kk
          refine pre585 t ?_
          show Steps p.tables e below (T565.setTop (mkF m 282 #[.val (.int p0), .val (.int p1), .val (.int p2), .val (.int p3), .val (.int p4), .val (.int p5), .val (.ref b6), .val (.ref b30), .val (.ref b61), .val .null, .val (.ref b475), .val (.ref b487), .val (.ref b502), .val (.ref b61), .val (.int (1 : Int32))] [.null, (.ref b565)])) _
          refine st586.trans ?_
          refine XS.aload X586.here hx rfl (hb hby at_285) rfl rfl ?_
          refine Jvm.RoadKit.acmp (g := (mkF m 287 #[.val (.int p0), .val (.int p1), .val (.int p2), .val (.int p3), .val (.int p4), .val (.int p5), .val (.ref b6), .val (.ref b30), .val (.ref b61), .val .null, .val (.ref b475), .val (.ref b487), .val (.ref b502), .val (.ref b61), .val (.int (1 : Int32))] [.null, .null])) X586 hx rfl rfl rfl (pc0 := 287) (pc' := 290) (same := true) rfl (hb hby at_287) rfl (decide_eq_true rfl) (by decide) (by decide) ?_
          refine XS.iconst X586.here hx rfl (hb hby at_290) ?_
          refine XS.goto X586.here hx rfl (pc0 := 291) (pc' := 295) rfl (hb hby at_291) (by decide) (by decide) ?_
          exact kk
        clear X565 st586 N586q N565 pre585
        as_aux_lemma =>
        obtain ⟨fs, hr, hrun, hended, hW, hsame⟩ := X586.leave (v := some (.int (1 : Int32))) (fun h => by rw [Bd.returns] at h; cases h)
        refine ⟨_, _, pre587 _ ?_, hrun, hended, _, _, rfl, ?_, ⟨_, rfl⟩, hW, hsame.mono (by decide) (by decide)⟩
        · show Steps p.tables e below (T586.setTop (mkF m 295 #[.val (.int p0), .val (.int p1), .val (.int p2), .val (.int p3), .val (.int p4), .val (.int p5), .val (.ref b6), .val (.ref b30), .val (.ref b61), .val .null, .val (.ref b475), .val (.ref b487), .val (.ref b502), .val (.ref b61), .val (.int (1 : Int32))] [(.int (1 : Int32))])) _
          exact retN X586 hx (t := .boolean) Bd.returns (by simp) (hb hby at_295) hr
        · show Q0 Z p0 p1 p2 p3 p4 p5 zcs wE h0 n0 _ T586.heap _
          rw [e586]
          exact ⟨rfl, N586⟩
      · as_aux_lemma =>
        obtain ⟨T588, h588, X588, e588, E588, A588, D588, -, st588⟩ := newO X89 hx hZ hown (hw _ tb_46) (hw _ tb_47) (hw _ tb_48) rfl (g := (mkF m 157 #[.val (.int p0), .val (.int p1), .val (.int p2), .val (.int p3), .val (.int p4), .val (.int p5), .val (.ref b6), .val (.ref b30), .val (.ref b61), .val .null, .val .null, .unset, .unset, .unset, .unset] [])) rfl (hb hby at_157) (by decide) (by decide)
        obtain ⟨b588, g588⟩ : ∃ z, z = T89.heap.size := ⟨_, rfl⟩
        rw [← g588] at A588 D588 st588
        have ne_b6_b588 : b6 ≠ b588 := Nat.ne_of_lt (Nat.lt_of_lt_of_le E_b6_92.lt (Nat.le_of_eq g588.symm))
        have ne_b30_b588 : b30 ≠ b588 := Nat.ne_of_lt (Nat.lt_of_lt_of_le E_b30_93.lt (Nat.le_of_eq g588.symm))
        have ne_b61_b588 : b61 ≠ b588 := Nat.ne_of_lt (Nat.lt_of_lt_of_le E_b61_94.lt (Nat.le_of_eq g588.symm))
        have sz_b588 : h0.size ≤ b588 := Nat.le_trans KP89.1 (Nat.le_of_eq g588.symm)
        have g_b588 : n0 ≤ b588 := Nat.le_trans Z89 (Nat.le_of_eq g588.symm)
        have KP588 : Keep h0 h588 [] := KP89.ext E588
        have Z588 : n0 ≤ h588.size := Nat.le_trans Z89 E588.1
        have O_589 : Old Z n0 h588 := O_91.ext E588
        have E_b6_590 : Exa Z h588 b6 "java/lang/String" := E_b6_92.ext E588
        have E_b30_591 : Exa Z h588 b30 "java/lang/String" := E_b30_93.ext E588
        have E_b61_592 : Exa Z h588 b61 "java/lang/String" := E_b61_94.ext E588
        have F_key_b588 : Fld Z h588 b588 "com/example/tidewheel/tidewheel/model/KeyedRequest" "key" "Ljava/lang/String;" .null := D588 (Or.inr (hw _ tb_54)) (ty := (.object "java/lang/String")) (by decide)
        have F_request_b588 : Fld Z h588 b588 "com/example/tidewheel/tidewheel/model/KeyedRequest" "request" "Ljava/lang/String;" .null := D588 (Or.inr (hw _ tb_56)) (ty := (.object "java/lang/String")) (by decide)
        have F_resource_b588 : Fld Z h588 b588 "com/example/tidewheel/tidewheel/model/KeyedRequest" "resource" "Ljava/lang/String;" .null := D588 (Or.inr (hw _ tb_58)) (ty := (.object "java/lang/String")) (by decide)
        have F_answer_b588 : Fld Z h588 b588 "com/example/tidewheel/tidewheel/model/KeyedRequest" "answer" "Lcom/example/tidewheel/tidewheel/model/KeyedRequest$Answer;" .null := D588 (Or.inr (hw _ tb_60)) (ty := (.object "com/example/tidewheel/tidewheel/model/KeyedRequest$Answer")) (by decide)
        replace X588 : Stand _ _ _ _ _ _ _ _ _ _ _ _ 10 28 := X588
        have pre593 : ∀ t, Steps p.tables e below (T588.setTop (mkF m 169 #[.val (.int p0), .val (.int p1), .val (.int p2), .val (.int p3), .val (.int p4), .val (.int p5), .val (.ref b6), .val (.ref b30), .val (.ref b61), .val .null, .val .null, .unset, .unset, .unset, .unset] [.null, (.ref b61), (.ref b30), (.ref b6), (.ref b588), (.ref b588)])) t → Steps p.tables e below (s₁.setTop (entryFrame m #[(.int p0), (.int p1), (.int p2), (.int p3), (.int p4), (.int p5)] maxLocals)) t := by
          intro t kk
          refine pre474 t ?_
          show Steps p.tables e below (T89.setTop (mkF m 137 #[.val (.int p0), .val (.int p1), .val (.int p2), .val (.int p3), .val (.int p4), .val (.int p5), .val (.ref b6), .val (.ref b30), .val (.ref b61), .val .null, .unset, .unset, .unset, .unset, .unset] [(.int (p5 &&& (4 : Int32)))])) _
          refine XS.ifNo X89.here hx rfl (hb hby at_137) rfl ((if0 _ _).trans (feq hc137_473).1) ?_
          refine XS.aconstNull X89.here hx rfl (hb hby at_140) ?_
          refine XS.goto X89.here hx rfl (pc0 := 141) (pc' := 155) rfl (hb hby at_141) (by decide) (by decide) ?_
          refine XS.astore X89.here hx rfl (hb hby at_155) rfl rfl (l' := #[.val (.int p0), .val (.int p1), .val (.int p2), .val (.int p3), .val (.int p4), .val (.int p5), .val (.ref b6), .val (.ref b30), .val (.ref b61), .val .null, .val .null, .unset, .unset, .unset, .unset]) rfl ?_
          refine st588 _ ?_
          refine XS.dup X588.here hx rfl (hb hby at_160) rfl rfl ?_
          refine XS.aload X588.here hx rfl (hb hby at_161) rfl rfl ?_
          refine XS.aload X588.here hx rfl (hb hby at_163) rfl rfl ?_
          refine XS.aload X588.here hx rfl (hb hby at_165) rfl rfl ?_
          refine XS.aload X588.here hx rfl (hb hby at_167) rfl rfl ?_
          exact kk
        clear X89 st588 O_91 E_b6_92 E_b30_93 E_b61_94 pre474
        as_aux_lemma =>
        obtain ⟨_, _, ⟨T594, L594, k594, n594⟩, -, X594, ⟨Lc594, hQ594, l594, y594, z594⟩, st594⟩ := X588.specialBack hx (y := (⟨"com/example/tidewheel/tidewheel/model/KeyedRequest", "<init>", "(Ljava/lang/String;Ljava/lang/String;Ljava/lang/String;Lcom/example/tidewheel/tidewheel/model/KeyedRequest$Answer;)V"⟩ : MethodName)) rfl hown (mt_49 hZ hw) (mt_50 hZ hw) (mt_51 hZ hw) (by decide) (backOf (W := 1) (rm9_rrrn l Z aA hw [] b588 b6 b30 b61 h588 n0 Z588 A588 g_b588 F_key_b588 F_request_b588 F_resource_b588 F_answer_b588) hZ (hw _ tb_51) (hw _ tb_48) (by decide) (by decide)) (g := (mkF m 169 #[.val (.int p0), .val (.int p1), .val (.int p2), .val (.int p3), .val (.int p4), .val (.int p5), .val (.ref b6), .val (.ref b30), .val (.ref b61), .val .null, .val .null, .unset, .unset, .unset, .unset] [.null, (.ref b61), (.ref b30), (.ref b6), (.ref b588), (.ref b588)])) rfl (by rw [hml]; rfl) (Steps.refl _) (a := b588) (argsL := [(.ref b6), (.ref b30), (.ref b61), .null]) (rest := [(.ref b588)]) (lenOf pd__28Ljava_2flang_2fString_3bLjava_2flang_2fString_3bLjava_2flang_2fString_3bLcom_2fexample_2ftidewheel_2ftidewheel_2fmodel_2fKeyedRequest_24Answer_3b_29V rfl) rfl (by show 2 * 0 + _ ≤ _; exact Nat.le_of_eq rfl) (hb hby at_169) (fun _ _ => ⟨rfl, e588, (by decide : 10 + 0 ≤ _), (by decide : 28 + 0 ≤ _)⟩)
        dsimp only [Pt.U, Pt.locs, Pt.cells, Pt.slots] at X594 l594 y594 z594 st594 hQ594
        replace l594 := l594.symm
        subst l594
        obtain rfl : k594 = 10 := y594
        obtain rfl : n594 = 28 := z594
        obtain ⟨rfl, N594q, K594, Eq594, Fq594_key, Fq594_request, Fq594_resource, Fq594_answer⟩ := hQ594
        have N594 := Fr.app N89 N594q
        have KP594 : Keep h0 T594.heap [] := KP588.trans K594 (allS (Or.inr sz_b588) all0)
        have Z594 : n0 ≤ T594.heap.size := Nat.le_trans Z588 K594.1
        have O_595 : Old Z n0 T594.heap := O_589.keep K594 (allS g_b588 all0)
        have E_b6_596 : Exa Z T594.heap b6 "java/lang/String" := E_b6_590.keep K594
        have E_b30_597 : Exa Z T594.heap b30 "java/lang/String" := E_b30_591.keep K594
        have E_b61_598 : Exa Z T594.heap b61 "java/lang/String" := E_b61_592.keep K594
        have E_b588_599 : Exa Z T594.heap b588 "com/example/tidewheel/tidewheel/model/KeyedRequest" := A588.keep K594
        have pre600 : ∀ t, Steps p.tables e below (T594.setTop (mkF m 178 #[.val (.int p0), .val (.int p1), .val (.int p2), .val (.int p3), .val (.int p4), .val (.int p5), .val (.ref b6), .val (.ref b30), .val (.ref b61), .val .null, .val .null, .val (.ref b588), .unset, .unset, .unset] [.null, (.ref b588)])) t → Steps p.tables e below (s₁.setTop (entryFrame m #[(.int p0), (.int p1), (.int p2), (.int p3), (.int p4), (.int p5)] maxLocals)) t := by
          intro t kk
          refine pre593 t ?_
          show Steps p.tables e below (T588.setTop (mkF m 169 #[.val (.int p0), .val (.int p1), .val (.int p2), .val (.int p3), .val (.int p4), .val (.int p5), .val (.ref b6), .val (.ref b30), .val (.ref b61), .val .null, .val .null, .unset, .unset, .unset, .unset] [.null, (.ref b61), (.ref b30), (.ref b6), (.ref b588), (.ref b588)])) _
          refine st594.trans ?_
          refine XS.astore X594.here hx rfl (hb hby at_172) rfl rfl (l' := #[.val (.int p0), .val (.int p1), .val (.int p2), .val (.int p3), .val (.int p4), .val (.int p5), .val (.ref b6), .val (.ref b30), .val (.ref b61), .val .null, .val .null, .val (.ref b588), .unset, .unset, .unset]) rfl ?_
          refine XS.aload X594.here hx rfl (hb hby at_174) rfl rfl ?_
          refine XS.aload X594.here hx rfl (hb hby at_176) rfl rfl ?_
          exact kk
        clear X588 e588 st594 N594q N89 KP588 Z588 O_589 E_b6_590 E_b30_591 E_b61_592 A588 F_key_b588 F_request_b588 F_resource_b588 F_answer_b588 K594 pre593
        as_aux_lemma =>
        obtain ⟨cq601, kq601, q601a, q601b, q601c⟩ := isOf hZ rfl Eq594
        obtain ⟨_, _, ⟨T601, L601, k601, n601⟩, -, X601, ⟨Lc601, hQ601, l601, y601, z601⟩, st601⟩ := X594.virtualBack hx (y := (⟨"com/example/tidewheel/tidewheel/model/KeyedRequest", "answered", "(Lcom/example/tidewheel/tidewheel/model/KeyedRequest$Answer;)Lcom/example/tidewheel/tidewheel/model/KeyedRequest;"⟩ : MethodName)) (z := (⟨"com/example/tidewheel/tidewheel/model/KeyedRequest", "answered", "(Lcom/example/tidewheel/tidewheel/model/KeyedRequest$Answer;)Lcom/example/tidewheel/tidewheel/model/KeyedRequest;"⟩ : MethodName)) hown (mt_61 hZ hw) (mt_62 hZ hw) (notFace_of_selects (args := #[]) (mt_64 hZ hw)) (mt_64 hZ hw) (mt_63 hZ hw) (by decide) (backOf (W := 0) (rm10_rn l Z aA hw [] b588 b6 b30 b61 T594.heap n0 Z594 Fq594_key Fq594_request Fq594_resource) hZ (hw _ tb_65) (hw _ tb_48) (by decide) (by decide)) q601a q601c (g := (mkF m 178 #[.val (.int p0), .val (.int p1), .val (.int p2), .val (.int p3), .val (.int p4), .val (.int p5), .val (.ref b6), .val (.ref b30), .val (.ref b61), .val .null, .val .null, .val (.ref b588), .unset, .unset, .unset] [.null, (.ref b588)])) rfl (by rw [hml]; rfl) (Steps.refl _) (argsL := [.null]) (rest := []) (lenOf pd__28Lcom_2fexample_2ftidewheel_2ftidewheel_2fmodel_2fKeyedRequest_24Answer_3b_29Lcom_2fexample_2ftidewheel_2ftidewheel_2fmodel_2fKeyedRequest_3b rfl) rfl (by show 2 * 0 + _ ≤ _; exact Nat.le_of_eq rfl) (hb hby at_178) (fun _ _ => ⟨rfl, rfl, (by decide : 10 + 1 ≤ _), (by decide : 28 + 4 ≤ _)⟩)
        dsimp only [Pt.U, Pt.locs, Pt.cells, Pt.slots] at X601 l601 y601 z601 st601 hQ601
        replace l601 := l601.symm
        subst l601
        obtain rfl : k601 = 11 := y601
        obtain rfl : n601 = 32 := z601
        obtain ⟨b601, rfl, N601q, K601, sz601, Eq601, Fq601_key, Fq601_request, Fq601_resource, Fq601_answer⟩ := hQ601
        have N601 := Fr.app N594 N601q
        have sz_b601 : h0.size ≤ b601 := Nat.le_trans KP594.1 sz601
        have g_b601 : n0 ≤ b601 := Nat.le_trans Z594 sz601
        have KP601 : Keep h0 T601.heap [] := KP594.trans K601 all0
        have Z601 : n0 ≤ T601.heap.size := Nat.le_trans Z594 K601.1
        have O_602 : Old Z n0 T601.heap := O_595.keep K601 all0
        have E_b6_603 : Exa Z T601.heap b6 "java/lang/String" := E_b6_596.keep K601
        have E_b30_604 : Exa Z T601.heap b30 "java/lang/String" := E_b30_597.keep K601
        have E_b61_605 : Exa Z T601.heap b61 "java/lang/String" := E_b61_598.keep K601
        have E_b588_606 : Exa Z T601.heap b588 "com/example/tidewheel/tidewheel/model/KeyedRequest" := Eq594.keep K601
        have F_b588_key_607 : Fld Z T601.heap b588 "com/example/tidewheel/tidewheel/model/KeyedRequest" "key" "Ljava/lang/String;" (.ref b6) := Fq594_key.keep K601 nin0
        have F_b588_request_608 : Fld Z T601.heap b588 "com/example/tidewheel/tidewheel/model/KeyedRequest" "request" "Ljava/lang/String;" (.ref b30) := Fq594_request.keep K601 nin0
        have F_b588_resource_609 : Fld Z T601.heap b588 "com/example/tidewheel/tidewheel/model/KeyedRequest" "resource" "Ljava/lang/String;" (.ref b61) := Fq594_resource.keep K601 nin0
        have F_b588_answer_610 : Fld Z T601.heap b588 "com/example/tidewheel/tidewheel/model/KeyedRequest" "answer" "Lcom/example/tidewheel/tidewheel/model/KeyedRequest$Answer;" .null := Fq594_answer.keep K601 nin0
        have pre611 : ∀ t, Steps p.tables e below (T601.setTop (mkF m 192 #[.val (.int p0), .val (.int p1), .val (.int p2), .val (.int p3), .val (.int p4), .val (.int p5), .val (.ref b6), .val (.ref b30), .val (.ref b61), .val .null, .val .null, .val (.ref b588), .val (.ref b601), .unset, .unset] [(.ref b601)])) t → Steps p.tables e below (s₁.setTop (entryFrame m #[(.int p0), (.int p1), (.int p2), (.int p3), (.int p4), (.int p5)] maxLocals)) t := by
          intro t kk
          refine pre600 t ?_
          show Steps p.tables e below (T594.setTop (mkF m 178 #[.val (.int p0), .val (.int p1), .val (.int p2), .val (.int p3), .val (.int p4), .val (.int p5), .val (.ref b6), .val (.ref b30), .val (.ref b61), .val .null, .val .null, .val (.ref b588), .unset, .unset, .unset] [.null, (.ref b588)])) _
          refine st601.trans ?_
          refine XS.astore X601.here hx rfl (hb hby at_181) rfl rfl (l' := #[.val (.int p0), .val (.int p1), .val (.int p2), .val (.int p3), .val (.int p4), .val (.int p5), .val (.ref b6), .val (.ref b30), .val (.ref b61), .val .null, .val .null, .val (.ref b588), .val (.ref b601), .unset, .unset]) rfl ?_
          refine XS.aload X601.here hx rfl (hb hby at_183) rfl rfl ?_
          refine XS.ifnonnullYes X601.here hx rfl (pc0 := 185) (pc' := 190) rfl (hb hby at_185) rfl (by decide) (by decide) ?_
          refine XS.aload X601.here hx rfl (hb hby at_190) rfl rfl ?_
          exact kk
        clear X594 st601 N601q N594 KP594 Z594 O_595 E_b6_596 E_b30_597 E_b61_598 Eq594 Fq594_key Fq594_request Fq594_resource Fq594_answer K601 pre600
        as_aux_lemma =>
        obtain ⟨cq612, kq612, q612a, q612b, q612c⟩ := isOf hZ rfl Eq601
        obtain ⟨_, _, ⟨T612, L612, k612, n612⟩, -, X612, ⟨Lc612, hQ612, l612, y612, z612⟩, st612⟩ := X601.virtualBack hx (y := (⟨"com/example/tidewheel/tidewheel/model/KeyedRequest", "resource", "()Ljava/util/Optional;"⟩ : MethodName)) (z := (⟨"com/example/tidewheel/tidewheel/model/KeyedRequest", "resource", "()Ljava/util/Optional;"⟩ : MethodName)) hown (mt_68 hZ hw) (mt_69 hZ hw) (notFace_of_selects (args := #[]) (mt_71 hZ hw)) (mt_71 hZ hw) (mt_70 hZ hw) (by decide) (backOf (W := 0) (rm11_r l Z aA hw [] b601 b61 wE T601.heap n0 Z601 O_602 S_EMPTY X_EMPTY G_EMPTY Fq601_resource) hZ (hw _ tb_72) (hw _ tb_48) (by decide) (by decide)) q612a q612c (g := (mkF m 192 #[.val (.int p0), .val (.int p1), .val (.int p2), .val (.int p3), .val (.int p4), .val (.int p5), .val (.ref b6), .val (.ref b30), .val (.ref b61), .val .null, .val .null, .val (.ref b588), .val (.ref b601), .unset, .unset] [(.ref b601)])) rfl (by rw [hml]; rfl) (Steps.refl _) (argsL := []) (rest := []) (lenOf pd__28_29Ljava_2futil_2fOptional_3b rfl) rfl (by show 2 * 0 + _ ≤ _; exact Nat.le_of_eq rfl) (hb hby at_192) (fun _ _ => ⟨rfl, rfl, (by decide : 11 + 1 ≤ _), (by decide : 32 + 1 ≤ _)⟩)
        dsimp only [Pt.U, Pt.locs, Pt.cells, Pt.slots] at X612 l612 y612 z612 st612 hQ612
        replace l612 := l612.symm
        subst l612
        obtain rfl : k612 = 12 := y612
        obtain rfl : n612 = 33 := z612
        obtain ⟨b612, rfl, N612q, K612, Eq612, Fq612⟩ := hQ612
        have N612 := Fr.app N601 N612q
        have KP612 : Keep h0 T612.heap [] := KP601.trans K612 all0
        have Z612 : n0 ≤ T612.heap.size := Nat.le_trans Z601 K612.1
        have O_613 : Old Z n0 T612.heap := O_602.keep K612 all0
        have E_b6_614 : Exa Z T612.heap b6 "java/lang/String" := E_b6_603.keep K612
        have E_b30_615 : Exa Z T612.heap b30 "java/lang/String" := E_b30_604.keep K612
        have E_b61_616 : Exa Z T612.heap b61 "java/lang/String" := E_b61_605.keep K612
        have E_b588_617 : Exa Z T612.heap b588 "com/example/tidewheel/tidewheel/model/KeyedRequest" := E_b588_606.keep K612
        have F_b588_key_618 : Fld Z T612.heap b588 "com/example/tidewheel/tidewheel/model/KeyedRequest" "key" "Ljava/lang/String;" (.ref b6) := F_b588_key_607.keep K612 nin0
        have F_b588_request_619 : Fld Z T612.heap b588 "com/example/tidewheel/tidewheel/model/KeyedRequest" "request" "Ljava/lang/String;" (.ref b30) := F_b588_request_608.keep K612 nin0
        have F_b588_resource_620 : Fld Z T612.heap b588 "com/example/tidewheel/tidewheel/model/KeyedRequest" "resource" "Ljava/lang/String;" (.ref b61) := F_b588_resource_609.keep K612 nin0
        have F_b588_answer_621 : Fld Z T612.heap b588 "com/example/tidewheel/tidewheel/model/KeyedRequest" "answer" "Lcom/example/tidewheel/tidewheel/model/KeyedRequest$Answer;" .null := F_b588_answer_610.keep K612 nin0
        have E_b601_622 : Exa Z T612.heap b601 "com/example/tidewheel/tidewheel/model/KeyedRequest" := Eq601.keep K612
        have F_b601_key_623 : Fld Z T612.heap b601 "com/example/tidewheel/tidewheel/model/KeyedRequest" "key" "Ljava/lang/String;" (.ref b6) := Fq601_key.keep K612 nin0
        have F_b601_request_624 : Fld Z T612.heap b601 "com/example/tidewheel/tidewheel/model/KeyedRequest" "request" "Ljava/lang/String;" (.ref b30) := Fq601_request.keep K612 nin0
        have F_b601_resource_625 : Fld Z T612.heap b601 "com/example/tidewheel/tidewheel/model/KeyedRequest" "resource" "Ljava/lang/String;" (.ref b61) := Fq601_resource.keep K612 nin0
        have F_b601_answer_626 : Fld Z T612.heap b601 "com/example/tidewheel/tidewheel/model/KeyedRequest" "answer" "Lcom/example/tidewheel/tidewheel/model/KeyedRequest$Answer;" .null := Fq601_answer.keep K612 nin0
        have pre627 : ∀ t, Steps p.tables e below (T612.setTop (mkF m 196 #[.val (.int p0), .val (.int p1), .val (.int p2), .val (.int p3), .val (.int p4), .val (.int p5), .val (.ref b6), .val (.ref b30), .val (.ref b61), .val .null, .val .null, .val (.ref b588), .val (.ref b601), .unset, .unset] [.null, (.ref b612)])) t → Steps p.tables e below (s₁.setTop (entryFrame m #[(.int p0), (.int p1), (.int p2), (.int p3), (.int p4), (.int p5)] maxLocals)) t := by
          intro t kk
          refine pre611 t ?_
          show Steps p.tables e below (T601.setTop (mkF m 192 #[.val (.int p0), .val (.int p1), .val (.int p2), .val (.int p3), .val (.int p4), .val (.int p5), .val (.ref b6), .val (.ref b30), .val (.ref b61), .val .null, .val .null, .val (.ref b588), .val (.ref b601), .unset, .unset] [(.ref b601)])) _
          refine st612.trans ?_
          refine XS.aconstNull X612.here hx rfl (hb hby at_195) ?_
          exact kk
        clear X601 st612 N612q N601 KP601 Z601 O_602 E_b6_603 E_b30_604 E_b61_605 E_b588_606 F_b588_key_607 F_b588_request_608 F_b588_resource_609 F_b588_answer_610 Eq601 Fq601_key Fq601_request Fq601_resource Fq601_answer K612 pre611
        as_aux_lemma =>
        obtain ⟨cq628, kq628, q628a, q628b, q628c⟩ := isOf hZ rfl Eq612
        obtain ⟨_, _, ⟨T628, L628, k628, n628⟩, -, X628, ⟨Lc628, hQ628, l628, y628, z628⟩, st628⟩ := X612.virtualBack hx (y := (⟨"java/util/Optional", "orElse", "(Ljava/lang/Object;)Ljava/lang/Object;"⟩ : MethodName)) (z := (⟨"java/util/Optional", "orElse", "(Ljava/lang/Object;)Ljava/lang/Object;"⟩ : MethodName)) hown (mt_78 hZ hw) (mt_79 hZ hw) (notFace_of_selects (args := #[]) (mt_81 hZ hw)) (mt_81 hZ hw) (mt_80 hZ hw) (by decide) (backOf (W := 0) (rm13_r l Z aA hw [] b612 b61 T612.heap n0 Z612 Fq612) hZ (hw _ tb_82) (hw _ tb_75) (by decide) (by decide)) q628a q628c (g := (mkF m 196 #[.val (.int p0), .val (.int p1), .val (.int p2), .val (.int p3), .val (.int p4), .val (.int p5), .val (.ref b6), .val (.ref b30), .val (.ref b61), .val .null, .val .null, .val (.ref b588), .val (.ref b601), .unset, .unset] [.null, (.ref b612)])) rfl (by rw [hml]; rfl) (Steps.refl _) (argsL := [.null]) (rest := []) (lenOf pd__28Ljava_2flang_2fObject_3b_29Ljava_2flang_2fObject_3b rfl) rfl (by show 2 * 0 + _ ≤ _; exact Nat.le_of_eq rfl) (hb hby at_196) (fun _ _ => ⟨rfl, rfl, (by decide : 12 + 0 ≤ _), (by decide : 33 + 0 ≤ _)⟩)
        dsimp only [Pt.U, Pt.locs, Pt.cells, Pt.slots] at X628 l628 y628 z628 st628 hQ628
        replace l628 := l628.symm
        subst l628
        obtain rfl : k628 = 12 := y628
        obtain rfl : n628 = 33 := z628
        obtain ⟨rfl, N628q, e628⟩ := hQ628
        have N628 := Fr.app N612 N628q
        obtain ⟨T629, X629, e629, st629⟩ := castY X628 hx hZ hown (hw _ tb_0) e628 (Ins.self E_b61_616) (g := (mkF m 199 #[.val (.int p0), .val (.int p1), .val (.int p2), .val (.int p3), .val (.int p4), .val (.int p5), .val (.ref b6), .val (.ref b30), .val (.ref b61), .val .null, .val .null, .val (.ref b588), .val (.ref b601), .unset, .unset] [(.ref b61)])) rfl rfl (hb hby at_199)
        have pre630 : ∀ t, Steps p.tables e below (T629.setTop (mkF m 226 #[.val (.int p0), .val (.int p1), .val (.int p2), .val (.int p3), .val (.int p4), .val (.int p5), .val (.ref b6), .val (.ref b30), .val (.ref b61), .val .null, .val .null, .val (.ref b588), .val (.ref b601), .val (.ref b61), .unset] [(.ref b61), (.ref b61)])) t → Steps p.tables e below (s₁.setTop (entryFrame m #[(.int p0), (.int p1), (.int p2), (.int p3), (.int p4), (.int p5)] maxLocals)) t := by
          intro t kk
          refine pre627 t ?_
          show Steps p.tables e below (T612.setTop (mkF m 196 #[.val (.int p0), .val (.int p1), .val (.int p2), .val (.int p3), .val (.int p4), .val (.int p5), .val (.ref b6), .val (.ref b30), .val (.ref b61), .val .null, .val .null, .val (.ref b588), .val (.ref b601), .unset, .unset] [.null, (.ref b612)])) _
          refine st628.trans ?_
          refine st629 _ ?_
          refine XS.astore X629.here hx rfl (hb hby at_202) rfl rfl (l' := #[.val (.int p0), .val (.int p1), .val (.int p2), .val (.int p3), .val (.int p4), .val (.int p5), .val (.ref b6), .val (.ref b30), .val (.ref b61), .val .null, .val .null, .val (.ref b588), .val (.ref b601), .val (.ref b61), .unset]) rfl ?_
          refine XS.aload X629.here hx rfl (hb hby at_204) rfl rfl ?_
          refine XS.ifnonnullYes X629.here hx rfl (pc0 := 206) (pc' := 222) rfl (hb hby at_206) rfl (by decide) (by decide) ?_
          refine XS.aload X629.here hx rfl (hb hby at_222) rfl rfl ?_
          refine XS.aload X629.here hx rfl (hb hby at_224) rfl rfl ?_
          exact kk
        clear X612 st628 N628q N612 X628 e628 st629 pre627
        as_aux_lemma =>
        obtain ⟨cq631, kq631, q631a, q631b, q631c⟩ := isOf hZ e629 E_b61_616
        obtain ⟨_, _, ⟨T631, L631, k631, n631⟩, -, X631, ⟨Lc631, hQ631, l631, y631, z631⟩, st631⟩ := X629.virtualBack hx (y := (⟨"java/lang/String", "equals", "(Ljava/lang/Object;)Z"⟩ : MethodName)) (z := (⟨"java/lang/String", "equals", "(Ljava/lang/Object;)Z"⟩ : MethodName)) hown (mt_90 hZ hw) (mt_91 hZ hw) (notFace_of_selects (args := #[]) (mt_93 hZ hw)) (mt_93 hZ hw) (mt_92 hZ hw) (by decide) (backOf (W := 0) (rm15 l Z aA hw [] b61 T612.heap n0 Z612) hZ (hw _ tb_94) (hw _ tb_2) (by decide) (by decide)) q631a q631c (g := (mkF m 226 #[.val (.int p0), .val (.int p1), .val (.int p2), .val (.int p3), .val (.int p4), .val (.int p5), .val (.ref b6), .val (.ref b30), .val (.ref b61), .val .null, .val .null, .val (.ref b588), .val (.ref b601), .val (.ref b61), .unset] [(.ref b61), (.ref b61)])) rfl (by rw [hml]; rfl) (Steps.refl _) (argsL := [(.ref b61)]) (rest := []) (lenOf pd__28Ljava_2flang_2fObject_3b_29Z rfl) rfl (by show 2 * 0 + _ ≤ _; exact Nat.le_of_eq rfl) (hb hby at_226) (fun _ _ => ⟨rfl, e629, (by decide : 12 + 0 ≤ _), (by decide : 33 + 0 ≤ _)⟩)
        dsimp only [Pt.U, Pt.locs, Pt.cells, Pt.slots] at X631 l631 y631 z631 st631 hQ631
        replace l631 := l631.symm
        subst l631
        obtain rfl : k631 = 12 := y631
        obtain rfl : n631 = 33 := z631
        obtain ⟨rfl, N631q, e631⟩ := hQ631
        have N631 := Fr.app N628 N631q
        have pre632 : ∀ t, Steps p.tables e below (T631.setTop (mkF m 235 #[.val (.int p0), .val (.int p1), .val (.int p2), .val (.int p3), .val (.int p4), .val (.int p5), .val (.ref b6), .val (.ref b30), .val (.ref b61), .val .null, .val .null, .val (.ref b588), .val (.ref b601), .val (.ref b61), .val (.int (1 : Int32))] [(.ref b601), (.ref b6)])) t → Steps p.tables e below (s₁.setTop (entryFrame m #[(.int p0), (.int p1), (.int p2), (.int p3), (.int p4), (.int p5)] maxLocals)) t := by
          intro t kk
          refine pre630 t ?_
          show Steps p.tables e below (T629.setTop (mkF m 226 #[.val (.int p0), .val (.int p1), .val (.int p2), .val (.int p3), .val (.int p4), .val (.int p5), .val (.ref b6), .val (.ref b30), .val (.ref b61), .val .null, .val .null, .val (.ref b588), .val (.ref b601), .val (.ref b61), .unset] [(.ref b61), (.ref b61)])) _
          refine st631.trans ?_
          refine XS.istore X631.here hx rfl (hb hby at_229) rfl (l' := #[.val (.int p0), .val (.int p1), .val (.int p2), .val (.int p3), .val (.int p4), .val (.int p5), .val (.ref b6), .val (.ref b30), .val (.ref b61), .val .null, .val .null, .val (.ref b588), .val (.ref b601), .val (.ref b61), .val (.int (1 : Int32))]) rfl ?_
          refine XS.aload X631.here hx rfl (hb hby at_231) rfl rfl ?_
          refine XS.aload X631.here hx rfl (hb hby at_233) rfl rfl ?_
          exact kk
        clear X629 e629 st631 N631q N628 pre630
        as_aux_lemma =>
        obtain ⟨cq633, kq633, q633a, q633b, q633c⟩ := isOf hZ e631 E_b601_622
        obtain ⟨_, _, ⟨T633, L633, k633, n633⟩, -, X633, ⟨Lc633, hQ633, l633, y633, z633⟩, st633⟩ := X631.virtualBack hx (y := (⟨"com/example/tidewheel/tidewheel/model/KeyedRequest", "key", "()Ljava/lang/String;"⟩ : MethodName)) (z := (⟨"com/example/tidewheel/tidewheel/model/KeyedRequest", "key", "()Ljava/lang/String;"⟩ : MethodName)) hown (mt_85 hZ hw) (mt_86 hZ hw) (notFace_of_selects (args := #[]) (mt_88 hZ hw)) (mt_88 hZ hw) (mt_87 hZ hw) (by decide) (backOf (W := 1) (rm14 l Z aA hw [] b601 b6 T612.heap n0 Z612 F_b601_key_623) hZ (hw _ tb_89) (hw _ tb_48) (by decide) (by decide)) q633a q633c (g := (mkF m 235 #[.val (.int p0), .val (.int p1), .val (.int p2), .val (.int p3), .val (.int p4), .val (.int p5), .val (.ref b6), .val (.ref b30), .val (.ref b61), .val .null, .val .null, .val (.ref b588), .val (.ref b601), .val (.ref b61), .val (.int (1 : Int32))] [(.ref b601), (.ref b6)])) rfl (by rw [hml]; rfl) (Steps.refl _) (argsL := []) (rest := [(.ref b6)]) (lenOf pd__28_29Ljava_2flang_2fString_3b rfl) rfl (by show 2 * 0 + _ ≤ _; exact Nat.le_of_eq rfl) (hb hby at_235) (fun _ _ => ⟨rfl, e631, (by decide : 12 + 0 ≤ _), (by decide : 33 + 0 ≤ _)⟩)
        dsimp only [Pt.U, Pt.locs, Pt.cells, Pt.slots] at X633 l633 y633 z633 st633 hQ633
        replace l633 := l633.symm
        subst l633
        obtain rfl : k633 = 12 := y633
        obtain rfl : n633 = 33 := z633
        obtain ⟨rfl, N633q, e633⟩ := hQ633
        have N633 := Fr.app N631 N633q
        have pre634 : ∀ t, Steps p.tables e below (T633.setTop (mkF m 238 #[.val (.int p0), .val (.int p1), .val (.int p2), .val (.int p3), .val (.int p4), .val (.int p5), .val (.ref b6), .val (.ref b30), .val (.ref b61), .val .null, .val .null, .val (.ref b588), .val (.ref b601), .val (.ref b61), .val (.int (1 : Int32))] [(.ref b6), (.ref b6)])) t → Steps p.tables e below (s₁.setTop (entryFrame m #[(.int p0), (.int p1), (.int p2), (.int p3), (.int p4), (.int p5)] maxLocals)) t := by
          intro t kk
          refine pre632 t ?_
          show Steps p.tables e below (T631.setTop (mkF m 235 #[.val (.int p0), .val (.int p1), .val (.int p2), .val (.int p3), .val (.int p4), .val (.int p5), .val (.ref b6), .val (.ref b30), .val (.ref b61), .val .null, .val .null, .val (.ref b588), .val (.ref b601), .val (.ref b61), .val (.int (1 : Int32))] [(.ref b601), (.ref b6)])) _
          refine st633.trans ?_
          exact kk
        clear X631 e631 st633 N633q N631 pre632
        as_aux_lemma =>
        obtain ⟨cq635, kq635, q635a, q635b, q635c⟩ := isOf hZ e633 E_b6_614
        obtain ⟨_, _, ⟨T635, L635, k635, n635⟩, -, X635, ⟨Lc635, hQ635, l635, y635, z635⟩, st635⟩ := X633.virtualBack hx (y := (⟨"java/lang/String", "equals", "(Ljava/lang/Object;)Z"⟩ : MethodName)) (z := (⟨"java/lang/String", "equals", "(Ljava/lang/Object;)Z"⟩ : MethodName)) hown (mt_90 hZ hw) (mt_91 hZ hw) (notFace_of_selects (args := #[]) (mt_93 hZ hw)) (mt_93 hZ hw) (mt_92 hZ hw) (by decide) (backOf (W := 0) (rm15 l Z aA hw [] b6 T612.heap n0 Z612) hZ (hw _ tb_94) (hw _ tb_2) (by decide) (by decide)) q635a q635c (g := (mkF m 238 #[.val (.int p0), .val (.int p1), .val (.int p2), .val (.int p3), .val (.int p4), .val (.int p5), .val (.ref b6), .val (.ref b30), .val (.ref b61), .val .null, .val .null, .val (.ref b588), .val (.ref b601), .val (.ref b61), .val (.int (1 : Int32))] [(.ref b6), (.ref b6)])) rfl (by rw [hml]; rfl) (Steps.refl _) (argsL := [(.ref b6)]) (rest := []) (lenOf pd__28Ljava_2flang_2fObject_3b_29Z rfl) rfl (by show 2 * 0 + _ ≤ _; exact Nat.le_of_eq rfl) (hb hby at_238) (fun _ _ => ⟨rfl, e633, (by decide : 12 + 0 ≤ _), (by decide : 33 + 0 ≤ _)⟩)
        dsimp only [Pt.U, Pt.locs, Pt.cells, Pt.slots] at X635 l635 y635 z635 st635 hQ635
        replace l635 := l635.symm
        subst l635
        obtain rfl : k635 = 12 := y635
        obtain rfl : n635 = 33 := z635
        obtain ⟨rfl, N635q, e635⟩ := hQ635
        have N635 := Fr.app N633 N635q
        have pre636 : ∀ t, Steps p.tables e below (T635.setTop (mkF m 248 #[.val (.int p0), .val (.int p1), .val (.int p2), .val (.int p3), .val (.int p4), .val (.int p5), .val (.ref b6), .val (.ref b30), .val (.ref b61), .val .null, .val .null, .val (.ref b588), .val (.ref b601), .val (.ref b61), .val (.int (1 : Int32))] [(.ref b601), (.ref b30)])) t → Steps p.tables e below (s₁.setTop (entryFrame m #[(.int p0), (.int p1), (.int p2), (.int p3), (.int p4), (.int p5)] maxLocals)) t := by
          intro t kk
          refine pre634 t ?_
          show Steps p.tables e below (T633.setTop (mkF m 238 #[.val (.int p0), .val (.int p1), .val (.int p2), .val (.int p3), .val (.int p4), .val (.int p5), .val (.ref b6), .val (.ref b30), .val (.ref b61), .val .null, .val .null, .val (.ref b588), .val (.ref b601), .val (.ref b61), .val (.int (1 : Int32))] [(.ref b6), (.ref b6)])) _
          refine st635.trans ?_
          refine XS.ifNo X635.here hx rfl (hb hby at_241) rfl ((if0 _ _).trans (feq (by decide : ¬ ((1 : Int32) = (0 : Int32)))).1) ?_
          refine XS.aload X635.here hx rfl (hb hby at_244) rfl rfl ?_
          refine XS.aload X635.here hx rfl (hb hby at_246) rfl rfl ?_
          exact kk
        clear X633 e633 st635 N635q N633 pre634
        as_aux_lemma =>
        obtain ⟨cq637, kq637, q637a, q637b, q637c⟩ := isOf hZ e635 E_b601_622
        obtain ⟨_, _, ⟨T637, L637, k637, n637⟩, -, X637, ⟨Lc637, hQ637, l637, y637, z637⟩, st637⟩ := X635.virtualBack hx (y := (⟨"com/example/tidewheel/tidewheel/model/KeyedRequest", "request", "()Ljava/lang/String;"⟩ : MethodName)) (z := (⟨"com/example/tidewheel/tidewheel/model/KeyedRequest", "request", "()Ljava/lang/String;"⟩ : MethodName)) hown (mt_95 hZ hw) (mt_96 hZ hw) (notFace_of_selects (args := #[]) (mt_98 hZ hw)) (mt_98 hZ hw) (mt_97 hZ hw) (by decide) (backOf (W := 1) (rm16 l Z aA hw [] b601 b30 T612.heap n0 Z612 F_b601_request_624) hZ (hw _ tb_99) (hw _ tb_48) (by decide) (by decide)) q637a q637c (g := (mkF m 248 #[.val (.int p0), .val (.int p1), .val (.int p2), .val (.int p3), .val (.int p4), .val (.int p5), .val (.ref b6), .val (.ref b30), .val (.ref b61), .val .null, .val .null, .val (.ref b588), .val (.ref b601), .val (.ref b61), .val (.int (1 : Int32))] [(.ref b601), (.ref b30)])) rfl (by rw [hml]; rfl) (Steps.refl _) (argsL := []) (rest := [(.ref b30)]) (lenOf pd__28_29Ljava_2flang_2fString_3b rfl) rfl (by show 2 * 0 + _ ≤ _; exact Nat.le_of_eq rfl) (hb hby at_248) (fun _ _ => ⟨rfl, e635, (by decide : 12 + 0 ≤ _), (by decide : 33 + 0 ≤ _)⟩)
        dsimp only [Pt.U, Pt.locs, Pt.cells, Pt.slots] at X637 l637 y637 z637 st637 hQ637
        replace l637 := l637.symm
        subst l637
        obtain rfl : k637 = 12 := y637
        obtain rfl : n637 = 33 := z637
        obtain ⟨rfl, N637q, e637⟩ := hQ637
        have N637 := Fr.app N635 N637q
        have pre638 : ∀ t, Steps p.tables e below (T637.setTop (mkF m 251 #[.val (.int p0), .val (.int p1), .val (.int p2), .val (.int p3), .val (.int p4), .val (.int p5), .val (.ref b6), .val (.ref b30), .val (.ref b61), .val .null, .val .null, .val (.ref b588), .val (.ref b601), .val (.ref b61), .val (.int (1 : Int32))] [(.ref b30), (.ref b30)])) t → Steps p.tables e below (s₁.setTop (entryFrame m #[(.int p0), (.int p1), (.int p2), (.int p3), (.int p4), (.int p5)] maxLocals)) t := by
          intro t kk
          refine pre636 t ?_
          show Steps p.tables e below (T635.setTop (mkF m 248 #[.val (.int p0), .val (.int p1), .val (.int p2), .val (.int p3), .val (.int p4), .val (.int p5), .val (.ref b6), .val (.ref b30), .val (.ref b61), .val .null, .val .null, .val (.ref b588), .val (.ref b601), .val (.ref b61), .val (.int (1 : Int32))] [(.ref b601), (.ref b30)])) _
          refine st637.trans ?_
          exact kk
        clear X635 e635 st637 N637q N635 pre636
        as_aux_lemma =>
        obtain ⟨cq639, kq639, q639a, q639b, q639c⟩ := isOf hZ e637 E_b30_615
        obtain ⟨_, _, ⟨T639, L639, k639, n639⟩, -, X639, ⟨Lc639, hQ639, l639, y639, z639⟩, st639⟩ := X637.virtualBack hx (y := (⟨"java/lang/String", "equals", "(Ljava/lang/Object;)Z"⟩ : MethodName)) (z := (⟨"java/lang/String", "equals", "(Ljava/lang/Object;)Z"⟩ : MethodName)) hown (mt_90 hZ hw) (mt_91 hZ hw) (notFace_of_selects (args := #[]) (mt_93 hZ hw)) (mt_93 hZ hw) (mt_92 hZ hw) (by decide) (backOf (W := 0) (rm15 l Z aA hw [] b30 T612.heap n0 Z612) hZ (hw _ tb_94) (hw _ tb_2) (by decide) (by decide)) q639a q639c (g := (mkF m 251 #[.val (.int p0), .val (.int p1), .val (.int p2), .val (.int p3), .val (.int p4), .val (.int p5), .val (.ref b6), .val (.ref b30), .val (.ref b61), .val .null, .val .null, .val (.ref b588), .val (.ref b601), .val (.ref b61), .val (.int (1 : Int32))] [(.ref b30), (.ref b30)])) rfl (by rw [hml]; rfl) (Steps.refl _) (argsL := [(.ref b30)]) (rest := []) (lenOf pd__28Ljava_2flang_2fObject_3b_29Z rfl) rfl (by show 2 * 0 + _ ≤ _; exact Nat.le_of_eq rfl) (hb hby at_251) (fun _ _ => ⟨rfl, e637, (by decide : 12 + 0 ≤ _), (by decide : 33 + 0 ≤ _)⟩)
        dsimp only [Pt.U, Pt.locs, Pt.cells, Pt.slots] at X639 l639 y639 z639 st639 hQ639
        replace l639 := l639.symm
        subst l639
        obtain rfl : k639 = 12 := y639
        obtain rfl : n639 = 33 := z639
        obtain ⟨rfl, N639q, e639⟩ := hQ639
        have N639 := Fr.app N637 N639q
        have pre640 : ∀ t, Steps p.tables e below (T639.setTop (mkF m 264 #[.val (.int p0), .val (.int p1), .val (.int p2), .val (.int p3), .val (.int p4), .val (.int p5), .val (.ref b6), .val (.ref b30), .val (.ref b61), .val .null, .val .null, .val (.ref b588), .val (.ref b601), .val (.ref b61), .val (.int (1 : Int32))] [(.ref b601)])) t → Steps p.tables e below (s₁.setTop (entryFrame m #[(.int p0), (.int p1), (.int p2), (.int p3), (.int p4), (.int p5)] maxLocals)) t := by
          intro t kk
          refine pre638 t ?_
          show Steps p.tables e below (T637.setTop (mkF m 251 #[.val (.int p0), .val (.int p1), .val (.int p2), .val (.int p3), .val (.int p4), .val (.int p5), .val (.ref b6), .val (.ref b30), .val (.ref b61), .val .null, .val .null, .val (.ref b588), .val (.ref b601), .val (.ref b61), .val (.int (1 : Int32))] [(.ref b30), (.ref b30)])) _
          refine st639.trans ?_
          refine XS.ifNo X639.here hx rfl (hb hby at_254) rfl ((if0 _ _).trans (feq (by decide : ¬ ((1 : Int32) = (0 : Int32)))).1) ?_
          refine XS.iload X639.here hx rfl (hb hby at_257) rfl ?_
          refine XS.ifNo X639.here hx rfl (hb hby at_259) rfl ((if0 _ _).trans (feq (by decide : ¬ ((1 : Int32) = (0 : Int32)))).1) ?_
          refine XS.aload X639.here hx rfl (hb hby at_262) rfl rfl ?_
          exact kk
        clear X637 e637 st639 N639q N637 pre638
        as_aux_lemma =>
        obtain ⟨cq641, kq641, q641a, q641b, q641c⟩ := isOf hZ e639 E_b601_622
        obtain ⟨_, _, ⟨T641, L641, k641, n641⟩, -, X641, ⟨Lc641, hQ641, l641, y641, z641⟩, st641⟩ := X639.virtualBack hx (y := (⟨"com/example/tidewheel/tidewheel/model/KeyedRequest", "answer", "()Ljava/util/Optional;"⟩ : MethodName)) (z := (⟨"com/example/tidewheel/tidewheel/model/KeyedRequest", "answer", "()Ljava/util/Optional;"⟩ : MethodName)) hown (mt_100 hZ hw) (mt_101 hZ hw) (notFace_of_selects (args := #[]) (mt_103 hZ hw)) (mt_103 hZ hw) (mt_102 hZ hw) (by decide) (backOf (W := 0) (rm17_n l Z aA hw [] b601  wE T612.heap n0 Z612 O_613 S_EMPTY X_EMPTY G_EMPTY F_b601_answer_626) hZ (hw _ tb_104) (hw _ tb_48) (by decide) (by decide)) q641a q641c (g := (mkF m 264 #[.val (.int p0), .val (.int p1), .val (.int p2), .val (.int p3), .val (.int p4), .val (.int p5), .val (.ref b6), .val (.ref b30), .val (.ref b61), .val .null, .val .null, .val (.ref b588), .val (.ref b601), .val (.ref b61), .val (.int (1 : Int32))] [(.ref b601)])) rfl (by rw [hml]; rfl) (Steps.refl _) (argsL := []) (rest := []) (lenOf pd__28_29Ljava_2futil_2fOptional_3b rfl) rfl (by show 2 * 0 + _ ≤ _; exact Nat.le_of_eq rfl) (hb hby at_264) (fun _ _ => ⟨rfl, e639, (by decide : 12 + 1 ≤ _), (by decide : 33 + 1 ≤ _)⟩)
        dsimp only [Pt.U, Pt.locs, Pt.cells, Pt.slots] at X641 l641 y641 z641 st641 hQ641
        replace l641 := l641.symm
        subst l641
        obtain rfl : k641 = 13 := y641
        obtain rfl : n641 = 34 := z641
        obtain ⟨b641, rfl, N641q, K641, Eq641, Fq641⟩ := hQ641
        have N641 := Fr.app N639 N641q
        have KP641 : Keep h0 T641.heap [] := KP612.trans K641 all0
        have Z641 : n0 ≤ T641.heap.size := Nat.le_trans Z612 K641.1
        have O_642 : Old Z n0 T641.heap := O_613.keep K641 all0
        have E_b6_643 : Exa Z T641.heap b6 "java/lang/String" := E_b6_614.keep K641
        have E_b30_644 : Exa Z T641.heap b30 "java/lang/String" := E_b30_615.keep K641
        have E_b61_645 : Exa Z T641.heap b61 "java/lang/String" := E_b61_616.keep K641
        have E_b588_646 : Exa Z T641.heap b588 "com/example/tidewheel/tidewheel/model/KeyedRequest" := E_b588_617.keep K641
        have F_b588_key_647 : Fld Z T641.heap b588 "com/example/tidewheel/tidewheel/model/KeyedRequest" "key" "Ljava/lang/String;" (.ref b6) := F_b588_key_618.keep K641 nin0
        have F_b588_request_648 : Fld Z T641.heap b588 "com/example/tidewheel/tidewheel/model/KeyedRequest" "request" "Ljava/lang/String;" (.ref b30) := F_b588_request_619.keep K641 nin0
        have F_b588_resource_649 : Fld Z T641.heap b588 "com/example/tidewheel/tidewheel/model/KeyedRequest" "resource" "Ljava/lang/String;" (.ref b61) := F_b588_resource_620.keep K641 nin0
        have F_b588_answer_650 : Fld Z T641.heap b588 "com/example/tidewheel/tidewheel/model/KeyedRequest" "answer" "Lcom/example/tidewheel/tidewheel/model/KeyedRequest$Answer;" .null := F_b588_answer_621.keep K641 nin0
        have E_b601_651 : Exa Z T641.heap b601 "com/example/tidewheel/tidewheel/model/KeyedRequest" := E_b601_622.keep K641
        have F_b601_key_652 : Fld Z T641.heap b601 "com/example/tidewheel/tidewheel/model/KeyedRequest" "key" "Ljava/lang/String;" (.ref b6) := F_b601_key_623.keep K641 nin0
        have F_b601_request_653 : Fld Z T641.heap b601 "com/example/tidewheel/tidewheel/model/KeyedRequest" "request" "Ljava/lang/String;" (.ref b30) := F_b601_request_624.keep K641 nin0
        have F_b601_resource_654 : Fld Z T641.heap b601 "com/example/tidewheel/tidewheel/model/KeyedRequest" "resource" "Ljava/lang/String;" (.ref b61) := F_b601_resource_625.keep K641 nin0
        have F_b601_answer_655 : Fld Z T641.heap b601 "com/example/tidewheel/tidewheel/model/KeyedRequest" "answer" "Lcom/example/tidewheel/tidewheel/model/KeyedRequest$Answer;" .null := F_b601_answer_626.keep K641 nin0
        have E_b612_656 : Exa Z T641.heap b612 "java/util/Optional" := Eq612.keep K641
        have F_b612_value_657 : Fld Z T641.heap b612 "java/util/Optional" "value" "Ljava/lang/Object;" (.ref b61) := Fq612.keep K641 nin0
        have pre658 : ∀ t, Steps p.tables e below (T641.setTop (mkF m 268 #[.val (.int p0), .val (.int p1), .val (.int p2), .val (.int p3), .val (.int p4), .val (.int p5), .val (.ref b6), .val (.ref b30), .val (.ref b61), .val .null, .val .null, .val (.ref b588), .val (.ref b601), .val (.ref b61), .val (.int (1 : Int32))] [.null, (.ref b641)])) t → Steps p.tables e below (s₁.setTop (entryFrame m #[(.int p0), (.int p1), (.int p2), (.int p3), (.int p4), (.int p5)] maxLocals)) t := by
          intro t kk
          refine pre640 t ?_
          show Steps p.tables e below (T639.setTop (mkF m 264 #[.val (.int p0), .val (.int p1), .val (.int p2), .val (.int p3), .val (.int p4), .val (.int p5), .val (.ref b6), .val (.ref b30), .val (.ref b61), .val .null, .val .null, .val (.ref b588), .val (.ref b601), .val (.ref b61), .val (.int (1 : Int32))] [(.ref b601)])) _
          refine st641.trans ?_
          refine XS.aconstNull X641.here hx rfl (hb hby at_267) ?_
          exact kk
        clear X639 e639 st641 N641q N639 KP612 Z612 O_613 E_b6_614 E_b30_615 E_b61_616 E_b588_617 F_b588_key_618 F_b588_request_619 F_b588_resource_620 F_b588_answer_621 E_b601_622 F_b601_key_623 F_b601_request_624 F_b601_resource_625 F_b601_answer_626 Eq612 Fq612 K641 pre640
        as_aux_lemma =>
        obtain ⟨cq659, kq659, q659a, q659b, q659c⟩ := isOf hZ rfl Eq641
        obtain ⟨_, _, ⟨T659, L659, k659, n659⟩, -, X659, ⟨Lc659, hQ659, l659, y659, z659⟩, st659⟩ := X641.virtualBack hx (y := (⟨"java/util/Optional", "orElse", "(Ljava/lang/Object;)Ljava/lang/Object;"⟩ : MethodName)) (z := (⟨"java/util/Optional", "orElse", "(Ljava/lang/Object;)Ljava/lang/Object;"⟩ : MethodName)) hown (mt_78 hZ hw) (mt_79 hZ hw) (notFace_of_selects (args := #[]) (mt_81 hZ hw)) (mt_81 hZ hw) (mt_80 hZ hw) (by decide) (backOf (W := 0) (rm13_n l Z aA hw [] b641  T641.heap n0 Z641 Fq641) hZ (hw _ tb_82) (hw _ tb_75) (by decide) (by decide)) q659a q659c (g := (mkF m 268 #[.val (.int p0), .val (.int p1), .val (.int p2), .val (.int p3), .val (.int p4), .val (.int p5), .val (.ref b6), .val (.ref b30), .val (.ref b61), .val .null, .val .null, .val (.ref b588), .val (.ref b601), .val (.ref b61), .val (.int (1 : Int32))] [.null, (.ref b641)])) rfl (by rw [hml]; rfl) (Steps.refl _) (argsL := [.null]) (rest := []) (lenOf pd__28Ljava_2flang_2fObject_3b_29Ljava_2flang_2fObject_3b rfl) rfl (by show 2 * 0 + _ ≤ _; exact Nat.le_of_eq rfl) (hb hby at_268) (fun _ _ => ⟨rfl, rfl, (by decide : 13 + 0 ≤ _), (by decide : 34 + 0 ≤ _)⟩)
        dsimp only [Pt.U, Pt.locs, Pt.cells, Pt.slots] at X659 l659 y659 z659 st659 hQ659
        replace l659 := l659.symm
        subst l659
        obtain rfl : k659 = 13 := y659
        obtain rfl : n659 = 34 := z659
        obtain ⟨rfl, N659q, e659⟩ := hQ659
        have N659 := Fr.app N641 N659q
        have pre660 : ∀ t, Steps p.tables e below (T659.setTop (mkF m 278 #[.val (.int p0), .val (.int p1), .val (.int p2), .val (.int p3), .val (.int p4), .val (.int p5), .val (.ref b6), .val (.ref b30), .val (.ref b61), .val .null, .val .null, .val (.ref b588), .val (.ref b601), .val (.ref b61), .val (.int (1 : Int32))] [(.ref b588)])) t → Steps p.tables e below (s₁.setTop (entryFrame m #[(.int p0), (.int p1), (.int p2), (.int p3), (.int p4), (.int p5)] maxLocals)) t := by
          intro t kk
          refine pre658 t ?_
          show Steps p.tables e below (T641.setTop (mkF m 268 #[.val (.int p0), .val (.int p1), .val (.int p2), .val (.int p3), .val (.int p4), .val (.int p5), .val (.ref b6), .val (.ref b30), .val (.ref b61), .val .null, .val .null, .val (.ref b588), .val (.ref b601), .val (.ref b61), .val (.int (1 : Int32))] [.null, (.ref b641)])) _
          refine st659.trans ?_
          refine XS.aload X659.here hx rfl (hb hby at_271) rfl rfl ?_
          refine Jvm.RoadKit.acmp (g := (mkF m 273 #[.val (.int p0), .val (.int p1), .val (.int p2), .val (.int p3), .val (.int p4), .val (.int p5), .val (.ref b6), .val (.ref b30), .val (.ref b61), .val .null, .val .null, .val (.ref b588), .val (.ref b601), .val (.ref b61), .val (.int (1 : Int32))] [.null, .null])) X659 hx rfl rfl rfl (pc0 := 273) (pc' := 276) (same := true) rfl (hb hby at_273) rfl (decide_eq_true rfl) (by decide) (by decide) ?_
          refine XS.aload X659.here hx rfl (hb hby at_276) rfl rfl ?_
          exact kk
        clear X641 st659 N659q N641 pre658
        as_aux_lemma =>
        obtain ⟨cq661, kq661, q661a, q661b, q661c⟩ := isOf hZ e659 E_b588_646
        obtain ⟨_, _, ⟨T661, L661, k661, n661⟩, -, X661, ⟨Lc661, hQ661, l661, y661, z661⟩, st661⟩ := X659.virtualBack hx (y := (⟨"com/example/tidewheel/tidewheel/model/KeyedRequest", "answer", "()Ljava/util/Optional;"⟩ : MethodName)) (z := (⟨"com/example/tidewheel/tidewheel/model/KeyedRequest", "answer", "()Ljava/util/Optional;"⟩ : MethodName)) hown (mt_100 hZ hw) (mt_101 hZ hw) (notFace_of_selects (args := #[]) (mt_103 hZ hw)) (mt_103 hZ hw) (mt_102 hZ hw) (by decide) (backOf (W := 0) (rm17_n l Z aA hw [] b588  wE T641.heap n0 Z641 O_642 S_EMPTY X_EMPTY G_EMPTY F_b588_answer_650) hZ (hw _ tb_104) (hw _ tb_48) (by decide) (by decide)) q661a q661c (g := (mkF m 278 #[.val (.int p0), .val (.int p1), .val (.int p2), .val (.int p3), .val (.int p4), .val (.int p5), .val (.ref b6), .val (.ref b30), .val (.ref b61), .val .null, .val .null, .val (.ref b588), .val (.ref b601), .val (.ref b61), .val (.int (1 : Int32))] [(.ref b588)])) rfl (by rw [hml]; rfl) (Steps.refl _) (argsL := []) (rest := []) (lenOf pd__28_29Ljava_2futil_2fOptional_3b rfl) rfl (by show 2 * 0 + _ ≤ _; exact Nat.le_of_eq rfl) (hb hby at_278) (fun _ _ => ⟨rfl, e659, (by decide : 13 + 1 ≤ _), (by decide : 34 + 1 ≤ _)⟩)
        dsimp only [Pt.U, Pt.locs, Pt.cells, Pt.slots] at X661 l661 y661 z661 st661 hQ661
        replace l661 := l661.symm
        subst l661
        obtain rfl : k661 = 14 := y661
        obtain rfl : n661 = 35 := z661
        obtain ⟨b661, rfl, N661q, K661, Eq661, Fq661⟩ := hQ661
        have N661 := Fr.app N659 N661q
        have KP661 : Keep h0 T661.heap [] := KP641.trans K661 all0
        have Z661 : n0 ≤ T661.heap.size := Nat.le_trans Z641 K661.1
        have O_662 : Old Z n0 T661.heap := O_642.keep K661 all0
        have E_b6_663 : Exa Z T661.heap b6 "java/lang/String" := E_b6_643.keep K661
        have E_b30_664 : Exa Z T661.heap b30 "java/lang/String" := E_b30_644.keep K661
        have E_b61_665 : Exa Z T661.heap b61 "java/lang/String" := E_b61_645.keep K661
        have E_b588_666 : Exa Z T661.heap b588 "com/example/tidewheel/tidewheel/model/KeyedRequest" := E_b588_646.keep K661
        have F_b588_key_667 : Fld Z T661.heap b588 "com/example/tidewheel/tidewheel/model/KeyedRequest" "key" "Ljava/lang/String;" (.ref b6) := F_b588_key_647.keep K661 nin0
        have F_b588_request_668 : Fld Z T661.heap b588 "com/example/tidewheel/tidewheel/model/KeyedRequest" "request" "Ljava/lang/String;" (.ref b30) := F_b588_request_648.keep K661 nin0
        have F_b588_resource_669 : Fld Z T661.heap b588 "com/example/tidewheel/tidewheel/model/KeyedRequest" "resource" "Ljava/lang/String;" (.ref b61) := F_b588_resource_649.keep K661 nin0
        have F_b588_answer_670 : Fld Z T661.heap b588 "com/example/tidewheel/tidewheel/model/KeyedRequest" "answer" "Lcom/example/tidewheel/tidewheel/model/KeyedRequest$Answer;" .null := F_b588_answer_650.keep K661 nin0
        have E_b601_671 : Exa Z T661.heap b601 "com/example/tidewheel/tidewheel/model/KeyedRequest" := E_b601_651.keep K661
        have F_b601_key_672 : Fld Z T661.heap b601 "com/example/tidewheel/tidewheel/model/KeyedRequest" "key" "Ljava/lang/String;" (.ref b6) := F_b601_key_652.keep K661 nin0
        have F_b601_request_673 : Fld Z T661.heap b601 "com/example/tidewheel/tidewheel/model/KeyedRequest" "request" "Ljava/lang/String;" (.ref b30) := F_b601_request_653.keep K661 nin0
        have F_b601_resource_674 : Fld Z T661.heap b601 "com/example/tidewheel/tidewheel/model/KeyedRequest" "resource" "Ljava/lang/String;" (.ref b61) := F_b601_resource_654.keep K661 nin0
        have F_b601_answer_675 : Fld Z T661.heap b601 "com/example/tidewheel/tidewheel/model/KeyedRequest" "answer" "Lcom/example/tidewheel/tidewheel/model/KeyedRequest$Answer;" .null := F_b601_answer_655.keep K661 nin0
        have E_b612_676 : Exa Z T661.heap b612 "java/util/Optional" := E_b612_656.keep K661
        have F_b612_value_677 : Fld Z T661.heap b612 "java/util/Optional" "value" "Ljava/lang/Object;" (.ref b61) := F_b612_value_657.keep K661 nin0
        have E_b641_678 : Exa Z T661.heap b641 "java/util/Optional" := Eq641.keep K661
        have F_b641_value_679 : Fld Z T661.heap b641 "java/util/Optional" "value" "Ljava/lang/Object;" .null := Fq641.keep K661 nin0
        have pre680 : ∀ t, Steps p.tables e below (T661.setTop (mkF m 282 #[.val (.int p0), .val (.int p1), .val (.int p2), .val (.int p3), .val (.int p4), .val (.int p5), .val (.ref b6), .val (.ref b30), .val (.ref b61), .val .null, .val .null, .val (.ref b588), .val (.ref b601), .val (.ref b61), .val (.int (1 : Int32))] [.null, (.ref b661)])) t → Steps p.tables e below (s₁.setTop (entryFrame m #[(.int p0), (.int p1), (.int p2), (.int p3), (.int p4), (.int p5)] maxLocals)) t := by
          intro t kk
          refine pre660 t ?_
          show Steps p.tables e below (T659.setTop (mkF m 278 #[.val (.int p0), .val (.int p1), .val (.int p2), .val (.int p3), .val (.int p4), .val (.int p5), .val (.ref b6), .val (.ref b30), .val (.ref b61), .val .null, .val .null, .val (.ref b588), .val (.ref b601), .val (.ref b61), .val (.int (1 : Int32))] [(.ref b588)])) _
          refine st661.trans ?_
          refine XS.aconstNull X661.here hx rfl (hb hby at_281) ?_
          exact kk
        clear X659 e659 st661 N661q N659 KP641 Z641 O_642 E_b6_643 E_b30_644 E_b61_645 E_b588_646 F_b588_key_647 F_b588_request_648 F_b588_resource_649 F_b588_answer_650 E_b601_651 F_b601_key_652 F_b601_request_653 F_b601_resource_654 F_b601_answer_655 E_b612_656 F_b612_value_657 Eq641 Fq641 K661 pre660
        as_aux_lemma =>
        obtain ⟨cq681, kq681, q681a, q681b, q681c⟩ := isOf hZ rfl Eq661
        obtain ⟨_, _, ⟨T681, L681, k681, n681⟩, -, X681, ⟨Lc681, hQ681, l681, y681, z681⟩, st681⟩ := X661.virtualBack hx (y := (⟨"java/util/Optional", "orElse", "(Ljava/lang/Object;)Ljava/lang/Object;"⟩ : MethodName)) (z := (⟨"java/util/Optional", "orElse", "(Ljava/lang/Object;)Ljava/lang/Object;"⟩ : MethodName)) hown (mt_78 hZ hw) (mt_79 hZ hw) (notFace_of_selects (args := #[]) (mt_81 hZ hw)) (mt_81 hZ hw) (mt_80 hZ hw) (by decide) (backOf (W := 0) (rm13_n l Z aA hw [] b661  T661.heap n0 Z661 Fq661) hZ (hw _ tb_82) (hw _ tb_75) (by decide) (by decide)) q681a q681c (g := (mkF m 282 #[.val (.int p0), .val (.int p1), .val (.int p2), .val (.int p3), .val (.int p4), .val (.int p5), .val (.ref b6), .val (.ref b30), .val (.ref b61), .val .null, .val .null, .val (.ref b588), .val (.ref b601), .val (.ref b61), .val (.int (1 : Int32))] [.null, (.ref b661)])) rfl (by rw [hml]; rfl) (Steps.refl _) (argsL := [.null]) (rest := []) (lenOf pd__28Ljava_2flang_2fObject_3b_29Ljava_2flang_2fObject_3b rfl) rfl (by show 2 * 0 + _ ≤ _; exact Nat.le_of_eq rfl) (hb hby at_282) (fun _ _ => ⟨rfl, rfl, (by decide : 14 + 0 ≤ _), (by decide : 35 + 0 ≤ _)⟩)
        dsimp only [Pt.U, Pt.locs, Pt.cells, Pt.slots] at X681 l681 y681 z681 st681 hQ681
        replace l681 := l681.symm
        subst l681
        obtain rfl : k681 = 14 := y681
        obtain rfl : n681 = 35 := z681
        obtain ⟨rfl, N681q, e681⟩ := hQ681
        have N681 := Fr.app N661 N681q
        have pre682 : ∀ t, Steps p.tables e below (T681.setTop (mkF m 295 #[.val (.int p0), .val (.int p1), .val (.int p2), .val (.int p3), .val (.int p4), .val (.int p5), .val (.ref b6), .val (.ref b30), .val (.ref b61), .val .null, .val .null, .val (.ref b588), .val (.ref b601), .val (.ref b61), .val (.int (1 : Int32))] [(.int (1 : Int32))])) t → Steps p.tables e below (s₁.setTop (entryFrame m #[(.int p0), (.int p1), (.int p2), (.int p3), (.int p4), (.int p5)] maxLocals)) t := by
          intro t kk
          refine pre680 t ?_
          show Steps p.tables e below (T661.setTop (mkF m 282 #[.val (.int p0), .val (.int p1), .val (.int p2), .val (.int p3), .val (.int p4), .val (.int p5), .val (.ref b6), .val (.ref b30), .val (.ref b61), .val .null, .val .null, .val (.ref b588), .val (.ref b601), .val (.ref b61), .val (.int (1 : Int32))] [.null, (.ref b661)])) _
          refine st681.trans ?_
          refine XS.aload X681.here hx rfl (hb hby at_285) rfl rfl ?_
          refine Jvm.RoadKit.acmp (g := (mkF m 287 #[.val (.int p0), .val (.int p1), .val (.int p2), .val (.int p3), .val (.int p4), .val (.int p5), .val (.ref b6), .val (.ref b30), .val (.ref b61), .val .null, .val .null, .val (.ref b588), .val (.ref b601), .val (.ref b61), .val (.int (1 : Int32))] [.null, .null])) X681 hx rfl rfl rfl (pc0 := 287) (pc' := 290) (same := true) rfl (hb hby at_287) rfl (decide_eq_true rfl) (by decide) (by decide) ?_
          refine XS.iconst X681.here hx rfl (hb hby at_290) ?_
          refine XS.goto X681.here hx rfl (pc0 := 291) (pc' := 295) rfl (hb hby at_291) (by decide) (by decide) ?_
          exact kk
        clear X661 st681 N681q N661 pre680
        as_aux_lemma =>
        obtain ⟨fs, hr, hrun, hended, hW, hsame⟩ := X681.leave (v := some (.int (1 : Int32))) (fun h => by rw [Bd.returns] at h; cases h)
        refine ⟨_, _, pre682 _ ?_, hrun, hended, _, _, rfl, ?_, ⟨_, rfl⟩, hW, hsame.mono (by decide) (by decide)⟩
        · show Steps p.tables e below (T681.setTop (mkF m 295 #[.val (.int p0), .val (.int p1), .val (.int p2), .val (.int p3), .val (.int p4), .val (.int p5), .val (.ref b6), .val (.ref b30), .val (.ref b61), .val .null, .val .null, .val (.ref b588), .val (.ref b601), .val (.ref b61), .val (.int (1 : Int32))] [(.int (1 : Int32))])) _
          exact retN X681 hx (t := .boolean) Bd.returns (by simp) (hb hby at_295) hr
        · show Q0 Z p0 p1 p2 p3 p4 p5 zcs wE h0 n0 _ T681.heap _
          rw [e681]
          exact ⟨rfl, N681⟩
  · as_aux_lemma =>
    have pre684 : ∀ t, Steps p.tables e below (T54.setTop (mkF m 114 #[.val (.int p0), .val (.int p1), .val (.int p2), .val (.int p3), .val (.int p4), .val (.int p5), .val (.ref b6), .val (.ref b30), .val .null, .unset, .unset, .unset, .unset, .unset, .unset] [(.int (p5 &&& (2 : Int32)))])) t → Steps p.tables e below (s₁.setTop (entryFrame m #[(.int p0), (.int p1), (.int p2), (.int p3), (.int p4), (.int p5)] maxLocals)) t := by
      intro t kk
      refine pre60 t ?_
      show Steps p.tables e below (T54.setTop (mkF m 70 #[.val (.int p0), .val (.int p1), .val (.int p2), .val (.int p3), .val (.int p4), .val (.int p5), .val (.ref b6), .val (.ref b30), .unset, .unset, .unset, .unset, .unset, .unset, .unset] [(.int (p5 &&& (1 : Int32)))])) _
      refine XS.ifNo X54.here hx rfl (hb hby at_70) rfl ((if0 _ _).trans (feq hc70_59).1) ?_
      refine XS.aconstNull X54.here hx rfl (hb hby at_73) ?_
      refine XS.goto X54.here hx rfl (pc0 := 74) (pc' := 108) rfl (hb hby at_74) (by decide) (by decide) ?_
      refine XS.astore X54.here hx rfl (hb hby at_108) rfl rfl (l' := #[.val (.int p0), .val (.int p1), .val (.int p2), .val (.int p3), .val (.int p4), .val (.int p5), .val (.ref b6), .val (.ref b30), .val .null, .unset, .unset, .unset, .unset, .unset, .unset]) rfl ?_
      refine XS.iload X54.here hx rfl (hb hby at_110) rfl ?_
      refine XS.iconst X54.here hx rfl (hb hby at_112) ?_
      refine XS.iand X54.here hx rfl (hb hby at_113) rfl ?_
      exact kk
    clear pre60
    as_aux_lemma =>
    by_cases hc114_683 : (p5 &&& (2 : Int32)) = (0 : Int32)
    · as_aux_lemma =>
      obtain ⟨T685, h685, X685, e685, E685, A685, D685, -, st685⟩ := newO X54 hx hZ hown (hw _ tb_30) (hw _ tb_31) (hw _ tb_32) rfl (g := (mkF m 121 #[.val (.int p0), .val (.int p1), .val (.int p2), .val (.int p3), .val (.int p4), .val (.int p5), .val (.ref b6), .val (.ref b30), .val .null, .unset, .unset, .unset, .unset, .unset, .unset] [])) rfl (hb hby at_121) (by decide) (by decide)
      obtain ⟨b685, g685⟩ : ∃ z, z = T54.heap.size := ⟨_, rfl⟩
      rw [← g685] at A685 D685 st685
      have ne_b6_b685 : b6 ≠ b685 := Nat.ne_of_lt (Nat.lt_of_lt_of_le E_b6_57.lt (Nat.le_of_eq g685.symm))
      have ne_b30_b685 : b30 ≠ b685 := Nat.ne_of_lt (Nat.lt_of_lt_of_le E_b30_58.lt (Nat.le_of_eq g685.symm))
      have sz_b685 : h0.size ≤ b685 := Nat.le_trans KP54.1 (Nat.le_of_eq g685.symm)
      have g_b685 : n0 ≤ b685 := Nat.le_trans Z54 (Nat.le_of_eq g685.symm)
      have KP685 : Keep h0 h685 [] := KP54.ext E685
      have Z685 : n0 ≤ h685.size := Nat.le_trans Z54 E685.1
      have O_686 : Old Z n0 h685 := O_56.ext E685
      have E_b6_687 : Exa Z h685 b6 "java/lang/String" := E_b6_57.ext E685
      have E_b30_688 : Exa Z h685 b30 "java/lang/String" := E_b30_58.ext E685
      have F_status_b685 : Fld Z h685 b685 "com/example/tidewheel/tidewheel/model/KeyedRequest$Answer" "status" "I" (.int (0 : Int32)) := D685 (Or.inr (hw _ tb_41)) (ty := .int) (by decide)
      have F_body_b685 : Fld Z h685 b685 "com/example/tidewheel/tidewheel/model/KeyedRequest$Answer" "body" "Ljava/lang/String;" .null := D685 (Or.inr (hw _ tb_43)) (ty := (.object "java/lang/String")) (by decide)
      have F_refusal_b685 : Fld Z h685 b685 "com/example/tidewheel/tidewheel/model/KeyedRequest$Answer" "refusal" "Lcom/example/tidewheel/tidewheel/model/RefusedException$Reason;" .null := D685 (Or.inr (hw _ tb_45)) (ty := (.object "com/example/tidewheel/tidewheel/model/RefusedException$Reason")) (by decide)
      replace X685 : Stand _ _ _ _ _ _ _ _ _ _ _ _ 7 19 := X685
      have pre689 : ∀ t, Steps p.tables e below (T685.setTop (mkF m 128 #[.val (.int p0), .val (.int p1), .val (.int p2), .val (.int p3), .val (.int p4), .val (.int p5), .val (.ref b6), .val (.ref b30), .val .null, .unset, .unset, .unset, .unset, .unset, .unset] [(.ref b6), (.int p3), (.ref b685), (.ref b685)])) t → Steps p.tables e below (s₁.setTop (entryFrame m #[(.int p0), (.int p1), (.int p2), (.int p3), (.int p4), (.int p5)] maxLocals)) t := by
        intro t kk
        refine pre684 t ?_
        show Steps p.tables e below (T54.setTop (mkF m 114 #[.val (.int p0), .val (.int p1), .val (.int p2), .val (.int p3), .val (.int p4), .val (.int p5), .val (.ref b6), .val (.ref b30), .val .null, .unset, .unset, .unset, .unset, .unset, .unset] [(.int (p5 &&& (2 : Int32)))])) _
        refine XS.ifYes X54.here hx rfl (pc0 := 114) (pc' := 121) rfl (hb hby at_114) rfl ((if0 _ _).trans (teq hc114_683).1) (by decide) (by decide) ?_
        refine st685 _ ?_
        refine XS.dup X685.here hx rfl (hb hby at_124) rfl rfl ?_
        refine XS.iloadN X685.here hx rfl (hb hby at_125) rfl ?_
        refine XS.aload X685.here hx rfl (hb hby at_126) rfl rfl ?_
        exact kk
      clear X54 st685 O_56 E_b6_57 E_b30_58 pre684
      as_aux_lemma =>
      obtain ⟨_, _, ⟨T690, L690, k690, n690⟩, -, X690, ⟨Lc690, hQ690, l690, y690, z690⟩, st690⟩ := X685.specialBack hx (y := (⟨"com/example/tidewheel/tidewheel/model/KeyedRequest$Answer", "<init>", "(ILjava/lang/String;)V"⟩ : MethodName)) rfl hown (mt_33 hZ hw) (mt_34 hZ hw) (mt_35 hZ hw) (by decide) (backOf (W := 1) (rm7_rr l Z aA hw [] b685 p3 b6 h685 n0 Z685 A685 g_b685 F_status_b685 F_body_b685 F_refusal_b685) hZ (hw _ tb_35) (hw _ tb_32) (by decide) (by decide)) (g := (mkF m 128 #[.val (.int p0), .val (.int p1), .val (.int p2), .val (.int p3), .val (.int p4), .val (.int p5), .val (.ref b6), .val (.ref b30), .val .null, .unset, .unset, .unset, .unset, .unset, .unset] [(.ref b6), (.int p3), (.ref b685), (.ref b685)])) rfl (by rw [hml]; rfl) (Steps.refl _) (a := b685) (argsL := [(.int p3), (.ref b6)]) (rest := [(.ref b685)]) (lenOf pd__28ILjava_2flang_2fString_3b_29V rfl) rfl (by show 2 * 0 + _ ≤ _; exact Nat.le_of_eq rfl) (hb hby at_128) (fun _ _ => ⟨rfl, e685, (by decide : 7 + 0 ≤ _), (by decide : 19 + 0 ≤ _)⟩)
      dsimp only [Pt.U, Pt.locs, Pt.cells, Pt.slots] at X690 l690 y690 z690 st690 hQ690
      replace l690 := l690.symm
      subst l690
      obtain rfl : k690 = 7 := y690
      obtain rfl : n690 = 19 := z690
      obtain ⟨rfl, N690q, K690, Eq690, Fq690_status, Fq690_body, Fq690_refusal⟩ := hQ690
      have N690 := Fr.app N54 N690q
      have KP690 : Keep h0 T690.heap [] := KP685.trans K690 (allS (Or.inr sz_b685) all0)
      have Z690 : n0 ≤ T690.heap.size := Nat.le_trans Z685 K690.1
      have O_691 : Old Z n0 T690.heap := O_686.keep K690 (allS g_b685 all0)
      have E_b6_692 : Exa Z T690.heap b6 "java/lang/String" := E_b6_687.keep K690
      have E_b30_693 : Exa Z T690.heap b30 "java/lang/String" := E_b30_688.keep K690
      have E_b685_694 : Exa Z T690.heap b685 "com/example/tidewheel/tidewheel/model/KeyedRequest$Answer" := A685.keep K690
      have pre696 : ∀ t, Steps p.tables e below (T690.setTop (mkF m 137 #[.val (.int p0), .val (.int p1), .val (.int p2), .val (.int p3), .val (.int p4), .val (.int p5), .val (.ref b6), .val (.ref b30), .val .null, .val (.ref b685), .unset, .unset, .unset, .unset, .unset] [(.int (p5 &&& (4 : Int32)))])) t → Steps p.tables e below (s₁.setTop (entryFrame m #[(.int p0), (.int p1), (.int p2), (.int p3), (.int p4), (.int p5)] maxLocals)) t := by
        intro t kk
        refine pre689 t ?_
        show Steps p.tables e below (T685.setTop (mkF m 128 #[.val (.int p0), .val (.int p1), .val (.int p2), .val (.int p3), .val (.int p4), .val (.int p5), .val (.ref b6), .val (.ref b30), .val .null, .unset, .unset, .unset, .unset, .unset, .unset] [(.ref b6), (.int p3), (.ref b685), (.ref b685)])) _
        refine st690.trans ?_
        refine XS.astore X690.here hx rfl (hb hby at_131) rfl rfl (l' := #[.val (.int p0), .val (.int p1), .val (.int p2), .val (.int p3), .val (.int p4), .val (.int p5), .val (.ref b6), .val (.ref b30), .val .null, .val (.ref b685), .unset, .unset, .unset, .unset, .unset]) rfl ?_
        refine XS.iload X690.here hx rfl (hb hby at_133) rfl ?_
        refine XS.iconst X690.here hx rfl (hb hby at_135) ?_
        refine XS.iand X690.here hx rfl (hb hby at_136) rfl ?_
        exact kk
      clear X685 e685 st690 N690q N54 KP685 Z685 O_686 E_b6_687 E_b30_688 A685 F_status_b685 F_body_b685 F_refusal_b685 K690 Fq690_status Fq690_body Fq690_refusal pre689
      as_aux_lemma =>
      by_cases hc137_695 : (p5 &&& (4 : Int32)) = (0 : Int32)
      · as_aux_lemma =>
        obtain ⟨T697, h697, X697, e697, E697, A697, D697, -, st697⟩ := newO X690 hx hZ hown (hw _ tb_30) (hw _ tb_31) (hw _ tb_32) rfl (g := (mkF m 144 #[.val (.int p0), .val (.int p1), .val (.int p2), .val (.int p3), .val (.int p4), .val (.int p5), .val (.ref b6), .val (.ref b30), .val .null, .val (.ref b685), .unset, .unset, .unset, .unset, .unset] [])) rfl (hb hby at_144) (by decide) (by decide)
        obtain ⟨b697, g697⟩ : ∃ z, z = T690.heap.size := ⟨_, rfl⟩
        rw [← g697] at A697 D697 st697
        have ne_b6_b697 : b6 ≠ b697 := Nat.ne_of_lt (Nat.lt_of_lt_of_le E_b6_692.lt (Nat.le_of_eq g697.symm))
        have ne_b30_b697 : b30 ≠ b697 := Nat.ne_of_lt (Nat.lt_of_lt_of_le E_b30_693.lt (Nat.le_of_eq g697.symm))
        have ne_b685_b697 : b685 ≠ b697 := Nat.ne_of_lt (Nat.lt_of_lt_of_le Eq690.lt (Nat.le_of_eq g697.symm))
        have sz_b697 : h0.size ≤ b697 := Nat.le_trans KP690.1 (Nat.le_of_eq g697.symm)
        have g_b697 : n0 ≤ b697 := Nat.le_trans Z690 (Nat.le_of_eq g697.symm)
        have KP697 : Keep h0 h697 [] := KP690.ext E697
        have Z697 : n0 ≤ h697.size := Nat.le_trans Z690 E697.1
        have O_698 : Old Z n0 h697 := O_691.ext E697
        have E_b6_699 : Exa Z h697 b6 "java/lang/String" := E_b6_692.ext E697
        have E_b30_700 : Exa Z h697 b30 "java/lang/String" := E_b30_693.ext E697
        have E_b685_701 : Exa Z h697 b685 "com/example/tidewheel/tidewheel/model/KeyedRequest$Answer" := Eq690.ext E697
        have F_status_b697 : Fld Z h697 b697 "com/example/tidewheel/tidewheel/model/KeyedRequest$Answer" "status" "I" (.int (0 : Int32)) := D697 (Or.inr (hw _ tb_41)) (ty := .int) (by decide)
        have F_body_b697 : Fld Z h697 b697 "com/example/tidewheel/tidewheel/model/KeyedRequest$Answer" "body" "Ljava/lang/String;" .null := D697 (Or.inr (hw _ tb_43)) (ty := (.object "java/lang/String")) (by decide)
        have F_refusal_b697 : Fld Z h697 b697 "com/example/tidewheel/tidewheel/model/KeyedRequest$Answer" "refusal" "Lcom/example/tidewheel/tidewheel/model/RefusedException$Reason;" .null := D697 (Or.inr (hw _ tb_45)) (ty := (.object "com/example/tidewheel/tidewheel/model/RefusedException$Reason")) (by decide)
        replace X697 : Stand _ _ _ _ _ _ _ _ _ _ _ _ 8 22 := X697
        have pre702 : ∀ t, Steps p.tables e below (T697.setTop (mkF m 152 #[.val (.int p0), .val (.int p1), .val (.int p2), .val (.int p3), .val (.int p4), .val (.int p5), .val (.ref b6), .val (.ref b30), .val .null, .val (.ref b685), .unset, .unset, .unset, .unset, .unset] [(.ref b30), (.int p4), (.ref b697), (.ref b697)])) t → Steps p.tables e below (s₁.setTop (entryFrame m #[(.int p0), (.int p1), (.int p2), (.int p3), (.int p4), (.int p5)] maxLocals)) t := by
          intro t kk
          refine pre696 t ?_
          show Steps p.tables e below (T690.setTop (mkF m 137 #[.val (.int p0), .val (.int p1), .val (.int p2), .val (.int p3), .val (.int p4), .val (.int p5), .val (.ref b6), .val (.ref b30), .val .null, .val (.ref b685), .unset, .unset, .unset, .unset, .unset] [(.int (p5 &&& (4 : Int32)))])) _
          refine XS.ifYes X690.here hx rfl (pc0 := 137) (pc' := 144) rfl (hb hby at_137) rfl ((if0 _ _).trans (teq hc137_695).1) (by decide) (by decide) ?_
          refine st697 _ ?_
          refine XS.dup X697.here hx rfl (hb hby at_147) rfl rfl ?_
          refine XS.iload X697.here hx rfl (hb hby at_148) rfl ?_
          refine XS.aload X697.here hx rfl (hb hby at_150) rfl rfl ?_
          exact kk
        clear X690 st697 O_691 E_b6_692 E_b30_693 Eq690 pre696
        as_aux_lemma =>
        obtain ⟨_, _, ⟨T703, L703, k703, n703⟩, -, X703, ⟨Lc703, hQ703, l703, y703, z703⟩, st703⟩ := X697.specialBack hx (y := (⟨"com/example/tidewheel/tidewheel/model/KeyedRequest$Answer", "<init>", "(ILjava/lang/String;)V"⟩ : MethodName)) rfl hown (mt_33 hZ hw) (mt_34 hZ hw) (mt_35 hZ hw) (by decide) (backOf (W := 1) (rm7_rr l Z aA hw [] b697 p4 b30 h697 n0 Z697 A697 g_b697 F_status_b697 F_body_b697 F_refusal_b697) hZ (hw _ tb_35) (hw _ tb_32) (by decide) (by decide)) (g := (mkF m 152 #[.val (.int p0), .val (.int p1), .val (.int p2), .val (.int p3), .val (.int p4), .val (.int p5), .val (.ref b6), .val (.ref b30), .val .null, .val (.ref b685), .unset, .unset, .unset, .unset, .unset] [(.ref b30), (.int p4), (.ref b697), (.ref b697)])) rfl (by rw [hml]; rfl) (Steps.refl _) (a := b697) (argsL := [(.int p4), (.ref b30)]) (rest := [(.ref b697)]) (lenOf pd__28ILjava_2flang_2fString_3b_29V rfl) rfl (by show 2 * 0 + _ ≤ _; exact Nat.le_of_eq rfl) (hb hby at_152) (fun _ _ => ⟨rfl, e697, (by decide : 8 + 0 ≤ _), (by decide : 22 + 0 ≤ _)⟩)
        dsimp only [Pt.U, Pt.locs, Pt.cells, Pt.slots] at X703 l703 y703 z703 st703 hQ703
        replace l703 := l703.symm
        subst l703
        obtain rfl : k703 = 8 := y703
        obtain rfl : n703 = 22 := z703
        obtain ⟨rfl, N703q, K703, Eq703, Fq703_status, Fq703_body, Fq703_refusal⟩ := hQ703
        have N703 := Fr.app N690 N703q
        have KP703 : Keep h0 T703.heap [] := KP697.trans K703 (allS (Or.inr sz_b697) all0)
        have Z703 : n0 ≤ T703.heap.size := Nat.le_trans Z697 K703.1
        have O_704 : Old Z n0 T703.heap := O_698.keep K703 (allS g_b697 all0)
        have E_b6_705 : Exa Z T703.heap b6 "java/lang/String" := E_b6_699.keep K703
        have E_b30_706 : Exa Z T703.heap b30 "java/lang/String" := E_b30_700.keep K703
        have E_b685_707 : Exa Z T703.heap b685 "com/example/tidewheel/tidewheel/model/KeyedRequest$Answer" := E_b685_701.keep K703
        have E_b697_708 : Exa Z T703.heap b697 "com/example/tidewheel/tidewheel/model/KeyedRequest$Answer" := A697.keep K703
        obtain ⟨T709, h709, X709, e709, E709, A709, D709, -, st709⟩ := newO X703 hx hZ hown (hw _ tb_46) (hw _ tb_47) (hw _ tb_48) rfl (g := (mkF m 157 #[.val (.int p0), .val (.int p1), .val (.int p2), .val (.int p3), .val (.int p4), .val (.int p5), .val (.ref b6), .val (.ref b30), .val .null, .val (.ref b685), .val (.ref b697), .unset, .unset, .unset, .unset] [])) rfl (hb hby at_157) (by decide) (by decide)
        obtain ⟨b709, g709⟩ : ∃ z, z = T703.heap.size := ⟨_, rfl⟩
        rw [← g709] at A709 D709 st709
        have ne_b6_b709 : b6 ≠ b709 := Nat.ne_of_lt (Nat.lt_of_lt_of_le E_b6_705.lt (Nat.le_of_eq g709.symm))
        have ne_b30_b709 : b30 ≠ b709 := Nat.ne_of_lt (Nat.lt_of_lt_of_le E_b30_706.lt (Nat.le_of_eq g709.symm))
        have ne_b685_b709 : b685 ≠ b709 := Nat.ne_of_lt (Nat.lt_of_lt_of_le E_b685_707.lt (Nat.le_of_eq g709.symm))
        have ne_b697_b709 : b697 ≠ b709 := Nat.ne_of_lt (Nat.lt_of_lt_of_le Eq703.lt (Nat.le_of_eq g709.symm))
        have sz_b709 : h0.size ≤ b709 := Nat.le_trans KP703.1 (Nat.le_of_eq g709.symm)
        have g_b709 : n0 ≤ b709 := Nat.le_trans Z703 (Nat.le_of_eq g709.symm)
        have KP709 : Keep h0 h709 [] := KP703.ext E709
        have Z709 : n0 ≤ h709.size := Nat.le_trans Z703 E709.1
        have O_710 : Old Z n0 h709 := O_704.ext E709
        have E_b6_711 : Exa Z h709 b6 "java/lang/String" := E_b6_705.ext E709
        have E_b30_712 : Exa Z h709 b30 "java/lang/String" := E_b30_706.ext E709
        have E_b685_713 : Exa Z h709 b685 "com/example/tidewheel/tidewheel/model/KeyedRequest$Answer" := E_b685_707.ext E709
        have E_b697_714 : Exa Z h709 b697 "com/example/tidewheel/tidewheel/model/KeyedRequest$Answer" := Eq703.ext E709
        have F_key_b709 : Fld Z h709 b709 "com/example/tidewheel/tidewheel/model/KeyedRequest" "key" "Ljava/lang/String;" .null := D709 (Or.inr (hw _ tb_54)) (ty := (.object "java/lang/String")) (by decide)
        have F_request_b709 : Fld Z h709 b709 "com/example/tidewheel/tidewheel/model/KeyedRequest" "request" "Ljava/lang/String;" .null := D709 (Or.inr (hw _ tb_56)) (ty := (.object "java/lang/String")) (by decide)
        have F_resource_b709 : Fld Z h709 b709 "com/example/tidewheel/tidewheel/model/KeyedRequest" "resource" "Ljava/lang/String;" .null := D709 (Or.inr (hw _ tb_58)) (ty := (.object "java/lang/String")) (by decide)
        have F_answer_b709 : Fld Z h709 b709 "com/example/tidewheel/tidewheel/model/KeyedRequest" "answer" "Lcom/example/tidewheel/tidewheel/model/KeyedRequest$Answer;" .null := D709 (Or.inr (hw _ tb_60)) (ty := (.object "com/example/tidewheel/tidewheel/model/KeyedRequest$Answer")) (by decide)
        replace X709 : Stand _ _ _ _ _ _ _ _ _ _ _ _ 9 26 := X709
        have pre715 : ∀ t, Steps p.tables e below (T709.setTop (mkF m 169 #[.val (.int p0), .val (.int p1), .val (.int p2), .val (.int p3), .val (.int p4), .val (.int p5), .val (.ref b6), .val (.ref b30), .val .null, .val (.ref b685), .val (.ref b697), .unset, .unset, .unset, .unset] [(.ref b685), .null, (.ref b30), (.ref b6), (.ref b709), (.ref b709)])) t → Steps p.tables e below (s₁.setTop (entryFrame m #[(.int p0), (.int p1), (.int p2), (.int p3), (.int p4), (.int p5)] maxLocals)) t := by
          intro t kk
          refine pre702 t ?_
          show Steps p.tables e below (T697.setTop (mkF m 152 #[.val (.int p0), .val (.int p1), .val (.int p2), .val (.int p3), .val (.int p4), .val (.int p5), .val (.ref b6), .val (.ref b30), .val .null, .val (.ref b685), .unset, .unset, .unset, .unset, .unset] [(.ref b30), (.int p4), (.ref b697), (.ref b697)])) _
          refine st703.trans ?_
          refine XS.astore X703.here hx rfl (hb hby at_155) rfl rfl (l' := #[.val (.int p0), .val (.int p1), .val (.int p2), .val (.int p3), .val (.int p4), .val (.int p5), .val (.ref b6), .val (.ref b30), .val .null, .val (.ref b685), .val (.ref b697), .unset, .unset, .unset, .unset]) rfl ?_
          refine st709 _ ?_
          refine XS.dup X709.here hx rfl (hb hby at_160) rfl rfl ?_
          refine XS.aload X709.here hx rfl (hb hby at_161) rfl rfl ?_
          refine XS.aload X709.here hx rfl (hb hby at_163) rfl rfl ?_
          refine XS.aload X709.here hx rfl (hb hby at_165) rfl rfl ?_
          refine XS.aload X709.here hx rfl (hb hby at_167) rfl rfl ?_
          exact kk
        clear X697 e697 st703 N703q N690 KP697 Z697 O_698 E_b6_699 E_b30_700 E_b685_701 A697 F_status_b697 F_body_b697 F_refusal_b697 K703 Fq703_status Fq703_body Fq703_refusal X703 st709 O_704 E_b6_705 E_b30_706 E_b685_707 Eq703 pre702
        as_aux_lemma =>
        obtain ⟨_, _, ⟨T739, L739, k739, n739⟩, -, X739, ⟨Lc739, hQ739, l739, y739, z739⟩, st739⟩ := X709.specialBack hx (y := (⟨"com/example/tidewheel/tidewheel/model/KeyedRequest", "<init>", "(Ljava/lang/String;Ljava/lang/String;Ljava/lang/String;Lcom/example/tidewheel/tidewheel/model/KeyedRequest$Answer;)V"⟩ : MethodName)) rfl hown (mt_49 hZ hw) (mt_50 hZ hw) (mt_51 hZ hw) (by decide) (backOf (W := 1) (rm9_rrnr l Z aA hw [] b709 b6 b30 b685 h709 n0 Z709 A709 g_b709 F_key_b709 F_request_b709 F_resource_b709 F_answer_b709) hZ (hw _ tb_51) (hw _ tb_48) (by decide) (by decide)) (g := (mkF m 169 #[.val (.int p0), .val (.int p1), .val (.int p2), .val (.int p3), .val (.int p4), .val (.int p5), .val (.ref b6), .val (.ref b30), .val .null, .val (.ref b685), .val (.ref b697), .unset, .unset, .unset, .unset] [(.ref b685), .null, (.ref b30), (.ref b6), (.ref b709), (.ref b709)])) rfl (by rw [hml]; rfl) (Steps.refl _) (a := b709) (argsL := [(.ref b6), (.ref b30), .null, (.ref b685)]) (rest := [(.ref b709)]) (lenOf pd__28Ljava_2flang_2fString_3bLjava_2flang_2fString_3bLjava_2flang_2fString_3bLcom_2fexample_2ftidewheel_2ftidewheel_2fmodel_2fKeyedRequest_24Answer_3b_29V rfl) rfl (by show 2 * 0 + _ ≤ _; exact Nat.le_of_eq rfl) (hb hby at_169) (fun _ _ => ⟨rfl, e709, (by decide : 9 + 0 ≤ _), (by decide : 26 + 0 ≤ _)⟩)
        dsimp only [Pt.U, Pt.locs, Pt.cells, Pt.slots] at X739 l739 y739 z739 st739 hQ739
        replace l739 := l739.symm
        subst l739
        obtain rfl : k739 = 9 := y739
        obtain rfl : n739 = 26 := z739
        obtain ⟨rfl, N739q, K739, Eq739, Fq739_key, Fq739_request, Fq739_resource, Fq739_answer⟩ := hQ739
        have N739 := Fr.app N703 N739q
        have KP739 : Keep h0 T739.heap [] := KP709.trans K739 (allS (Or.inr sz_b709) all0)
        have Z739 : n0 ≤ T739.heap.size := Nat.le_trans Z709 K739.1
        have O_740 : Old Z n0 T739.heap := O_710.keep K739 (allS g_b709 all0)
        have E_b6_741 : Exa Z T739.heap b6 "java/lang/String" := E_b6_711.keep K739
        have E_b30_742 : Exa Z T739.heap b30 "java/lang/String" := E_b30_712.keep K739
        have E_b685_743 : Exa Z T739.heap b685 "com/example/tidewheel/tidewheel/model/KeyedRequest$Answer" := E_b685_713.keep K739
        have E_b697_744 : Exa Z T739.heap b697 "com/example/tidewheel/tidewheel/model/KeyedRequest$Answer" := E_b697_714.keep K739
        have E_b709_745 : Exa Z T739.heap b709 "com/example/tidewheel/tidewheel/model/KeyedRequest" := A709.keep K739
        have pre746 : ∀ t, Steps p.tables e below (T739.setTop (mkF m 178 #[.val (.int p0), .val (.int p1), .val (.int p2), .val (.int p3), .val (.int p4), .val (.int p5), .val (.ref b6), .val (.ref b30), .val .null, .val (.ref b685), .val (.ref b697), .val (.ref b709), .unset, .unset, .unset] [(.ref b697), (.ref b709)])) t → Steps p.tables e below (s₁.setTop (entryFrame m #[(.int p0), (.int p1), (.int p2), (.int p3), (.int p4), (.int p5)] maxLocals)) t := by
          intro t kk
          refine pre715 t ?_
          show Steps p.tables e below (T709.setTop (mkF m 169 #[.val (.int p0), .val (.int p1), .val (.int p2), .val (.int p3), .val (.int p4), .val (.int p5), .val (.ref b6), .val (.ref b30), .val .null, .val (.ref b685), .val (.ref b697), .unset, .unset, .unset, .unset] [(.ref b685), .null, (.ref b30), (.ref b6), (.ref b709), (.ref b709)])) _
          refine st739.trans ?_
          refine XS.astore X739.here hx rfl (hb hby at_172) rfl rfl (l' := #[.val (.int p0), .val (.int p1), .val (.int p2), .val (.int p3), .val (.int p4), .val (.int p5), .val (.ref b6), .val (.ref b30), .val .null, .val (.ref b685), .val (.ref b697), .val (.ref b709), .unset, .unset, .unset]) rfl ?_
          refine XS.aload X739.here hx rfl (hb hby at_174) rfl rfl ?_
          refine XS.aload X739.here hx rfl (hb hby at_176) rfl rfl ?_
          exact kk
        clear X709 e709 st739 N739q N703 KP709 Z709 O_710 E_b6_711 E_b30_712 E_b685_713 E_b697_714 A709 F_key_b709 F_request_b709 F_resource_b709 F_answer_b709 K739 pre715
        as_aux_lemma =>
        obtain ⟨cq761, kq761, q761a, q761b, q761c⟩ := isOf hZ rfl Eq739
        obtain ⟨_, _, ⟨T761, L761, k761, n761⟩, -, X761, ⟨Lc761, hQ761, l761, y761, z761⟩, st761⟩ := X739.virtualBack hx (y := (⟨"com/example/tidewheel/tidewheel/model/KeyedRequest", "answered", "(Lcom/example/tidewheel/tidewheel/model/KeyedRequest$Answer;)Lcom/example/tidewheel/tidewheel/model/KeyedRequest;"⟩ : MethodName)) (z := (⟨"com/example/tidewheel/tidewheel/model/KeyedRequest", "answered", "(Lcom/example/tidewheel/tidewheel/model/KeyedRequest$Answer;)Lcom/example/tidewheel/tidewheel/model/KeyedRequest;"⟩ : MethodName)) hown (mt_61 hZ hw) (mt_62 hZ hw) (notFace_of_selects (args := #[]) (mt_64 hZ hw)) (mt_64 hZ hw) (mt_63 hZ hw) (by decide) (backOf (W := 0) (rm10_nr l Z aA hw [] b709 b697 b6 b30 T739.heap n0 Z739 Fq739_key Fq739_request Fq739_resource) hZ (hw _ tb_65) (hw _ tb_48) (by decide) (by decide)) q761a q761c (g := (mkF m 178 #[.val (.int p0), .val (.int p1), .val (.int p2), .val (.int p3), .val (.int p4), .val (.int p5), .val (.ref b6), .val (.ref b30), .val .null, .val (.ref b685), .val (.ref b697), .val (.ref b709), .unset, .unset, .unset] [(.ref b697), (.ref b709)])) rfl (by rw [hml]; rfl) (Steps.refl _) (argsL := [(.ref b697)]) (rest := []) (lenOf pd__28Lcom_2fexample_2ftidewheel_2ftidewheel_2fmodel_2fKeyedRequest_24Answer_3b_29Lcom_2fexample_2ftidewheel_2ftidewheel_2fmodel_2fKeyedRequest_3b rfl) rfl (by show 2 * 0 + _ ≤ _; exact Nat.le_of_eq rfl) (hb hby at_178) (fun _ _ => ⟨rfl, rfl, (by decide : 9 + 1 ≤ _), (by decide : 26 + 4 ≤ _)⟩)
        dsimp only [Pt.U, Pt.locs, Pt.cells, Pt.slots] at X761 l761 y761 z761 st761 hQ761
        replace l761 := l761.symm
        subst l761
        obtain rfl : k761 = 10 := y761
        obtain rfl : n761 = 30 := z761
        obtain ⟨b761, rfl, N761q, K761, sz761, Eq761, Fq761_key, Fq761_request, Fq761_resource, Fq761_answer⟩ := hQ761
        have N761 := Fr.app N739 N761q
        have sz_b761 : h0.size ≤ b761 := Nat.le_trans KP739.1 sz761
        have g_b761 : n0 ≤ b761 := Nat.le_trans Z739 sz761
        have KP761 : Keep h0 T761.heap [] := KP739.trans K761 all0
        have Z761 : n0 ≤ T761.heap.size := Nat.le_trans Z739 K761.1
        have O_762 : Old Z n0 T761.heap := O_740.keep K761 all0
        have E_b6_763 : Exa Z T761.heap b6 "java/lang/String" := E_b6_741.keep K761
        have E_b30_764 : Exa Z T761.heap b30 "java/lang/String" := E_b30_742.keep K761
        have E_b685_765 : Exa Z T761.heap b685 "com/example/tidewheel/tidewheel/model/KeyedRequest$Answer" := E_b685_743.keep K761
        have E_b697_766 : Exa Z T761.heap b697 "com/example/tidewheel/tidewheel/model/KeyedRequest$Answer" := E_b697_744.keep K761
        have E_b709_767 : Exa Z T761.heap b709 "com/example/tidewheel/tidewheel/model/KeyedRequest" := Eq739.keep K761
        have F_b709_key_768 : Fld Z T761.heap b709 "com/example/tidewheel/tidewheel/model/KeyedRequest" "key" "Ljava/lang/String;" (.ref b6) := Fq739_key.keep K761 nin0
        have F_b709_request_769 : Fld Z T761.heap b709 "com/example/tidewheel/tidewheel/model/KeyedRequest" "request" "Ljava/lang/String;" (.ref b30) := Fq739_request.keep K761 nin0
        have F_b709_resource_770 : Fld Z T761.heap b709 "com/example/tidewheel/tidewheel/model/KeyedRequest" "resource" "Ljava/lang/String;" .null := Fq739_resource.keep K761 nin0
        have F_b709_answer_771 : Fld Z T761.heap b709 "com/example/tidewheel/tidewheel/model/KeyedRequest" "answer" "Lcom/example/tidewheel/tidewheel/model/KeyedRequest$Answer;" (.ref b685) := Fq739_answer.keep K761 nin0
        have pre772 : ∀ t, Steps p.tables e below (T761.setTop (mkF m 192 #[.val (.int p0), .val (.int p1), .val (.int p2), .val (.int p3), .val (.int p4), .val (.int p5), .val (.ref b6), .val (.ref b30), .val .null, .val (.ref b685), .val (.ref b697), .val (.ref b709), .val (.ref b761), .unset, .unset] [(.ref b761)])) t → Steps p.tables e below (s₁.setTop (entryFrame m #[(.int p0), (.int p1), (.int p2), (.int p3), (.int p4), (.int p5)] maxLocals)) t := by
          intro t kk
          refine pre746 t ?_
          show Steps p.tables e below (T739.setTop (mkF m 178 #[.val (.int p0), .val (.int p1), .val (.int p2), .val (.int p3), .val (.int p4), .val (.int p5), .val (.ref b6), .val (.ref b30), .val .null, .val (.ref b685), .val (.ref b697), .val (.ref b709), .unset, .unset, .unset] [(.ref b697), (.ref b709)])) _
          refine st761.trans ?_
          refine XS.astore X761.here hx rfl (hb hby at_181) rfl rfl (l' := #[.val (.int p0), .val (.int p1), .val (.int p2), .val (.int p3), .val (.int p4), .val (.int p5), .val (.ref b6), .val (.ref b30), .val .null, .val (.ref b685), .val (.ref b697), .val (.ref b709), .val (.ref b761), .unset, .unset]) rfl ?_
          refine XS.aload X761.here hx rfl (hb hby at_183) rfl rfl ?_
          refine XS.ifnonnullYes X761.here hx rfl (pc0 := 185) (pc' := 190) rfl (hb hby at_185) rfl (by decide) (by decide) ?_
          refine XS.aload X761.here hx rfl (hb hby at_190) rfl rfl ?_
          exact kk
        clear X739 st761 N761q N739 KP739 Z739 O_740 E_b6_741 E_b30_742 E_b685_743 E_b697_744 Eq739 Fq739_key Fq739_request Fq739_resource Fq739_answer K761 pre746
        as_aux_lemma =>
        obtain ⟨cq781, kq781, q781a, q781b, q781c⟩ := isOf hZ rfl Eq761
        obtain ⟨_, _, ⟨T781, L781, k781, n781⟩, -, X781, ⟨Lc781, hQ781, l781, y781, z781⟩, st781⟩ := X761.virtualBack hx (y := (⟨"com/example/tidewheel/tidewheel/model/KeyedRequest", "resource", "()Ljava/util/Optional;"⟩ : MethodName)) (z := (⟨"com/example/tidewheel/tidewheel/model/KeyedRequest", "resource", "()Ljava/util/Optional;"⟩ : MethodName)) hown (mt_68 hZ hw) (mt_69 hZ hw) (notFace_of_selects (args := #[]) (mt_71 hZ hw)) (mt_71 hZ hw) (mt_70 hZ hw) (by decide) (backOf (W := 0) (rm11_n l Z aA hw [] b761  wE T761.heap n0 Z761 O_762 S_EMPTY X_EMPTY G_EMPTY Fq761_resource) hZ (hw _ tb_72) (hw _ tb_48) (by decide) (by decide)) q781a q781c (g := (mkF m 192 #[.val (.int p0), .val (.int p1), .val (.int p2), .val (.int p3), .val (.int p4), .val (.int p5), .val (.ref b6), .val (.ref b30), .val .null, .val (.ref b685), .val (.ref b697), .val (.ref b709), .val (.ref b761), .unset, .unset] [(.ref b761)])) rfl (by rw [hml]; rfl) (Steps.refl _) (argsL := []) (rest := []) (lenOf pd__28_29Ljava_2futil_2fOptional_3b rfl) rfl (by show 2 * 0 + _ ≤ _; exact Nat.le_of_eq rfl) (hb hby at_192) (fun _ _ => ⟨rfl, rfl, (by decide : 10 + 1 ≤ _), (by decide : 30 + 1 ≤ _)⟩)
        dsimp only [Pt.U, Pt.locs, Pt.cells, Pt.slots] at X781 l781 y781 z781 st781 hQ781
        replace l781 := l781.symm
        subst l781
        obtain rfl : k781 = 11 := y781
        obtain rfl : n781 = 31 := z781
        obtain ⟨b781, rfl, N781q, K781, Eq781, Fq781⟩ := hQ781
        have N781 := Fr.app N761 N781q
        have KP781 : Keep h0 T781.heap [] := KP761.trans K781 all0
        have Z781 : n0 ≤ T781.heap.size := Nat.le_trans Z761 K781.1
        have O_782 : Old Z n0 T781.heap := O_762.keep K781 all0
        have E_b6_783 : Exa Z T781.heap b6 "java/lang/String" := E_b6_763.keep K781
        have E_b30_784 : Exa Z T781.heap b30 "java/lang/String" := E_b30_764.keep K781
        have E_b685_785 : Exa Z T781.heap b685 "com/example/tidewheel/tidewheel/model/KeyedRequest$Answer" := E_b685_765.keep K781
        have E_b697_786 : Exa Z T781.heap b697 "com/example/tidewheel/tidewheel/model/KeyedRequest$Answer" := E_b697_766.keep K781
        have E_b709_787 : Exa Z T781.heap b709 "com/example/tidewheel/tidewheel/model/KeyedRequest" := E_b709_767.keep K781
        have F_b709_key_788 : Fld Z T781.heap b709 "com/example/tidewheel/tidewheel/model/KeyedRequest" "key" "Ljava/lang/String;" (.ref b6) := F_b709_key_768.keep K781 nin0
        have F_b709_request_789 : Fld Z T781.heap b709 "com/example/tidewheel/tidewheel/model/KeyedRequest" "request" "Ljava/lang/String;" (.ref b30) := F_b709_request_769.keep K781 nin0
        have F_b709_resource_790 : Fld Z T781.heap b709 "com/example/tidewheel/tidewheel/model/KeyedRequest" "resource" "Ljava/lang/String;" .null := F_b709_resource_770.keep K781 nin0
        have F_b709_answer_791 : Fld Z T781.heap b709 "com/example/tidewheel/tidewheel/model/KeyedRequest" "answer" "Lcom/example/tidewheel/tidewheel/model/KeyedRequest$Answer;" (.ref b685) := F_b709_answer_771.keep K781 nin0
        have E_b761_792 : Exa Z T781.heap b761 "com/example/tidewheel/tidewheel/model/KeyedRequest" := Eq761.keep K781
        have F_b761_key_793 : Fld Z T781.heap b761 "com/example/tidewheel/tidewheel/model/KeyedRequest" "key" "Ljava/lang/String;" (.ref b6) := Fq761_key.keep K781 nin0
        have F_b761_request_794 : Fld Z T781.heap b761 "com/example/tidewheel/tidewheel/model/KeyedRequest" "request" "Ljava/lang/String;" (.ref b30) := Fq761_request.keep K781 nin0
        have F_b761_resource_795 : Fld Z T781.heap b761 "com/example/tidewheel/tidewheel/model/KeyedRequest" "resource" "Ljava/lang/String;" .null := Fq761_resource.keep K781 nin0
        have F_b761_answer_796 : Fld Z T781.heap b761 "com/example/tidewheel/tidewheel/model/KeyedRequest" "answer" "Lcom/example/tidewheel/tidewheel/model/KeyedRequest$Answer;" (.ref b697) := Fq761_answer.keep K781 nin0
        have pre797 : ∀ t, Steps p.tables e below (T781.setTop (mkF m 196 #[.val (.int p0), .val (.int p1), .val (.int p2), .val (.int p3), .val (.int p4), .val (.int p5), .val (.ref b6), .val (.ref b30), .val .null, .val (.ref b685), .val (.ref b697), .val (.ref b709), .val (.ref b761), .unset, .unset] [.null, (.ref b781)])) t → Steps p.tables e below (s₁.setTop (entryFrame m #[(.int p0), (.int p1), (.int p2), (.int p3), (.int p4), (.int p5)] maxLocals)) t := by
          intro t kk
          refine pre772 t ?_
          show Steps p.tables e below (T761.setTop (mkF m 192 #[.val (.int p0), .val (.int p1), .val (.int p2), .val (.int p3), .val (.int p4), .val (.int p5), .val (.ref b6), .val (.ref b30), .val .null, .val (.ref b685), .val (.ref b697), .val (.ref b709), .val (.ref b761), .unset, .unset] [(.ref b761)])) _
          refine st781.trans ?_
          refine XS.aconstNull X781.here hx rfl (hb hby at_195) ?_
          exact kk
        clear X761 st781 N781q N761 KP761 Z761 O_762 E_b6_763 E_b30_764 E_b685_765 E_b697_766 E_b709_767 F_b709_key_768 F_b709_request_769 F_b709_resource_770 F_b709_answer_771 Eq761 Fq761_key Fq761_request Fq761_resource Fq761_answer K781 pre772
        as_aux_lemma =>
        obtain ⟨cq798, kq798, q798a, q798b, q798c⟩ := isOf hZ rfl Eq781
        obtain ⟨_, _, ⟨T798, L798, k798, n798⟩, -, X798, ⟨Lc798, hQ798, l798, y798, z798⟩, st798⟩ := X781.virtualBack hx (y := (⟨"java/util/Optional", "orElse", "(Ljava/lang/Object;)Ljava/lang/Object;"⟩ : MethodName)) (z := (⟨"java/util/Optional", "orElse", "(Ljava/lang/Object;)Ljava/lang/Object;"⟩ : MethodName)) hown (mt_78 hZ hw) (mt_79 hZ hw) (notFace_of_selects (args := #[]) (mt_81 hZ hw)) (mt_81 hZ hw) (mt_80 hZ hw) (by decide) (backOf (W := 0) (rm13_n l Z aA hw [] b781  T781.heap n0 Z781 Fq781) hZ (hw _ tb_82) (hw _ tb_75) (by decide) (by decide)) q798a q798c (g := (mkF m 196 #[.val (.int p0), .val (.int p1), .val (.int p2), .val (.int p3), .val (.int p4), .val (.int p5), .val (.ref b6), .val (.ref b30), .val .null, .val (.ref b685), .val (.ref b697), .val (.ref b709), .val (.ref b761), .unset, .unset] [.null, (.ref b781)])) rfl (by rw [hml]; rfl) (Steps.refl _) (argsL := [.null]) (rest := []) (lenOf pd__28Ljava_2flang_2fObject_3b_29Ljava_2flang_2fObject_3b rfl) rfl (by show 2 * 0 + _ ≤ _; exact Nat.le_of_eq rfl) (hb hby at_196) (fun _ _ => ⟨rfl, rfl, (by decide : 11 + 0 ≤ _), (by decide : 31 + 0 ≤ _)⟩)
        dsimp only [Pt.U, Pt.locs, Pt.cells, Pt.slots] at X798 l798 y798 z798 st798 hQ798
        replace l798 := l798.symm
        subst l798
        obtain rfl : k798 = 11 := y798
        obtain rfl : n798 = 31 := z798
        obtain ⟨rfl, N798q, e798⟩ := hQ798
        have N798 := Fr.app N781 N798q
        have pre799 : ∀ t, Steps p.tables e below (T798.setTop (mkF m 235 #[.val (.int p0), .val (.int p1), .val (.int p2), .val (.int p3), .val (.int p4), .val (.int p5), .val (.ref b6), .val (.ref b30), .val .null, .val (.ref b685), .val (.ref b697), .val (.ref b709), .val (.ref b761), .val .null, .val (.int (1 : Int32))] [(.ref b761), (.ref b6)])) t → Steps p.tables e below (s₁.setTop (entryFrame m #[(.int p0), (.int p1), (.int p2), (.int p3), (.int p4), (.int p5)] maxLocals)) t := by
          intro t kk
          refine pre797 t ?_
          show Steps p.tables e below (T781.setTop (mkF m 196 #[.val (.int p0), .val (.int p1), .val (.int p2), .val (.int p3), .val (.int p4), .val (.int p5), .val (.ref b6), .val (.ref b30), .val .null, .val (.ref b685), .val (.ref b697), .val (.ref b709), .val (.ref b761), .unset, .unset] [.null, (.ref b781)])) _
          refine st798.trans ?_
          refine X798.checkcastNull hx (g := (mkF m 199 #[.val (.int p0), .val (.int p1), .val (.int p2), .val (.int p3), .val (.int p4), .val (.int p5), .val (.ref b6), .val (.ref b30), .val .null, .val (.ref b685), .val (.ref b697), .val (.ref b709), .val (.ref b761), .unset, .unset] [.null])) rfl rfl (hb hby at_199) _ ?_
          refine XS.astore X798.here hx rfl (hb hby at_202) rfl rfl (l' := #[.val (.int p0), .val (.int p1), .val (.int p2), .val (.int p3), .val (.int p4), .val (.int p5), .val (.ref b6), .val (.ref b30), .val .null, .val (.ref b685), .val (.ref b697), .val (.ref b709), .val (.ref b761), .val .null, .unset]) rfl ?_
          refine XS.aload X798.here hx rfl (hb hby at_204) rfl rfl ?_
          refine XS.ifnonnullNo X798.here hx rfl (hb hby at_206) rfl ?_
          refine XS.aload X798.here hx rfl (hb hby at_209) rfl rfl ?_
          refine XS.ifnonnullNo X798.here hx rfl (hb hby at_211) rfl ?_
          refine XS.iconst X798.here hx rfl (hb hby at_214) ?_
          refine XS.goto X798.here hx rfl (pc0 := 215) (pc' := 229) rfl (hb hby at_215) (by decide) (by decide) ?_
          refine XS.istore X798.here hx rfl (hb hby at_229) rfl (l' := #[.val (.int p0), .val (.int p1), .val (.int p2), .val (.int p3), .val (.int p4), .val (.int p5), .val (.ref b6), .val (.ref b30), .val .null, .val (.ref b685), .val (.ref b697), .val (.ref b709), .val (.ref b761), .val .null, .val (.int (1 : Int32))]) rfl ?_
          refine XS.aload X798.here hx rfl (hb hby at_231) rfl rfl ?_
          refine XS.aload X798.here hx rfl (hb hby at_233) rfl rfl ?_
          exact kk
        clear X781 st798 N798q N781 pre797
        as_aux_lemma =>
        obtain ⟨cq800, kq800, q800a, q800b, q800c⟩ := isOf hZ e798 E_b761_792
        obtain ⟨_, _, ⟨T800, L800, k800, n800⟩, -, X800, ⟨Lc800, hQ800, l800, y800, z800⟩, st800⟩ := X798.virtualBack hx (y := (⟨"com/example/tidewheel/tidewheel/model/KeyedRequest", "key", "()Ljava/lang/String;"⟩ : MethodName)) (z := (⟨"com/example/tidewheel/tidewheel/model/KeyedRequest", "key", "()Ljava/lang/String;"⟩ : MethodName)) hown (mt_85 hZ hw) (mt_86 hZ hw) (notFace_of_selects (args := #[]) (mt_88 hZ hw)) (mt_88 hZ hw) (mt_87 hZ hw) (by decide) (backOf (W := 1) (rm14 l Z aA hw [] b761 b6 T781.heap n0 Z781 F_b761_key_793) hZ (hw _ tb_89) (hw _ tb_48) (by decide) (by decide)) q800a q800c (g := (mkF m 235 #[.val (.int p0), .val (.int p1), .val (.int p2), .val (.int p3), .val (.int p4), .val (.int p5), .val (.ref b6), .val (.ref b30), .val .null, .val (.ref b685), .val (.ref b697), .val (.ref b709), .val (.ref b761), .val .null, .val (.int (1 : Int32))] [(.ref b761), (.ref b6)])) rfl (by rw [hml]; rfl) (Steps.refl _) (argsL := []) (rest := [(.ref b6)]) (lenOf pd__28_29Ljava_2flang_2fString_3b rfl) rfl (by show 2 * 0 + _ ≤ _; exact Nat.le_of_eq rfl) (hb hby at_235) (fun _ _ => ⟨rfl, e798, (by decide : 11 + 0 ≤ _), (by decide : 31 + 0 ≤ _)⟩)
        dsimp only [Pt.U, Pt.locs, Pt.cells, Pt.slots] at X800 l800 y800 z800 st800 hQ800
        replace l800 := l800.symm
        subst l800
        obtain rfl : k800 = 11 := y800
        obtain rfl : n800 = 31 := z800
        obtain ⟨rfl, N800q, e800⟩ := hQ800
        have N800 := Fr.app N798 N800q
        have pre801 : ∀ t, Steps p.tables e below (T800.setTop (mkF m 238 #[.val (.int p0), .val (.int p1), .val (.int p2), .val (.int p3), .val (.int p4), .val (.int p5), .val (.ref b6), .val (.ref b30), .val .null, .val (.ref b685), .val (.ref b697), .val (.ref b709), .val (.ref b761), .val .null, .val (.int (1 : Int32))] [(.ref b6), (.ref b6)])) t → Steps p.tables e below (s₁.setTop (entryFrame m #[(.int p0), (.int p1), (.int p2), (.int p3), (.int p4), (.int p5)] maxLocals)) t := by
          intro t kk
          refine pre799 t ?_
          show Steps p.tables e below (T798.setTop (mkF m 235 #[.val (.int p0), .val (.int p1), .val (.int p2), .val (.int p3), .val (.int p4), .val (.int p5), .val (.ref b6), .val (.ref b30), .val .null, .val (.ref b685), .val (.ref b697), .val (.ref b709), .val (.ref b761), .val .null, .val (.int (1 : Int32))] [(.ref b761), (.ref b6)])) _
          refine st800.trans ?_
          exact kk
        clear X798 e798 st800 N800q N798 pre799
        as_aux_lemma =>
        obtain ⟨cq802, kq802, q802a, q802b, q802c⟩ := isOf hZ e800 E_b6_783
        obtain ⟨_, _, ⟨T802, L802, k802, n802⟩, -, X802, ⟨Lc802, hQ802, l802, y802, z802⟩, st802⟩ := X800.virtualBack hx (y := (⟨"java/lang/String", "equals", "(Ljava/lang/Object;)Z"⟩ : MethodName)) (z := (⟨"java/lang/String", "equals", "(Ljava/lang/Object;)Z"⟩ : MethodName)) hown (mt_90 hZ hw) (mt_91 hZ hw) (notFace_of_selects (args := #[]) (mt_93 hZ hw)) (mt_93 hZ hw) (mt_92 hZ hw) (by decide) (backOf (W := 0) (rm15 l Z aA hw [] b6 T781.heap n0 Z781) hZ (hw _ tb_94) (hw _ tb_2) (by decide) (by decide)) q802a q802c (g := (mkF m 238 #[.val (.int p0), .val (.int p1), .val (.int p2), .val (.int p3), .val (.int p4), .val (.int p5), .val (.ref b6), .val (.ref b30), .val .null, .val (.ref b685), .val (.ref b697), .val (.ref b709), .val (.ref b761), .val .null, .val (.int (1 : Int32))] [(.ref b6), (.ref b6)])) rfl (by rw [hml]; rfl) (Steps.refl _) (argsL := [(.ref b6)]) (rest := []) (lenOf pd__28Ljava_2flang_2fObject_3b_29Z rfl) rfl (by show 2 * 0 + _ ≤ _; exact Nat.le_of_eq rfl) (hb hby at_238) (fun _ _ => ⟨rfl, e800, (by decide : 11 + 0 ≤ _), (by decide : 31 + 0 ≤ _)⟩)
        dsimp only [Pt.U, Pt.locs, Pt.cells, Pt.slots] at X802 l802 y802 z802 st802 hQ802
        replace l802 := l802.symm
        subst l802
        obtain rfl : k802 = 11 := y802
        obtain rfl : n802 = 31 := z802
        obtain ⟨rfl, N802q, e802⟩ := hQ802
        have N802 := Fr.app N800 N802q
        have pre803 : ∀ t, Steps p.tables e below (T802.setTop (mkF m 248 #[.val (.int p0), .val (.int p1), .val (.int p2), .val (.int p3), .val (.int p4), .val (.int p5), .val (.ref b6), .val (.ref b30), .val .null, .val (.ref b685), .val (.ref b697), .val (.ref b709), .val (.ref b761), .val .null, .val (.int (1 : Int32))] [(.ref b761), (.ref b30)])) t → Steps p.tables e below (s₁.setTop (entryFrame m #[(.int p0), (.int p1), (.int p2), (.int p3), (.int p4), (.int p5)] maxLocals)) t := by
          intro t kk
          refine pre801 t ?_
          show Steps p.tables e below (T800.setTop (mkF m 238 #[.val (.int p0), .val (.int p1), .val (.int p2), .val (.int p3), .val (.int p4), .val (.int p5), .val (.ref b6), .val (.ref b30), .val .null, .val (.ref b685), .val (.ref b697), .val (.ref b709), .val (.ref b761), .val .null, .val (.int (1 : Int32))] [(.ref b6), (.ref b6)])) _
          refine st802.trans ?_
          refine XS.ifNo X802.here hx rfl (hb hby at_241) rfl ((if0 _ _).trans (feq (by decide : ¬ ((1 : Int32) = (0 : Int32)))).1) ?_
          refine XS.aload X802.here hx rfl (hb hby at_244) rfl rfl ?_
          refine XS.aload X802.here hx rfl (hb hby at_246) rfl rfl ?_
          exact kk
        clear X800 e800 st802 N802q N800 pre801
        as_aux_lemma =>
        obtain ⟨cq804, kq804, q804a, q804b, q804c⟩ := isOf hZ e802 E_b761_792
        obtain ⟨_, _, ⟨T804, L804, k804, n804⟩, -, X804, ⟨Lc804, hQ804, l804, y804, z804⟩, st804⟩ := X802.virtualBack hx (y := (⟨"com/example/tidewheel/tidewheel/model/KeyedRequest", "request", "()Ljava/lang/String;"⟩ : MethodName)) (z := (⟨"com/example/tidewheel/tidewheel/model/KeyedRequest", "request", "()Ljava/lang/String;"⟩ : MethodName)) hown (mt_95 hZ hw) (mt_96 hZ hw) (notFace_of_selects (args := #[]) (mt_98 hZ hw)) (mt_98 hZ hw) (mt_97 hZ hw) (by decide) (backOf (W := 1) (rm16 l Z aA hw [] b761 b30 T781.heap n0 Z781 F_b761_request_794) hZ (hw _ tb_99) (hw _ tb_48) (by decide) (by decide)) q804a q804c (g := (mkF m 248 #[.val (.int p0), .val (.int p1), .val (.int p2), .val (.int p3), .val (.int p4), .val (.int p5), .val (.ref b6), .val (.ref b30), .val .null, .val (.ref b685), .val (.ref b697), .val (.ref b709), .val (.ref b761), .val .null, .val (.int (1 : Int32))] [(.ref b761), (.ref b30)])) rfl (by rw [hml]; rfl) (Steps.refl _) (argsL := []) (rest := [(.ref b30)]) (lenOf pd__28_29Ljava_2flang_2fString_3b rfl) rfl (by show 2 * 0 + _ ≤ _; exact Nat.le_of_eq rfl) (hb hby at_248) (fun _ _ => ⟨rfl, e802, (by decide : 11 + 0 ≤ _), (by decide : 31 + 0 ≤ _)⟩)
        dsimp only [Pt.U, Pt.locs, Pt.cells, Pt.slots] at X804 l804 y804 z804 st804 hQ804
        replace l804 := l804.symm
        subst l804
        obtain rfl : k804 = 11 := y804
        obtain rfl : n804 = 31 := z804
        obtain ⟨rfl, N804q, e804⟩ := hQ804
        have N804 := Fr.app N802 N804q
        have pre805 : ∀ t, Steps p.tables e below (T804.setTop (mkF m 251 #[.val (.int p0), .val (.int p1), .val (.int p2), .val (.int p3), .val (.int p4), .val (.int p5), .val (.ref b6), .val (.ref b30), .val .null, .val (.ref b685), .val (.ref b697), .val (.ref b709), .val (.ref b761), .val .null, .val (.int (1 : Int32))] [(.ref b30), (.ref b30)])) t → Steps p.tables e below (s₁.setTop (entryFrame m #[(.int p0), (.int p1), (.int p2), (.int p3), (.int p4), (.int p5)] maxLocals)) t := by
          intro t kk
          refine pre803 t ?_
          show Steps p.tables e below (T802.setTop (mkF m 248 #[.val (.int p0), .val (.int p1), .val (.int p2), .val (.int p3), .val (.int p4), .val (.int p5), .val (.ref b6), .val (.ref b30), .val .null, .val (.ref b685), .val (.ref b697), .val (.ref b709), .val (.ref b761), .val .null, .val (.int (1 : Int32))] [(.ref b761), (.ref b30)])) _
          refine st804.trans ?_
          exact kk
        clear X802 e802 st804 N804q N802 pre803
        as_aux_lemma =>
        obtain ⟨cq806, kq806, q806a, q806b, q806c⟩ := isOf hZ e804 E_b30_784
        obtain ⟨_, _, ⟨T806, L806, k806, n806⟩, -, X806, ⟨Lc806, hQ806, l806, y806, z806⟩, st806⟩ := X804.virtualBack hx (y := (⟨"java/lang/String", "equals", "(Ljava/lang/Object;)Z"⟩ : MethodName)) (z := (⟨"java/lang/String", "equals", "(Ljava/lang/Object;)Z"⟩ : MethodName)) hown (mt_90 hZ hw) (mt_91 hZ hw) (notFace_of_selects (args := #[]) (mt_93 hZ hw)) (mt_93 hZ hw) (mt_92 hZ hw) (by decide) (backOf (W := 0) (rm15 l Z aA hw [] b30 T781.heap n0 Z781) hZ (hw _ tb_94) (hw _ tb_2) (by decide) (by decide)) q806a q806c (g := (mkF m 251 #[.val (.int p0), .val (.int p1), .val (.int p2), .val (.int p3), .val (.int p4), .val (.int p5), .val (.ref b6), .val (.ref b30), .val .null, .val (.ref b685), .val (.ref b697), .val (.ref b709), .val (.ref b761), .val .null, .val (.int (1 : Int32))] [(.ref b30), (.ref b30)])) rfl (by rw [hml]; rfl) (Steps.refl _) (argsL := [(.ref b30)]) (rest := []) (lenOf pd__28Ljava_2flang_2fObject_3b_29Z rfl) rfl (by show 2 * 0 + _ ≤ _; exact Nat.le_of_eq rfl) (hb hby at_251) (fun _ _ => ⟨rfl, e804, (by decide : 11 + 0 ≤ _), (by decide : 31 + 0 ≤ _)⟩)
        dsimp only [Pt.U, Pt.locs, Pt.cells, Pt.slots] at X806 l806 y806 z806 st806 hQ806
        replace l806 := l806.symm
        subst l806
        obtain rfl : k806 = 11 := y806
        obtain rfl : n806 = 31 := z806
        obtain ⟨rfl, N806q, e806⟩ := hQ806
        have N806 := Fr.app N804 N806q
        have pre807 : ∀ t, Steps p.tables e below (T806.setTop (mkF m 264 #[.val (.int p0), .val (.int p1), .val (.int p2), .val (.int p3), .val (.int p4), .val (.int p5), .val (.ref b6), .val (.ref b30), .val .null, .val (.ref b685), .val (.ref b697), .val (.ref b709), .val (.ref b761), .val .null, .val (.int (1 : Int32))] [(.ref b761)])) t → Steps p.tables e below (s₁.setTop (entryFrame m #[(.int p0), (.int p1), (.int p2), (.int p3), (.int p4), (.int p5)] maxLocals)) t := by
          intro t kk
          refine pre805 t ?_
          show Steps p.tables e below (T804.setTop (mkF m 251 #[.val (.int p0), .val (.int p1), .val (.int p2), .val (.int p3), .val (.int p4), .val (.int p5), .val (.ref b6), .val (.ref b30), .val .null, .val (.ref b685), .val (.ref b697), .val (.ref b709), .val (.ref b761), .val .null, .val (.int (1 : Int32))] [(.ref b30), (.ref b30)])) _
          refine st806.trans ?_
          refine XS.ifNo X806.here hx rfl (hb hby at_254) rfl ((if0 _ _).trans (feq (by decide : ¬ ((1 : Int32) = (0 : Int32)))).1) ?_
          refine XS.iload X806.here hx rfl (hb hby at_257) rfl ?_
          refine XS.ifNo X806.here hx rfl (hb hby at_259) rfl ((if0 _ _).trans (feq (by decide : ¬ ((1 : Int32) = (0 : Int32)))).1) ?_
          refine XS.aload X806.here hx rfl (hb hby at_262) rfl rfl ?_
          exact kk
        clear X804 e804 st806 N806q N804 pre805
        as_aux_lemma =>
        obtain ⟨cq808, kq808, q808a, q808b, q808c⟩ := isOf hZ e806 E_b761_792
        obtain ⟨_, _, ⟨T808, L808, k808, n808⟩, -, X808, ⟨Lc808, hQ808, l808, y808, z808⟩, st808⟩ := X806.virtualBack hx (y := (⟨"com/example/tidewheel/tidewheel/model/KeyedRequest", "answer", "()Ljava/util/Optional;"⟩ : MethodName)) (z := (⟨"com/example/tidewheel/tidewheel/model/KeyedRequest", "answer", "()Ljava/util/Optional;"⟩ : MethodName)) hown (mt_100 hZ hw) (mt_101 hZ hw) (notFace_of_selects (args := #[]) (mt_103 hZ hw)) (mt_103 hZ hw) (mt_102 hZ hw) (by decide) (backOf (W := 0) (rm17_r l Z aA hw [] b761 b697 wE T781.heap n0 Z781 O_782 S_EMPTY X_EMPTY G_EMPTY F_b761_answer_796) hZ (hw _ tb_104) (hw _ tb_48) (by decide) (by decide)) q808a q808c (g := (mkF m 264 #[.val (.int p0), .val (.int p1), .val (.int p2), .val (.int p3), .val (.int p4), .val (.int p5), .val (.ref b6), .val (.ref b30), .val .null, .val (.ref b685), .val (.ref b697), .val (.ref b709), .val (.ref b761), .val .null, .val (.int (1 : Int32))] [(.ref b761)])) rfl (by rw [hml]; rfl) (Steps.refl _) (argsL := []) (rest := []) (lenOf pd__28_29Ljava_2futil_2fOptional_3b rfl) rfl (by show 2 * 0 + _ ≤ _; exact Nat.le_of_eq rfl) (hb hby at_264) (fun _ _ => ⟨rfl, e806, (by decide : 11 + 1 ≤ _), (by decide : 31 + 1 ≤ _)⟩)
        dsimp only [Pt.U, Pt.locs, Pt.cells, Pt.slots] at X808 l808 y808 z808 st808 hQ808
        replace l808 := l808.symm
        subst l808
        obtain rfl : k808 = 12 := y808
        obtain rfl : n808 = 32 := z808
        obtain ⟨b808, rfl, N808q, K808, Eq808, Fq808⟩ := hQ808
        have N808 := Fr.app N806 N808q
        have KP808 : Keep h0 T808.heap [] := KP781.trans K808 all0
        have Z808 : n0 ≤ T808.heap.size := Nat.le_trans Z781 K808.1
        have O_809 : Old Z n0 T808.heap := O_782.keep K808 all0
        have E_b6_810 : Exa Z T808.heap b6 "java/lang/String" := E_b6_783.keep K808
        have E_b30_811 : Exa Z T808.heap b30 "java/lang/String" := E_b30_784.keep K808
        have E_b685_812 : Exa Z T808.heap b685 "com/example/tidewheel/tidewheel/model/KeyedRequest$Answer" := E_b685_785.keep K808
        have E_b697_813 : Exa Z T808.heap b697 "com/example/tidewheel/tidewheel/model/KeyedRequest$Answer" := E_b697_786.keep K808
        have E_b709_814 : Exa Z T808.heap b709 "com/example/tidewheel/tidewheel/model/KeyedRequest" := E_b709_787.keep K808
        have F_b709_key_815 : Fld Z T808.heap b709 "com/example/tidewheel/tidewheel/model/KeyedRequest" "key" "Ljava/lang/String;" (.ref b6) := F_b709_key_788.keep K808 nin0
        have F_b709_request_816 : Fld Z T808.heap b709 "com/example/tidewheel/tidewheel/model/KeyedRequest" "request" "Ljava/lang/String;" (.ref b30) := F_b709_request_789.keep K808 nin0
        have F_b709_resource_817 : Fld Z T808.heap b709 "com/example/tidewheel/tidewheel/model/KeyedRequest" "resource" "Ljava/lang/String;" .null := F_b709_resource_790.keep K808 nin0
        have F_b709_answer_818 : Fld Z T808.heap b709 "com/example/tidewheel/tidewheel/model/KeyedRequest" "answer" "Lcom/example/tidewheel/tidewheel/model/KeyedRequest$Answer;" (.ref b685) := F_b709_answer_791.keep K808 nin0
        have E_b761_819 : Exa Z T808.heap b761 "com/example/tidewheel/tidewheel/model/KeyedRequest" := E_b761_792.keep K808
        have F_b761_key_820 : Fld Z T808.heap b761 "com/example/tidewheel/tidewheel/model/KeyedRequest" "key" "Ljava/lang/String;" (.ref b6) := F_b761_key_793.keep K808 nin0
        have F_b761_request_821 : Fld Z T808.heap b761 "com/example/tidewheel/tidewheel/model/KeyedRequest" "request" "Ljava/lang/String;" (.ref b30) := F_b761_request_794.keep K808 nin0
        have F_b761_resource_822 : Fld Z T808.heap b761 "com/example/tidewheel/tidewheel/model/KeyedRequest" "resource" "Ljava/lang/String;" .null := F_b761_resource_795.keep K808 nin0
        have F_b761_answer_823 : Fld Z T808.heap b761 "com/example/tidewheel/tidewheel/model/KeyedRequest" "answer" "Lcom/example/tidewheel/tidewheel/model/KeyedRequest$Answer;" (.ref b697) := F_b761_answer_796.keep K808 nin0
        have E_b781_824 : Exa Z T808.heap b781 "java/util/Optional" := Eq781.keep K808
        have F_b781_value_825 : Fld Z T808.heap b781 "java/util/Optional" "value" "Ljava/lang/Object;" .null := Fq781.keep K808 nin0
        have pre826 : ∀ t, Steps p.tables e below (T808.setTop (mkF m 268 #[.val (.int p0), .val (.int p1), .val (.int p2), .val (.int p3), .val (.int p4), .val (.int p5), .val (.ref b6), .val (.ref b30), .val .null, .val (.ref b685), .val (.ref b697), .val (.ref b709), .val (.ref b761), .val .null, .val (.int (1 : Int32))] [.null, (.ref b808)])) t → Steps p.tables e below (s₁.setTop (entryFrame m #[(.int p0), (.int p1), (.int p2), (.int p3), (.int p4), (.int p5)] maxLocals)) t := by
          intro t kk
          refine pre807 t ?_
          show Steps p.tables e below (T806.setTop (mkF m 264 #[.val (.int p0), .val (.int p1), .val (.int p2), .val (.int p3), .val (.int p4), .val (.int p5), .val (.ref b6), .val (.ref b30), .val .null, .val (.ref b685), .val (.ref b697), .val (.ref b709), .val (.ref b761), .val .null, .val (.int (1 : Int32))] [(.ref b761)])) _
          refine st808.trans ?_
          refine XS.aconstNull X808.here hx rfl (hb hby at_267) ?_
          exact kk
        clear X806 e806 st808 N808q N806 KP781 Z781 O_782 E_b6_783 E_b30_784 E_b685_785 E_b697_786 E_b709_787 F_b709_key_788 F_b709_request_789 F_b709_resource_790 F_b709_answer_791 E_b761_792 F_b761_key_793 F_b761_request_794 F_b761_resource_795 F_b761_answer_796 Eq781 Fq781 K808 pre807
        as_aux_lemma =>
        obtain ⟨cq827, kq827, q827a, q827b, q827c⟩ := isOf hZ rfl Eq808
        obtain ⟨_, _, ⟨T827, L827, k827, n827⟩, -, X827, ⟨Lc827, hQ827, l827, y827, z827⟩, st827⟩ := X808.virtualBack hx (y := (⟨"java/util/Optional", "orElse", "(Ljava/lang/Object;)Ljava/lang/Object;"⟩ : MethodName)) (z := (⟨"java/util/Optional", "orElse", "(Ljava/lang/Object;)Ljava/lang/Object;"⟩ : MethodName)) hown (mt_78 hZ hw) (mt_79 hZ hw) (notFace_of_selects (args := #[]) (mt_81 hZ hw)) (mt_81 hZ hw) (mt_80 hZ hw) (by decide) (backOf (W := 0) (rm13_r l Z aA hw [] b808 b697 T808.heap n0 Z808 Fq808) hZ (hw _ tb_82) (hw _ tb_75) (by decide) (by decide)) q827a q827c (g := (mkF m 268 #[.val (.int p0), .val (.int p1), .val (.int p2), .val (.int p3), .val (.int p4), .val (.int p5), .val (.ref b6), .val (.ref b30), .val .null, .val (.ref b685), .val (.ref b697), .val (.ref b709), .val (.ref b761), .val .null, .val (.int (1 : Int32))] [.null, (.ref b808)])) rfl (by rw [hml]; rfl) (Steps.refl _) (argsL := [.null]) (rest := []) (lenOf pd__28Ljava_2flang_2fObject_3b_29Ljava_2flang_2fObject_3b rfl) rfl (by show 2 * 0 + _ ≤ _; exact Nat.le_of_eq rfl) (hb hby at_268) (fun _ _ => ⟨rfl, rfl, (by decide : 12 + 0 ≤ _), (by decide : 32 + 0 ≤ _)⟩)
        dsimp only [Pt.U, Pt.locs, Pt.cells, Pt.slots] at X827 l827 y827 z827 st827 hQ827
        replace l827 := l827.symm
        subst l827
        obtain rfl : k827 = 12 := y827
        obtain rfl : n827 = 32 := z827
        obtain ⟨rfl, N827q, e827⟩ := hQ827
        have N827 := Fr.app N808 N827q
        have pre828 : ∀ t, Steps p.tables e below (T827.setTop (mkF m 278 #[.val (.int p0), .val (.int p1), .val (.int p2), .val (.int p3), .val (.int p4), .val (.int p5), .val (.ref b6), .val (.ref b30), .val .null, .val (.ref b685), .val (.ref b697), .val (.ref b709), .val (.ref b761), .val .null, .val (.int (1 : Int32))] [(.ref b709)])) t → Steps p.tables e below (s₁.setTop (entryFrame m #[(.int p0), (.int p1), (.int p2), (.int p3), (.int p4), (.int p5)] maxLocals)) t := by
          intro t kk
          refine pre826 t ?_
          show Steps p.tables e below (T808.setTop (mkF m 268 #[.val (.int p0), .val (.int p1), .val (.int p2), .val (.int p3), .val (.int p4), .val (.int p5), .val (.ref b6), .val (.ref b30), .val .null, .val (.ref b685), .val (.ref b697), .val (.ref b709), .val (.ref b761), .val .null, .val (.int (1 : Int32))] [.null, (.ref b808)])) _
          refine st827.trans ?_
          refine XS.aload X827.here hx rfl (hb hby at_271) rfl rfl ?_
          refine Jvm.RoadKit.acmp (g := (mkF m 273 #[.val (.int p0), .val (.int p1), .val (.int p2), .val (.int p3), .val (.int p4), .val (.int p5), .val (.ref b6), .val (.ref b30), .val .null, .val (.ref b685), .val (.ref b697), .val (.ref b709), .val (.ref b761), .val .null, .val (.int (1 : Int32))] [(.ref b697), (.ref b697)])) X827 hx rfl rfl rfl (pc0 := 273) (pc' := 276) (same := true) rfl (hb hby at_273) rfl (decide_eq_true rfl) (by decide) (by decide) ?_
          refine XS.aload X827.here hx rfl (hb hby at_276) rfl rfl ?_
          exact kk
        clear X808 st827 N827q N808 pre826
        as_aux_lemma =>
        obtain ⟨cq829, kq829, q829a, q829b, q829c⟩ := isOf hZ e827 E_b709_814
        obtain ⟨_, _, ⟨T829, L829, k829, n829⟩, -, X829, ⟨Lc829, hQ829, l829, y829, z829⟩, st829⟩ := X827.virtualBack hx (y := (⟨"com/example/tidewheel/tidewheel/model/KeyedRequest", "answer", "()Ljava/util/Optional;"⟩ : MethodName)) (z := (⟨"com/example/tidewheel/tidewheel/model/KeyedRequest", "answer", "()Ljava/util/Optional;"⟩ : MethodName)) hown (mt_100 hZ hw) (mt_101 hZ hw) (notFace_of_selects (args := #[]) (mt_103 hZ hw)) (mt_103 hZ hw) (mt_102 hZ hw) (by decide) (backOf (W := 0) (rm17_r l Z aA hw [] b709 b685 wE T808.heap n0 Z808 O_809 S_EMPTY X_EMPTY G_EMPTY F_b709_answer_818) hZ (hw _ tb_104) (hw _ tb_48) (by decide) (by decide)) q829a q829c (g := (mkF m 278 #[.val (.int p0), .val (.int p1), .val (.int p2), .val (.int p3), .val (.int p4), .val (.int p5), .val (.ref b6), .val (.ref b30), .val .null, .val (.ref b685), .val (.ref b697), .val (.ref b709), .val (.ref b761), .val .null, .val (.int (1 : Int32))] [(.ref b709)])) rfl (by rw [hml]; rfl) (Steps.refl _) (argsL := []) (rest := []) (lenOf pd__28_29Ljava_2futil_2fOptional_3b rfl) rfl (by show 2 * 0 + _ ≤ _; exact Nat.le_of_eq rfl) (hb hby at_278) (fun _ _ => ⟨rfl, e827, (by decide : 12 + 1 ≤ _), (by decide : 32 + 1 ≤ _)⟩)
        dsimp only [Pt.U, Pt.locs, Pt.cells, Pt.slots] at X829 l829 y829 z829 st829 hQ829
        replace l829 := l829.symm
        subst l829
        obtain rfl : k829 = 13 := y829
        obtain rfl : n829 = 33 := z829
        obtain ⟨b829, rfl, N829q, K829, Eq829, Fq829⟩ := hQ829
        have N829 := Fr.app N827 N829q
        have KP829 : Keep h0 T829.heap [] := KP808.trans K829 all0
        have Z829 : n0 ≤ T829.heap.size := Nat.le_trans Z808 K829.1
        have O_830 : Old Z n0 T829.heap := O_809.keep K829 all0
        have E_b6_831 : Exa Z T829.heap b6 "java/lang/String" := E_b6_810.keep K829
        have E_b30_832 : Exa Z T829.heap b30 "java/lang/String" := E_b30_811.keep K829
        have E_b685_833 : Exa Z T829.heap b685 "com/example/tidewheel/tidewheel/model/KeyedRequest$Answer" := E_b685_812.keep K829
        have E_b697_834 : Exa Z T829.heap b697 "com/example/tidewheel/tidewheel/model/KeyedRequest$Answer" := E_b697_813.keep K829
        have E_b709_835 : Exa Z T829.heap b709 "com/example/tidewheel/tidewheel/model/KeyedRequest" := E_b709_814.keep K829
        have F_b709_key_836 : Fld Z T829.heap b709 "com/example/tidewheel/tidewheel/model/KeyedRequest" "key" "Ljava/lang/String;" (.ref b6) := F_b709_key_815.keep K829 nin0
        have F_b709_request_837 : Fld Z T829.heap b709 "com/example/tidewheel/tidewheel/model/KeyedRequest" "request" "Ljava/lang/String;" (.ref b30) := F_b709_request_816.keep K829 nin0
        have F_b709_resource_838 : Fld Z T829.heap b709 "com/example/tidewheel/tidewheel/model/KeyedRequest" "resource" "Ljava/lang/String;" .null := F_b709_resource_817.keep K829 nin0
        have F_b709_answer_839 : Fld Z T829.heap b709 "com/example/tidewheel/tidewheel/model/KeyedRequest" "answer" "Lcom/example/tidewheel/tidewheel/model/KeyedRequest$Answer;" (.ref b685) := F_b709_answer_818.keep K829 nin0
        have E_b761_840 : Exa Z T829.heap b761 "com/example/tidewheel/tidewheel/model/KeyedRequest" := E_b761_819.keep K829
        have F_b761_key_841 : Fld Z T829.heap b761 "com/example/tidewheel/tidewheel/model/KeyedRequest" "key" "Ljava/lang/String;" (.ref b6) := F_b761_key_820.keep K829 nin0
        have F_b761_request_842 : Fld Z T829.heap b761 "com/example/tidewheel/tidewheel/model/KeyedRequest" "request" "Ljava/lang/String;" (.ref b30) := F_b761_request_821.keep K829 nin0
        have F_b761_resource_843 : Fld Z T829.heap b761 "com/example/tidewheel/tidewheel/model/KeyedRequest" "resource" "Ljava/lang/String;" .null := F_b761_resource_822.keep K829 nin0
        have F_b761_answer_844 : Fld Z T829.heap b761 "com/example/tidewheel/tidewheel/model/KeyedRequest" "answer" "Lcom/example/tidewheel/tidewheel/model/KeyedRequest$Answer;" (.ref b697) := F_b761_answer_823.keep K829 nin0
        have E_b781_845 : Exa Z T829.heap b781 "java/util/Optional" := E_b781_824.keep K829
        have F_b781_value_846 : Fld Z T829.heap b781 "java/util/Optional" "value" "Ljava/lang/Object;" .null := F_b781_value_825.keep K829 nin0
        have E_b808_847 : Exa Z T829.heap b808 "java/util/Optional" := Eq808.keep K829
        have F_b808_value_848 : Fld Z T829.heap b808 "java/util/Optional" "value" "Ljava/lang/Object;" (.ref b697) := Fq808.keep K829 nin0
        have pre849 : ∀ t, Steps p.tables e below (T829.setTop (mkF m 282 #[.val (.int p0), .val (.int p1), .val (.int p2), .val (.int p3), .val (.int p4), .val (.int p5), .val (.ref b6), .val (.ref b30), .val .null, .val (.ref b685), .val (.ref b697), .val (.ref b709), .val (.ref b761), .val .null, .val (.int (1 : Int32))] [.null, (.ref b829)])) t → Steps p.tables e below (s₁.setTop (entryFrame m #[(.int p0), (.int p1), (.int p2), (.int p3), (.int p4), (.int p5)] maxLocals)) t := by
          intro t kk
          refine pre828 t ?_
          show Steps p.tables e below (T827.setTop (mkF m 278 #[.val (.int p0), .val (.int p1), .val (.int p2), .val (.int p3), .val (.int p4), .val (.int p5), .val (.ref b6), .val (.ref b30), .val .null, .val (.ref b685), .val (.ref b697), .val (.ref b709), .val (.ref b761), .val .null, .val (.int (1 : Int32))] [(.ref b709)])) _
          refine st829.trans ?_
          refine XS.aconstNull X829.here hx rfl (hb hby at_281) ?_
          exact kk
        clear X827 e827 st829 N829q N827 KP808 Z808 O_809 E_b6_810 E_b30_811 E_b685_812 E_b697_813 E_b709_814 F_b709_key_815 F_b709_request_816 F_b709_resource_817 F_b709_answer_818 E_b761_819 F_b761_key_820 F_b761_request_821 F_b761_resource_822 F_b761_answer_823 E_b781_824 F_b781_value_825 Eq808 Fq808 K829 pre828
        as_aux_lemma =>
        obtain ⟨cq850, kq850, q850a, q850b, q850c⟩ := isOf hZ rfl Eq829
        obtain ⟨_, _, ⟨T850, L850, k850, n850⟩, -, X850, ⟨Lc850, hQ850, l850, y850, z850⟩, st850⟩ := X829.virtualBack hx (y := (⟨"java/util/Optional", "orElse", "(Ljava/lang/Object;)Ljava/lang/Object;"⟩ : MethodName)) (z := (⟨"java/util/Optional", "orElse", "(Ljava/lang/Object;)Ljava/lang/Object;"⟩ : MethodName)) hown (mt_78 hZ hw) (mt_79 hZ hw) (notFace_of_selects (args := #[]) (mt_81 hZ hw)) (mt_81 hZ hw) (mt_80 hZ hw) (by decide) (backOf (W := 0) (rm13_r l Z aA hw [] b829 b685 T829.heap n0 Z829 Fq829) hZ (hw _ tb_82) (hw _ tb_75) (by decide) (by decide)) q850a q850c (g := (mkF m 282 #[.val (.int p0), .val (.int p1), .val (.int p2), .val (.int p3), .val (.int p4), .val (.int p5), .val (.ref b6), .val (.ref b30), .val .null, .val (.ref b685), .val (.ref b697), .val (.ref b709), .val (.ref b761), .val .null, .val (.int (1 : Int32))] [.null, (.ref b829)])) rfl (by rw [hml]; rfl) (Steps.refl _) (argsL := [.null]) (rest := []) (lenOf pd__28Ljava_2flang_2fObject_3b_29Ljava_2flang_2fObject_3b rfl) rfl (by show 2 * 0 + _ ≤ _; exact Nat.le_of_eq rfl) (hb hby at_282) (fun _ _ => ⟨rfl, rfl, (by decide : 13 + 0 ≤ _), (by decide : 33 + 0 ≤ _)⟩)
        dsimp only [Pt.U, Pt.locs, Pt.cells, Pt.slots] at X850 l850 y850 z850 st850 hQ850
        replace l850 := l850.symm
        subst l850
        obtain rfl : k850 = 13 := y850
        obtain rfl : n850 = 33 := z850
        obtain ⟨rfl, N850q, e850⟩ := hQ850
        have N850 := Fr.app N829 N850q
        have pre851 : ∀ t, Steps p.tables e below (T850.setTop (mkF m 295 #[.val (.int p0), .val (.int p1), .val (.int p2), .val (.int p3), .val (.int p4), .val (.int p5), .val (.ref b6), .val (.ref b30), .val .null, .val (.ref b685), .val (.ref b697), .val (.ref b709), .val (.ref b761), .val .null, .val (.int (1 : Int32))] [(.int (1 : Int32))])) t → Steps p.tables e below (s₁.setTop (entryFrame m #[(.int p0), (.int p1), (.int p2), (.int p3), (.int p4), (.int p5)] maxLocals)) t := by
          intro t kk
          refine pre849 t ?_
          show Steps p.tables e below (T829.setTop (mkF m 282 #[.val (.int p0), .val (.int p1), .val (.int p2), .val (.int p3), .val (.int p4), .val (.int p5), .val (.ref b6), .val (.ref b30), .val .null, .val (.ref b685), .val (.ref b697), .val (.ref b709), .val (.ref b761), .val .null, .val (.int (1 : Int32))] [.null, (.ref b829)])) _
          refine st850.trans ?_
          refine XS.aload X850.here hx rfl (hb hby at_285) rfl rfl ?_
          refine Jvm.RoadKit.acmp (g := (mkF m 287 #[.val (.int p0), .val (.int p1), .val (.int p2), .val (.int p3), .val (.int p4), .val (.int p5), .val (.ref b6), .val (.ref b30), .val .null, .val (.ref b685), .val (.ref b697), .val (.ref b709), .val (.ref b761), .val .null, .val (.int (1 : Int32))] [(.ref b685), (.ref b685)])) X850 hx rfl rfl rfl (pc0 := 287) (pc' := 290) (same := true) rfl (hb hby at_287) rfl (decide_eq_true rfl) (by decide) (by decide) ?_
          refine XS.iconst X850.here hx rfl (hb hby at_290) ?_
          refine XS.goto X850.here hx rfl (pc0 := 291) (pc' := 295) rfl (hb hby at_291) (by decide) (by decide) ?_
          exact kk
        clear X829 st850 N850q N829 pre849
        as_aux_lemma =>
        obtain ⟨fs, hr, hrun, hended, hW, hsame⟩ := X850.leave (v := some (.int (1 : Int32))) (fun h => by rw [Bd.returns] at h; cases h)
        refine ⟨_, _, pre851 _ ?_, hrun, hended, _, _, rfl, ?_, ⟨_, rfl⟩, hW, hsame.mono (by decide) (by decide)⟩
        · show Steps p.tables e below (T850.setTop (mkF m 295 #[.val (.int p0), .val (.int p1), .val (.int p2), .val (.int p3), .val (.int p4), .val (.int p5), .val (.ref b6), .val (.ref b30), .val .null, .val (.ref b685), .val (.ref b697), .val (.ref b709), .val (.ref b761), .val .null, .val (.int (1 : Int32))] [(.int (1 : Int32))])) _
          exact retN X850 hx (t := .boolean) Bd.returns (by simp) (hb hby at_295) hr
        · show Q0 Z p0 p1 p2 p3 p4 p5 zcs wE h0 n0 _ T850.heap _
          rw [e850]
          exact ⟨rfl, N850⟩
      · as_aux_lemma =>
        obtain ⟨T852, h852, X852, e852, E852, A852, D852, -, st852⟩ := newO X690 hx hZ hown (hw _ tb_46) (hw _ tb_47) (hw _ tb_48) rfl (g := (mkF m 157 #[.val (.int p0), .val (.int p1), .val (.int p2), .val (.int p3), .val (.int p4), .val (.int p5), .val (.ref b6), .val (.ref b30), .val .null, .val (.ref b685), .val .null, .unset, .unset, .unset, .unset] [])) rfl (hb hby at_157) (by decide) (by decide)
        obtain ⟨b852, g852⟩ : ∃ z, z = T690.heap.size := ⟨_, rfl⟩
        rw [← g852] at A852 D852 st852
        have ne_b6_b852 : b6 ≠ b852 := Nat.ne_of_lt (Nat.lt_of_lt_of_le E_b6_692.lt (Nat.le_of_eq g852.symm))
        have ne_b30_b852 : b30 ≠ b852 := Nat.ne_of_lt (Nat.lt_of_lt_of_le E_b30_693.lt (Nat.le_of_eq g852.symm))
        have ne_b685_b852 : b685 ≠ b852 := Nat.ne_of_lt (Nat.lt_of_lt_of_le Eq690.lt (Nat.le_of_eq g852.symm))
        have sz_b852 : h0.size ≤ b852 := Nat.le_trans KP690.1 (Nat.le_of_eq g852.symm)
        have g_b852 : n0 ≤ b852 := Nat.le_trans Z690 (Nat.le_of_eq g852.symm)
        have KP852 : Keep h0 h852 [] := KP690.ext E852
        have Z852 : n0 ≤ h852.size := Nat.le_trans Z690 E852.1
        have O_853 : Old Z n0 h852 := O_691.ext E852
        have E_b6_854 : Exa Z h852 b6 "java/lang/String" := E_b6_692.ext E852
        have E_b30_855 : Exa Z h852 b30 "java/lang/String" := E_b30_693.ext E852
        have E_b685_856 : Exa Z h852 b685 "com/example/tidewheel/tidewheel/model/KeyedRequest$Answer" := Eq690.ext E852
        have F_key_b852 : Fld Z h852 b852 "com/example/tidewheel/tidewheel/model/KeyedRequest" "key" "Ljava/lang/String;" .null := D852 (Or.inr (hw _ tb_54)) (ty := (.object "java/lang/String")) (by decide)
        have F_request_b852 : Fld Z h852 b852 "com/example/tidewheel/tidewheel/model/KeyedRequest" "request" "Ljava/lang/String;" .null := D852 (Or.inr (hw _ tb_56)) (ty := (.object "java/lang/String")) (by decide)
        have F_resource_b852 : Fld Z h852 b852 "com/example/tidewheel/tidewheel/model/KeyedRequest" "resource" "Ljava/lang/String;" .null := D852 (Or.inr (hw _ tb_58)) (ty := (.object "java/lang/String")) (by decide)
        have F_answer_b852 : Fld Z h852 b852 "com/example/tidewheel/tidewheel/model/KeyedRequest" "answer" "Lcom/example/tidewheel/tidewheel/model/KeyedRequest$Answer;" .null := D852 (Or.inr (hw _ tb_60)) (ty := (.object "com/example/tidewheel/tidewheel/model/KeyedRequest$Answer")) (by decide)
        replace X852 : Stand _ _ _ _ _ _ _ _ _ _ _ _ 8 23 := X852
        have pre857 : ∀ t, Steps p.tables e below (T852.setTop (mkF m 169 #[.val (.int p0), .val (.int p1), .val (.int p2), .val (.int p3), .val (.int p4), .val (.int p5), .val (.ref b6), .val (.ref b30), .val .null, .val (.ref b685), .val .null, .unset, .unset, .unset, .unset] [(.ref b685), .null, (.ref b30), (.ref b6), (.ref b852), (.ref b852)])) t → Steps p.tables e below (s₁.setTop (entryFrame m #[(.int p0), (.int p1), (.int p2), (.int p3), (.int p4), (.int p5)] maxLocals)) t := by
          intro t kk
          refine pre696 t ?_
          show Steps p.tables e below (T690.setTop (mkF m 137 #[.val (.int p0), .val (.int p1), .val (.int p2), .val (.int p3), .val (.int p4), .val (.int p5), .val (.ref b6), .val (.ref b30), .val .null, .val (.ref b685), .unset, .unset, .unset, .unset, .unset] [(.int (p5 &&& (4 : Int32)))])) _
          refine XS.ifNo X690.here hx rfl (hb hby at_137) rfl ((if0 _ _).trans (feq hc137_695).1) ?_
          refine XS.aconstNull X690.here hx rfl (hb hby at_140) ?_
          refine XS.goto X690.here hx rfl (pc0 := 141) (pc' := 155) rfl (hb hby at_141) (by decide) (by decide) ?_
          refine XS.astore X690.here hx rfl (hb hby at_155) rfl rfl (l' := #[.val (.int p0), .val (.int p1), .val (.int p2), .val (.int p3), .val (.int p4), .val (.int p5), .val (.ref b6), .val (.ref b30), .val .null, .val (.ref b685), .val .null, .unset, .unset, .unset, .unset]) rfl ?_
          refine st852 _ ?_
          refine XS.dup X852.here hx rfl (hb hby at_160) rfl rfl ?_
          refine XS.aload X852.here hx rfl (hb hby at_161) rfl rfl ?_
          refine XS.aload X852.here hx rfl (hb hby at_163) rfl rfl ?_
          refine XS.aload X852.here hx rfl (hb hby at_165) rfl rfl ?_
          refine XS.aload X852.here hx rfl (hb hby at_167) rfl rfl ?_
          exact kk
        clear X690 st852 O_691 E_b6_692 E_b30_693 Eq690 pre696
        as_aux_lemma =>
        obtain ⟨_, _, ⟨T858, L858, k858, n858⟩, -, X858, ⟨Lc858, hQ858, l858, y858, z858⟩, st858⟩ := X852.specialBack hx (y := (⟨"com/example/tidewheel/tidewheel/model/KeyedRequest", "<init>", "(Ljava/lang/String;Ljava/lang/String;Ljava/lang/String;Lcom/example/tidewheel/tidewheel/model/KeyedRequest$Answer;)V"⟩ : MethodName)) rfl hown (mt_49 hZ hw) (mt_50 hZ hw) (mt_51 hZ hw) (by decide) (backOf (W := 1) (rm9_rrnr l Z aA hw [] b852 b6 b30 b685 h852 n0 Z852 A852 g_b852 F_key_b852 F_request_b852 F_resource_b852 F_answer_b852) hZ (hw _ tb_51) (hw _ tb_48) (by decide) (by decide)) (g := (mkF m 169 #[.val (.int p0), .val (.int p1), .val (.int p2), .val (.int p3), .val (.int p4), .val (.int p5), .val (.ref b6), .val (.ref b30), .val .null, .val (.ref b685), .val .null, .unset, .unset, .unset, .unset] [(.ref b685), .null, (.ref b30), (.ref b6), (.ref b852), (.ref b852)])) rfl (by rw [hml]; rfl) (Steps.refl _) (a := b852) (argsL := [(.ref b6), (.ref b30), .null, (.ref b685)]) (rest := [(.ref b852)]) (lenOf pd__28Ljava_2flang_2fString_3bLjava_2flang_2fString_3bLjava_2flang_2fString_3bLcom_2fexample_2ftidewheel_2ftidewheel_2fmodel_2fKeyedRequest_24Answer_3b_29V rfl) rfl (by show 2 * 0 + _ ≤ _; exact Nat.le_of_eq rfl) (hb hby at_169) (fun _ _ => ⟨rfl, e852, (by decide : 8 + 0 ≤ _), (by decide : 23 + 0 ≤ _)⟩)
        dsimp only [Pt.U, Pt.locs, Pt.cells, Pt.slots] at X858 l858 y858 z858 st858 hQ858
        replace l858 := l858.symm
        subst l858
        obtain rfl : k858 = 8 := y858
        obtain rfl : n858 = 23 := z858
        obtain ⟨rfl, N858q, K858, Eq858, Fq858_key, Fq858_request, Fq858_resource, Fq858_answer⟩ := hQ858
        have N858 := Fr.app N690 N858q
        have KP858 : Keep h0 T858.heap [] := KP852.trans K858 (allS (Or.inr sz_b852) all0)
        have Z858 : n0 ≤ T858.heap.size := Nat.le_trans Z852 K858.1
        have O_859 : Old Z n0 T858.heap := O_853.keep K858 (allS g_b852 all0)
        have E_b6_860 : Exa Z T858.heap b6 "java/lang/String" := E_b6_854.keep K858
        have E_b30_861 : Exa Z T858.heap b30 "java/lang/String" := E_b30_855.keep K858
        have E_b685_862 : Exa Z T858.heap b685 "com/example/tidewheel/tidewheel/model/KeyedRequest$Answer" := E_b685_856.keep K858
        have E_b852_863 : Exa Z T858.heap b852 "com/example/tidewheel/tidewheel/model/KeyedRequest" := A852.keep K858
        have pre864 : ∀ t, Steps p.tables e below (T858.setTop (mkF m 178 #[.val (.int p0), .val (.int p1), .val (.int p2), .val (.int p3), .val (.int p4), .val (.int p5), .val (.ref b6), .val (.ref b30), .val .null, .val (.ref b685), .val .null, .val (.ref b852), .unset, .unset, .unset] [.null, (.ref b852)])) t → Steps p.tables e below (s₁.setTop (entryFrame m #[(.int p0), (.int p1), (.int p2), (.int p3), (.int p4), (.int p5)] maxLocals)) t := by
          intro t kk
          refine pre857 t ?_
          show Steps p.tables e below (T852.setTop (mkF m 169 #[.val (.int p0), .val (.int p1), .val (.int p2), .val (.int p3), .val (.int p4), .val (.int p5), .val (.ref b6), .val (.ref b30), .val .null, .val (.ref b685), .val .null, .unset, .unset, .unset, .unset] [(.ref b685), .null, (.ref b30), (.ref b6), (.ref b852), (.ref b852)])) _
          refine st858.trans ?_
          refine XS.astore X858.here hx rfl (hb hby at_172) rfl rfl (l' := #[.val (.int p0), .val (.int p1), .val (.int p2), .val (.int p3), .val (.int p4), .val (.int p5), .val (.ref b6), .val (.ref b30), .val .null, .val (.ref b685), .val .null, .val (.ref b852), .unset, .unset, .unset]) rfl ?_
          refine XS.aload X858.here hx rfl (hb hby at_174) rfl rfl ?_
          refine XS.aload X858.here hx rfl (hb hby at_176) rfl rfl ?_
          exact kk
        clear X852 e852 st858 N858q N690 KP852 Z852 O_853 E_b6_854 E_b30_855 E_b685_856 A852 F_key_b852 F_request_b852 F_resource_b852 F_answer_b852 K858 pre857
        as_aux_lemma =>
        obtain ⟨cq902, kq902, q902a, q902b, q902c⟩ := isOf hZ rfl Eq858
        obtain ⟨_, _, ⟨T902, L902, k902, n902⟩, -, X902, ⟨Lc902, hQ902, l902, y902, z902⟩, st902⟩ := X858.virtualBack hx (y := (⟨"com/example/tidewheel/tidewheel/model/KeyedRequest", "answered", "(Lcom/example/tidewheel/tidewheel/model/KeyedRequest$Answer;)Lcom/example/tidewheel/tidewheel/model/KeyedRequest;"⟩ : MethodName)) (z := (⟨"com/example/tidewheel/tidewheel/model/KeyedRequest", "answered", "(Lcom/example/tidewheel/tidewheel/model/KeyedRequest$Answer;)Lcom/example/tidewheel/tidewheel/model/KeyedRequest;"⟩ : MethodName)) hown (mt_61 hZ hw) (mt_62 hZ hw) (notFace_of_selects (args := #[]) (mt_64 hZ hw)) (mt_64 hZ hw) (mt_63 hZ hw) (by decide) (backOf (W := 0) (rm10_nn l Z aA hw [] b852 b6 b30 T858.heap n0 Z858 Fq858_key Fq858_request Fq858_resource) hZ (hw _ tb_65) (hw _ tb_48) (by decide) (by decide)) q902a q902c (g := (mkF m 178 #[.val (.int p0), .val (.int p1), .val (.int p2), .val (.int p3), .val (.int p4), .val (.int p5), .val (.ref b6), .val (.ref b30), .val .null, .val (.ref b685), .val .null, .val (.ref b852), .unset, .unset, .unset] [.null, (.ref b852)])) rfl (by rw [hml]; rfl) (Steps.refl _) (argsL := [.null]) (rest := []) (lenOf pd__28Lcom_2fexample_2ftidewheel_2ftidewheel_2fmodel_2fKeyedRequest_24Answer_3b_29Lcom_2fexample_2ftidewheel_2ftidewheel_2fmodel_2fKeyedRequest_3b rfl) rfl (by show 2 * 0 + _ ≤ _; exact Nat.le_of_eq rfl) (hb hby at_178) (fun _ _ => ⟨rfl, rfl, (by decide : 8 + 1 ≤ _), (by decide : 23 + 4 ≤ _)⟩)
        dsimp only [Pt.U, Pt.locs, Pt.cells, Pt.slots] at X902 l902 y902 z902 st902 hQ902
        replace l902 := l902.symm
        subst l902
        obtain rfl : k902 = 9 := y902
        obtain rfl : n902 = 27 := z902
        obtain ⟨b902, rfl, N902q, K902, sz902, Eq902, Fq902_key, Fq902_request, Fq902_resource, Fq902_answer⟩ := hQ902
        have N902 := Fr.app N858 N902q
        have sz_b902 : h0.size ≤ b902 := Nat.le_trans KP858.1 sz902
        have g_b902 : n0 ≤ b902 := Nat.le_trans Z858 sz902
        have KP902 : Keep h0 T902.heap [] := KP858.trans K902 all0
        have Z902 : n0 ≤ T902.heap.size := Nat.le_trans Z858 K902.1
        have O_903 : Old Z n0 T902.heap := O_859.keep K902 all0
        have E_b6_904 : Exa Z T902.heap b6 "java/lang/String" := E_b6_860.keep K902
        have E_b30_905 : Exa Z T902.heap b30 "java/lang/String" := E_b30_861.keep K902
        have E_b685_906 : Exa Z T902.heap b685 "com/example/tidewheel/tidewheel/model/KeyedRequest$Answer" := E_b685_862.keep K902
        have E_b852_907 : Exa Z T902.heap b852 "com/example/tidewheel/tidewheel/model/KeyedRequest" := Eq858.keep K902
        have F_b852_key_908 : Fld Z T902.heap b852 "com/example/tidewheel/tidewheel/model/KeyedRequest" "key" "Ljava/lang/String;" (.ref b6) := Fq858_key.keep K902 nin0
        have F_b852_request_909 : Fld Z T902.heap b852 "com/example/tidewheel/tidewheel/model/KeyedRequest" "request" "Ljava/lang/String;" (.ref b30) := Fq858_request.keep K902 nin0
        have F_b852_resource_910 : Fld Z T902.heap b852 "com/example/tidewheel/tidewheel/model/KeyedRequest" "resource" "Ljava/lang/String;" .null := Fq858_resource.keep K902 nin0
        have F_b852_answer_911 : Fld Z T902.heap b852 "com/example/tidewheel/tidewheel/model/KeyedRequest" "answer" "Lcom/example/tidewheel/tidewheel/model/KeyedRequest$Answer;" (.ref b685) := Fq858_answer.keep K902 nin0
        have pre912 : ∀ t, Steps p.tables e below (T902.setTop (mkF m 192 #[.val (.int p0), .val (.int p1), .val (.int p2), .val (.int p3), .val (.int p4), .val (.int p5), .val (.ref b6), .val (.ref b30), .val .null, .val (.ref b685), .val .null, .val (.ref b852), .val (.ref b902), .unset, .unset] [(.ref b902)])) t → Steps p.tables e below (s₁.setTop (entryFrame m #[(.int p0), (.int p1), (.int p2), (.int p3), (.int p4), (.int p5)] maxLocals)) t := by
          intro t kk
          refine pre864 t ?_
          show Steps p.tables e below (T858.setTop (mkF m 178 #[.val (.int p0), .val (.int p1), .val (.int p2), .val (.int p3), .val (.int p4), .val (.int p5), .val (.ref b6), .val (.ref b30), .val .null, .val (.ref b685), .val .null, .val (.ref b852), .unset, .unset, .unset] [.null, (.ref b852)])) _
          refine st902.trans ?_
          refine XS.astore X902.here hx rfl (hb hby at_181) rfl rfl (l' := #[.val (.int p0), .val (.int p1), .val (.int p2), .val (.int p3), .val (.int p4), .val (.int p5), .val (.ref b6), .val (.ref b30), .val .null, .val (.ref b685), .val .null, .val (.ref b852), .val (.ref b902), .unset, .unset]) rfl ?_
          refine XS.aload X902.here hx rfl (hb hby at_183) rfl rfl ?_
          refine XS.ifnonnullYes X902.here hx rfl (pc0 := 185) (pc' := 190) rfl (hb hby at_185) rfl (by decide) (by decide) ?_
          refine XS.aload X902.here hx rfl (hb hby at_190) rfl rfl ?_
          exact kk
        clear X858 st902 N902q N858 KP858 Z858 O_859 E_b6_860 E_b30_861 E_b685_862 Eq858 Fq858_key Fq858_request Fq858_resource Fq858_answer K902 pre864
        as_aux_lemma =>
        obtain ⟨cq913, kq913, q913a, q913b, q913c⟩ := isOf hZ rfl Eq902
        obtain ⟨_, _, ⟨T913, L913, k913, n913⟩, -, X913, ⟨Lc913, hQ913, l913, y913, z913⟩, st913⟩ := X902.virtualBack hx (y := (⟨"com/example/tidewheel/tidewheel/model/KeyedRequest", "resource", "()Ljava/util/Optional;"⟩ : MethodName)) (z := (⟨"com/example/tidewheel/tidewheel/model/KeyedRequest", "resource", "()Ljava/util/Optional;"⟩ : MethodName)) hown (mt_68 hZ hw) (mt_69 hZ hw) (notFace_of_selects (args := #[]) (mt_71 hZ hw)) (mt_71 hZ hw) (mt_70 hZ hw) (by decide) (backOf (W := 0) (rm11_n l Z aA hw [] b902  wE T902.heap n0 Z902 O_903 S_EMPTY X_EMPTY G_EMPTY Fq902_resource) hZ (hw _ tb_72) (hw _ tb_48) (by decide) (by decide)) q913a q913c (g := (mkF m 192 #[.val (.int p0), .val (.int p1), .val (.int p2), .val (.int p3), .val (.int p4), .val (.int p5), .val (.ref b6), .val (.ref b30), .val .null, .val (.ref b685), .val .null, .val (.ref b852), .val (.ref b902), .unset, .unset] [(.ref b902)])) rfl (by rw [hml]; rfl) (Steps.refl _) (argsL := []) (rest := []) (lenOf pd__28_29Ljava_2futil_2fOptional_3b rfl) rfl (by show 2 * 0 + _ ≤ _; exact Nat.le_of_eq rfl) (hb hby at_192) (fun _ _ => ⟨rfl, rfl, (by decide : 9 + 1 ≤ _), (by decide : 27 + 1 ≤ _)⟩)
        dsimp only [Pt.U, Pt.locs, Pt.cells, Pt.slots] at X913 l913 y913 z913 st913 hQ913
        replace l913 := l913.symm
        subst l913
        obtain rfl : k913 = 10 := y913
        obtain rfl : n913 = 28 := z913
        obtain ⟨b913, rfl, N913q, K913, Eq913, Fq913⟩ := hQ913
        have N913 := Fr.app N902 N913q
        have KP913 : Keep h0 T913.heap [] := KP902.trans K913 all0
        have Z913 : n0 ≤ T913.heap.size := Nat.le_trans Z902 K913.1
        have O_914 : Old Z n0 T913.heap := O_903.keep K913 all0
        have E_b6_915 : Exa Z T913.heap b6 "java/lang/String" := E_b6_904.keep K913
        have E_b30_916 : Exa Z T913.heap b30 "java/lang/String" := E_b30_905.keep K913
        have E_b685_917 : Exa Z T913.heap b685 "com/example/tidewheel/tidewheel/model/KeyedRequest$Answer" := E_b685_906.keep K913
        have E_b852_918 : Exa Z T913.heap b852 "com/example/tidewheel/tidewheel/model/KeyedRequest" := E_b852_907.keep K913
        have F_b852_key_919 : Fld Z T913.heap b852 "com/example/tidewheel/tidewheel/model/KeyedRequest" "key" "Ljava/lang/String;" (.ref b6) := F_b852_key_908.keep K913 nin0
        have F_b852_request_920 : Fld Z T913.heap b852 "com/example/tidewheel/tidewheel/model/KeyedRequest" "request" "Ljava/lang/String;" (.ref b30) := F_b852_request_909.keep K913 nin0
        have F_b852_resource_921 : Fld Z T913.heap b852 "com/example/tidewheel/tidewheel/model/KeyedRequest" "resource" "Ljava/lang/String;" .null := F_b852_resource_910.keep K913 nin0
        have F_b852_answer_922 : Fld Z T913.heap b852 "com/example/tidewheel/tidewheel/model/KeyedRequest" "answer" "Lcom/example/tidewheel/tidewheel/model/KeyedRequest$Answer;" (.ref b685) := F_b852_answer_911.keep K913 nin0
        have E_b902_923 : Exa Z T913.heap b902 "com/example/tidewheel/tidewheel/model/KeyedRequest" := Eq902.keep K913
        have F_b902_key_924 : Fld Z T913.heap b902 "com/example/tidewheel/tidewheel/model/KeyedRequest" "key" "Ljava/lang/String;" (.ref b6) := Fq902_key.keep K913 nin0
        have F_b902_request_925 : Fld Z T913.heap b902 "com/example/tidewheel/tidewheel/model/KeyedRequest" "request" "Ljava/lang/String;" (.ref b30) := Fq902_request.keep K913 nin0
        have F_b902_resource_926 : Fld Z T913.heap b902 "com/example/tidewheel/tidewheel/model/KeyedRequest" "resource" "Ljava/lang/String;" .null := Fq902_resource.keep K913 nin0
        have F_b902_answer_927 : Fld Z T913.heap b902 "com/example/tidewheel/tidewheel/model/KeyedRequest" "answer" "Lcom/example/tidewheel/tidewheel/model/KeyedRequest$Answer;" .null := Fq902_answer.keep K913 nin0
        have pre928 : ∀ t, Steps p.tables e below (T913.setTop (mkF m 196 #[.val (.int p0), .val (.int p1), .val (.int p2), .val (.int p3), .val (.int p4), .val (.int p5), .val (.ref b6), .val (.ref b30), .val .null, .val (.ref b685), .val .null, .val (.ref b852), .val (.ref b902), .unset, .unset] [.null, (.ref b913)])) t → Steps p.tables e below (s₁.setTop (entryFrame m #[(.int p0), (.int p1), (.int p2), (.int p3), (.int p4), (.int p5)] maxLocals)) t := by
          intro t kk
          refine pre912 t ?_
          show Steps p.tables e below (T902.setTop (mkF m 192 #[.val (.int p0), .val (.int p1), .val (.int p2), .val (.int p3), .val (.int p4), .val (.int p5), .val (.ref b6), .val (.ref b30), .val .null, .val (.ref b685), .val .null, .val (.ref b852), .val (.ref b902), .unset, .unset] [(.ref b902)])) _
          refine st913.trans ?_
          refine XS.aconstNull X913.here hx rfl (hb hby at_195) ?_
          exact kk
        clear X902 st913 N913q N902 KP902 Z902 O_903 E_b6_904 E_b30_905 E_b685_906 E_b852_907 F_b852_key_908 F_b852_request_909 F_b852_resource_910 F_b852_answer_911 Eq902 Fq902_key Fq902_request Fq902_resource Fq902_answer K913 pre912
        as_aux_lemma =>
        obtain ⟨cq929, kq929, q929a, q929b, q929c⟩ := isOf hZ rfl Eq913
        obtain ⟨_, _, ⟨T929, L929, k929, n929⟩, -, X929, ⟨Lc929, hQ929, l929, y929, z929⟩, st929⟩ := X913.virtualBack hx (y := (⟨"java/util/Optional", "orElse", "(Ljava/lang/Object;)Ljava/lang/Object;"⟩ : MethodName)) (z := (⟨"java/util/Optional", "orElse", "(Ljava/lang/Object;)Ljava/lang/Object;"⟩ : MethodName)) hown (mt_78 hZ hw) (mt_79 hZ hw) (notFace_of_selects (args := #[]) (mt_81 hZ hw)) (mt_81 hZ hw) (mt_80 hZ hw) (by decide) (backOf (W := 0) (rm13_n l Z aA hw [] b913  T913.heap n0 Z913 Fq913) hZ (hw _ tb_82) (hw _ tb_75) (by decide) (by decide)) q929a q929c (g := (mkF m 196 #[.val (.int p0), .val (.int p1), .val (.int p2), .val (.int p3), .val (.int p4), .val (.int p5), .val (.ref b6), .val (.ref b30), .val .null, .val (.ref b685), .val .null, .val (.ref b852), .val (.ref b902), .unset, .unset] [.null, (.ref b913)])) rfl (by rw [hml]; rfl) (Steps.refl _) (argsL := [.null]) (rest := []) (lenOf pd__28Ljava_2flang_2fObject_3b_29Ljava_2flang_2fObject_3b rfl) rfl (by show 2 * 0 + _ ≤ _; exact Nat.le_of_eq rfl) (hb hby at_196) (fun _ _ => ⟨rfl, rfl, (by decide : 10 + 0 ≤ _), (by decide : 28 + 0 ≤ _)⟩)
        dsimp only [Pt.U, Pt.locs, Pt.cells, Pt.slots] at X929 l929 y929 z929 st929 hQ929
        replace l929 := l929.symm
        subst l929
        obtain rfl : k929 = 10 := y929
        obtain rfl : n929 = 28 := z929
        obtain ⟨rfl, N929q, e929⟩ := hQ929
        have N929 := Fr.app N913 N929q
        have pre930 : ∀ t, Steps p.tables e below (T929.setTop (mkF m 235 #[.val (.int p0), .val (.int p1), .val (.int p2), .val (.int p3), .val (.int p4), .val (.int p5), .val (.ref b6), .val (.ref b30), .val .null, .val (.ref b685), .val .null, .val (.ref b852), .val (.ref b902), .val .null, .val (.int (1 : Int32))] [(.ref b902), (.ref b6)])) t → Steps p.tables e below (s₁.setTop (entryFrame m #[(.int p0), (.int p1), (.int p2), (.int p3), (.int p4), (.int p5)] maxLocals)) t := by
          intro t kk
          refine pre928 t ?_
          show Steps p.tables e below (T913.setTop (mkF m 196 #[.val (.int p0), .val (.int p1), .val (.int p2), .val (.int p3), .val (.int p4), .val (.int p5), .val (.ref b6), .val (.ref b30), .val .null, .val (.ref b685), .val .null, .val (.ref b852), .val (.ref b902), .unset, .unset] [.null, (.ref b913)])) _
          refine st929.trans ?_
          refine X929.checkcastNull hx (g := (mkF m 199 #[.val (.int p0), .val (.int p1), .val (.int p2), .val (.int p3), .val (.int p4), .val (.int p5), .val (.ref b6), .val (.ref b30), .val .null, .val (.ref b685), .val .null, .val (.ref b852), .val (.ref b902), .unset, .unset] [.null])) rfl rfl (hb hby at_199) _ ?_
          refine XS.astore X929.here hx rfl (hb hby at_202) rfl rfl (l' := #[.val (.int p0), .val (.int p1), .val (.int p2), .val (.int p3), .val (.int p4), .val (.int p5), .val (.ref b6), .val (.ref b30), .val .null, .val (.ref b685), .val .null, .val (.ref b852), .val (.ref b902), .val .null, .unset]) rfl ?_
          refine XS.aload X929.here hx rfl (hb hby at_204) rfl rfl ?_
          refine XS.ifnonnullNo X929.here hx rfl (hb hby at_206) rfl ?_
          refine XS.aload X929.here hx rfl (hb hby at_209) rfl rfl ?_
          refine XS.ifnonnullNo X929.here hx rfl (hb hby at_211) rfl ?_
          refine XS.iconst X929.here hx rfl (hb hby at_214) ?_
          refine XS.goto X929.here hx rfl (pc0 := 215) (pc' := 229) rfl (hb hby at_215) (by decide) (by decide) ?_
          refine XS.istore X929.here hx rfl (hb hby at_229) rfl (l' := #[.val (.int p0), .val (.int p1), .val (.int p2), .val (.int p3), .val (.int p4), .val (.int p5), .val (.ref b6), .val (.ref b30), .val .null, .val (.ref b685), .val .null, .val (.ref b852), .val (.ref b902), .val .null, .val (.int (1 : Int32))]) rfl ?_
          refine XS.aload X929.here hx rfl (hb hby at_231) rfl rfl ?_
          refine XS.aload X929.here hx rfl (hb hby at_233) rfl rfl ?_
          exact kk
        clear X913 st929 N929q N913 pre928
        as_aux_lemma =>
        obtain ⟨cq931, kq931, q931a, q931b, q931c⟩ := isOf hZ e929 E_b902_923
        obtain ⟨_, _, ⟨T931, L931, k931, n931⟩, -, X931, ⟨Lc931, hQ931, l931, y931, z931⟩, st931⟩ := X929.virtualBack hx (y := (⟨"com/example/tidewheel/tidewheel/model/KeyedRequest", "key", "()Ljava/lang/String;"⟩ : MethodName)) (z := (⟨"com/example/tidewheel/tidewheel/model/KeyedRequest", "key", "()Ljava/lang/String;"⟩ : MethodName)) hown (mt_85 hZ hw) (mt_86 hZ hw) (notFace_of_selects (args := #[]) (mt_88 hZ hw)) (mt_88 hZ hw) (mt_87 hZ hw) (by decide) (backOf (W := 1) (rm14 l Z aA hw [] b902 b6 T913.heap n0 Z913 F_b902_key_924) hZ (hw _ tb_89) (hw _ tb_48) (by decide) (by decide)) q931a q931c (g := (mkF m 235 #[.val (.int p0), .val (.int p1), .val (.int p2), .val (.int p3), .val (.int p4), .val (.int p5), .val (.ref b6), .val (.ref b30), .val .null, .val (.ref b685), .val .null, .val (.ref b852), .val (.ref b902), .val .null, .val (.int (1 : Int32))] [(.ref b902), (.ref b6)])) rfl (by rw [hml]; rfl) (Steps.refl _) (argsL := []) (rest := [(.ref b6)]) (lenOf pd__28_29Ljava_2flang_2fString_3b rfl) rfl (by show 2 * 0 + _ ≤ _; exact Nat.le_of_eq rfl) (hb hby at_235) (fun _ _ => ⟨rfl, e929, (by decide : 10 + 0 ≤ _), (by decide : 28 + 0 ≤ _)⟩)
        dsimp only [Pt.U, Pt.locs, Pt.cells, Pt.slots] at X931 l931 y931 z931 st931 hQ931
        replace l931 := l931.symm
        subst l931
        obtain rfl : k931 = 10 := y931
        obtain rfl : n931 = 28 := z931
        obtain ⟨rfl, N931q, e931⟩ := hQ931
        have N931 := Fr.app N929 N931q
        have pre932 : ∀ t, Steps p.tables e below (T931.setTop (mkF m 238 #[.val (.int p0), .val (.int p1), .val (.int p2), .val (.int p3), .val (.int p4), .val (.int p5), .val (.ref b6), .val (.ref b30), .val .null, .val (.ref b685), .val .null, .val (.ref b852), .val (.ref b902), .val .null, .val (.int (1 : Int32))] [(.ref b6), (.ref b6)])) t → Steps p.tables e below (s₁.setTop (entryFrame m #[(.int p0), (.int p1), (.int p2), (.int p3), (.int p4), (.int p5)] maxLocals)) t := by
          intro t kk
          refine pre930 t ?_
          show Steps p.tables e below (T929.setTop (mkF m 235 #[.val (.int p0), .val (.int p1), .val (.int p2), .val (.int p3), .val (.int p4), .val (.int p5), .val (.ref b6), .val (.ref b30), .val .null, .val (.ref b685), .val .null, .val (.ref b852), .val (.ref b902), .val .null, .val (.int (1 : Int32))] [(.ref b902), (.ref b6)])) _
          refine st931.trans ?_
          exact kk
        clear X929 e929 st931 N931q N929 pre930
        as_aux_lemma =>
        obtain ⟨cq933, kq933, q933a, q933b, q933c⟩ := isOf hZ e931 E_b6_915
        obtain ⟨_, _, ⟨T933, L933, k933, n933⟩, -, X933, ⟨Lc933, hQ933, l933, y933, z933⟩, st933⟩ := X931.virtualBack hx (y := (⟨"java/lang/String", "equals", "(Ljava/lang/Object;)Z"⟩ : MethodName)) (z := (⟨"java/lang/String", "equals", "(Ljava/lang/Object;)Z"⟩ : MethodName)) hown (mt_90 hZ hw) (mt_91 hZ hw) (notFace_of_selects (args := #[]) (mt_93 hZ hw)) (mt_93 hZ hw) (mt_92 hZ hw) (by decide) (backOf (W := 0) (rm15 l Z aA hw [] b6 T913.heap n0 Z913) hZ (hw _ tb_94) (hw _ tb_2) (by decide) (by decide)) q933a q933c (g := (mkF m 238 #[.val (.int p0), .val (.int p1), .val (.int p2), .val (.int p3), .val (.int p4), .val (.int p5), .val (.ref b6), .val (.ref b30), .val .null, .val (.ref b685), .val .null, .val (.ref b852), .val (.ref b902), .val .null, .val (.int (1 : Int32))] [(.ref b6), (.ref b6)])) rfl (by rw [hml]; rfl) (Steps.refl _) (argsL := [(.ref b6)]) (rest := []) (lenOf pd__28Ljava_2flang_2fObject_3b_29Z rfl) rfl (by show 2 * 0 + _ ≤ _; exact Nat.le_of_eq rfl) (hb hby at_238) (fun _ _ => ⟨rfl, e931, (by decide : 10 + 0 ≤ _), (by decide : 28 + 0 ≤ _)⟩)
        dsimp only [Pt.U, Pt.locs, Pt.cells, Pt.slots] at X933 l933 y933 z933 st933 hQ933
        replace l933 := l933.symm
        subst l933
        obtain rfl : k933 = 10 := y933
        obtain rfl : n933 = 28 := z933
        obtain ⟨rfl, N933q, e933⟩ := hQ933
        have N933 := Fr.app N931 N933q
        have pre934 : ∀ t, Steps p.tables e below (T933.setTop (mkF m 248 #[.val (.int p0), .val (.int p1), .val (.int p2), .val (.int p3), .val (.int p4), .val (.int p5), .val (.ref b6), .val (.ref b30), .val .null, .val (.ref b685), .val .null, .val (.ref b852), .val (.ref b902), .val .null, .val (.int (1 : Int32))] [(.ref b902), (.ref b30)])) t → Steps p.tables e below (s₁.setTop (entryFrame m #[(.int p0), (.int p1), (.int p2), (.int p3), (.int p4), (.int p5)] maxLocals)) t := by
          intro t kk
          refine pre932 t ?_
          show Steps p.tables e below (T931.setTop (mkF m 238 #[.val (.int p0), .val (.int p1), .val (.int p2), .val (.int p3), .val (.int p4), .val (.int p5), .val (.ref b6), .val (.ref b30), .val .null, .val (.ref b685), .val .null, .val (.ref b852), .val (.ref b902), .val .null, .val (.int (1 : Int32))] [(.ref b6), (.ref b6)])) _
          refine st933.trans ?_
          refine XS.ifNo X933.here hx rfl (hb hby at_241) rfl ((if0 _ _).trans (feq (by decide : ¬ ((1 : Int32) = (0 : Int32)))).1) ?_
          refine XS.aload X933.here hx rfl (hb hby at_244) rfl rfl ?_
          refine XS.aload X933.here hx rfl (hb hby at_246) rfl rfl ?_
          exact kk
        clear X931 e931 st933 N933q N931 pre932
        as_aux_lemma =>
        obtain ⟨cq935, kq935, q935a, q935b, q935c⟩ := isOf hZ e933 E_b902_923
        obtain ⟨_, _, ⟨T935, L935, k935, n935⟩, -, X935, ⟨Lc935, hQ935, l935, y935, z935⟩, st935⟩ := X933.virtualBack hx (y := (⟨"com/example/tidewheel/tidewheel/model/KeyedRequest", "request", "()Ljava/lang/String;"⟩ : MethodName)) (z := (⟨"com/example/tidewheel/tidewheel/model/KeyedRequest", "request", "()Ljava/lang/String;"⟩ : MethodName)) hown (mt_95 hZ hw) (mt_96 hZ hw) (notFace_of_selects (args := #[]) (mt_98 hZ hw)) (mt_98 hZ hw) (mt_97 hZ hw) (by decide) (backOf (W := 1) (rm16 l Z aA hw [] b902 b30 T913.heap n0 Z913 F_b902_request_925) hZ (hw _ tb_99) (hw _ tb_48) (by decide) (by decide)) q935a q935c (g := (mkF m 248 #[.val (.int p0), .val (.int p1), .val (.int p2), .val (.int p3), .val (.int p4), .val (.int p5), .val (.ref b6), .val (.ref b30), .val .null, .val (.ref b685), .val .null, .val (.ref b852), .val (.ref b902), .val .null, .val (.int (1 : Int32))] [(.ref b902), (.ref b30)])) rfl (by rw [hml]; rfl) (Steps.refl _) (argsL := []) (rest := [(.ref b30)]) (lenOf pd__28_29Ljava_2flang_2fString_3b rfl) rfl (by show 2 * 0 + _ ≤ _; exact Nat.le_of_eq rfl) (hb hby at_248) (fun _ _ => ⟨rfl, e933, (by decide : 10 + 0 ≤ _), (by decide : 28 + 0 ≤ _)⟩)
        dsimp only [Pt.U, Pt.locs, Pt.cells, Pt.slots] at X935 l935 y935 z935 st935 hQ935
        replace l935 := l935.symm
        subst l935
        obtain rfl : k935 = 10 := y935
        obtain rfl : n935 = 28 := z935
        obtain ⟨rfl, N935q, e935⟩ := hQ935
        have N935 := Fr.app N933 N935q
        have pre936 : ∀ t, Steps p.tables e below (T935.setTop (mkF m 251 #[.val (.int p0), .val (.int p1), .val (.int p2), .val (.int p3), .val (.int p4), .val (.int p5), .val (.ref b6), .val (.ref b30), .val .null, .val (.ref b685), .val .null, .val (.ref b852), .val (.ref b902), .val .null, .val (.int (1 : Int32))] [(.ref b30), (.ref b30)])) t → Steps p.tables e below (s₁.setTop (entryFrame m #[(.int p0), (.int p1), (.int p2), (.int p3), (.int p4), (.int p5)] maxLocals)) t := by
          intro t kk
          refine pre934 t ?_
          show Steps p.tables e below (T933.setTop (mkF m 248 #[.val (.int p0), .val (.int p1), .val (.int p2), .val (.int p3), .val (.int p4), .val (.int p5), .val (.ref b6), .val (.ref b30), .val .null, .val (.ref b685), .val .null, .val (.ref b852), .val (.ref b902), .val .null, .val (.int (1 : Int32))] [(.ref b902), (.ref b30)])) _
          refine st935.trans ?_
          exact kk
        clear X933 e933 st935 N935q N933 pre934
        as_aux_lemma =>
        obtain ⟨cq937, kq937, q937a, q937b, q937c⟩ := isOf hZ e935 E_b30_916
        obtain ⟨_, _, ⟨T937, L937, k937, n937⟩, -, X937, ⟨Lc937, hQ937, l937, y937, z937⟩, st937⟩ := X935.virtualBack hx (y := (⟨"java/lang/String", "equals", "(Ljava/lang/Object;)Z"⟩ : MethodName)) (z := (⟨"java/lang/String", "equals", "(Ljava/lang/Object;)Z"⟩ : MethodName)) hown (mt_90 hZ hw) (mt_91 hZ hw) (notFace_of_selects (args := #[]) (mt_93 hZ hw)) (mt_93 hZ hw) (mt_92 hZ hw) (by decide) (backOf (W := 0) (rm15 l Z aA hw [] b30 T913.heap n0 Z913) hZ (hw _ tb_94) (hw _ tb_2) (by decide) (by decide)) q937a q937c (g := (mkF m 251 #[.val (.int p0), .val (.int p1), .val (.int p2), .val (.int p3), .val (.int p4), .val (.int p5), .val (.ref b6), .val (.ref b30), .val .null, .val (.ref b685), .val .null, .val (.ref b852), .val (.ref b902), .val .null, .val (.int (1 : Int32))] [(.ref b30), (.ref b30)])) rfl (by rw [hml]; rfl) (Steps.refl _) (argsL := [(.ref b30)]) (rest := []) (lenOf pd__28Ljava_2flang_2fObject_3b_29Z rfl) rfl (by show 2 * 0 + _ ≤ _; exact Nat.le_of_eq rfl) (hb hby at_251) (fun _ _ => ⟨rfl, e935, (by decide : 10 + 0 ≤ _), (by decide : 28 + 0 ≤ _)⟩)
        dsimp only [Pt.U, Pt.locs, Pt.cells, Pt.slots] at X937 l937 y937 z937 st937 hQ937
        replace l937 := l937.symm
        subst l937
        obtain rfl : k937 = 10 := y937
        obtain rfl : n937 = 28 := z937
        obtain ⟨rfl, N937q, e937⟩ := hQ937
        have N937 := Fr.app N935 N937q
        have pre938 : ∀ t, Steps p.tables e below (T937.setTop (mkF m 264 #[.val (.int p0), .val (.int p1), .val (.int p2), .val (.int p3), .val (.int p4), .val (.int p5), .val (.ref b6), .val (.ref b30), .val .null, .val (.ref b685), .val .null, .val (.ref b852), .val (.ref b902), .val .null, .val (.int (1 : Int32))] [(.ref b902)])) t → Steps p.tables e below (s₁.setTop (entryFrame m #[(.int p0), (.int p1), (.int p2), (.int p3), (.int p4), (.int p5)] maxLocals)) t := by
          intro t kk
          refine pre936 t ?_
          show Steps p.tables e below (T935.setTop (mkF m 251 #[.val (.int p0), .val (.int p1), .val (.int p2), .val (.int p3), .val (.int p4), .val (.int p5), .val (.ref b6), .val (.ref b30), .val .null, .val (.ref b685), .val .null, .val (.ref b852), .val (.ref b902), .val .null, .val (.int (1 : Int32))] [(.ref b30), (.ref b30)])) _
          refine st937.trans ?_
          refine XS.ifNo X937.here hx rfl (hb hby at_254) rfl ((if0 _ _).trans (feq (by decide : ¬ ((1 : Int32) = (0 : Int32)))).1) ?_
          refine XS.iload X937.here hx rfl (hb hby at_257) rfl ?_
          refine XS.ifNo X937.here hx rfl (hb hby at_259) rfl ((if0 _ _).trans (feq (by decide : ¬ ((1 : Int32) = (0 : Int32)))).1) ?_
          refine XS.aload X937.here hx rfl (hb hby at_262) rfl rfl ?_
          exact kk
        clear X935 e935 st937 N937q N935 pre936
        as_aux_lemma =>
        obtain ⟨cq939, kq939, q939a, q939b, q939c⟩ := isOf hZ e937 E_b902_923
        obtain ⟨_, _, ⟨T939, L939, k939, n939⟩, -, X939, ⟨Lc939, hQ939, l939, y939, z939⟩, st939⟩ := X937.virtualBack hx (y := (⟨"com/example/tidewheel/tidewheel/model/KeyedRequest", "answer", "()Ljava/util/Optional;"⟩ : MethodName)) (z := (⟨"com/example/tidewheel/tidewheel/model/KeyedRequest", "answer", "()Ljava/util/Optional;"⟩ : MethodName)) hown (mt_100 hZ hw) (mt_101 hZ hw) (notFace_of_selects (args := #[]) (mt_103 hZ hw)) (mt_103 hZ hw) (mt_102 hZ hw) (by decide) (backOf (W := 0) (rm17_n l Z aA hw [] b902  wE T913.heap n0 Z913 O_914 S_EMPTY X_EMPTY G_EMPTY F_b902_answer_927) hZ (hw _ tb_104) (hw _ tb_48) (by decide) (by decide)) q939a q939c (g := (mkF m 264 #[.val (.int p0), .val (.int p1), .val (.int p2), .val (.int p3), .val (.int p4), .val (.int p5), .val (.ref b6), .val (.ref b30), .val .null, .val (.ref b685), .val .null, .val (.ref b852), .val (.ref b902), .val .null, .val (.int (1 : Int32))] [(.ref b902)])) rfl (by rw [hml]; rfl) (Steps.refl _) (argsL := []) (rest := []) (lenOf pd__28_29Ljava_2futil_2fOptional_3b rfl) rfl (by show 2 * 0 + _ ≤ _; exact Nat.le_of_eq rfl) (hb hby at_264) (fun _ _ => ⟨rfl, e937, (by decide : 10 + 1 ≤ _), (by decide : 28 + 1 ≤ _)⟩)
        dsimp only [Pt.U, Pt.locs, Pt.cells, Pt.slots] at X939 l939 y939 z939 st939 hQ939
        replace l939 := l939.symm
        subst l939
        obtain rfl : k939 = 11 := y939
        obtain rfl : n939 = 29 := z939
        obtain ⟨b939, rfl, N939q, K939, Eq939, Fq939⟩ := hQ939
        have N939 := Fr.app N937 N939q
        have KP939 : Keep h0 T939.heap [] := KP913.trans K939 all0
        have Z939 : n0 ≤ T939.heap.size := Nat.le_trans Z913 K939.1
        have O_940 : Old Z n0 T939.heap := O_914.keep K939 all0
        have E_b6_941 : Exa Z T939.heap b6 "java/lang/String" := E_b6_915.keep K939
        have E_b30_942 : Exa Z T939.heap b30 "java/lang/String" := E_b30_916.keep K939
        have E_b685_943 : Exa Z T939.heap b685 "com/example/tidewheel/tidewheel/model/KeyedRequest$Answer" := E_b685_917.keep K939
        have E_b852_944 : Exa Z T939.heap b852 "com/example/tidewheel/tidewheel/model/KeyedRequest" := E_b852_918.keep K939
        have F_b852_key_945 : Fld Z T939.heap b852 "com/example/tidewheel/tidewheel/model/KeyedRequest" "key" "Ljava/lang/String;" (.ref b6) := F_b852_key_919.keep K939 nin0
        have F_b852_request_946 : Fld Z T939.heap b852 "com/example/tidewheel/tidewheel/model/KeyedRequest" "request" "Ljava/lang/String;" (.ref b30) := F_b852_request_920.keep K939 nin0
        have F_b852_resource_947 : Fld Z T939.heap b852 "com/example/tidewheel/tidewheel/model/KeyedRequest" "resource" "Ljava/lang/String;" .null := F_b852_resource_921.keep K939 nin0
        have F_b852_answer_948 : Fld Z T939.heap b852 "com/example/tidewheel/tidewheel/model/KeyedRequest" "answer" "Lcom/example/tidewheel/tidewheel/model/KeyedRequest$Answer;" (.ref b685) := F_b852_answer_922.keep K939 nin0
        have E_b902_949 : Exa Z T939.heap b902 "com/example/tidewheel/tidewheel/model/KeyedRequest" := E_b902_923.keep K939
        have F_b902_key_950 : Fld Z T939.heap b902 "com/example/tidewheel/tidewheel/model/KeyedRequest" "key" "Ljava/lang/String;" (.ref b6) := F_b902_key_924.keep K939 nin0
        have F_b902_request_951 : Fld Z T939.heap b902 "com/example/tidewheel/tidewheel/model/KeyedRequest" "request" "Ljava/lang/String;" (.ref b30) := F_b902_request_925.keep K939 nin0
        have F_b902_resource_952 : Fld Z T939.heap b902 "com/example/tidewheel/tidewheel/model/KeyedRequest" "resource" "Ljava/lang/String;" .null := F_b902_resource_926.keep K939 nin0
        have F_b902_answer_953 : Fld Z T939.heap b902 "com/example/tidewheel/tidewheel/model/KeyedRequest" "answer" "Lcom/example/tidewheel/tidewheel/model/KeyedRequest$Answer;" .null := F_b902_answer_927.keep K939 nin0
        have E_b913_954 : Exa Z T939.heap b913 "java/util/Optional" := Eq913.keep K939
        have F_b913_value_955 : Fld Z T939.heap b913 "java/util/Optional" "value" "Ljava/lang/Object;" .null := Fq913.keep K939 nin0
        have pre956 : ∀ t, Steps p.tables e below (T939.setTop (mkF m 268 #[.val (.int p0), .val (.int p1), .val (.int p2), .val (.int p3), .val (.int p4), .val (.int p5), .val (.ref b6), .val (.ref b30), .val .null, .val (.ref b685), .val .null, .val (.ref b852), .val (.ref b902), .val .null, .val (.int (1 : Int32))] [.null, (.ref b939)])) t → Steps p.tables e below (s₁.setTop (entryFrame m #[(.int p0), (.int p1), (.int p2), (.int p3), (.int p4), (.int p5)] maxLocals)) t := by
          intro t kk
          refine pre938 t ?_
          show Steps p.tables e below (T937.setTop (mkF m 264 #[.val (.int p0), .val (.int p1), .val (.int p2), .val (.int p3), .val (.int p4), .val (.int p5), .val (.ref b6), .val (.ref b30), .val .null, .val (.ref b685), .val .null, .val (.ref b852), .val (.ref b902), .val .null, .val (.int (1 : Int32))] [(.ref b902)])) _
          refine st939.trans ?_
          refine XS.aconstNull X939.here hx rfl (hb hby at_267) ?_
          exact kk
        clear X937 e937 st939 N939q N937 KP913 Z913 O_914 E_b6_915 E_b30_916 E_b685_917 E_b852_918 F_b852_key_919 F_b852_request_920 F_b852_resource_921 F_b852_answer_922 E_b902_923 F_b902_key_924 F_b902_request_925 F_b902_resource_926 F_b902_answer_927 Eq913 Fq913 K939 pre938
        as_aux_lemma =>
        obtain ⟨cq957, kq957, q957a, q957b, q957c⟩ := isOf hZ rfl Eq939
        obtain ⟨_, _, ⟨T957, L957, k957, n957⟩, -, X957, ⟨Lc957, hQ957, l957, y957, z957⟩, st957⟩ := X939.virtualBack hx (y := (⟨"java/util/Optional", "orElse", "(Ljava/lang/Object;)Ljava/lang/Object;"⟩ : MethodName)) (z := (⟨"java/util/Optional", "orElse", "(Ljava/lang/Object;)Ljava/lang/Object;"⟩ : MethodName)) hown (mt_78 hZ hw) (mt_79 hZ hw) (notFace_of_selects (args := #[]) (mt_81 hZ hw)) (mt_81 hZ hw) (mt_80 hZ hw) (by decide) (backOf (W := 0) (rm13_n l Z aA hw [] b939  T939.heap n0 Z939 Fq939) hZ (hw _ tb_82) (hw _ tb_75) (by decide) (by decide)) q957a q957c (g := (mkF m 268 #[.val (.int p0), .val (.int p1), .val (.int p2), .val (.int p3), .val (.int p4), .val (.int p5), .val (.ref b6), .val (.ref b30), .val .null, .val (.ref b685), .val .null, .val (.ref b852), .val (.ref b902), .val .null, .val (.int (1 : Int32))] [.null, (.ref b939)])) rfl (by rw [hml]; rfl) (Steps.refl _) (argsL := [.null]) (rest := []) (lenOf pd__28Ljava_2flang_2fObject_3b_29Ljava_2flang_2fObject_3b rfl) rfl (by show 2 * 0 + _ ≤ _; exact Nat.le_of_eq rfl) (hb hby at_268) (fun _ _ => ⟨rfl, rfl, (by decide : 11 + 0 ≤ _), (by decide : 29 + 0 ≤ _)⟩)
        dsimp only [Pt.U, Pt.locs, Pt.cells, Pt.slots] at X957 l957 y957 z957 st957 hQ957
        replace l957 := l957.symm
        subst l957
        obtain rfl : k957 = 11 := y957
        obtain rfl : n957 = 29 := z957
        obtain ⟨rfl, N957q, e957⟩ := hQ957
        have N957 := Fr.app N939 N957q
        have pre958 : ∀ t, Steps p.tables e below (T957.setTop (mkF m 278 #[.val (.int p0), .val (.int p1), .val (.int p2), .val (.int p3), .val (.int p4), .val (.int p5), .val (.ref b6), .val (.ref b30), .val .null, .val (.ref b685), .val .null, .val (.ref b852), .val (.ref b902), .val .null, .val (.int (1 : Int32))] [(.ref b852)])) t → Steps p.tables e below (s₁.setTop (entryFrame m #[(.int p0), (.int p1), (.int p2), (.int p3), (.int p4), (.int p5)] maxLocals)) t := by
          intro t kk
          refine pre956 t ?_
          show Steps p.tables e below (T939.setTop (mkF m 268 #[.val (.int p0), .val (.int p1), .val (.int p2), .val (.int p3), .val (.int p4), .val (.int p5), .val (.ref b6), .val (.ref b30), .val .null, .val (.ref b685), .val .null, .val (.ref b852), .val (.ref b902), .val .null, .val (.int (1 : Int32))] [.null, (.ref b939)])) _
          refine st957.trans ?_
          refine XS.aload X957.here hx rfl (hb hby at_271) rfl rfl ?_
          refine Jvm.RoadKit.acmp (g := (mkF m 273 #[.val (.int p0), .val (.int p1), .val (.int p2), .val (.int p3), .val (.int p4), .val (.int p5), .val (.ref b6), .val (.ref b30), .val .null, .val (.ref b685), .val .null, .val (.ref b852), .val (.ref b902), .val .null, .val (.int (1 : Int32))] [.null, .null])) X957 hx rfl rfl rfl (pc0 := 273) (pc' := 276) (same := true) rfl (hb hby at_273) rfl (decide_eq_true rfl) (by decide) (by decide) ?_
          refine XS.aload X957.here hx rfl (hb hby at_276) rfl rfl ?_
          exact kk
        clear X939 st957 N957q N939 pre956
        as_aux_lemma =>
        obtain ⟨cq959, kq959, q959a, q959b, q959c⟩ := isOf hZ e957 E_b852_944
        obtain ⟨_, _, ⟨T959, L959, k959, n959⟩, -, X959, ⟨Lc959, hQ959, l959, y959, z959⟩, st959⟩ := X957.virtualBack hx (y := (⟨"com/example/tidewheel/tidewheel/model/KeyedRequest", "answer", "()Ljava/util/Optional;"⟩ : MethodName)) (z := (⟨"com/example/tidewheel/tidewheel/model/KeyedRequest", "answer", "()Ljava/util/Optional;"⟩ : MethodName)) hown (mt_100 hZ hw) (mt_101 hZ hw) (notFace_of_selects (args := #[]) (mt_103 hZ hw)) (mt_103 hZ hw) (mt_102 hZ hw) (by decide) (backOf (W := 0) (rm17_r l Z aA hw [] b852 b685 wE T939.heap n0 Z939 O_940 S_EMPTY X_EMPTY G_EMPTY F_b852_answer_948) hZ (hw _ tb_104) (hw _ tb_48) (by decide) (by decide)) q959a q959c (g := (mkF m 278 #[.val (.int p0), .val (.int p1), .val (.int p2), .val (.int p3), .val (.int p4), .val (.int p5), .val (.ref b6), .val (.ref b30), .val .null, .val (.ref b685), .val .null, .val (.ref b852), .val (.ref b902), .val .null, .val (.int (1 : Int32))] [(.ref b852)])) rfl (by rw [hml]; rfl) (Steps.refl _) (argsL := []) (rest := []) (lenOf pd__28_29Ljava_2futil_2fOptional_3b rfl) rfl (by show 2 * 0 + _ ≤ _; exact Nat.le_of_eq rfl) (hb hby at_278) (fun _ _ => ⟨rfl, e957, (by decide : 11 + 1 ≤ _), (by decide : 29 + 1 ≤ _)⟩)
        dsimp only [Pt.U, Pt.locs, Pt.cells, Pt.slots] at X959 l959 y959 z959 st959 hQ959
        replace l959 := l959.symm
        subst l959
        obtain rfl : k959 = 12 := y959
        obtain rfl : n959 = 30 := z959
        obtain ⟨b959, rfl, N959q, K959, Eq959, Fq959⟩ := hQ959
        have N959 := Fr.app N957 N959q
        have KP959 : Keep h0 T959.heap [] := KP939.trans K959 all0
        have Z959 : n0 ≤ T959.heap.size := Nat.le_trans Z939 K959.1
        have O_960 : Old Z n0 T959.heap := O_940.keep K959 all0
        have E_b6_961 : Exa Z T959.heap b6 "java/lang/String" := E_b6_941.keep K959
        have E_b30_962 : Exa Z T959.heap b30 "java/lang/String" := E_b30_942.keep K959
        have E_b685_963 : Exa Z T959.heap b685 "com/example/tidewheel/tidewheel/model/KeyedRequest$Answer" := E_b685_943.keep K959
        have E_b852_964 : Exa Z T959.heap b852 "com/example/tidewheel/tidewheel/model/KeyedRequest" := E_b852_944.keep K959
        have F_b852_key_965 : Fld Z T959.heap b852 "com/example/tidewheel/tidewheel/model/KeyedRequest" "key" "Ljava/lang/String;" (.ref b6) := F_b852_key_945.keep K959 nin0
        have F_b852_request_966 : Fld Z T959.heap b852 "com/example/tidewheel/tidewheel/model/KeyedRequest" "request" "Ljava/lang/String;" (.ref b30) := F_b852_request_946.keep K959 nin0
        have F_b852_resource_967 : Fld Z T959.heap b852 "com/example/tidewheel/tidewheel/model/KeyedRequest" "resource" "Ljava/lang/String;" .null := F_b852_resource_947.keep K959 nin0
        have F_b852_answer_968 : Fld Z T959.heap b852 "com/example/tidewheel/tidewheel/model/KeyedRequest" "answer" "Lcom/example/tidewheel/tidewheel/model/KeyedRequest$Answer;" (.ref b685) := F_b852_answer_948.keep K959 nin0
        have E_b902_969 : Exa Z T959.heap b902 "com/example/tidewheel/tidewheel/model/KeyedRequest" := E_b902_949.keep K959
        have F_b902_key_970 : Fld Z T959.heap b902 "com/example/tidewheel/tidewheel/model/KeyedRequest" "key" "Ljava/lang/String;" (.ref b6) := F_b902_key_950.keep K959 nin0
        have F_b902_request_971 : Fld Z T959.heap b902 "com/example/tidewheel/tidewheel/model/KeyedRequest" "request" "Ljava/lang/String;" (.ref b30) := F_b902_request_951.keep K959 nin0
        have F_b902_resource_972 : Fld Z T959.heap b902 "com/example/tidewheel/tidewheel/model/KeyedRequest" "resource" "Ljava/lang/String;" .null := F_b902_resource_952.keep K959 nin0
        have F_b902_answer_973 : Fld Z T959.heap b902 "com/example/tidewheel/tidewheel/model/KeyedRequest" "answer" "Lcom/example/tidewheel/tidewheel/model/KeyedRequest$Answer;" .null := F_b902_answer_953.keep K959 nin0
        have E_b913_974 : Exa Z T959.heap b913 "java/util/Optional" := E_b913_954.keep K959
        have F_b913_value_975 : Fld Z T959.heap b913 "java/util/Optional" "value" "Ljava/lang/Object;" .null := F_b913_value_955.keep K959 nin0
        have E_b939_976 : Exa Z T959.heap b939 "java/util/Optional" := Eq939.keep K959
        have F_b939_value_977 : Fld Z T959.heap b939 "java/util/Optional" "value" "Ljava/lang/Object;" .null := Fq939.keep K959 nin0
        have pre978 : ∀ t, Steps p.tables e below (T959.setTop (mkF m 282 #[.val (.int p0), .val (.int p1), .val (.int p2), .val (.int p3), .val (.int p4), .val (.int p5), .val (.ref b6), .val (.ref b30), .val .null, .val (.ref b685), .val .null, .val (.ref b852), .val (.ref b902), .val .null, .val (.int (1 : Int32))] [.null, (.ref b959)])) t → Steps p.tables e below (s₁.setTop (entryFrame m #[(.int p0), (.int p1), (.int p2), (.int p3), (.int p4), (.int p5)] maxLocals)) t := by
          intro t kk
          refine pre958 t ?_
          show Steps p.tables e below (T957.setTop (mkF m 278 #[.val (.int p0), .val (.int p1), .val (.int p2), .val (.int p3), .val (.int p4), .val (.int p5), .val (.ref b6), .val (.ref b30), .val .null, .val (.ref b685), .val .null, .val (.ref b852), .val (.ref b902), .val .null, .val (.int (1 : Int32))] [(.ref b852)])) _
          refine st959.trans ?_
          refine XS.aconstNull X959.here hx rfl (hb hby at_281) ?_
          exact kk
        clear X957 e957 st959 N959q N957 KP939 Z939 O_940 E_b6_941 E_b30_942 E_b685_943 E_b852_944 F_b852_key_945 F_b852_request_946 F_b852_resource_947 F_b852_answer_948 E_b902_949 F_b902_key_950 F_b902_request_951 F_b902_resource_952 F_b902_answer_953 E_b913_954 F_b913_value_955 Eq939 Fq939 K959 pre958
        as_aux_lemma =>
        obtain ⟨cq979, kq979, q979a, q979b, q979c⟩ := isOf hZ rfl Eq959
        obtain ⟨_, _, ⟨T979, L979, k979, n979⟩, -, X979, ⟨Lc979, hQ979, l979, y979, z979⟩, st979⟩ := X959.virtualBack hx (y := (⟨"java/util/Optional", "orElse", "(Ljava/lang/Object;)Ljava/lang/Object;"⟩ : MethodName)) (z := (⟨"java/util/Optional", "orElse", "(Ljava/lang/Object;)Ljava/lang/Object;"⟩ : MethodName)) hown (mt_78 hZ hw) (mt_79 hZ hw) (notFace_of_selects (args := #[]) (mt_81 hZ hw)) (mt_81 hZ hw) (mt_80 hZ hw) (by decide) (backOf (W := 0) (rm13_r l Z aA hw [] b959 b685 T959.heap n0 Z959 Fq959) hZ (hw _ tb_82) (hw _ tb_75) (by decide) (by decide)) q979a q979c (g := (mkF m 282 #[.val (.int p0), .val (.int p1), .val (.int p2), .val (.int p3), .val (.int p4), .val (.int p5), .val (.ref b6), .val (.ref b30), .val .null, .val (.ref b685), .val .null, .val (.ref b852), .val (.ref b902), .val .null, .val (.int (1 : Int32))] [.null, (.ref b959)])) rfl (by rw [hml]; rfl) (Steps.refl _) (argsL := [.null]) (rest := []) (lenOf pd__28Ljava_2flang_2fObject_3b_29Ljava_2flang_2fObject_3b rfl) rfl (by show 2 * 0 + _ ≤ _; exact Nat.le_of_eq rfl) (hb hby at_282) (fun _ _ => ⟨rfl, rfl, (by decide : 12 + 0 ≤ _), (by decide : 30 + 0 ≤ _)⟩)
        dsimp only [Pt.U, Pt.locs, Pt.cells, Pt.slots] at X979 l979 y979 z979 st979 hQ979
        replace l979 := l979.symm
        subst l979
        obtain rfl : k979 = 12 := y979
        obtain rfl : n979 = 30 := z979
        obtain ⟨rfl, N979q, e979⟩ := hQ979
        have N979 := Fr.app N959 N979q
        have pre980 : ∀ t, Steps p.tables e below (T979.setTop (mkF m 295 #[.val (.int p0), .val (.int p1), .val (.int p2), .val (.int p3), .val (.int p4), .val (.int p5), .val (.ref b6), .val (.ref b30), .val .null, .val (.ref b685), .val .null, .val (.ref b852), .val (.ref b902), .val .null, .val (.int (1 : Int32))] [(.int (1 : Int32))])) t → Steps p.tables e below (s₁.setTop (entryFrame m #[(.int p0), (.int p1), (.int p2), (.int p3), (.int p4), (.int p5)] maxLocals)) t := by
          intro t kk
          refine pre978 t ?_
          show Steps p.tables e below (T959.setTop (mkF m 282 #[.val (.int p0), .val (.int p1), .val (.int p2), .val (.int p3), .val (.int p4), .val (.int p5), .val (.ref b6), .val (.ref b30), .val .null, .val (.ref b685), .val .null, .val (.ref b852), .val (.ref b902), .val .null, .val (.int (1 : Int32))] [.null, (.ref b959)])) _
          refine st979.trans ?_
          refine XS.aload X979.here hx rfl (hb hby at_285) rfl rfl ?_
          refine Jvm.RoadKit.acmp (g := (mkF m 287 #[.val (.int p0), .val (.int p1), .val (.int p2), .val (.int p3), .val (.int p4), .val (.int p5), .val (.ref b6), .val (.ref b30), .val .null, .val (.ref b685), .val .null, .val (.ref b852), .val (.ref b902), .val .null, .val (.int (1 : Int32))] [(.ref b685), (.ref b685)])) X979 hx rfl rfl rfl (pc0 := 287) (pc' := 290) (same := true) rfl (hb hby at_287) rfl (decide_eq_true rfl) (by decide) (by decide) ?_
          refine XS.iconst X979.here hx rfl (hb hby at_290) ?_
          refine XS.goto X979.here hx rfl (pc0 := 291) (pc' := 295) rfl (hb hby at_291) (by decide) (by decide) ?_
          exact kk
        clear X959 st979 N979q N959 pre978
        as_aux_lemma =>
        obtain ⟨fs, hr, hrun, hended, hW, hsame⟩ := X979.leave (v := some (.int (1 : Int32))) (fun h => by rw [Bd.returns] at h; cases h)
        refine ⟨_, _, pre980 _ ?_, hrun, hended, _, _, rfl, ?_, ⟨_, rfl⟩, hW, hsame.mono (by decide) (by decide)⟩
        · show Steps p.tables e below (T979.setTop (mkF m 295 #[.val (.int p0), .val (.int p1), .val (.int p2), .val (.int p3), .val (.int p4), .val (.int p5), .val (.ref b6), .val (.ref b30), .val .null, .val (.ref b685), .val .null, .val (.ref b852), .val (.ref b902), .val .null, .val (.int (1 : Int32))] [(.int (1 : Int32))])) _
          exact retN X979 hx (t := .boolean) Bd.returns (by simp) (hb hby at_295) hr
        · show Q0 Z p0 p1 p2 p3 p4 p5 zcs wE h0 n0 _ T979.heap _
          rw [e979]
          exact ⟨rfl, N979⟩
    · as_aux_lemma =>
      have pre982 : ∀ t, Steps p.tables e below (T54.setTop (mkF m 137 #[.val (.int p0), .val (.int p1), .val (.int p2), .val (.int p3), .val (.int p4), .val (.int p5), .val (.ref b6), .val (.ref b30), .val .null, .val .null, .unset, .unset, .unset, .unset, .unset] [(.int (p5 &&& (4 : Int32)))])) t → Steps p.tables e below (s₁.setTop (entryFrame m #[(.int p0), (.int p1), (.int p2), (.int p3), (.int p4), (.int p5)] maxLocals)) t := by
        intro t kk
        refine pre684 t ?_
        show Steps p.tables e below (T54.setTop (mkF m 114 #[.val (.int p0), .val (.int p1), .val (.int p2), .val (.int p3), .val (.int p4), .val (.int p5), .val (.ref b6), .val (.ref b30), .val .null, .unset, .unset, .unset, .unset, .unset, .unset] [(.int (p5 &&& (2 : Int32)))])) _
        refine XS.ifNo X54.here hx rfl (hb hby at_114) rfl ((if0 _ _).trans (feq hc114_683).1) ?_
        refine XS.aconstNull X54.here hx rfl (hb hby at_117) ?_
        refine XS.goto X54.here hx rfl (pc0 := 118) (pc' := 131) rfl (hb hby at_118) (by decide) (by decide) ?_
        refine XS.astore X54.here hx rfl (hb hby at_131) rfl rfl (l' := #[.val (.int p0), .val (.int p1), .val (.int p2), .val (.int p3), .val (.int p4), .val (.int p5), .val (.ref b6), .val (.ref b30), .val .null, .val .null, .unset, .unset, .unset, .unset, .unset]) rfl ?_
        refine XS.iload X54.here hx rfl (hb hby at_133) rfl ?_
        refine XS.iconst X54.here hx rfl (hb hby at_135) ?_
        refine XS.iand X54.here hx rfl (hb hby at_136) rfl ?_
        exact kk
      clear pre684
      as_aux_lemma =>
      by_cases hc137_981 : (p5 &&& (4 : Int32)) = (0 : Int32)
      · as_aux_lemma =>
        obtain ⟨T983, h983, X983, e983, E983, A983, D983, -, st983⟩ := newO X54 hx hZ hown (hw _ tb_30) (hw _ tb_31) (hw _ tb_32) rfl (g := (mkF m 144 #[.val (.int p0), .val (.int p1), .val (.int p2), .val (.int p3), .val (.int p4), .val (.int p5), .val (.ref b6), .val (.ref b30), .val .null, .val .null, .unset, .unset, .unset, .unset, .unset] [])) rfl (hb hby at_144) (by decide) (by decide)
        obtain ⟨b983, g983⟩ : ∃ z, z = T54.heap.size := ⟨_, rfl⟩
        rw [← g983] at A983 D983 st983
        have ne_b6_b983 : b6 ≠ b983 := Nat.ne_of_lt (Nat.lt_of_lt_of_le E_b6_57.lt (Nat.le_of_eq g983.symm))
        have ne_b30_b983 : b30 ≠ b983 := Nat.ne_of_lt (Nat.lt_of_lt_of_le E_b30_58.lt (Nat.le_of_eq g983.symm))
        have sz_b983 : h0.size ≤ b983 := Nat.le_trans KP54.1 (Nat.le_of_eq g983.symm)
        have g_b983 : n0 ≤ b983 := Nat.le_trans Z54 (Nat.le_of_eq g983.symm)
        have KP983 : Keep h0 h983 [] := KP54.ext E983
        have Z983 : n0 ≤ h983.size := Nat.le_trans Z54 E983.1
        have O_984 : Old Z n0 h983 := O_56.ext E983
        have E_b6_985 : Exa Z h983 b6 "java/lang/String" := E_b6_57.ext E983
        have E_b30_986 : Exa Z h983 b30 "java/lang/String" := E_b30_58.ext E983
        have F_status_b983 : Fld Z h983 b983 "com/example/tidewheel/tidewheel/model/KeyedRequest$Answer" "status" "I" (.int (0 : Int32)) := D983 (Or.inr (hw _ tb_41)) (ty := .int) (by decide)
        have F_body_b983 : Fld Z h983 b983 "com/example/tidewheel/tidewheel/model/KeyedRequest$Answer" "body" "Ljava/lang/String;" .null := D983 (Or.inr (hw _ tb_43)) (ty := (.object "java/lang/String")) (by decide)
        have F_refusal_b983 : Fld Z h983 b983 "com/example/tidewheel/tidewheel/model/KeyedRequest$Answer" "refusal" "Lcom/example/tidewheel/tidewheel/model/RefusedException$Reason;" .null := D983 (Or.inr (hw _ tb_45)) (ty := (.object "com/example/tidewheel/tidewheel/model/RefusedException$Reason")) (by decide)
        replace X983 : Stand _ _ _ _ _ _ _ _ _ _ _ _ 7 19 := X983
        have pre987 : ∀ t, Steps p.tables e below (T983.setTop (mkF m 152 #[.val (.int p0), .val (.int p1), .val (.int p2), .val (.int p3), .val (.int p4), .val (.int p5), .val (.ref b6), .val (.ref b30), .val .null, .val .null, .unset, .unset, .unset, .unset, .unset] [(.ref b30), (.int p4), (.ref b983), (.ref b983)])) t → Steps p.tables e below (s₁.setTop (entryFrame m #[(.int p0), (.int p1), (.int p2), (.int p3), (.int p4), (.int p5)] maxLocals)) t := by
          intro t kk
          refine pre982 t ?_
          show Steps p.tables e below (T54.setTop (mkF m 137 #[.val (.int p0), .val (.int p1), .val (.int p2), .val (.int p3), .val (.int p4), .val (.int p5), .val (.ref b6), .val (.ref b30), .val .null, .val .null, .unset, .unset, .unset, .unset, .unset] [(.int (p5 &&& (4 : Int32)))])) _
          refine XS.ifYes X54.here hx rfl (pc0 := 137) (pc' := 144) rfl (hb hby at_137) rfl ((if0 _ _).trans (teq hc137_981).1) (by decide) (by decide) ?_
          refine st983 _ ?_
          refine XS.dup X983.here hx rfl (hb hby at_147) rfl rfl ?_
          refine XS.iload X983.here hx rfl (hb hby at_148) rfl ?_
          refine XS.aload X983.here hx rfl (hb hby at_150) rfl rfl ?_
          exact kk
        clear X54 st983 O_56 E_b6_57 E_b30_58 pre982
        as_aux_lemma =>
        obtain ⟨_, _, ⟨T988, L988, k988, n988⟩, -, X988, ⟨Lc988, hQ988, l988, y988, z988⟩, st988⟩ := X983.specialBack hx (y := (⟨"com/example/tidewheel/tidewheel/model/KeyedRequest$Answer", "<init>", "(ILjava/lang/String;)V"⟩ : MethodName)) rfl hown (mt_33 hZ hw) (mt_34 hZ hw) (mt_35 hZ hw) (by decide) (backOf (W := 1) (rm7_rr l Z aA hw [] b983 p4 b30 h983 n0 Z983 A983 g_b983 F_status_b983 F_body_b983 F_refusal_b983) hZ (hw _ tb_35) (hw _ tb_32) (by decide) (by decide)) (g := (mkF m 152 #[.val (.int p0), .val (.int p1), .val (.int p2), .val (.int p3), .val (.int p4), .val (.int p5), .val (.ref b6), .val (.ref b30), .val .null, .val .null, .unset, .unset, .unset, .unset, .unset] [(.ref b30), (.int p4), (.ref b983), (.ref b983)])) rfl (by rw [hml]; rfl) (Steps.refl _) (a := b983) (argsL := [(.int p4), (.ref b30)]) (rest := [(.ref b983)]) (lenOf pd__28ILjava_2flang_2fString_3b_29V rfl) rfl (by show 2 * 0 + _ ≤ _; exact Nat.le_of_eq rfl) (hb hby at_152) (fun _ _ => ⟨rfl, e983, (by decide : 7 + 0 ≤ _), (by decide : 19 + 0 ≤ _)⟩)
        dsimp only [Pt.U, Pt.locs, Pt.cells, Pt.slots] at X988 l988 y988 z988 st988 hQ988
        replace l988 := l988.symm
        subst l988
        obtain rfl : k988 = 7 := y988
        obtain rfl : n988 = 19 := z988
        obtain ⟨rfl, N988q, K988, Eq988, Fq988_status, Fq988_body, Fq988_refusal⟩ := hQ988
        have N988 := Fr.app N54 N988q
        have KP988 : Keep h0 T988.heap [] := KP983.trans K988 (allS (Or.inr sz_b983) all0)
        have Z988 : n0 ≤ T988.heap.size := Nat.le_trans Z983 K988.1
        have O_989 : Old Z n0 T988.heap := O_984.keep K988 (allS g_b983 all0)
        have E_b6_990 : Exa Z T988.heap b6 "java/lang/String" := E_b6_985.keep K988
        have E_b30_991 : Exa Z T988.heap b30 "java/lang/String" := E_b30_986.keep K988
        have E_b983_992 : Exa Z T988.heap b983 "com/example/tidewheel/tidewheel/model/KeyedRequest$Answer" := A983.keep K988
        obtain ⟨T993, h993, X993, e993, E993, A993, D993, -, st993⟩ := newO X988 hx hZ hown (hw _ tb_46) (hw _ tb_47) (hw _ tb_48) rfl (g := (mkF m 157 #[.val (.int p0), .val (.int p1), .val (.int p2), .val (.int p3), .val (.int p4), .val (.int p5), .val (.ref b6), .val (.ref b30), .val .null, .val .null, .val (.ref b983), .unset, .unset, .unset, .unset] [])) rfl (hb hby at_157) (by decide) (by decide)
        obtain ⟨b993, g993⟩ : ∃ z, z = T988.heap.size := ⟨_, rfl⟩
        rw [← g993] at A993 D993 st993
        have ne_b6_b993 : b6 ≠ b993 := Nat.ne_of_lt (Nat.lt_of_lt_of_le E_b6_990.lt (Nat.le_of_eq g993.symm))
        have ne_b30_b993 : b30 ≠ b993 := Nat.ne_of_lt (Nat.lt_of_lt_of_le E_b30_991.lt (Nat.le_of_eq g993.symm))
        have ne_b983_b993 : b983 ≠ b993 := Nat.ne_of_lt (Nat.lt_of_lt_of_le Eq988.lt (Nat.le_of_eq g993.symm))
        have sz_b993 : h0.size ≤ b993 := Nat.le_trans KP988.1 (Nat.le_of_eq g993.symm)
        have g_b993 : n0 ≤ b993 := Nat.le_trans Z988 (Nat.le_of_eq g993.symm)
        have KP993 : Keep h0 h993 [] := KP988.ext E993
        have Z993 : n0 ≤ h993.size := Nat.le_trans Z988 E993.1
        have O_994 : Old Z n0 h993 := O_989.ext E993
        have E_b6_995 : Exa Z h993 b6 "java/lang/String" := E_b6_990.ext E993
        have E_b30_996 : Exa Z h993 b30 "java/lang/String" := E_b30_991.ext E993
        have E_b983_997 : Exa Z h993 b983 "com/example/tidewheel/tidewheel/model/KeyedRequest$Answer" := Eq988.ext E993
        have F_key_b993 : Fld Z h993 b993 "com/example/tidewheel/tidewheel/model/KeyedRequest" "key" "Ljava/lang/String;" .null := D993 (Or.inr (hw _ tb_54)) (ty := (.object "java/lang/String")) (by decide)
        have F_request_b993 : Fld Z h993 b993 "com/example/tidewheel/tidewheel/model/KeyedRequest" "request" "Ljava/lang/String;" .null := D993 (Or.inr (hw _ tb_56)) (ty := (.object "java/lang/String")) (by decide)
        have F_resource_b993 : Fld Z h993 b993 "com/example/tidewheel/tidewheel/model/KeyedRequest" "resource" "Ljava/lang/String;" .null := D993 (Or.inr (hw _ tb_58)) (ty := (.object "java/lang/String")) (by decide)
        have F_answer_b993 : Fld Z h993 b993 "com/example/tidewheel/tidewheel/model/KeyedRequest" "answer" "Lcom/example/tidewheel/tidewheel/model/KeyedRequest$Answer;" .null := D993 (Or.inr (hw _ tb_60)) (ty := (.object "com/example/tidewheel/tidewheel/model/KeyedRequest$Answer")) (by decide)
        replace X993 : Stand _ _ _ _ _ _ _ _ _ _ _ _ 8 23 := X993
        have pre998 : ∀ t, Steps p.tables e below (T993.setTop (mkF m 169 #[.val (.int p0), .val (.int p1), .val (.int p2), .val (.int p3), .val (.int p4), .val (.int p5), .val (.ref b6), .val (.ref b30), .val .null, .val .null, .val (.ref b983), .unset, .unset, .unset, .unset] [.null, .null, (.ref b30), (.ref b6), (.ref b993), (.ref b993)])) t → Steps p.tables e below (s₁.setTop (entryFrame m #[(.int p0), (.int p1), (.int p2), (.int p3), (.int p4), (.int p5)] maxLocals)) t := by
          intro t kk
          refine pre987 t ?_
          show Steps p.tables e below (T983.setTop (mkF m 152 #[.val (.int p0), .val (.int p1), .val (.int p2), .val (.int p3), .val (.int p4), .val (.int p5), .val (.ref b6), .val (.ref b30), .val .null, .val .null, .unset, .unset, .unset, .unset, .unset] [(.ref b30), (.int p4), (.ref b983), (.ref b983)])) _
          refine st988.trans ?_
          refine XS.astore X988.here hx rfl (hb hby at_155) rfl rfl (l' := #[.val (.int p0), .val (.int p1), .val (.int p2), .val (.int p3), .val (.int p4), .val (.int p5), .val (.ref b6), .val (.ref b30), .val .null, .val .null, .val (.ref b983), .unset, .unset, .unset, .unset]) rfl ?_
          refine st993 _ ?_
          refine XS.dup X993.here hx rfl (hb hby at_160) rfl rfl ?_
          refine XS.aload X993.here hx rfl (hb hby at_161) rfl rfl ?_
          refine XS.aload X993.here hx rfl (hb hby at_163) rfl rfl ?_
          refine XS.aload X993.here hx rfl (hb hby at_165) rfl rfl ?_
          refine XS.aload X993.here hx rfl (hb hby at_167) rfl rfl ?_
          exact kk
        clear X983 e983 st988 N988q N54 KP983 Z983 O_984 E_b6_985 E_b30_986 A983 F_status_b983 F_body_b983 F_refusal_b983 K988 Fq988_status Fq988_body Fq988_refusal X988 st993 O_989 E_b6_990 E_b30_991 Eq988 pre987
        as_aux_lemma =>
        obtain ⟨_, _, ⟨T999, L999, k999, n999⟩, -, X999, ⟨Lc999, hQ999, l999, y999, z999⟩, st999⟩ := X993.specialBack hx (y := (⟨"com/example/tidewheel/tidewheel/model/KeyedRequest", "<init>", "(Ljava/lang/String;Ljava/lang/String;Ljava/lang/String;Lcom/example/tidewheel/tidewheel/model/KeyedRequest$Answer;)V"⟩ : MethodName)) rfl hown (mt_49 hZ hw) (mt_50 hZ hw) (mt_51 hZ hw) (by decide) (backOf (W := 1) (rm9_rrnn l Z aA hw [] b993 b6 b30 h993 n0 Z993 A993 g_b993 F_key_b993 F_request_b993 F_resource_b993 F_answer_b993) hZ (hw _ tb_51) (hw _ tb_48) (by decide) (by decide)) (g := (mkF m 169 #[.val (.int p0), .val (.int p1), .val (.int p2), .val (.int p3), .val (.int p4), .val (.int p5), .val (.ref b6), .val (.ref b30), .val .null, .val .null, .val (.ref b983), .unset, .unset, .unset, .unset] [.null, .null, (.ref b30), (.ref b6), (.ref b993), (.ref b993)])) rfl (by rw [hml]; rfl) (Steps.refl _) (a := b993) (argsL := [(.ref b6), (.ref b30), .null, .null]) (rest := [(.ref b993)]) (lenOf pd__28Ljava_2flang_2fString_3bLjava_2flang_2fString_3bLjava_2flang_2fString_3bLcom_2fexample_2ftidewheel_2ftidewheel_2fmodel_2fKeyedRequest_24Answer_3b_29V rfl) rfl (by show 2 * 0 + _ ≤ _; exact Nat.le_of_eq rfl) (hb hby at_169) (fun _ _ => ⟨rfl, e993, (by decide : 8 + 0 ≤ _), (by decide : 23 + 0 ≤ _)⟩)
        dsimp only [Pt.U, Pt.locs, Pt.cells, Pt.slots] at X999 l999 y999 z999 st999 hQ999
        replace l999 := l999.symm
        subst l999
        obtain rfl : k999 = 8 := y999
        obtain rfl : n999 = 23 := z999
        obtain ⟨rfl, N999q, K999, Eq999, Fq999_key, Fq999_request, Fq999_resource, Fq999_answer⟩ := hQ999
        have N999 := Fr.app N988 N999q
        have KP999 : Keep h0 T999.heap [] := KP993.trans K999 (allS (Or.inr sz_b993) all0)
        have Z999 : n0 ≤ T999.heap.size := Nat.le_trans Z993 K999.1
        have O_1000 : Old Z n0 T999.heap := O_994.keep K999 (allS g_b993 all0)
        have E_b6_1001 : Exa Z T999.heap b6 "java/lang/String" := E_b6_995.keep K999
        have E_b30_1002 : Exa Z T999.heap b30 "java/lang/String" := E_b30_996.keep K999
        have E_b983_1003 : Exa Z T999.heap b983 "com/example/tidewheel/tidewheel/model/KeyedRequest$Answer" := E_b983_997.keep K999
        have E_b993_1004 : Exa Z T999.heap b993 "com/example/tidewheel/tidewheel/model/KeyedRequest" := A993.keep K999
        have pre1005 : ∀ t, Steps p.tables e below (T999.setTop (mkF m 178 #[.val (.int p0), .val (.int p1), .val (.int p2), .val (.int p3), .val (.int p4), .val (.int p5), .val (.ref b6), .val (.ref b30), .val .null, .val .null, .val (.ref b983), .val (.ref b993), .unset, .unset, .unset] [(.ref b983), (.ref b993)])) t → Steps p.tables e below (s₁.setTop (entryFrame m #[(.int p0), (.int p1), (.int p2), (.int p3), (.int p4), (.int p5)] maxLocals)) t := by
          intro t kk
          refine pre998 t ?_
          show Steps p.tables e below (T993.setTop (mkF m 169 #[.val (.int p0), .val (.int p1), .val (.int p2), .val (.int p3), .val (.int p4), .val (.int p5), .val (.ref b6), .val (.ref b30), .val .null, .val .null, .val (.ref b983), .unset, .unset, .unset, .unset] [.null, .null, (.ref b30), (.ref b6), (.ref b993), (.ref b993)])) _
          refine st999.trans ?_
          refine XS.astore X999.here hx rfl (hb hby at_172) rfl rfl (l' := #[.val (.int p0), .val (.int p1), .val (.int p2), .val (.int p3), .val (.int p4), .val (.int p5), .val (.ref b6), .val (.ref b30), .val .null, .val .null, .val (.ref b983), .val (.ref b993), .unset, .unset, .unset]) rfl ?_
          refine XS.aload X999.here hx rfl (hb hby at_174) rfl rfl ?_
          refine XS.aload X999.here hx rfl (hb hby at_176) rfl rfl ?_
          exact kk
        clear X993 e993 st999 N999q N988 KP993 Z993 O_994 E_b6_995 E_b30_996 E_b983_997 A993 F_key_b993 F_request_b993 F_resource_b993 F_answer_b993 K999 pre998
        as_aux_lemma =>
        obtain ⟨cq1006, kq1006, q1006a, q1006b, q1006c⟩ := isOf hZ rfl Eq999
        obtain ⟨_, _, ⟨T1006, L1006, k1006, n1006⟩, -, X1006, ⟨Lc1006, hQ1006, l1006, y1006, z1006⟩, st1006⟩ := X999.virtualBack hx (y := (⟨"com/example/tidewheel/tidewheel/model/KeyedRequest", "answered", "(Lcom/example/tidewheel/tidewheel/model/KeyedRequest$Answer;)Lcom/example/tidewheel/tidewheel/model/KeyedRequest;"⟩ : MethodName)) (z := (⟨"com/example/tidewheel/tidewheel/model/KeyedRequest", "answered", "(Lcom/example/tidewheel/tidewheel/model/KeyedRequest$Answer;)Lcom/example/tidewheel/tidewheel/model/KeyedRequest;"⟩ : MethodName)) hown (mt_61 hZ hw) (mt_62 hZ hw) (notFace_of_selects (args := #[]) (mt_64 hZ hw)) (mt_64 hZ hw) (mt_63 hZ hw) (by decide) (backOf (W := 0) (rm10_nr l Z aA hw [] b993 b983 b6 b30 T999.heap n0 Z999 Fq999_key Fq999_request Fq999_resource) hZ (hw _ tb_65) (hw _ tb_48) (by decide) (by decide)) q1006a q1006c (g := (mkF m 178 #[.val (.int p0), .val (.int p1), .val (.int p2), .val (.int p3), .val (.int p4), .val (.int p5), .val (.ref b6), .val (.ref b30), .val .null, .val .null, .val (.ref b983), .val (.ref b993), .unset, .unset, .unset] [(.ref b983), (.ref b993)])) rfl (by rw [hml]; rfl) (Steps.refl _) (argsL := [(.ref b983)]) (rest := []) (lenOf pd__28Lcom_2fexample_2ftidewheel_2ftidewheel_2fmodel_2fKeyedRequest_24Answer_3b_29Lcom_2fexample_2ftidewheel_2ftidewheel_2fmodel_2fKeyedRequest_3b rfl) rfl (by show 2 * 0 + _ ≤ _; exact Nat.le_of_eq rfl) (hb hby at_178) (fun _ _ => ⟨rfl, rfl, (by decide : 8 + 1 ≤ _), (by decide : 23 + 4 ≤ _)⟩)
        dsimp only [Pt.U, Pt.locs, Pt.cells, Pt.slots] at X1006 l1006 y1006 z1006 st1006 hQ1006
        replace l1006 := l1006.symm
        subst l1006
        obtain rfl : k1006 = 9 := y1006
        obtain rfl : n1006 = 27 := z1006
        obtain ⟨b1006, rfl, N1006q, K1006, sz1006, Eq1006, Fq1006_key, Fq1006_request, Fq1006_resource, Fq1006_answer⟩ := hQ1006
        have N1006 := Fr.app N999 N1006q
        have sz_b1006 : h0.size ≤ b1006 := Nat.le_trans KP999.1 sz1006
        have g_b1006 : n0 ≤ b1006 := Nat.le_trans Z999 sz1006
        have KP1006 : Keep h0 T1006.heap [] := KP999.trans K1006 all0
        have Z1006 : n0 ≤ T1006.heap.size := Nat.le_trans Z999 K1006.1
        have O_1007 : Old Z n0 T1006.heap := O_1000.keep K1006 all0
        have E_b6_1008 : Exa Z T1006.heap b6 "java/lang/String" := E_b6_1001.keep K1006
        have E_b30_1009 : Exa Z T1006.heap b30 "java/lang/String" := E_b30_1002.keep K1006
        have E_b983_1010 : Exa Z T1006.heap b983 "com/example/tidewheel/tidewheel/model/KeyedRequest$Answer" := E_b983_1003.keep K1006
        have E_b993_1011 : Exa Z T1006.heap b993 "com/example/tidewheel/tidewheel/model/KeyedRequest" := Eq999.keep K1006
        have F_b993_key_1012 : Fld Z T1006.heap b993 "com/example/tidewheel/tidewheel/model/KeyedRequest" "key" "Ljava/lang/String;" (.ref b6) := Fq999_key.keep K1006 nin0
        have F_b993_request_1013 : Fld Z T1006.heap b993 "com/example/tidewheel/tidewheel/model/KeyedRequest" "request" "Ljava/lang/String;" (.ref b30) := Fq999_request.keep K1006 nin0
        have F_b993_resource_1014 : Fld Z T1006.heap b993 "com/example/tidewheel/tidewheel/model/KeyedRequest" "resource" "Ljava/lang/String;" .null := Fq999_resource.keep K1006 nin0
        have F_b993_answer_1015 : Fld Z T1006.heap b993 "com/example/tidewheel/tidewheel/model/KeyedRequest" "answer" "Lcom/example/tidewheel/tidewheel/model/KeyedRequest$Answer;" .null := Fq999_answer.keep K1006 nin0
        have pre1016 : ∀ t, Steps p.tables e below (T1006.setTop (mkF m 192 #[.val (.int p0), .val (.int p1), .val (.int p2), .val (.int p3), .val (.int p4), .val (.int p5), .val (.ref b6), .val (.ref b30), .val .null, .val .null, .val (.ref b983), .val (.ref b993), .val (.ref b1006), .unset, .unset] [(.ref b1006)])) t → Steps p.tables e below (s₁.setTop (entryFrame m #[(.int p0), (.int p1), (.int p2), (.int p3), (.int p4), (.int p5)] maxLocals)) t := by
          intro t kk
          refine pre1005 t ?_
          show Steps p.tables e below (T999.setTop (mkF m 178 #[.val (.int p0), .val (.int p1), .val (.int p2), .val (.int p3), .val (.int p4), .val (.int p5), .val (.ref b6), .val (.ref b30), .val .null, .val .null, .val (.ref b983), .val (.ref b993), .unset, .unset, .unset] [(.ref b983), (.ref b993)])) _
          refine st1006.trans ?_
          refine XS.astore X1006.here hx rfl (hb hby at_181) rfl rfl (l' := #[.val (.int p0), .val (.int p1), .val (.int p2), .val (.int p3), .val (.int p4), .val (.int p5), .val (.ref b6), .val (.ref b30), .val .null, .val .null, .val (.ref b983), .val (.ref b993), .val (.ref b1006), .unset, .unset]) rfl ?_
          refine XS.aload X1006.here hx rfl (hb hby at_183) rfl rfl ?_
          refine XS.ifnonnullYes X1006.here hx rfl (pc0 := 185) (pc' := 190) rfl (hb hby at_185) rfl (by decide) (by decide) ?_
          refine XS.aload X1006.here hx rfl (hb hby at_190) rfl rfl ?_
          exact kk
        clear X999 st1006 N1006q N999 KP999 Z999 O_1000 E_b6_1001 E_b30_1002 E_b983_1003 Eq999 Fq999_key Fq999_request Fq999_resource Fq999_answer K1006 pre1005
        as_aux_lemma =>
        obtain ⟨cq1017, kq1017, q1017a, q1017b, q1017c⟩ := isOf hZ rfl Eq1006
        obtain ⟨_, _, ⟨T1017, L1017, k1017, n1017⟩, -, X1017, ⟨Lc1017, hQ1017, l1017, y1017, z1017⟩, st1017⟩ := X1006.virtualBack hx (y := (⟨"com/example/tidewheel/tidewheel/model/KeyedRequest", "resource", "()Ljava/util/Optional;"⟩ : MethodName)) (z := (⟨"com/example/tidewheel/tidewheel/model/KeyedRequest", "resource", "()Ljava/util/Optional;"⟩ : MethodName)) hown (mt_68 hZ hw) (mt_69 hZ hw) (notFace_of_selects (args := #[]) (mt_71 hZ hw)) (mt_71 hZ hw) (mt_70 hZ hw) (by decide) (backOf (W := 0) (rm11_n l Z aA hw [] b1006  wE T1006.heap n0 Z1006 O_1007 S_EMPTY X_EMPTY G_EMPTY Fq1006_resource) hZ (hw _ tb_72) (hw _ tb_48) (by decide) (by decide)) q1017a q1017c (g := (mkF m 192 #[.val (.int p0), .val (.int p1), .val (.int p2), .val (.int p3), .val (.int p4), .val (.int p5), .val (.ref b6), .val (.ref b30), .val .null, .val .null, .val (.ref b983), .val (.ref b993), .val (.ref b1006), .unset, .unset] [(.ref b1006)])) rfl (by rw [hml]; rfl) (Steps.refl _) (argsL := []) (rest := []) (lenOf pd__28_29Ljava_2futil_2fOptional_3b rfl) rfl (by show 2 * 0 + _ ≤ _; exact Nat.le_of_eq rfl) (hb hby at_192) (fun _ _ => ⟨rfl, rfl, (by decide : 9 + 1 ≤ _), (by decide : 27 + 1 ≤ _)⟩)
        dsimp only [Pt.U, Pt.locs, Pt.cells, Pt.slots] at X1017 l1017 y1017 z1017 st1017 hQ1017
        replace l1017 := l1017.symm
        subst l1017
        obtain rfl : k1017 = 10 := y1017
        obtain rfl : n1017 = 28 := z1017
        obtain ⟨b1017, rfl, N1017q, K1017, Eq1017, Fq1017⟩ := hQ1017
        have N1017 := Fr.app N1006 N1017q
        have KP1017 : Keep h0 T1017.heap [] := KP1006.trans K1017 all0
        have Z1017 : n0 ≤ T1017.heap.size := Nat.le_trans Z1006 K1017.1
        have O_1018 : Old Z n0 T1017.heap := O_1007.keep K1017 all0
        have E_b6_1019 : Exa Z T1017.heap b6 "java/lang/String" := E_b6_1008.keep K1017
        have E_b30_1020 : Exa Z T1017.heap b30 "java/lang/String" := E_b30_1009.keep K1017
        have E_b983_1021 : Exa Z T1017.heap b983 "com/example/tidewheel/tidewheel/model/KeyedRequest$Answer" := E_b983_1010.keep K1017
        have E_b993_1022 : Exa Z T1017.heap b993 "com/example/tidewheel/tidewheel/model/KeyedRequest" := E_b993_1011.keep K1017
        have F_b993_key_1023 : Fld Z T1017.heap b993 "com/example/tidewheel/tidewheel/model/KeyedRequest" "key" "Ljava/lang/String;" (.ref b6) := F_b993_key_1012.keep K1017 nin0
        have F_b993_request_1024 : Fld Z T1017.heap b993 "com/example/tidewheel/tidewheel/model/KeyedRequest" "request" "Ljava/lang/String;" (.ref b30) := F_b993_request_1013.keep K1017 nin0
        have F_b993_resource_1025 : Fld Z T1017.heap b993 "com/example/tidewheel/tidewheel/model/KeyedRequest" "resource" "Ljava/lang/String;" .null := F_b993_resource_1014.keep K1017 nin0
        have F_b993_answer_1026 : Fld Z T1017.heap b993 "com/example/tidewheel/tidewheel/model/KeyedRequest" "answer" "Lcom/example/tidewheel/tidewheel/model/KeyedRequest$Answer;" .null := F_b993_answer_1015.keep K1017 nin0
        have E_b1006_1027 : Exa Z T1017.heap b1006 "com/example/tidewheel/tidewheel/model/KeyedRequest" := Eq1006.keep K1017
        have F_b1006_key_1028 : Fld Z T1017.heap b1006 "com/example/tidewheel/tidewheel/model/KeyedRequest" "key" "Ljava/lang/String;" (.ref b6) := Fq1006_key.keep K1017 nin0
        have F_b1006_request_1029 : Fld Z T1017.heap b1006 "com/example/tidewheel/tidewheel/model/KeyedRequest" "request" "Ljava/lang/String;" (.ref b30) := Fq1006_request.keep K1017 nin0
        have F_b1006_resource_1030 : Fld Z T1017.heap b1006 "com/example/tidewheel/tidewheel/model/KeyedRequest" "resource" "Ljava/lang/String;" .null := Fq1006_resource.keep K1017 nin0
        have F_b1006_answer_1031 : Fld Z T1017.heap b1006 "com/example/tidewheel/tidewheel/model/KeyedRequest" "answer" "Lcom/example/tidewheel/tidewheel/model/KeyedRequest$Answer;" (.ref b983) := Fq1006_answer.keep K1017 nin0
        have pre1032 : ∀ t, Steps p.tables e below (T1017.setTop (mkF m 196 #[.val (.int p0), .val (.int p1), .val (.int p2), .val (.int p3), .val (.int p4), .val (.int p5), .val (.ref b6), .val (.ref b30), .val .null, .val .null, .val (.ref b983), .val (.ref b993), .val (.ref b1006), .unset, .unset] [.null, (.ref b1017)])) t → Steps p.tables e below (s₁.setTop (entryFrame m #[(.int p0), (.int p1), (.int p2), (.int p3), (.int p4), (.int p5)] maxLocals)) t := by
          intro t kk
          refine pre1016 t ?_
          show Steps p.tables e below (T1006.setTop (mkF m 192 #[.val (.int p0), .val (.int p1), .val (.int p2), .val (.int p3), .val (.int p4), .val (.int p5), .val (.ref b6), .val (.ref b30), .val .null, .val .null, .val (.ref b983), .val (.ref b993), .val (.ref b1006), .unset, .unset] [(.ref b1006)])) _
          refine st1017.trans ?_
          refine XS.aconstNull X1017.here hx rfl (hb hby at_195) ?_
          exact kk
        clear X1006 st1017 N1017q N1006 KP1006 Z1006 O_1007 E_b6_1008 E_b30_1009 E_b983_1010 E_b993_1011 F_b993_key_1012 F_b993_request_1013 F_b993_resource_1014 F_b993_answer_1015 Eq1006 Fq1006_key Fq1006_request Fq1006_resource Fq1006_answer K1017 pre1016
        as_aux_lemma =>
        obtain ⟨cq1033, kq1033, q1033a, q1033b, q1033c⟩ := isOf hZ rfl Eq1017
        obtain ⟨_, _, ⟨T1033, L1033, k1033, n1033⟩, -, X1033, ⟨Lc1033, hQ1033, l1033, y1033, z1033⟩, st1033⟩ := X1017.virtualBack hx (y := (⟨"java/util/Optional", "orElse", "(Ljava/lang/Object;)Ljava/lang/Object;"⟩ : MethodName)) (z := (⟨"java/util/Optional", "orElse", "(Ljava/lang/Object;)Ljava/lang/Object;"⟩ : MethodName)) hown (mt_78 hZ hw) (mt_79 hZ hw) (notFace_of_selects (args := #[]) (mt_81 hZ hw)) (mt_81 hZ hw) (mt_80 hZ hw) (by decide) (backOf (W := 0) (rm13_n l Z aA hw [] b1017  T1017.heap n0 Z1017 Fq1017) hZ (hw _ tb_82) (hw _ tb_75) (by decide) (by decide)) q1033a q1033c (g := (mkF m 196 #[.val (.int p0), .val (.int p1), .val (.int p2), .val (.int p3), .val (.int p4), .val (.int p5), .val (.ref b6), .val (.ref b30), .val .null, .val .null, .val (.ref b983), .val (.ref b993), .val (.ref b1006), .unset, .unset] [.null, (.ref b1017)])) rfl (by rw [hml]; rfl) (Steps.refl _) (argsL := [.null]) (rest := []) (lenOf pd__28Ljava_2flang_2fObject_3b_29Ljava_2flang_2fObject_3b rfl) rfl (by show 2 * 0 + _ ≤ _; exact Nat.le_of_eq rfl) (hb hby at_196) (fun _ _ => ⟨rfl, rfl, (by decide : 10 + 0 ≤ _), (by decide : 28 + 0 ≤ _)⟩)
        dsimp only [Pt.U, Pt.locs, Pt.cells, Pt.slots] at X1033 l1033 y1033 z1033 st1033 hQ1033
        replace l1033 := l1033.symm
        subst l1033
        obtain rfl : k1033 = 10 := y1033
        obtain rfl : n1033 = 28 := z1033
        obtain ⟨rfl, N1033q, e1033⟩ := hQ1033
        have N1033 := Fr.app N1017 N1033q
        have pre1034 : ∀ t, Steps p.tables e below (T1033.setTop (mkF m 235 #[.val (.int p0), .val (.int p1), .val (.int p2), .val (.int p3), .val (.int p4), .val (.int p5), .val (.ref b6), .val (.ref b30), .val .null, .val .null, .val (.ref b983), .val (.ref b993), .val (.ref b1006), .val .null, .val (.int (1 : Int32))] [(.ref b1006), (.ref b6)])) t → Steps p.tables e below (s₁.setTop (entryFrame m #[(.int p0), (.int p1), (.int p2), (.int p3), (.int p4), (.int p5)] maxLocals)) t := by
          intro t kk
          refine pre1032 t ?_
          show Steps p.tables e below (T1017.setTop (mkF m 196 #[.val (.int p0), .val (.int p1), .val (.int p2), .val (.int p3), .val (.int p4), .val (.int p5), .val (.ref b6), .val (.ref b30), .val .null, .val .null, .val (.ref b983), .val (.ref b993), .val (.ref b1006), .unset, .unset] [.null, (.ref b1017)])) _
          refine st1033.trans ?_
          refine X1033.checkcastNull hx (g := (mkF m 199 #[.val (.int p0), .val (.int p1), .val (.int p2), .val (.int p3), .val (.int p4), .val (.int p5), .val (.ref b6), .val (.ref b30), .val .null, .val .null, .val (.ref b983), .val (.ref b993), .val (.ref b1006), .unset, .unset] [.null])) rfl rfl (hb hby at_199) _ ?_
          refine XS.astore X1033.here hx rfl (hb hby at_202) rfl rfl (l' := #[.val (.int p0), .val (.int p1), .val (.int p2), .val (.int p3), .val (.int p4), .val (.int p5), .val (.ref b6), .val (.ref b30), .val .null, .val .null, .val (.ref b983), .val (.ref b993), .val (.ref b1006), .val .null, .unset]) rfl ?_
          refine XS.aload X1033.here hx rfl (hb hby at_204) rfl rfl ?_
          refine XS.ifnonnullNo X1033.here hx rfl (hb hby at_206) rfl ?_
          refine XS.aload X1033.here hx rfl (hb hby at_209) rfl rfl ?_
          refine XS.ifnonnullNo X1033.here hx rfl (hb hby at_211) rfl ?_
          refine XS.iconst X1033.here hx rfl (hb hby at_214) ?_
          refine XS.goto X1033.here hx rfl (pc0 := 215) (pc' := 229) rfl (hb hby at_215) (by decide) (by decide) ?_
          refine XS.istore X1033.here hx rfl (hb hby at_229) rfl (l' := #[.val (.int p0), .val (.int p1), .val (.int p2), .val (.int p3), .val (.int p4), .val (.int p5), .val (.ref b6), .val (.ref b30), .val .null, .val .null, .val (.ref b983), .val (.ref b993), .val (.ref b1006), .val .null, .val (.int (1 : Int32))]) rfl ?_
          refine XS.aload X1033.here hx rfl (hb hby at_231) rfl rfl ?_
          refine XS.aload X1033.here hx rfl (hb hby at_233) rfl rfl ?_
          exact kk
        clear X1017 st1033 N1033q N1017 pre1032
        as_aux_lemma =>
        obtain ⟨cq1035, kq1035, q1035a, q1035b, q1035c⟩ := isOf hZ e1033 E_b1006_1027
        obtain ⟨_, _, ⟨T1035, L1035, k1035, n1035⟩, -, X1035, ⟨Lc1035, hQ1035, l1035, y1035, z1035⟩, st1035⟩ := X1033.virtualBack hx (y := (⟨"com/example/tidewheel/tidewheel/model/KeyedRequest", "key", "()Ljava/lang/String;"⟩ : MethodName)) (z := (⟨"com/example/tidewheel/tidewheel/model/KeyedRequest", "key", "()Ljava/lang/String;"⟩ : MethodName)) hown (mt_85 hZ hw) (mt_86 hZ hw) (notFace_of_selects (args := #[]) (mt_88 hZ hw)) (mt_88 hZ hw) (mt_87 hZ hw) (by decide) (backOf (W := 1) (rm14 l Z aA hw [] b1006 b6 T1017.heap n0 Z1017 F_b1006_key_1028) hZ (hw _ tb_89) (hw _ tb_48) (by decide) (by decide)) q1035a q1035c (g := (mkF m 235 #[.val (.int p0), .val (.int p1), .val (.int p2), .val (.int p3), .val (.int p4), .val (.int p5), .val (.ref b6), .val (.ref b30), .val .null, .val .null, .val (.ref b983), .val (.ref b993), .val (.ref b1006), .val .null, .val (.int (1 : Int32))] [(.ref b1006), (.ref b6)])) rfl (by rw [hml]; rfl) (Steps.refl _) (argsL := []) (rest := [(.ref b6)]) (lenOf pd__28_29Ljava_2flang_2fString_3b rfl) rfl (by show 2 * 0 + _ ≤ _; exact Nat.le_of_eq rfl) (hb hby at_235) (fun _ _ => ⟨rfl, e1033, (by decide : 10 + 0 ≤ _), (by decide : 28 + 0 ≤ _)⟩)
        dsimp only [Pt.U, Pt.locs, Pt.cells, Pt.slots] at X1035 l1035 y1035 z1035 st1035 hQ1035
        replace l1035 := l1035.symm
        subst l1035
        obtain rfl : k1035 = 10 := y1035
        obtain rfl : n1035 = 28 := z1035
        obtain ⟨rfl, N1035q, e1035⟩ := hQ1035
        have N1035 := Fr.app N1033 N1035q
        have pre1036 : ∀ t, Steps p.tables e below (T1035.setTop (mkF m 238 #[.val (.int p0), .val (.int p1), .val (.int p2), .val (.int p3), .val (.int p4), .val (.int p5), .val (.ref b6), .val (.ref b30), .val .null, .val .null, .val (.ref b983), .val (.ref b993), .val (.ref b1006), .val .null, .val (.int (1 : Int32))] [(.ref b6), (.ref b6)])) t → Steps p.tables e below (s₁.setTop (entryFrame m #[(.int p0), (.int p1), (.int p2), (.int p3), (.int p4), (.int p5)] maxLocals)) t := by
          intro t kk
          refine pre1034 t ?_
          show Steps p.tables e below (T1033.setTop (mkF m 235 #[.val (.int p0), .val (.int p1), .val (.int p2), .val (.int p3), .val (.int p4), .val (.int p5), .val (.ref b6), .val (.ref b30), .val .null, .val .null, .val (.ref b983), .val (.ref b993), .val (.ref b1006), .val .null, .val (.int (1 : Int32))] [(.ref b1006), (.ref b6)])) _
          refine st1035.trans ?_
          exact kk
        clear X1033 e1033 st1035 N1035q N1033 pre1034
        as_aux_lemma =>
        obtain ⟨cq1037, kq1037, q1037a, q1037b, q1037c⟩ := isOf hZ e1035 E_b6_1019
        obtain ⟨_, _, ⟨T1037, L1037, k1037, n1037⟩, -, X1037, ⟨Lc1037, hQ1037, l1037, y1037, z1037⟩, st1037⟩ := X1035.virtualBack hx (y := (⟨"java/lang/String", "equals", "(Ljava/lang/Object;)Z"⟩ : MethodName)) (z := (⟨"java/lang/String", "equals", "(Ljava/lang/Object;)Z"⟩ : MethodName)) hown (mt_90 hZ hw) (mt_91 hZ hw) (notFace_of_selects (args := #[]) (mt_93 hZ hw)) (mt_93 hZ hw) (mt_92 hZ hw) (by decide) (backOf (W := 0) (rm15 l Z aA hw [] b6 T1017.heap n0 Z1017) hZ (hw _ tb_94) (hw _ tb_2) (by decide) (by decide)) q1037a q1037c (g := (mkF m 238 #[.val (.int p0), .val (.int p1), .val (.int p2), .val (.int p3), .val (.int p4), .val (.int p5), .val (.ref b6), .val (.ref b30), .val .null, .val .null, .val (.ref b983), .val (.ref b993), .val (.ref b1006), .val .null, .val (.int (1 : Int32))] [(.ref b6), (.ref b6)])) rfl (by rw [hml]; rfl) (Steps.refl _) (argsL := [(.ref b6)]) (rest := []) (lenOf pd__28Ljava_2flang_2fObject_3b_29Z rfl) rfl (by show 2 * 0 + _ ≤ _; exact Nat.le_of_eq rfl) (hb hby at_238) (fun _ _ => ⟨rfl, e1035, (by decide : 10 + 0 ≤ _), (by decide : 28 + 0 ≤ _)⟩)
        dsimp only [Pt.U, Pt.locs, Pt.cells, Pt.slots] at X1037 l1037 y1037 z1037 st1037 hQ1037
        replace l1037 := l1037.symm
        subst l1037
        obtain rfl : k1037 = 10 := y1037
        obtain rfl : n1037 = 28 := z1037
        obtain ⟨rfl, N1037q, e1037⟩ := hQ1037
        have N1037 := Fr.app N1035 N1037q
        have pre1038 : ∀ t, Steps p.tables e below (T1037.setTop (mkF m 248 #[.val (.int p0), .val (.int p1), .val (.int p2), .val (.int p3), .val (.int p4), .val (.int p5), .val (.ref b6), .val (.ref b30), .val .null, .val .null, .val (.ref b983), .val (.ref b993), .val (.ref b1006), .val .null, .val (.int (1 : Int32))] [(.ref b1006), (.ref b30)])) t → Steps p.tables e below (s₁.setTop (entryFrame m #[(.int p0), (.int p1), (.int p2), (.int p3), (.int p4), (.int p5)] maxLocals)) t := by
          intro t kk
          refine pre1036 t ?_
          show Steps p.tables e below (T1035.setTop (mkF m 238 #[.val (.int p0), .val (.int p1), .val (.int p2), .val (.int p3), .val (.int p4), .val (.int p5), .val (.ref b6), .val (.ref b30), .val .null, .val .null, .val (.ref b983), .val (.ref b993), .val (.ref b1006), .val .null, .val (.int (1 : Int32))] [(.ref b6), (.ref b6)])) _
          refine st1037.trans ?_
          refine XS.ifNo X1037.here hx rfl (hb hby at_241) rfl ((if0 _ _).trans (feq (by decide : ¬ ((1 : Int32) = (0 : Int32)))).1) ?_
          refine XS.aload X1037.here hx rfl (hb hby at_244) rfl rfl ?_
          refine XS.aload X1037.here hx rfl (hb hby at_246) rfl rfl ?_
          exact kk
        clear X1035 e1035 st1037 N1037q N1035 pre1036
        as_aux_lemma =>
        obtain ⟨cq1039, kq1039, q1039a, q1039b, q1039c⟩ := isOf hZ e1037 E_b1006_1027
        obtain ⟨_, _, ⟨T1039, L1039, k1039, n1039⟩, -, X1039, ⟨Lc1039, hQ1039, l1039, y1039, z1039⟩, st1039⟩ := X1037.virtualBack hx (y := (⟨"com/example/tidewheel/tidewheel/model/KeyedRequest", "request", "()Ljava/lang/String;"⟩ : MethodName)) (z := (⟨"com/example/tidewheel/tidewheel/model/KeyedRequest", "request", "()Ljava/lang/String;"⟩ : MethodName)) hown (mt_95 hZ hw) (mt_96 hZ hw) (notFace_of_selects (args := #[]) (mt_98 hZ hw)) (mt_98 hZ hw) (mt_97 hZ hw) (by decide) (backOf (W := 1) (rm16 l Z aA hw [] b1006 b30 T1017.heap n0 Z1017 F_b1006_request_1029) hZ (hw _ tb_99) (hw _ tb_48) (by decide) (by decide)) q1039a q1039c (g := (mkF m 248 #[.val (.int p0), .val (.int p1), .val (.int p2), .val (.int p3), .val (.int p4), .val (.int p5), .val (.ref b6), .val (.ref b30), .val .null, .val .null, .val (.ref b983), .val (.ref b993), .val (.ref b1006), .val .null, .val (.int (1 : Int32))] [(.ref b1006), (.ref b30)])) rfl (by rw [hml]; rfl) (Steps.refl _) (argsL := []) (rest := [(.ref b30)]) (lenOf pd__28_29Ljava_2flang_2fString_3b rfl) rfl (by show 2 * 0 + _ ≤ _; exact Nat.le_of_eq rfl) (hb hby at_248) (fun _ _ => ⟨rfl, e1037, (by decide : 10 + 0 ≤ _), (by decide : 28 + 0 ≤ _)⟩)
        dsimp only [Pt.U, Pt.locs, Pt.cells, Pt.slots] at X1039 l1039 y1039 z1039 st1039 hQ1039
        replace l1039 := l1039.symm
        subst l1039
        obtain rfl : k1039 = 10 := y1039
        obtain rfl : n1039 = 28 := z1039
        obtain ⟨rfl, N1039q, e1039⟩ := hQ1039
        have N1039 := Fr.app N1037 N1039q
        have pre1040 : ∀ t, Steps p.tables e below (T1039.setTop (mkF m 251 #[.val (.int p0), .val (.int p1), .val (.int p2), .val (.int p3), .val (.int p4), .val (.int p5), .val (.ref b6), .val (.ref b30), .val .null, .val .null, .val (.ref b983), .val (.ref b993), .val (.ref b1006), .val .null, .val (.int (1 : Int32))] [(.ref b30), (.ref b30)])) t → Steps p.tables e below (s₁.setTop (entryFrame m #[(.int p0), (.int p1), (.int p2), (.int p3), (.int p4), (.int p5)] maxLocals)) t := by
          intro t kk
          refine pre1038 t ?_
          show Steps p.tables e below (T1037.setTop (mkF m 248 #[.val (.int p0), .val (.int p1), .val (.int p2), .val (.int p3), .val (.int p4), .val (.int p5), .val (.ref b6), .val (.ref b30), .val .null, .val .null, .val (.ref b983), .val (.ref b993), .val (.ref b1006), .val .null, .val (.int (1 : Int32))] [(.ref b1006), (.ref b30)])) _
          refine st1039.trans ?_
          exact kk
        clear X1037 e1037 st1039 N1039q N1037 pre1038
        as_aux_lemma =>
        obtain ⟨cq1041, kq1041, q1041a, q1041b, q1041c⟩ := isOf hZ e1039 E_b30_1020
        obtain ⟨_, _, ⟨T1041, L1041, k1041, n1041⟩, -, X1041, ⟨Lc1041, hQ1041, l1041, y1041, z1041⟩, st1041⟩ := X1039.virtualBack hx (y := (⟨"java/lang/String", "equals", "(Ljava/lang/Object;)Z"⟩ : MethodName)) (z := (⟨"java/lang/String", "equals", "(Ljava/lang/Object;)Z"⟩ : MethodName)) hown (mt_90 hZ hw) (mt_91 hZ hw) (notFace_of_selects (args := #[]) (mt_93 hZ hw)) (mt_93 hZ hw) (mt_92 hZ hw) (by decide) (backOf (W := 0) (rm15 l Z aA hw [] b30 T1017.heap n0 Z1017) hZ (hw _ tb_94) (hw _ tb_2) (by decide) (by decide)) q1041a q1041c (g := (mkF m 251 #[.val (.int p0), .val (.int p1), .val (.int p2), .val (.int p3), .val (.int p4), .val (.int p5), .val (.ref b6), .val (.ref b30), .val .null, .val .null, .val (.ref b983), .val (.ref b993), .val (.ref b1006), .val .null, .val (.int (1 : Int32))] [(.ref b30), (.ref b30)])) rfl (by rw [hml]; rfl) (Steps.refl _) (argsL := [(.ref b30)]) (rest := []) (lenOf pd__28Ljava_2flang_2fObject_3b_29Z rfl) rfl (by show 2 * 0 + _ ≤ _; exact Nat.le_of_eq rfl) (hb hby at_251) (fun _ _ => ⟨rfl, e1039, (by decide : 10 + 0 ≤ _), (by decide : 28 + 0 ≤ _)⟩)
        dsimp only [Pt.U, Pt.locs, Pt.cells, Pt.slots] at X1041 l1041 y1041 z1041 st1041 hQ1041
        replace l1041 := l1041.symm
        subst l1041
        obtain rfl : k1041 = 10 := y1041
        obtain rfl : n1041 = 28 := z1041
        obtain ⟨rfl, N1041q, e1041⟩ := hQ1041
        have N1041 := Fr.app N1039 N1041q
        have pre1042 : ∀ t, Steps p.tables e below (T1041.setTop (mkF m 264 #[.val (.int p0), .val (.int p1), .val (.int p2), .val (.int p3), .val (.int p4), .val (.int p5), .val (.ref b6), .val (.ref b30), .val .null, .val .null, .val (.ref b983), .val (.ref b993), .val (.ref b1006), .val .null, .val (.int (1 : Int32))] [(.ref b1006)])) t → Steps p.tables e below (s₁.setTop (entryFrame m #[(.int p0), (.int p1), (.int p2), (.int p3), (.int p4), (.int p5)] maxLocals)) t := by
          intro t kk
          refine pre1040 t ?_
          show Steps p.tables e below (T1039.setTop (mkF m 251 #[.val (.int p0), .val (.int p1), .val (.int p2), .val (.int p3), .val (.int p4), .val (.int p5), .val (.ref b6), .val (.ref b30), .val .null, .val .null, .val (.ref b983), .val (.ref b993), .val (.ref b1006), .val .null, .val (.int (1 : Int32))] [(.ref b30), (.ref b30)])) _
          refine st1041.trans ?_
          refine XS.ifNo X1041.here hx rfl (hb hby at_254) rfl ((if0 _ _).trans (feq (by decide : ¬ ((1 : Int32) = (0 : Int32)))).1) ?_
          refine XS.iload X1041.here hx rfl (hb hby at_257) rfl ?_
          refine XS.ifNo X1041.here hx rfl (hb hby at_259) rfl ((if0 _ _).trans (feq (by decide : ¬ ((1 : Int32) = (0 : Int32)))).1) ?_
          refine XS.aload X1041.here hx rfl (hb hby at_262) rfl rfl ?_
          exact kk
        clear X1039 e1039 st1041 N1041q N1039 pre1040
        as_aux_lemma =>
        obtain ⟨cq1043, kq1043, q1043a, q1043b, q1043c⟩ := isOf hZ e1041 E_b1006_1027
        obtain ⟨_, _, ⟨T1043, L1043, k1043, n1043⟩, -, X1043, ⟨Lc1043, hQ1043, l1043, y1043, z1043⟩, st1043⟩ := X1041.virtualBack hx (y := (⟨"com/example/tidewheel/tidewheel/model/KeyedRequest", "answer", "()Ljava/util/Optional;"⟩ : MethodName)) (z := (⟨"com/example/tidewheel/tidewheel/model/KeyedRequest", "answer", "()Ljava/util/Optional;"⟩ : MethodName)) hown (mt_100 hZ hw) (mt_101 hZ hw) (notFace_of_selects (args := #[]) (mt_103 hZ hw)) (mt_103 hZ hw) (mt_102 hZ hw) (by decide) (backOf (W := 0) (rm17_r l Z aA hw [] b1006 b983 wE T1017.heap n0 Z1017 O_1018 S_EMPTY X_EMPTY G_EMPTY F_b1006_answer_1031) hZ (hw _ tb_104) (hw _ tb_48) (by decide) (by decide)) q1043a q1043c (g := (mkF m 264 #[.val (.int p0), .val (.int p1), .val (.int p2), .val (.int p3), .val (.int p4), .val (.int p5), .val (.ref b6), .val (.ref b30), .val .null, .val .null, .val (.ref b983), .val (.ref b993), .val (.ref b1006), .val .null, .val (.int (1 : Int32))] [(.ref b1006)])) rfl (by rw [hml]; rfl) (Steps.refl _) (argsL := []) (rest := []) (lenOf pd__28_29Ljava_2futil_2fOptional_3b rfl) rfl (by show 2 * 0 + _ ≤ _; exact Nat.le_of_eq rfl) (hb hby at_264) (fun _ _ => ⟨rfl, e1041, (by decide : 10 + 1 ≤ _), (by decide : 28 + 1 ≤ _)⟩)
        dsimp only [Pt.U, Pt.locs, Pt.cells, Pt.slots] at X1043 l1043 y1043 z1043 st1043 hQ1043
        replace l1043 := l1043.symm
        subst l1043
        obtain rfl : k1043 = 11 := y1043
        obtain rfl : n1043 = 29 := z1043
        obtain ⟨b1043, rfl, N1043q, K1043, Eq1043, Fq1043⟩ := hQ1043
        have N1043 := Fr.app N1041 N1043q
        have KP1043 : Keep h0 T1043.heap [] := KP1017.trans K1043 all0
        have Z1043 : n0 ≤ T1043.heap.size := Nat.le_trans Z1017 K1043.1
        have O_1044 : Old Z n0 T1043.heap := O_1018.keep K1043 all0
        have E_b6_1045 : Exa Z T1043.heap b6 "java/lang/String" := E_b6_1019.keep K1043
        have E_b30_1046 : Exa Z T1043.heap b30 "java/lang/String" := E_b30_1020.keep K1043
        have E_b983_1047 : Exa Z T1043.heap b983 "com/example/tidewheel/tidewheel/model/KeyedRequest$Answer" := E_b983_1021.keep K1043
        have E_b993_1048 : Exa Z T1043.heap b993 "com/example/tidewheel/tidewheel/model/KeyedRequest" := E_b993_1022.keep K1043
        have F_b993_key_1049 : Fld Z T1043.heap b993 "com/example/tidewheel/tidewheel/model/KeyedRequest" "key" "Ljava/lang/String;" (.ref b6) := F_b993_key_1023.keep K1043 nin0
        have F_b993_request_1050 : Fld Z T1043.heap b993 "com/example/tidewheel/tidewheel/model/KeyedRequest" "request" "Ljava/lang/String;" (.ref b30) := F_b993_request_1024.keep K1043 nin0
        have F_b993_resource_1051 : Fld Z T1043.heap b993 "com/example/tidewheel/tidewheel/model/KeyedRequest" "resource" "Ljava/lang/String;" .null := F_b993_resource_1025.keep K1043 nin0
        have F_b993_answer_1052 : Fld Z T1043.heap b993 "com/example/tidewheel/tidewheel/model/KeyedRequest" "answer" "Lcom/example/tidewheel/tidewheel/model/KeyedRequest$Answer;" .null := F_b993_answer_1026.keep K1043 nin0
        have E_b1006_1053 : Exa Z T1043.heap b1006 "com/example/tidewheel/tidewheel/model/KeyedRequest" := E_b1006_1027.keep K1043
        have F_b1006_key_1054 : Fld Z T1043.heap b1006 "com/example/tidewheel/tidewheel/model/KeyedRequest" "key" "Ljava/lang/String;" (.ref b6) := F_b1006_key_1028.keep K1043 nin0
        have F_b1006_request_1055 : Fld Z T1043.heap b1006 "com/example/tidewheel/tidewheel/model/KeyedRequest" "request" "Ljava/lang/String;" (.ref b30) := F_b1006_request_1029.keep K1043 nin0
        have F_b1006_resource_1056 : Fld Z T1043.heap b1006 "com/example/tidewheel/tidewheel/model/KeyedRequest" "resource" "Ljava/lang/String;" .null := F_b1006_resource_1030.keep K1043 nin0
        have F_b1006_answer_1057 : Fld Z T1043.heap b1006 "com/example/tidewheel/tidewheel/model/KeyedRequest" "answer" "Lcom/example/tidewheel/tidewheel/model/KeyedRequest$Answer;" (.ref b983) := F_b1006_answer_1031.keep K1043 nin0
        have E_b1017_1058 : Exa Z T1043.heap b1017 "java/util/Optional" := Eq1017.keep K1043
        have F_b1017_value_1059 : Fld Z T1043.heap b1017 "java/util/Optional" "value" "Ljava/lang/Object;" .null := Fq1017.keep K1043 nin0
        have pre1060 : ∀ t, Steps p.tables e below (T1043.setTop (mkF m 268 #[.val (.int p0), .val (.int p1), .val (.int p2), .val (.int p3), .val (.int p4), .val (.int p5), .val (.ref b6), .val (.ref b30), .val .null, .val .null, .val (.ref b983), .val (.ref b993), .val (.ref b1006), .val .null, .val (.int (1 : Int32))] [.null, (.ref b1043)])) t → Steps p.tables e below (s₁.setTop (entryFrame m #[(.int p0), (.int p1), (.int p2), (.int p3), (.int p4), (.int p5)] maxLocals)) t := by
          intro t kk
          refine pre1042 t ?_
          show Steps p.tables e below (T1041.setTop (mkF m 264 #[.val (.int p0), .val (.int p1), .val (.int p2), .val (.int p3), .val (.int p4), .val (.int p5), .val (.ref b6), .val (.ref b30), .val .null, .val .null, .val (.ref b983), .val (.ref b993), .val (.ref b1006), .val .null, .val (.int (1 : Int32))] [(.ref b1006)])) _
          refine st1043.trans ?_
          refine XS.aconstNull X1043.here hx rfl (hb hby at_267) ?_
          exact kk
        clear X1041 e1041 st1043 N1043q N1041 KP1017 Z1017 O_1018 E_b6_1019 E_b30_1020 E_b983_1021 E_b993_1022 F_b993_key_1023 F_b993_request_1024 F_b993_resource_1025 F_b993_answer_1026 E_b1006_1027 F_b1006_key_1028 F_b1006_request_1029 F_b1006_resource_1030 F_b1006_answer_1031 Eq1017 Fq1017 K1043 pre1042
        as_aux_lemma =>
        obtain ⟨cq1061, kq1061, q1061a, q1061b, q1061c⟩ := isOf hZ rfl Eq1043
        obtain ⟨_, _, ⟨T1061, L1061, k1061, n1061⟩, -, X1061, ⟨Lc1061, hQ1061, l1061, y1061, z1061⟩, st1061⟩ := X1043.virtualBack hx (y := (⟨"java/util/Optional", "orElse", "(Ljava/lang/Object;)Ljava/lang/Object;"⟩ : MethodName)) (z := (⟨"java/util/Optional", "orElse", "(Ljava/lang/Object;)Ljava/lang/Object;"⟩ : MethodName)) hown (mt_78 hZ hw) (mt_79 hZ hw) (notFace_of_selects (args := #[]) (mt_81 hZ hw)) (mt_81 hZ hw) (mt_80 hZ hw) (by decide) (backOf (W := 0) (rm13_r l Z aA hw [] b1043 b983 T1043.heap n0 Z1043 Fq1043) hZ (hw _ tb_82) (hw _ tb_75) (by decide) (by decide)) q1061a q1061c (g := (mkF m 268 #[.val (.int p0), .val (.int p1), .val (.int p2), .val (.int p3), .val (.int p4), .val (.int p5), .val (.ref b6), .val (.ref b30), .val .null, .val .null, .val (.ref b983), .val (.ref b993), .val (.ref b1006), .val .null, .val (.int (1 : Int32))] [.null, (.ref b1043)])) rfl (by rw [hml]; rfl) (Steps.refl _) (argsL := [.null]) (rest := []) (lenOf pd__28Ljava_2flang_2fObject_3b_29Ljava_2flang_2fObject_3b rfl) rfl (by show 2 * 0 + _ ≤ _; exact Nat.le_of_eq rfl) (hb hby at_268) (fun _ _ => ⟨rfl, rfl, (by decide : 11 + 0 ≤ _), (by decide : 29 + 0 ≤ _)⟩)
        dsimp only [Pt.U, Pt.locs, Pt.cells, Pt.slots] at X1061 l1061 y1061 z1061 st1061 hQ1061
        replace l1061 := l1061.symm
        subst l1061
        obtain rfl : k1061 = 11 := y1061
        obtain rfl : n1061 = 29 := z1061
        obtain ⟨rfl, N1061q, e1061⟩ := hQ1061
        have N1061 := Fr.app N1043 N1061q
        have pre1062 : ∀ t, Steps p.tables e below (T1061.setTop (mkF m 278 #[.val (.int p0), .val (.int p1), .val (.int p2), .val (.int p3), .val (.int p4), .val (.int p5), .val (.ref b6), .val (.ref b30), .val .null, .val .null, .val (.ref b983), .val (.ref b993), .val (.ref b1006), .val .null, .val (.int (1 : Int32))] [(.ref b993)])) t → Steps p.tables e below (s₁.setTop (entryFrame m #[(.int p0), (.int p1), (.int p2), (.int p3), (.int p4), (.int p5)] maxLocals)) t := by
          intro t kk
          refine pre1060 t ?_
          show Steps p.tables e below (T1043.setTop (mkF m 268 #[.val (.int p0), .val (.int p1), .val (.int p2), .val (.int p3), .val (.int p4), .val (.int p5), .val (.ref b6), .val (.ref b30), .val .null, .val .null, .val (.ref b983), .val (.ref b993), .val (.ref b1006), .val .null, .val (.int (1 : Int32))] [.null, (.ref b1043)])) _
          refine st1061.trans ?_
          refine XS.aload X1061.here hx rfl (hb hby at_271) rfl rfl ?_
          refine Jvm.RoadKit.acmp (g := (mkF m 273 #[.val (.int p0), .val (.int p1), .val (.int p2), .val (.int p3), .val (.int p4), .val (.int p5), .val (.ref b6), .val (.ref b30), .val .null, .val .null, .val (.ref b983), .val (.ref b993), .val (.ref b1006), .val .null, .val (.int (1 : Int32))] [(.ref b983), (.ref b983)])) X1061 hx rfl rfl rfl (pc0 := 273) (pc' := 276) (same := true) rfl (hb hby at_273) rfl (decide_eq_true rfl) (by decide) (by decide) ?_
          refine XS.aload X1061.here hx rfl (hb hby at_276) rfl rfl ?_
          exact kk
        clear X1043 st1061 N1061q N1043 pre1060
        as_aux_lemma =>
        obtain ⟨cq1063, kq1063, q1063a, q1063b, q1063c⟩ := isOf hZ e1061 E_b993_1048
        obtain ⟨_, _, ⟨T1063, L1063, k1063, n1063⟩, -, X1063, ⟨Lc1063, hQ1063, l1063, y1063, z1063⟩, st1063⟩ := X1061.virtualBack hx (y := (⟨"com/example/tidewheel/tidewheel/model/KeyedRequest", "answer", "()Ljava/util/Optional;"⟩ : MethodName)) (z := (⟨"com/example/tidewheel/tidewheel/model/KeyedRequest", "answer", "()Ljava/util/Optional;"⟩ : MethodName)) hown (mt_100 hZ hw) (mt_101 hZ hw) (notFace_of_selects (args := #[]) (mt_103 hZ hw)) (mt_103 hZ hw) (mt_102 hZ hw) (by decide) (backOf (W := 0) (rm17_n l Z aA hw [] b993  wE T1043.heap n0 Z1043 O_1044 S_EMPTY X_EMPTY G_EMPTY F_b993_answer_1052) hZ (hw _ tb_104) (hw _ tb_48) (by decide) (by decide)) q1063a q1063c (g := (mkF m 278 #[.val (.int p0), .val (.int p1), .val (.int p2), .val (.int p3), .val (.int p4), .val (.int p5), .val (.ref b6), .val (.ref b30), .val .null, .val .null, .val (.ref b983), .val (.ref b993), .val (.ref b1006), .val .null, .val (.int (1 : Int32))] [(.ref b993)])) rfl (by rw [hml]; rfl) (Steps.refl _) (argsL := []) (rest := []) (lenOf pd__28_29Ljava_2futil_2fOptional_3b rfl) rfl (by show 2 * 0 + _ ≤ _; exact Nat.le_of_eq rfl) (hb hby at_278) (fun _ _ => ⟨rfl, e1061, (by decide : 11 + 1 ≤ _), (by decide : 29 + 1 ≤ _)⟩)
        dsimp only [Pt.U, Pt.locs, Pt.cells, Pt.slots] at X1063 l1063 y1063 z1063 st1063 hQ1063
        replace l1063 := l1063.symm
        subst l1063
        obtain rfl : k1063 = 12 := y1063
        obtain rfl : n1063 = 30 := z1063
        obtain ⟨b1063, rfl, N1063q, K1063, Eq1063, Fq1063⟩ := hQ1063
        have N1063 := Fr.app N1061 N1063q
        have KP1063 : Keep h0 T1063.heap [] := KP1043.trans K1063 all0
        have Z1063 : n0 ≤ T1063.heap.size := Nat.le_trans Z1043 K1063.1
        have O_1064 : Old Z n0 T1063.heap := O_1044.keep K1063 all0
        have E_b6_1065 : Exa Z T1063.heap b6 "java/lang/String" := E_b6_1045.keep K1063
        have E_b30_1066 : Exa Z T1063.heap b30 "java/lang/String" := E_b30_1046.keep K1063
        have E_b983_1067 : Exa Z T1063.heap b983 "com/example/tidewheel/tidewheel/model/KeyedRequest$Answer" := E_b983_1047.keep K1063
        have E_b993_1068 : Exa Z T1063.heap b993 "com/example/tidewheel/tidewheel/model/KeyedRequest" := E_b993_1048.keep K1063
        have F_b993_key_1069 : Fld Z T1063.heap b993 "com/example/tidewheel/tidewheel/model/KeyedRequest" "key" "Ljava/lang/String;" (.ref b6) := F_b993_key_1049.keep K1063 nin0
        have F_b993_request_1070 : Fld Z T1063.heap b993 "com/example/tidewheel/tidewheel/model/KeyedRequest" "request" "Ljava/lang/String;" (.ref b30) := F_b993_request_1050.keep K1063 nin0
        have F_b993_resource_1071 : Fld Z T1063.heap b993 "com/example/tidewheel/tidewheel/model/KeyedRequest" "resource" "Ljava/lang/String;" .null := F_b993_resource_1051.keep K1063 nin0
        have F_b993_answer_1072 : Fld Z T1063.heap b993 "com/example/tidewheel/tidewheel/model/KeyedRequest" "answer" "Lcom/example/tidewheel/tidewheel/model/KeyedRequest$Answer;" .null := F_b993_answer_1052.keep K1063 nin0
        have E_b1006_1073 : Exa Z T1063.heap b1006 "com/example/tidewheel/tidewheel/model/KeyedRequest" := E_b1006_1053.keep K1063
        have F_b1006_key_1074 : Fld Z T1063.heap b1006 "com/example/tidewheel/tidewheel/model/KeyedRequest" "key" "Ljava/lang/String;" (.ref b6) := F_b1006_key_1054.keep K1063 nin0
        have F_b1006_request_1075 : Fld Z T1063.heap b1006 "com/example/tidewheel/tidewheel/model/KeyedRequest" "request" "Ljava/lang/String;" (.ref b30) := F_b1006_request_1055.keep K1063 nin0
        have F_b1006_resource_1076 : Fld Z T1063.heap b1006 "com/example/tidewheel/tidewheel/model/KeyedRequest" "resource" "Ljava/lang/String;" .null := F_b1006_resource_1056.keep K1063 nin0
        have F_b1006_answer_1077 : Fld Z T1063.heap b1006 "com/example/tidewheel/tidewheel/model/KeyedRequest" "answer" "Lcom/example/tidewheel/tidewheel/model/KeyedRequest$Answer;" (.ref b983) := F_b1006_answer_1057.keep K1063 nin0
        have E_b1017_1078 : Exa Z T1063.heap b1017 "java/util/Optional" := E_b1017_1058.keep K1063
        have F_b1017_value_1079 : Fld Z T1063.heap b1017 "java/util/Optional" "value" "Ljava/lang/Object;" .null := F_b1017_value_1059.keep K1063 nin0
        have E_b1043_1080 : Exa Z T1063.heap b1043 "java/util/Optional" := Eq1043.keep K1063
        have F_b1043_value_1081 : Fld Z T1063.heap b1043 "java/util/Optional" "value" "Ljava/lang/Object;" (.ref b983) := Fq1043.keep K1063 nin0
        have pre1082 : ∀ t, Steps p.tables e below (T1063.setTop (mkF m 282 #[.val (.int p0), .val (.int p1), .val (.int p2), .val (.int p3), .val (.int p4), .val (.int p5), .val (.ref b6), .val (.ref b30), .val .null, .val .null, .val (.ref b983), .val (.ref b993), .val (.ref b1006), .val .null, .val (.int (1 : Int32))] [.null, (.ref b1063)])) t → Steps p.tables e below (s₁.setTop (entryFrame m #[(.int p0), (.int p1), (.int p2), (.int p3), (.int p4), (.int p5)] maxLocals)) t := by
          intro t kk
          refine pre1062 t ?_
          show Steps p.tables e below (T1061.setTop (mkF m 278 #[.val (.int p0), .val (.int p1), .val (.int p2), .val (.int p3), .val (.int p4), .val (.int p5), .val (.ref b6), .val (.ref b30), .val .null, .val .null, .val (.ref b983), .val (.ref b993), .val (.ref b1006), .val .null, .val (.int (1 : Int32))] [(.ref b993)])) _
          refine st1063.trans ?_
          refine XS.aconstNull X1063.here hx rfl (hb hby at_281) ?_
          exact kk
        clear X1061 e1061 st1063 N1063q N1061 KP1043 Z1043 O_1044 E_b6_1045 E_b30_1046 E_b983_1047 E_b993_1048 F_b993_key_1049 F_b993_request_1050 F_b993_resource_1051 F_b993_answer_1052 E_b1006_1053 F_b1006_key_1054 F_b1006_request_1055 F_b1006_resource_1056 F_b1006_answer_1057 E_b1017_1058 F_b1017_value_1059 Eq1043 Fq1043 K1063 pre1062
        as_aux_lemma =>
        obtain ⟨cq1083, kq1083, q1083a, q1083b, q1083c⟩ := isOf hZ rfl Eq1063
        obtain ⟨_, _, ⟨T1083, L1083, k1083, n1083⟩, -, X1083, ⟨Lc1083, hQ1083, l1083, y1083, z1083⟩, st1083⟩ := X1063.virtualBack hx (y := (⟨"java/util/Optional", "orElse", "(Ljava/lang/Object;)Ljava/lang/Object;"⟩ : MethodName)) (z := (⟨"java/util/Optional", "orElse", "(Ljava/lang/Object;)Ljava/lang/Object;"⟩ : MethodName)) hown (mt_78 hZ hw) (mt_79 hZ hw) (notFace_of_selects (args := #[]) (mt_81 hZ hw)) (mt_81 hZ hw) (mt_80 hZ hw) (by decide) (backOf (W := 0) (rm13_n l Z aA hw [] b1063  T1063.heap n0 Z1063 Fq1063) hZ (hw _ tb_82) (hw _ tb_75) (by decide) (by decide)) q1083a q1083c (g := (mkF m 282 #[.val (.int p0), .val (.int p1), .val (.int p2), .val (.int p3), .val (.int p4), .val (.int p5), .val (.ref b6), .val (.ref b30), .val .null, .val .null, .val (.ref b983), .val (.ref b993), .val (.ref b1006), .val .null, .val (.int (1 : Int32))] [.null, (.ref b1063)])) rfl (by rw [hml]; rfl) (Steps.refl _) (argsL := [.null]) (rest := []) (lenOf pd__28Ljava_2flang_2fObject_3b_29Ljava_2flang_2fObject_3b rfl) rfl (by show 2 * 0 + _ ≤ _; exact Nat.le_of_eq rfl) (hb hby at_282) (fun _ _ => ⟨rfl, rfl, (by decide : 12 + 0 ≤ _), (by decide : 30 + 0 ≤ _)⟩)
        dsimp only [Pt.U, Pt.locs, Pt.cells, Pt.slots] at X1083 l1083 y1083 z1083 st1083 hQ1083
        replace l1083 := l1083.symm
        subst l1083
        obtain rfl : k1083 = 12 := y1083
        obtain rfl : n1083 = 30 := z1083
        obtain ⟨rfl, N1083q, e1083⟩ := hQ1083
        have N1083 := Fr.app N1063 N1083q
        have pre1084 : ∀ t, Steps p.tables e below (T1083.setTop (mkF m 295 #[.val (.int p0), .val (.int p1), .val (.int p2), .val (.int p3), .val (.int p4), .val (.int p5), .val (.ref b6), .val (.ref b30), .val .null, .val .null, .val (.ref b983), .val (.ref b993), .val (.ref b1006), .val .null, .val (.int (1 : Int32))] [(.int (1 : Int32))])) t → Steps p.tables e below (s₁.setTop (entryFrame m #[(.int p0), (.int p1), (.int p2), (.int p3), (.int p4), (.int p5)] maxLocals)) t := by
          intro t kk
          refine pre1082 t ?_
          show Steps p.tables e below (T1063.setTop (mkF m 282 #[.val (.int p0), .val (.int p1), .val (.int p2), .val (.int p3), .val (.int p4), .val (.int p5), .val (.ref b6), .val (.ref b30), .val .null, .val .null, .val (.ref b983), .val (.ref b993), .val (.ref b1006), .val .null, .val (.int (1 : Int32))] [.null, (.ref b1063)])) _
          refine st1083.trans ?_
          refine XS.aload X1083.here hx rfl (hb hby at_285) rfl rfl ?_
          refine Jvm.RoadKit.acmp (g := (mkF m 287 #[.val (.int p0), .val (.int p1), .val (.int p2), .val (.int p3), .val (.int p4), .val (.int p5), .val (.ref b6), .val (.ref b30), .val .null, .val .null, .val (.ref b983), .val (.ref b993), .val (.ref b1006), .val .null, .val (.int (1 : Int32))] [.null, .null])) X1083 hx rfl rfl rfl (pc0 := 287) (pc' := 290) (same := true) rfl (hb hby at_287) rfl (decide_eq_true rfl) (by decide) (by decide) ?_
          refine XS.iconst X1083.here hx rfl (hb hby at_290) ?_
          refine XS.goto X1083.here hx rfl (pc0 := 291) (pc' := 295) rfl (hb hby at_291) (by decide) (by decide) ?_
          exact kk
        clear X1063 st1083 N1083q N1063 pre1082
        as_aux_lemma =>
        obtain ⟨fs, hr, hrun, hended, hW, hsame⟩ := X1083.leave (v := some (.int (1 : Int32))) (fun h => by rw [Bd.returns] at h; cases h)
        refine ⟨_, _, pre1084 _ ?_, hrun, hended, _, _, rfl, ?_, ⟨_, rfl⟩, hW, hsame.mono (by decide) (by decide)⟩
        · show Steps p.tables e below (T1083.setTop (mkF m 295 #[.val (.int p0), .val (.int p1), .val (.int p2), .val (.int p3), .val (.int p4), .val (.int p5), .val (.ref b6), .val (.ref b30), .val .null, .val .null, .val (.ref b983), .val (.ref b993), .val (.ref b1006), .val .null, .val (.int (1 : Int32))] [(.int (1 : Int32))])) _
          exact retN X1083 hx (t := .boolean) Bd.returns (by simp) (hb hby at_295) hr
        · show Q0 Z p0 p1 p2 p3 p4 p5 zcs wE h0 n0 _ T1083.heap _
          rw [e1083]
          exact ⟨rfl, N1083⟩
      · as_aux_lemma =>
        obtain ⟨T1085, h1085, X1085, e1085, E1085, A1085, D1085, -, st1085⟩ := newO X54 hx hZ hown (hw _ tb_46) (hw _ tb_47) (hw _ tb_48) rfl (g := (mkF m 157 #[.val (.int p0), .val (.int p1), .val (.int p2), .val (.int p3), .val (.int p4), .val (.int p5), .val (.ref b6), .val (.ref b30), .val .null, .val .null, .val .null, .unset, .unset, .unset, .unset] [])) rfl (hb hby at_157) (by decide) (by decide)
        obtain ⟨b1085, g1085⟩ : ∃ z, z = T54.heap.size := ⟨_, rfl⟩
        rw [← g1085] at A1085 D1085 st1085
        have ne_b6_b1085 : b6 ≠ b1085 := Nat.ne_of_lt (Nat.lt_of_lt_of_le E_b6_57.lt (Nat.le_of_eq g1085.symm))
        have ne_b30_b1085 : b30 ≠ b1085 := Nat.ne_of_lt (Nat.lt_of_lt_of_le E_b30_58.lt (Nat.le_of_eq g1085.symm))
        have sz_b1085 : h0.size ≤ b1085 := Nat.le_trans KP54.1 (Nat.le_of_eq g1085.symm)
        have g_b1085 : n0 ≤ b1085 := Nat.le_trans Z54 (Nat.le_of_eq g1085.symm)
        have KP1085 : Keep h0 h1085 [] := KP54.ext E1085
        have Z1085 : n0 ≤ h1085.size := Nat.le_trans Z54 E1085.1
        have O_1086 : Old Z n0 h1085 := O_56.ext E1085
        have E_b6_1087 : Exa Z h1085 b6 "java/lang/String" := E_b6_57.ext E1085
        have E_b30_1088 : Exa Z h1085 b30 "java/lang/String" := E_b30_58.ext E1085
        have F_key_b1085 : Fld Z h1085 b1085 "com/example/tidewheel/tidewheel/model/KeyedRequest" "key" "Ljava/lang/String;" .null := D1085 (Or.inr (hw _ tb_54)) (ty := (.object "java/lang/String")) (by decide)
        have F_request_b1085 : Fld Z h1085 b1085 "com/example/tidewheel/tidewheel/model/KeyedRequest" "request" "Ljava/lang/String;" .null := D1085 (Or.inr (hw _ tb_56)) (ty := (.object "java/lang/String")) (by decide)
        have F_resource_b1085 : Fld Z h1085 b1085 "com/example/tidewheel/tidewheel/model/KeyedRequest" "resource" "Ljava/lang/String;" .null := D1085 (Or.inr (hw _ tb_58)) (ty := (.object "java/lang/String")) (by decide)
        have F_answer_b1085 : Fld Z h1085 b1085 "com/example/tidewheel/tidewheel/model/KeyedRequest" "answer" "Lcom/example/tidewheel/tidewheel/model/KeyedRequest$Answer;" .null := D1085 (Or.inr (hw _ tb_60)) (ty := (.object "com/example/tidewheel/tidewheel/model/KeyedRequest$Answer")) (by decide)
        replace X1085 : Stand _ _ _ _ _ _ _ _ _ _ _ _ 7 20 := X1085
        have pre1089 : ∀ t, Steps p.tables e below (T1085.setTop (mkF m 169 #[.val (.int p0), .val (.int p1), .val (.int p2), .val (.int p3), .val (.int p4), .val (.int p5), .val (.ref b6), .val (.ref b30), .val .null, .val .null, .val .null, .unset, .unset, .unset, .unset] [.null, .null, (.ref b30), (.ref b6), (.ref b1085), (.ref b1085)])) t → Steps p.tables e below (s₁.setTop (entryFrame m #[(.int p0), (.int p1), (.int p2), (.int p3), (.int p4), (.int p5)] maxLocals)) t := by
          intro t kk
          refine pre982 t ?_
          show Steps p.tables e below (T54.setTop (mkF m 137 #[.val (.int p0), .val (.int p1), .val (.int p2), .val (.int p3), .val (.int p4), .val (.int p5), .val (.ref b6), .val (.ref b30), .val .null, .val .null, .unset, .unset, .unset, .unset, .unset] [(.int (p5 &&& (4 : Int32)))])) _
          refine XS.ifNo X54.here hx rfl (hb hby at_137) rfl ((if0 _ _).trans (feq hc137_981).1) ?_
          refine XS.aconstNull X54.here hx rfl (hb hby at_140) ?_
          refine XS.goto X54.here hx rfl (pc0 := 141) (pc' := 155) rfl (hb hby at_141) (by decide) (by decide) ?_
          refine XS.astore X54.here hx rfl (hb hby at_155) rfl rfl (l' := #[.val (.int p0), .val (.int p1), .val (.int p2), .val (.int p3), .val (.int p4), .val (.int p5), .val (.ref b6), .val (.ref b30), .val .null, .val .null, .val .null, .unset, .unset, .unset, .unset]) rfl ?_
          refine st1085 _ ?_
          refine XS.dup X1085.here hx rfl (hb hby at_160) rfl rfl ?_
          refine XS.aload X1085.here hx rfl (hb hby at_161) rfl rfl ?_
          refine XS.aload X1085.here hx rfl (hb hby at_163) rfl rfl ?_
          refine XS.aload X1085.here hx rfl (hb hby at_165) rfl rfl ?_
          refine XS.aload X1085.here hx rfl (hb hby at_167) rfl rfl ?_
          exact kk
        clear X54 st1085 O_56 E_b6_57 E_b30_58 pre982
        as_aux_lemma =>
        obtain ⟨_, _, ⟨T1090, L1090, k1090, n1090⟩, -, X1090, ⟨Lc1090, hQ1090, l1090, y1090, z1090⟩, st1090⟩ := X1085.specialBack hx (y := (⟨"com/example/tidewheel/tidewheel/model/KeyedRequest", "<init>", "(Ljava/lang/String;Ljava/lang/String;Ljava/lang/String;Lcom/example/tidewheel/tidewheel/model/KeyedRequest$Answer;)V"⟩ : MethodName)) rfl hown (mt_49 hZ hw) (mt_50 hZ hw) (mt_51 hZ hw) (by decide) (backOf (W := 1) (rm9_rrnn l Z aA hw [] b1085 b6 b30 h1085 n0 Z1085 A1085 g_b1085 F_key_b1085 F_request_b1085 F_resource_b1085 F_answer_b1085) hZ (hw _ tb_51) (hw _ tb_48) (by decide) (by decide)) (g := (mkF m 169 #[.val (.int p0), .val (.int p1), .val (.int p2), .val (.int p3), .val (.int p4), .val (.int p5), .val (.ref b6), .val (.ref b30), .val .null, .val .null, .val .null, .unset, .unset, .unset, .unset] [.null, .null, (.ref b30), (.ref b6), (.ref b1085), (.ref b1085)])) rfl (by rw [hml]; rfl) (Steps.refl _) (a := b1085) (argsL := [(.ref b6), (.ref b30), .null, .null]) (rest := [(.ref b1085)]) (lenOf pd__28Ljava_2flang_2fString_3bLjava_2flang_2fString_3bLjava_2flang_2fString_3bLcom_2fexample_2ftidewheel_2ftidewheel_2fmodel_2fKeyedRequest_24Answer_3b_29V rfl) rfl (by show 2 * 0 + _ ≤ _; exact Nat.le_of_eq rfl) (hb hby at_169) (fun _ _ => ⟨rfl, e1085, (by decide : 7 + 0 ≤ _), (by decide : 20 + 0 ≤ _)⟩)
        dsimp only [Pt.U, Pt.locs, Pt.cells, Pt.slots] at X1090 l1090 y1090 z1090 st1090 hQ1090
        replace l1090 := l1090.symm
        subst l1090
        obtain rfl : k1090 = 7 := y1090
        obtain rfl : n1090 = 20 := z1090
        obtain ⟨rfl, N1090q, K1090, Eq1090, Fq1090_key, Fq1090_request, Fq1090_resource, Fq1090_answer⟩ := hQ1090
        have N1090 := Fr.app N54 N1090q
        have KP1090 : Keep h0 T1090.heap [] := KP1085.trans K1090 (allS (Or.inr sz_b1085) all0)
        have Z1090 : n0 ≤ T1090.heap.size := Nat.le_trans Z1085 K1090.1
        have O_1091 : Old Z n0 T1090.heap := O_1086.keep K1090 (allS g_b1085 all0)
        have E_b6_1092 : Exa Z T1090.heap b6 "java/lang/String" := E_b6_1087.keep K1090
        have E_b30_1093 : Exa Z T1090.heap b30 "java/lang/String" := E_b30_1088.keep K1090
        have E_b1085_1094 : Exa Z T1090.heap b1085 "com/example/tidewheel/tidewheel/model/KeyedRequest" := A1085.keep K1090
        have pre1095 : ∀ t, Steps p.tables e below (T1090.setTop (mkF m 178 #[.val (.int p0), .val (.int p1), .val (.int p2), .val (.int p3), .val (.int p4), .val (.int p5), .val (.ref b6), .val (.ref b30), .val .null, .val .null, .val .null, .val (.ref b1085), .unset, .unset, .unset] [.null, (.ref b1085)])) t → Steps p.tables e below (s₁.setTop (entryFrame m #[(.int p0), (.int p1), (.int p2), (.int p3), (.int p4), (.int p5)] maxLocals)) t := by
          intro t kk
          refine pre1089 t ?_
          show Steps p.tables e below (T1085.setTop (mkF m 169 #[.val (.int p0), .val (.int p1), .val (.int p2), .val (.int p3), .val (.int p4), .val (.int p5), .val (.ref b6), .val (.ref b30), .val .null, .val .null, .val .null, .unset, .unset, .unset, .unset] [.null, .null, (.ref b30), (.ref b6), (.ref b1085), (.ref b1085)])) _
          refine st1090.trans ?_
          refine XS.astore X1090.here hx rfl (hb hby at_172) rfl rfl (l' := #[.val (.int p0), .val (.int p1), .val (.int p2), .val (.int p3), .val (.int p4), .val (.int p5), .val (.ref b6), .val (.ref b30), .val .null, .val .null, .val .null, .val (.ref b1085), .unset, .unset, .unset]) rfl ?_
          refine XS.aload X1090.here hx rfl (hb hby at_174) rfl rfl ?_
          refine XS.aload X1090.here hx rfl (hb hby at_176) rfl rfl ?_
          exact kk
        clear X1085 e1085 st1090 N1090q N54 KP1085 Z1085 O_1086 E_b6_1087 E_b30_1088 A1085 F_key_b1085 F_request_b1085 F_resource_b1085 F_answer_b1085 K1090 pre1089
        as_aux_lemma =>
        obtain ⟨cq1096, kq1096, q1096a, q1096b, q1096c⟩ := isOf hZ rfl Eq1090
        obtain ⟨_, _, ⟨T1096, L1096, k1096, n1096⟩, -, X1096, ⟨Lc1096, hQ1096, l1096, y1096, z1096⟩, st1096⟩ := X1090.virtualBack hx (y := (⟨"com/example/tidewheel/tidewheel/model/KeyedRequest", "answered", "(Lcom/example/tidewheel/tidewheel/model/KeyedRequest$Answer;)Lcom/example/tidewheel/tidewheel/model/KeyedRequest;"⟩ : MethodName)) (z := (⟨"com/example/tidewheel/tidewheel/model/KeyedRequest", "answered", "(Lcom/example/tidewheel/tidewheel/model/KeyedRequest$Answer;)Lcom/example/tidewheel/tidewheel/model/KeyedRequest;"⟩ : MethodName)) hown (mt_61 hZ hw) (mt_62 hZ hw) (notFace_of_selects (args := #[]) (mt_64 hZ hw)) (mt_64 hZ hw) (mt_63 hZ hw) (by decide) (backOf (W := 0) (rm10_nn l Z aA hw [] b1085 b6 b30 T1090.heap n0 Z1090 Fq1090_key Fq1090_request Fq1090_resource) hZ (hw _ tb_65) (hw _ tb_48) (by decide) (by decide)) q1096a q1096c (g := (mkF m 178 #[.val (.int p0), .val (.int p1), .val (.int p2), .val (.int p3), .val (.int p4), .val (.int p5), .val (.ref b6), .val (.ref b30), .val .null, .val .null, .val .null, .val (.ref b1085), .unset, .unset, .unset] [.null, (.ref b1085)])) rfl (by rw [hml]; rfl) (Steps.refl _) (argsL := [.null]) (rest := []) (lenOf pd__28Lcom_2fexample_2ftidewheel_2ftidewheel_2fmodel_2fKeyedRequest_24Answer_3b_29Lcom_2fexample_2ftidewheel_2ftidewheel_2fmodel_2fKeyedRequest_3b rfl) rfl (by show 2 * 0 + _ ≤ _; exact Nat.le_of_eq rfl) (hb hby at_178) (fun _ _ => ⟨rfl, rfl, (by decide : 7 + 1 ≤ _), (by decide : 20 + 4 ≤ _)⟩)
        dsimp only [Pt.U, Pt.locs, Pt.cells, Pt.slots] at X1096 l1096 y1096 z1096 st1096 hQ1096
        replace l1096 := l1096.symm
        subst l1096
        obtain rfl : k1096 = 8 := y1096
        obtain rfl : n1096 = 24 := z1096
        obtain ⟨b1096, rfl, N1096q, K1096, sz1096, Eq1096, Fq1096_key, Fq1096_request, Fq1096_resource, Fq1096_answer⟩ := hQ1096
        have N1096 := Fr.app N1090 N1096q
        have sz_b1096 : h0.size ≤ b1096 := Nat.le_trans KP1090.1 sz1096
        have g_b1096 : n0 ≤ b1096 := Nat.le_trans Z1090 sz1096
        have KP1096 : Keep h0 T1096.heap [] := KP1090.trans K1096 all0
        have Z1096 : n0 ≤ T1096.heap.size := Nat.le_trans Z1090 K1096.1
        have O_1097 : Old Z n0 T1096.heap := O_1091.keep K1096 all0
        have E_b6_1098 : Exa Z T1096.heap b6 "java/lang/String" := E_b6_1092.keep K1096
        have E_b30_1099 : Exa Z T1096.heap b30 "java/lang/String" := E_b30_1093.keep K1096
        have E_b1085_1100 : Exa Z T1096.heap b1085 "com/example/tidewheel/tidewheel/model/KeyedRequest" := Eq1090.keep K1096
        have F_b1085_key_1101 : Fld Z T1096.heap b1085 "com/example/tidewheel/tidewheel/model/KeyedRequest" "key" "Ljava/lang/String;" (.ref b6) := Fq1090_key.keep K1096 nin0
        have F_b1085_request_1102 : Fld Z T1096.heap b1085 "com/example/tidewheel/tidewheel/model/KeyedRequest" "request" "Ljava/lang/String;" (.ref b30) := Fq1090_request.keep K1096 nin0
        have F_b1085_resource_1103 : Fld Z T1096.heap b1085 "com/example/tidewheel/tidewheel/model/KeyedRequest" "resource" "Ljava/lang/String;" .null := Fq1090_resource.keep K1096 nin0
        have F_b1085_answer_1104 : Fld Z T1096.heap b1085 "com/example/tidewheel/tidewheel/model/KeyedRequest" "answer" "Lcom/example/tidewheel/tidewheel/model/KeyedRequest$Answer;" .null := Fq1090_answer.keep K1096 nin0
        have pre1105 : ∀ t, Steps p.tables e below (T1096.setTop (mkF m 192 #[.val (.int p0), .val (.int p1), .val (.int p2), .val (.int p3), .val (.int p4), .val (.int p5), .val (.ref b6), .val (.ref b30), .val .null, .val .null, .val .null, .val (.ref b1085), .val (.ref b1096), .unset, .unset] [(.ref b1096)])) t → Steps p.tables e below (s₁.setTop (entryFrame m #[(.int p0), (.int p1), (.int p2), (.int p3), (.int p4), (.int p5)] maxLocals)) t := by
          intro t kk
          refine pre1095 t ?_
          show Steps p.tables e below (T1090.setTop (mkF m 178 #[.val (.int p0), .val (.int p1), .val (.int p2), .val (.int p3), .val (.int p4), .val (.int p5), .val (.ref b6), .val (.ref b30), .val .null, .val .null, .val .null, .val (.ref b1085), .unset, .unset, .unset] [.null, (.ref b1085)])) _
          refine st1096.trans ?_
          refine XS.astore X1096.here hx rfl (hb hby at_181) rfl rfl (l' := #[.val (.int p0), .val (.int p1), .val (.int p2), .val (.int p3), .val (.int p4), .val (.int p5), .val (.ref b6), .val (.ref b30), .val .null, .val .null, .val .null, .val (.ref b1085), .val (.ref b1096), .unset, .unset]) rfl ?_
          refine XS.aload X1096.here hx rfl (hb hby at_183) rfl rfl ?_
          refine XS.ifnonnullYes X1096.here hx rfl (pc0 := 185) (pc' := 190) rfl (hb hby at_185) rfl (by decide) (by decide) ?_
          refine XS.aload X1096.here hx rfl (hb hby at_190) rfl rfl ?_
          exact kk
        clear X1090 st1096 N1096q N1090 KP1090 Z1090 O_1091 E_b6_1092 E_b30_1093 Eq1090 Fq1090_key Fq1090_request Fq1090_resource Fq1090_answer K1096 pre1095
        as_aux_lemma =>
        obtain ⟨cq1106, kq1106, q1106a, q1106b, q1106c⟩ := isOf hZ rfl Eq1096
        obtain ⟨_, _, ⟨T1106, L1106, k1106, n1106⟩, -, X1106, ⟨Lc1106, hQ1106, l1106, y1106, z1106⟩, st1106⟩ := X1096.virtualBack hx (y := (⟨"com/example/tidewheel/tidewheel/model/KeyedRequest", "resource", "()Ljava/util/Optional;"⟩ : MethodName)) (z := (⟨"com/example/tidewheel/tidewheel/model/KeyedRequest", "resource", "()Ljava/util/Optional;"⟩ : MethodName)) hown (mt_68 hZ hw) (mt_69 hZ hw) (notFace_of_selects (args := #[]) (mt_71 hZ hw)) (mt_71 hZ hw) (mt_70 hZ hw) (by decide) (backOf (W := 0) (rm11_n l Z aA hw [] b1096  wE T1096.heap n0 Z1096 O_1097 S_EMPTY X_EMPTY G_EMPTY Fq1096_resource) hZ (hw _ tb_72) (hw _ tb_48) (by decide) (by decide)) q1106a q1106c (g := (mkF m 192 #[.val (.int p0), .val (.int p1), .val (.int p2), .val (.int p3), .val (.int p4), .val (.int p5), .val (.ref b6), .val (.ref b30), .val .null, .val .null, .val .null, .val (.ref b1085), .val (.ref b1096), .unset, .unset] [(.ref b1096)])) rfl (by rw [hml]; rfl) (Steps.refl _) (argsL := []) (rest := []) (lenOf pd__28_29Ljava_2futil_2fOptional_3b rfl) rfl (by show 2 * 0 + _ ≤ _; exact Nat.le_of_eq rfl) (hb hby at_192) (fun _ _ => ⟨rfl, rfl, (by decide : 8 + 1 ≤ _), (by decide : 24 + 1 ≤ _)⟩)
        dsimp only [Pt.U, Pt.locs, Pt.cells, Pt.slots] at X1106 l1106 y1106 z1106 st1106 hQ1106
        replace l1106 := l1106.symm
        subst l1106
        obtain rfl : k1106 = 9 := y1106
        obtain rfl : n1106 = 25 := z1106
        obtain ⟨b1106, rfl, N1106q, K1106, Eq1106, Fq1106⟩ := hQ1106
        have N1106 := Fr.app N1096 N1106q
        have KP1106 : Keep h0 T1106.heap [] := KP1096.trans K1106 all0
        have Z1106 : n0 ≤ T1106.heap.size := Nat.le_trans Z1096 K1106.1
        have O_1107 : Old Z n0 T1106.heap := O_1097.keep K1106 all0
        have E_b6_1108 : Exa Z T1106.heap b6 "java/lang/String" := E_b6_1098.keep K1106
        have E_b30_1109 : Exa Z T1106.heap b30 "java/lang/String" := E_b30_1099.keep K1106
        have E_b1085_1110 : Exa Z T1106.heap b1085 "com/example/tidewheel/tidewheel/model/KeyedRequest" := E_b1085_1100.keep K1106
        have F_b1085_key_1111 : Fld Z T1106.heap b1085 "com/example/tidewheel/tidewheel/model/KeyedRequest" "key" "Ljava/lang/String;" (.ref b6) := F_b1085_key_1101.keep K1106 nin0
        have F_b1085_request_1112 : Fld Z T1106.heap b1085 "com/example/tidewheel/tidewheel/model/KeyedRequest" "request" "Ljava/lang/String;" (.ref b30) := F_b1085_request_1102.keep K1106 nin0
        have F_b1085_resource_1113 : Fld Z T1106.heap b1085 "com/example/tidewheel/tidewheel/model/KeyedRequest" "resource" "Ljava/lang/String;" .null := F_b1085_resource_1103.keep K1106 nin0
        have F_b1085_answer_1114 : Fld Z T1106.heap b1085 "com/example/tidewheel/tidewheel/model/KeyedRequest" "answer" "Lcom/example/tidewheel/tidewheel/model/KeyedRequest$Answer;" .null := F_b1085_answer_1104.keep K1106 nin0
        have E_b1096_1115 : Exa Z T1106.heap b1096 "com/example/tidewheel/tidewheel/model/KeyedRequest" := Eq1096.keep K1106
        have F_b1096_key_1116 : Fld Z T1106.heap b1096 "com/example/tidewheel/tidewheel/model/KeyedRequest" "key" "Ljava/lang/String;" (.ref b6) := Fq1096_key.keep K1106 nin0
        have F_b1096_request_1117 : Fld Z T1106.heap b1096 "com/example/tidewheel/tidewheel/model/KeyedRequest" "request" "Ljava/lang/String;" (.ref b30) := Fq1096_request.keep K1106 nin0
        have F_b1096_resource_1118 : Fld Z T1106.heap b1096 "com/example/tidewheel/tidewheel/model/KeyedRequest" "resource" "Ljava/lang/String;" .null := Fq1096_resource.keep K1106 nin0
        have F_b1096_answer_1119 : Fld Z T1106.heap b1096 "com/example/tidewheel/tidewheel/model/KeyedRequest" "answer" "Lcom/example/tidewheel/tidewheel/model/KeyedRequest$Answer;" .null := Fq1096_answer.keep K1106 nin0
        have pre1120 : ∀ t, Steps p.tables e below (T1106.setTop (mkF m 196 #[.val (.int p0), .val (.int p1), .val (.int p2), .val (.int p3), .val (.int p4), .val (.int p5), .val (.ref b6), .val (.ref b30), .val .null, .val .null, .val .null, .val (.ref b1085), .val (.ref b1096), .unset, .unset] [.null, (.ref b1106)])) t → Steps p.tables e below (s₁.setTop (entryFrame m #[(.int p0), (.int p1), (.int p2), (.int p3), (.int p4), (.int p5)] maxLocals)) t := by
          intro t kk
          refine pre1105 t ?_
          show Steps p.tables e below (T1096.setTop (mkF m 192 #[.val (.int p0), .val (.int p1), .val (.int p2), .val (.int p3), .val (.int p4), .val (.int p5), .val (.ref b6), .val (.ref b30), .val .null, .val .null, .val .null, .val (.ref b1085), .val (.ref b1096), .unset, .unset] [(.ref b1096)])) _
          refine st1106.trans ?_
          refine XS.aconstNull X1106.here hx rfl (hb hby at_195) ?_
          exact kk
        clear X1096 st1106 N1106q N1096 KP1096 Z1096 O_1097 E_b6_1098 E_b30_1099 E_b1085_1100 F_b1085_key_1101 F_b1085_request_1102 F_b1085_resource_1103 F_b1085_answer_1104 Eq1096 Fq1096_key Fq1096_request Fq1096_resource Fq1096_answer K1106 pre1105
        as_aux_lemma =>
        obtain ⟨cq1121, kq1121, q1121a, q1121b, q1121c⟩ := isOf hZ rfl Eq1106
        obtain ⟨_, _, ⟨T1121, L1121, k1121, n1121⟩, -, X1121, ⟨Lc1121, hQ1121, l1121, y1121, z1121⟩, st1121⟩ := X1106.virtualBack hx (y := (⟨"java/util/Optional", "orElse", "(Ljava/lang/Object;)Ljava/lang/Object;"⟩ : MethodName)) (z := (⟨"java/util/Optional", "orElse", "(Ljava/lang/Object;)Ljava/lang/Object;"⟩ : MethodName)) hown (mt_78 hZ hw) (mt_79 hZ hw) (notFace_of_selects (args := #[]) (mt_81 hZ hw)) (mt_81 hZ hw) (mt_80 hZ hw) (by decide) (backOf (W := 0) (rm13_n l Z aA hw [] b1106  T1106.heap n0 Z1106 Fq1106) hZ (hw _ tb_82) (hw _ tb_75) (by decide) (by decide)) q1121a q1121c (g := (mkF m 196 #[.val (.int p0), .val (.int p1), .val (.int p2), .val (.int p3), .val (.int p4), .val (.int p5), .val (.ref b6), .val (.ref b30), .val .null, .val .null, .val .null, .val (.ref b1085), .val (.ref b1096), .unset, .unset] [.null, (.ref b1106)])) rfl (by rw [hml]; rfl) (Steps.refl _) (argsL := [.null]) (rest := []) (lenOf pd__28Ljava_2flang_2fObject_3b_29Ljava_2flang_2fObject_3b rfl) rfl (by show 2 * 0 + _ ≤ _; exact Nat.le_of_eq rfl) (hb hby at_196) (fun _ _ => ⟨rfl, rfl, (by decide : 9 + 0 ≤ _), (by decide : 25 + 0 ≤ _)⟩)
        dsimp only [Pt.U, Pt.locs, Pt.cells, Pt.slots] at X1121 l1121 y1121 z1121 st1121 hQ1121
        replace l1121 := l1121.symm
        subst l1121
        obtain rfl : k1121 = 9 := y1121
        obtain rfl : n1121 = 25 := z1121
        obtain ⟨rfl, N1121q, e1121⟩ := hQ1121
        have N1121 := Fr.app N1106 N1121q
        have pre1122 : ∀ t, Steps p.tables e below (T1121.setTop (mkF m 235 #[.val (.int p0), .val (.int p1), .val (.int p2), .val (.int p3), .val (.int p4), .val (.int p5), .val (.ref b6), .val (.ref b30), .val .null, .val .null, .val .null, .val (.ref b1085), .val (.ref b1096), .val .null, .val (.int (1 : Int32))] [(.ref b1096), (.ref b6)])) t → Steps p.tables e below (s₁.setTop (entryFrame m #[(.int p0), (.int p1), (.int p2), (.int p3), (.int p4), (.int p5)] maxLocals)) t := by
          intro t kk
          refine pre1120 t ?_
          show Steps p.tables e below (T1106.setTop (mkF m 196 #[.val (.int p0), .val (.int p1), .val (.int p2), .val (.int p3), .val (.int p4), .val (.int p5), .val (.ref b6), .val (.ref b30), .val .null, .val .null, .val .null, .val (.ref b1085), .val (.ref b1096), .unset, .unset] [.null, (.ref b1106)])) _
          refine st1121.trans ?_
          refine X1121.checkcastNull hx (g := (mkF m 199 #[.val (.int p0), .val (.int p1), .val (.int p2), .val (.int p3), .val (.int p4), .val (.int p5), .val (.ref b6), .val (.ref b30), .val .null, .val .null, .val .null, .val (.ref b1085), .val (.ref b1096), .unset, .unset] [.null])) rfl rfl (hb hby at_199) _ ?_
          refine XS.astore X1121.here hx rfl (hb hby at_202) rfl rfl (l' := #[.val (.int p0), .val (.int p1), .val (.int p2), .val (.int p3), .val (.int p4), .val (.int p5), .val (.ref b6), .val (.ref b30), .val .null, .val .null, .val .null, .val (.ref b1085), .val (.ref b1096), .val .null, .unset]) rfl ?_
          refine XS.aload X1121.here hx rfl (hb hby at_204) rfl rfl ?_
          refine XS.ifnonnullNo X1121.here hx rfl (hb hby at_206) rfl ?_
          refine XS.aload X1121.here hx rfl (hb hby at_209) rfl rfl ?_
          refine XS.ifnonnullNo X1121.here hx rfl (hb hby at_211) rfl ?_
          refine XS.iconst X1121.here hx rfl (hb hby at_214) ?_
          refine XS.goto X1121.here hx rfl (pc0 := 215) (pc' := 229) rfl (hb hby at_215) (by decide) (by decide) ?_
          refine XS.istore X1121.here hx rfl (hb hby at_229) rfl (l' := #[.val (.int p0), .val (.int p1), .val (.int p2), .val (.int p3), .val (.int p4), .val (.int p5), .val (.ref b6), .val (.ref b30), .val .null, .val .null, .val .null, .val (.ref b1085), .val (.ref b1096), .val .null, .val (.int (1 : Int32))]) rfl ?_
          refine XS.aload X1121.here hx rfl (hb hby at_231) rfl rfl ?_
          refine XS.aload X1121.here hx rfl (hb hby at_233) rfl rfl ?_
          exact kk
        clear X1106 st1121 N1121q N1106 pre1120
        as_aux_lemma =>
        obtain ⟨cq1123, kq1123, q1123a, q1123b, q1123c⟩ := isOf hZ e1121 E_b1096_1115
        obtain ⟨_, _, ⟨T1123, L1123, k1123, n1123⟩, -, X1123, ⟨Lc1123, hQ1123, l1123, y1123, z1123⟩, st1123⟩ := X1121.virtualBack hx (y := (⟨"com/example/tidewheel/tidewheel/model/KeyedRequest", "key", "()Ljava/lang/String;"⟩ : MethodName)) (z := (⟨"com/example/tidewheel/tidewheel/model/KeyedRequest", "key", "()Ljava/lang/String;"⟩ : MethodName)) hown (mt_85 hZ hw) (mt_86 hZ hw) (notFace_of_selects (args := #[]) (mt_88 hZ hw)) (mt_88 hZ hw) (mt_87 hZ hw) (by decide) (backOf (W := 1) (rm14 l Z aA hw [] b1096 b6 T1106.heap n0 Z1106 F_b1096_key_1116) hZ (hw _ tb_89) (hw _ tb_48) (by decide) (by decide)) q1123a q1123c (g := (mkF m 235 #[.val (.int p0), .val (.int p1), .val (.int p2), .val (.int p3), .val (.int p4), .val (.int p5), .val (.ref b6), .val (.ref b30), .val .null, .val .null, .val .null, .val (.ref b1085), .val (.ref b1096), .val .null, .val (.int (1 : Int32))] [(.ref b1096), (.ref b6)])) rfl (by rw [hml]; rfl) (Steps.refl _) (argsL := []) (rest := [(.ref b6)]) (lenOf pd__28_29Ljava_2flang_2fString_3b rfl) rfl (by show 2 * 0 + _ ≤ _; exact Nat.le_of_eq rfl) (hb hby at_235) (fun _ _ => ⟨rfl, e1121, (by decide : 9 + 0 ≤ _), (by decide : 25 + 0 ≤ _)⟩)
        dsimp only [Pt.U, Pt.locs, Pt.cells, Pt.slots] at X1123 l1123 y1123 z1123 st1123 hQ1123
        replace l1123 := l1123.symm
        subst l1123
        obtain rfl : k1123 = 9 := y1123
        obtain rfl : n1123 = 25 := z1123
        obtain ⟨rfl, N1123q, e1123⟩ := hQ1123
        have N1123 := Fr.app N1121 N1123q
        have pre1124 : ∀ t, Steps p.tables e below (T1123.setTop (mkF m 238 #[.val (.int p0), .val (.int p1), .val (.int p2), .val (.int p3), .val (.int p4), .val (.int p5), .val (.ref b6), .val (.ref b30), .val .null, .val .null, .val .null, .val (.ref b1085), .val (.ref b1096), .val .null, .val (.int (1 : Int32))] [(.ref b6), (.ref b6)])) t → Steps p.tables e below (s₁.setTop (entryFrame m #[(.int p0), (.int p1), (.int p2), (.int p3), (.int p4), (.int p5)] maxLocals)) t := by
          intro t kk
          refine pre1122 t ?_
          show Steps p.tables e below (T1121.setTop (mkF m 235 #[.val (.int p0), .val (.int p1), .val (.int p2), .val (.int p3), .val (.int p4), .val (.int p5), .val (.ref b6), .val (.ref b30), .val .null, .val .null, .val .null, .val (.ref b1085), .val (.ref b1096), .val .null, .val (.int (1 : Int32))] [(.ref b1096), (.ref b6)])) _
          refine st1123.trans ?_
          exact kk
        clear X1121 e1121 st1123 N1123q N1121 pre1122
        as_aux_lemma =>
        obtain ⟨cq1125, kq1125, q1125a, q1125b, q1125c⟩ := isOf hZ e1123 E_b6_1108
        obtain ⟨_, _, ⟨T1125, L1125, k1125, n1125⟩, -, X1125, ⟨Lc1125, hQ1125, l1125, y1125, z1125⟩, st1125⟩ := X1123.virtualBack hx (y := (⟨"java/lang/String", "equals", "(Ljava/lang/Object;)Z"⟩ : MethodName)) (z := (⟨"java/lang/String", "equals", "(Ljava/lang/Object;)Z"⟩ : MethodName)) hown (mt_90 hZ hw) (mt_91 hZ hw) (notFace_of_selects (args := #[]) (mt_93 hZ hw)) (mt_93 hZ hw) (mt_92 hZ hw) (by decide) (backOf (W := 0) (rm15 l Z aA hw [] b6 T1106.heap n0 Z1106) hZ (hw _ tb_94) (hw _ tb_2) (by decide) (by decide)) q1125a q1125c (g := (mkF m 238 #[.val (.int p0), .val (.int p1), .val (.int p2), .val (.int p3), .val (.int p4), .val (.int p5), .val (.ref b6), .val (.ref b30), .val .null, .val .null, .val .null, .val (.ref b1085), .val (.ref b1096), .val .null, .val (.int (1 : Int32))] [(.ref b6), (.ref b6)])) rfl (by rw [hml]; rfl) (Steps.refl _) (argsL := [(.ref b6)]) (rest := []) (lenOf pd__28Ljava_2flang_2fObject_3b_29Z rfl) rfl (by show 2 * 0 + _ ≤ _; exact Nat.le_of_eq rfl) (hb hby at_238) (fun _ _ => ⟨rfl, e1123, (by decide : 9 + 0 ≤ _), (by decide : 25 + 0 ≤ _)⟩)
        dsimp only [Pt.U, Pt.locs, Pt.cells, Pt.slots] at X1125 l1125 y1125 z1125 st1125 hQ1125
        replace l1125 := l1125.symm
        subst l1125
        obtain rfl : k1125 = 9 := y1125
        obtain rfl : n1125 = 25 := z1125
        obtain ⟨rfl, N1125q, e1125⟩ := hQ1125
        have N1125 := Fr.app N1123 N1125q
        have pre1126 : ∀ t, Steps p.tables e below (T1125.setTop (mkF m 248 #[.val (.int p0), .val (.int p1), .val (.int p2), .val (.int p3), .val (.int p4), .val (.int p5), .val (.ref b6), .val (.ref b30), .val .null, .val .null, .val .null, .val (.ref b1085), .val (.ref b1096), .val .null, .val (.int (1 : Int32))] [(.ref b1096), (.ref b30)])) t → Steps p.tables e below (s₁.setTop (entryFrame m #[(.int p0), (.int p1), (.int p2), (.int p3), (.int p4), (.int p5)] maxLocals)) t := by
          intro t kk
          refine pre1124 t ?_
          show Steps p.tables e below (T1123.setTop (mkF m 238 #[.val (.int p0), .val (.int p1), .val (.int p2), .val (.int p3), .val (.int p4), .val (.int p5), .val (.ref b6), .val (.ref b30), .val .null, .val .null, .val .null, .val (.ref b1085), .val (.ref b1096), .val .null, .val (.int (1 : Int32))] [(.ref b6), (.ref b6)])) _
          refine st1125.trans ?_
          refine XS.ifNo X1125.here hx rfl (hb hby at_241) rfl ((if0 _ _).trans (feq (by decide : ¬ ((1 : Int32) = (0 : Int32)))).1) ?_
          refine XS.aload X1125.here hx rfl (hb hby at_244) rfl rfl ?_
          refine XS.aload X1125.here hx rfl (hb hby at_246) rfl rfl ?_
          exact kk
        clear X1123 e1123 st1125 N1125q N1123 pre1124
        as_aux_lemma =>
        obtain ⟨cq1127, kq1127, q1127a, q1127b, q1127c⟩ := isOf hZ e1125 E_b1096_1115
        obtain ⟨_, _, ⟨T1127, L1127, k1127, n1127⟩, -, X1127, ⟨Lc1127, hQ1127, l1127, y1127, z1127⟩, st1127⟩ := X1125.virtualBack hx (y := (⟨"com/example/tidewheel/tidewheel/model/KeyedRequest", "request", "()Ljava/lang/String;"⟩ : MethodName)) (z := (⟨"com/example/tidewheel/tidewheel/model/KeyedRequest", "request", "()Ljava/lang/String;"⟩ : MethodName)) hown (mt_95 hZ hw) (mt_96 hZ hw) (notFace_of_selects (args := #[]) (mt_98 hZ hw)) (mt_98 hZ hw) (mt_97 hZ hw) (by decide) (backOf (W := 1) (rm16 l Z aA hw [] b1096 b30 T1106.heap n0 Z1106 F_b1096_request_1117) hZ (hw _ tb_99) (hw _ tb_48) (by decide) (by decide)) q1127a q1127c (g := (mkF m 248 #[.val (.int p0), .val (.int p1), .val (.int p2), .val (.int p3), .val (.int p4), .val (.int p5), .val (.ref b6), .val (.ref b30), .val .null, .val .null, .val .null, .val (.ref b1085), .val (.ref b1096), .val .null, .val (.int (1 : Int32))] [(.ref b1096), (.ref b30)])) rfl (by rw [hml]; rfl) (Steps.refl _) (argsL := []) (rest := [(.ref b30)]) (lenOf pd__28_29Ljava_2flang_2fString_3b rfl) rfl (by show 2 * 0 + _ ≤ _; exact Nat.le_of_eq rfl) (hb hby at_248) (fun _ _ => ⟨rfl, e1125, (by decide : 9 + 0 ≤ _), (by decide : 25 + 0 ≤ _)⟩)
        dsimp only [Pt.U, Pt.locs, Pt.cells, Pt.slots] at X1127 l1127 y1127 z1127 st1127 hQ1127
        replace l1127 := l1127.symm
        subst l1127
        obtain rfl : k1127 = 9 := y1127
        obtain rfl : n1127 = 25 := z1127
        obtain ⟨rfl, N1127q, e1127⟩ := hQ1127
        have N1127 := Fr.app N1125 N1127q
        have pre1128 : ∀ t, Steps p.tables e below (T1127.setTop (mkF m 251 #[.val (.int p0), .val (.int p1), .val (.int p2), .val (.int p3), .val (.int p4), .val (.int p5), .val (.ref b6), .val (.ref b30), .val .null, .val .null, .val .null, .val (.ref b1085), .val (.ref b1096), .val .null, .val (.int (1 : Int32))] [(.ref b30), (.ref b30)])) t → Steps p.tables e below (s₁.setTop (entryFrame m #[(.int p0), (.int p1), (.int p2), (.int p3), (.int p4), (.int p5)] maxLocals)) t := by
          intro t kk
          refine pre1126 t ?_
          show Steps p.tables e below (T1125.setTop (mkF m 248 #[.val (.int p0), .val (.int p1), .val (.int p2), .val (.int p3), .val (.int p4), .val (.int p5), .val (.ref b6), .val (.ref b30), .val .null, .val .null, .val .null, .val (.ref b1085), .val (.ref b1096), .val .null, .val (.int (1 : Int32))] [(.ref b1096), (.ref b30)])) _
          refine st1127.trans ?_
          exact kk
        clear X1125 e1125 st1127 N1127q N1125 pre1126
        as_aux_lemma =>
        obtain ⟨cq1129, kq1129, q1129a, q1129b, q1129c⟩ := isOf hZ e1127 E_b30_1109
        obtain ⟨_, _, ⟨T1129, L1129, k1129, n1129⟩, -, X1129, ⟨Lc1129, hQ1129, l1129, y1129, z1129⟩, st1129⟩ := X1127.virtualBack hx (y := (⟨"java/lang/String", "equals", "(Ljava/lang/Object;)Z"⟩ : MethodName)) (z := (⟨"java/lang/String", "equals", "(Ljava/lang/Object;)Z"⟩ : MethodName)) hown (mt_90 hZ hw) (mt_91 hZ hw) (notFace_of_selects (args := #[]) (mt_93 hZ hw)) (mt_93 hZ hw) (mt_92 hZ hw) (by decide) (backOf (W := 0) (rm15 l Z aA hw [] b30 T1106.heap n0 Z1106) hZ (hw _ tb_94) (hw _ tb_2) (by decide) (by decide)) q1129a q1129c (g := (mkF m 251 #[.val (.int p0), .val (.int p1), .val (.int p2), .val (.int p3), .val (.int p4), .val (.int p5), .val (.ref b6), .val (.ref b30), .val .null, .val .null, .val .null, .val (.ref b1085), .val (.ref b1096), .val .null, .val (.int (1 : Int32))] [(.ref b30), (.ref b30)])) rfl (by rw [hml]; rfl) (Steps.refl _) (argsL := [(.ref b30)]) (rest := []) (lenOf pd__28Ljava_2flang_2fObject_3b_29Z rfl) rfl (by show 2 * 0 + _ ≤ _; exact Nat.le_of_eq rfl) (hb hby at_251) (fun _ _ => ⟨rfl, e1127, (by decide : 9 + 0 ≤ _), (by decide : 25 + 0 ≤ _)⟩)
        dsimp only [Pt.U, Pt.locs, Pt.cells, Pt.slots] at X1129 l1129 y1129 z1129 st1129 hQ1129
        replace l1129 := l1129.symm
        subst l1129
        obtain rfl : k1129 = 9 := y1129
        obtain rfl : n1129 = 25 := z1129
        obtain ⟨rfl, N1129q, e1129⟩ := hQ1129
        have N1129 := Fr.app N1127 N1129q
        have pre1130 : ∀ t, Steps p.tables e below (T1129.setTop (mkF m 264 #[.val (.int p0), .val (.int p1), .val (.int p2), .val (.int p3), .val (.int p4), .val (.int p5), .val (.ref b6), .val (.ref b30), .val .null, .val .null, .val .null, .val (.ref b1085), .val (.ref b1096), .val .null, .val (.int (1 : Int32))] [(.ref b1096)])) t → Steps p.tables e below (s₁.setTop (entryFrame m #[(.int p0), (.int p1), (.int p2), (.int p3), (.int p4), (.int p5)] maxLocals)) t := by
          intro t kk
          refine pre1128 t ?_
          show Steps p.tables e below (T1127.setTop (mkF m 251 #[.val (.int p0), .val (.int p1), .val (.int p2), .val (.int p3), .val (.int p4), .val (.int p5), .val (.ref b6), .val (.ref b30), .val .null, .val .null, .val .null, .val (.ref b1085), .val (.ref b1096), .val .null, .val (.int (1 : Int32))] [(.ref b30), (.ref b30)])) _
          refine st1129.trans ?_
          refine XS.ifNo X1129.here hx rfl (hb hby at_254) rfl ((if0 _ _).trans (feq (by decide : ¬ ((1 : Int32) = (0 : Int32)))).1) ?_
          refine XS.iload X1129.here hx rfl (hb hby at_257) rfl ?_
          refine XS.ifNo X1129.here hx rfl (hb hby at_259) rfl ((if0 _ _).trans (feq (by decide : ¬ ((1 : Int32) = (0 : Int32)))).1) ?_
          refine XS.aload X1129.here hx rfl (hb hby at_262) rfl rfl ?_
          exact kk
        clear X1127 e1127 st1129 N1129q N1127 pre1128
        as_aux_lemma =>
        obtain ⟨cq1131, kq1131, q1131a, q1131b, q1131c⟩ := isOf hZ e1129 E_b1096_1115
        obtain ⟨_, _, ⟨T1131, L1131, k1131, n1131⟩, -, X1131, ⟨Lc1131, hQ1131, l1131, y1131, z1131⟩, st1131⟩ := X1129.virtualBack hx (y := (⟨"com/example/tidewheel/tidewheel/model/KeyedRequest", "answer", "()Ljava/util/Optional;"⟩ : MethodName)) (z := (⟨"com/example/tidewheel/tidewheel/model/KeyedRequest", "answer", "()Ljava/util/Optional;"⟩ : MethodName)) hown (mt_100 hZ hw) (mt_101 hZ hw) (notFace_of_selects (args := #[]) (mt_103 hZ hw)) (mt_103 hZ hw) (mt_102 hZ hw) (by decide) (backOf (W := 0) (rm17_n l Z aA hw [] b1096  wE T1106.heap n0 Z1106 O_1107 S_EMPTY X_EMPTY G_EMPTY F_b1096_answer_1119) hZ (hw _ tb_104) (hw _ tb_48) (by decide) (by decide)) q1131a q1131c (g := (mkF m 264 #[.val (.int p0), .val (.int p1), .val (.int p2), .val (.int p3), .val (.int p4), .val (.int p5), .val (.ref b6), .val (.ref b30), .val .null, .val .null, .val .null, .val (.ref b1085), .val (.ref b1096), .val .null, .val (.int (1 : Int32))] [(.ref b1096)])) rfl (by rw [hml]; rfl) (Steps.refl _) (argsL := []) (rest := []) (lenOf pd__28_29Ljava_2futil_2fOptional_3b rfl) rfl (by show 2 * 0 + _ ≤ _; exact Nat.le_of_eq rfl) (hb hby at_264) (fun _ _ => ⟨rfl, e1129, (by decide : 9 + 1 ≤ _), (by decide : 25 + 1 ≤ _)⟩)
        dsimp only [Pt.U, Pt.locs, Pt.cells, Pt.slots] at X1131 l1131 y1131 z1131 st1131 hQ1131
        replace l1131 := l1131.symm
        subst l1131
        obtain rfl : k1131 = 10 := y1131
        obtain rfl : n1131 = 26 := z1131
        obtain ⟨b1131, rfl, N1131q, K1131, Eq1131, Fq1131⟩ := hQ1131
        have N1131 := Fr.app N1129 N1131q
        have KP1131 : Keep h0 T1131.heap [] := KP1106.trans K1131 all0
        have Z1131 : n0 ≤ T1131.heap.size := Nat.le_trans Z1106 K1131.1
        have O_1132 : Old Z n0 T1131.heap := O_1107.keep K1131 all0
        have E_b6_1133 : Exa Z T1131.heap b6 "java/lang/String" := E_b6_1108.keep K1131
        have E_b30_1134 : Exa Z T1131.heap b30 "java/lang/String" := E_b30_1109.keep K1131
        have E_b1085_1135 : Exa Z T1131.heap b1085 "com/example/tidewheel/tidewheel/model/KeyedRequest" := E_b1085_1110.keep K1131
        have F_b1085_key_1136 : Fld Z T1131.heap b1085 "com/example/tidewheel/tidewheel/model/KeyedRequest" "key" "Ljava/lang/String;" (.ref b6) := F_b1085_key_1111.keep K1131 nin0
        have F_b1085_request_1137 : Fld Z T1131.heap b1085 "com/example/tidewheel/tidewheel/model/KeyedRequest" "request" "Ljava/lang/String;" (.ref b30) := F_b1085_request_1112.keep K1131 nin0
        have F_b1085_resource_1138 : Fld Z T1131.heap b1085 "com/example/tidewheel/tidewheel/model/KeyedRequest" "resource" "Ljava/lang/String;" .null := F_b1085_resource_1113.keep K1131 nin0
        have F_b1085_answer_1139 : Fld Z T1131.heap b1085 "com/example/tidewheel/tidewheel/model/KeyedRequest" "answer" "Lcom/example/tidewheel/tidewheel/model/KeyedRequest$Answer;" .null := F_b1085_answer_1114.keep K1131 nin0
        have E_b1096_1140 : Exa Z T1131.heap b1096 "com/example/tidewheel/tidewheel/model/KeyedRequest" := E_b1096_1115.keep K1131
        have F_b1096_key_1141 : Fld Z T1131.heap b1096 "com/example/tidewheel/tidewheel/model/KeyedRequest" "key" "Ljava/lang/String;" (.ref b6) := F_b1096_key_1116.keep K1131 nin0
        have F_b1096_request_1142 : Fld Z T1131.heap b1096 "com/example/tidewheel/tidewheel/model/KeyedRequest" "request" "Ljava/lang/String;" (.ref b30) := F_b1096_request_1117.keep K1131 nin0
        have F_b1096_resource_1143 : Fld Z T1131.heap b1096 "com/example/tidewheel/tidewheel/model/KeyedRequest" "resource" "Ljava/lang/String;" .null := F_b1096_resource_1118.keep K1131 nin0
        have F_b1096_answer_1144 : Fld Z T1131.heap b1096 "com/example/tidewheel/tidewheel/model/KeyedRequest" "answer" "Lcom/example/tidewheel/tidewheel/model/KeyedRequest$Answer;" .null := F_b1096_answer_1119.keep K1131 nin0
        have E_b1106_1145 : Exa Z T1131.heap b1106 "java/util/Optional" := Eq1106.keep K1131
        have F_b1106_value_1146 : Fld Z T1131.heap b1106 "java/util/Optional" "value" "Ljava/lang/Object;" .null := Fq1106.keep K1131 nin0
        have pre1147 : ∀ t, Steps p.tables e below (T1131.setTop (mkF m 268 #[.val (.int p0), .val (.int p1), .val (.int p2), .val (.int p3), .val (.int p4), .val (.int p5), .val (.ref b6), .val (.ref b30), .val .null, .val .null, .val .null, .val (.ref b1085), .val (.ref b1096), .val .null, .val (.int (1 : Int32))] [.null, (.ref b1131)])) t → Steps p.tables e below (s₁.setTop (entryFrame m #[(.int p0), (.int p1), (.int p2), (.int p3), (.int p4), (.int p5)] maxLocals)) t := by
          intro t kk
          refine pre1130 t ?_
          show Steps p.tables e below (T1129.setTop (mkF m 264 #[.val (.int p0), .val (.int p1), .val (.int p2), .val (.int p3), .val (.int p4), .val (.int p5), .val (.ref b6), .val (.ref b30), .val .null, .val .null, .val .null, .val (.ref b1085), .val (.ref b1096), .val .null, .val (.int (1 : Int32))] [(.ref b1096)])) _
          refine st1131.trans ?_
          refine XS.aconstNull X1131.here hx rfl (hb hby at_267) ?_
          exact kk
        clear X1129 e1129 st1131 N1131q N1129 KP1106 Z1106 O_1107 E_b6_1108 E_b30_1109 E_b1085_1110 F_b1085_key_1111 F_b1085_request_1112 F_b1085_resource_1113 F_b1085_answer_1114 E_b1096_1115 F_b1096_key_1116 F_b1096_request_1117 F_b1096_resource_1118 F_b1096_answer_1119 Eq1106 Fq1106 K1131 pre1130
        as_aux_lemma =>
        obtain ⟨cq1148, kq1148, q1148a, q1148b, q1148c⟩ := isOf hZ rfl Eq1131
        obtain ⟨_, _, ⟨T1148, L1148, k1148, n1148⟩, -, X1148, ⟨Lc1148, hQ1148, l1148, y1148, z1148⟩, st1148⟩ := X1131.virtualBack hx (y := (⟨"java/util/Optional", "orElse", "(Ljava/lang/Object;)Ljava/lang/Object;"⟩ : MethodName)) (z := (⟨"java/util/Optional", "orElse", "(Ljava/lang/Object;)Ljava/lang/Object;"⟩ : MethodName)) hown (mt_78 hZ hw) (mt_79 hZ hw) (notFace_of_selects (args := #[]) (mt_81 hZ hw)) (mt_81 hZ hw) (mt_80 hZ hw) (by decide) (backOf (W := 0) (rm13_n l Z aA hw [] b1131  T1131.heap n0 Z1131 Fq1131) hZ (hw _ tb_82) (hw _ tb_75) (by decide) (by decide)) q1148a q1148c (g := (mkF m 268 #[.val (.int p0), .val (.int p1), .val (.int p2), .val (.int p3), .val (.int p4), .val (.int p5), .val (.ref b6), .val (.ref b30), .val .null, .val .null, .val .null, .val (.ref b1085), .val (.ref b1096), .val .null, .val (.int (1 : Int32))] [.null, (.ref b1131)])) rfl (by rw [hml]; rfl) (Steps.refl _) (argsL := [.null]) (rest := []) (lenOf pd__28Ljava_2flang_2fObject_3b_29Ljava_2flang_2fObject_3b rfl) rfl (by show 2 * 0 + _ ≤ _; exact Nat.le_of_eq rfl) (hb hby at_268) (fun _ _ => ⟨rfl, rfl, (by decide : 10 + 0 ≤ _), (by decide : 26 + 0 ≤ _)⟩)
        dsimp only [Pt.U, Pt.locs, Pt.cells, Pt.slots] at X1148 l1148 y1148 z1148 st1148 hQ1148
        replace l1148 := l1148.symm
        subst l1148
        obtain rfl : k1148 = 10 := y1148
        obtain rfl : n1148 = 26 := z1148
        obtain ⟨rfl, N1148q, e1148⟩ := hQ1148
        have N1148 := Fr.app N1131 N1148q
        have pre1149 : ∀ t, Steps p.tables e below (T1148.setTop (mkF m 278 #[.val (.int p0), .val (.int p1), .val (.int p2), .val (.int p3), .val (.int p4), .val (.int p5), .val (.ref b6), .val (.ref b30), .val .null, .val .null, .val .null, .val (.ref b1085), .val (.ref b1096), .val .null, .val (.int (1 : Int32))] [(.ref b1085)])) t → Steps p.tables e below (s₁.setTop (entryFrame m #[(.int p0), (.int p1), (.int p2), (.int p3), (.int p4), (.int p5)] maxLocals)) t := by
          intro t kk
          refine pre1147 t ?_
          show Steps p.tables e below (T1131.setTop (mkF m 268 #[.val (.int p0), .val (.int p1), .val (.int p2), .val (.int p3), .val (.int p4), .val (.int p5), .val (.ref b6), .val (.ref b30), .val .null, .val .null, .val .null, .val (.ref b1085), .val (.ref b1096), .val .null, .val (.int (1 : Int32))] [.null, (.ref b1131)])) _
          refine st1148.trans ?_
          refine XS.aload X1148.here hx rfl (hb hby at_271) rfl rfl ?_
          refine Jvm.RoadKit.acmp (g := (mkF m 273 #[.val (.int p0), .val (.int p1), .val (.int p2), .val (.int p3), .val (.int p4), .val (.int p5), .val (.ref b6), .val (.ref b30), .val .null, .val .null, .val .null, .val (.ref b1085), .val (.ref b1096), .val .null, .val (.int (1 : Int32))] [.null, .null])) X1148 hx rfl rfl rfl (pc0 := 273) (pc' := 276) (same := true) rfl (hb hby at_273) rfl (decide_eq_true rfl) (by decide) (by decide) ?_
          refine XS.aload X1148.here hx rfl (hb hby at_276) rfl rfl ?_
          exact kk
        clear X1131 st1148 N1148q N1131 pre1147
        as_aux_lemma =>
        obtain ⟨cq1150, kq1150, q1150a, q1150b, q1150c⟩ := isOf hZ e1148 E_b1085_1135
        obtain ⟨_, _, ⟨T1150, L1150, k1150, n1150⟩, -, X1150, ⟨Lc1150, hQ1150, l1150, y1150, z1150⟩, st1150⟩ := X1148.virtualBack hx (y := (⟨"com/example/tidewheel/tidewheel/model/KeyedRequest", "answer", "()Ljava/util/Optional;"⟩ : MethodName)) (z := (⟨"com/example/tidewheel/tidewheel/model/KeyedRequest", "answer", "()Ljava/util/Optional;"⟩ : MethodName)) hown (mt_100 hZ hw) (mt_101 hZ hw) (notFace_of_selects (args := #[]) (mt_103 hZ hw)) (mt_103 hZ hw) (mt_102 hZ hw) (by decide) (backOf (W := 0) (rm17_n l Z aA hw [] b1085  wE T1131.heap n0 Z1131 O_1132 S_EMPTY X_EMPTY G_EMPTY F_b1085_answer_1139) hZ (hw _ tb_104) (hw _ tb_48) (by decide) (by decide)) q1150a q1150c (g := (mkF m 278 #[.val (.int p0), .val (.int p1), .val (.int p2), .val (.int p3), .val (.int p4), .val (.int p5), .val (.ref b6), .val (.ref b30), .val .null, .val .null, .val .null, .val (.ref b1085), .val (.ref b1096), .val .null, .val (.int (1 : Int32))] [(.ref b1085)])) rfl (by rw [hml]; rfl) (Steps.refl _) (argsL := []) (rest := []) (lenOf pd__28_29Ljava_2futil_2fOptional_3b rfl) rfl (by show 2 * 0 + _ ≤ _; exact Nat.le_of_eq rfl) (hb hby at_278) (fun _ _ => ⟨rfl, e1148, (by decide : 10 + 1 ≤ _), (by decide : 26 + 1 ≤ _)⟩)
        dsimp only [Pt.U, Pt.locs, Pt.cells, Pt.slots] at X1150 l1150 y1150 z1150 st1150 hQ1150
        replace l1150 := l1150.symm
        subst l1150
        obtain rfl : k1150 = 11 := y1150
        obtain rfl : n1150 = 27 := z1150
        obtain ⟨b1150, rfl, N1150q, K1150, Eq1150, Fq1150⟩ := hQ1150
        have N1150 := Fr.app N1148 N1150q
        have KP1150 : Keep h0 T1150.heap [] := KP1131.trans K1150 all0
        have Z1150 : n0 ≤ T1150.heap.size := Nat.le_trans Z1131 K1150.1
        have O_1151 : Old Z n0 T1150.heap := O_1132.keep K1150 all0
        have E_b6_1152 : Exa Z T1150.heap b6 "java/lang/String" := E_b6_1133.keep K1150
        have E_b30_1153 : Exa Z T1150.heap b30 "java/lang/String" := E_b30_1134.keep K1150
        have E_b1085_1154 : Exa Z T1150.heap b1085 "com/example/tidewheel/tidewheel/model/KeyedRequest" := E_b1085_1135.keep K1150
        have F_b1085_key_1155 : Fld Z T1150.heap b1085 "com/example/tidewheel/tidewheel/model/KeyedRequest" "key" "Ljava/lang/String;" (.ref b6) := F_b1085_key_1136.keep K1150 nin0
        have F_b1085_request_1156 : Fld Z T1150.heap b1085 "com/example/tidewheel/tidewheel/model/KeyedRequest" "request" "Ljava/lang/String;" (.ref b30) := F_b1085_request_1137.keep K1150 nin0
        have F_b1085_resource_1157 : Fld Z T1150.heap b1085 "com/example/tidewheel/tidewheel/model/KeyedRequest" "resource" "Ljava/lang/String;" .null := F_b1085_resource_1138.keep K1150 nin0
        have F_b1085_answer_1158 : Fld Z T1150.heap b1085 "com/example/tidewheel/tidewheel/model/KeyedRequest" "answer" "Lcom/example/tidewheel/tidewheel/model/KeyedRequest$Answer;" .null := F_b1085_answer_1139.keep K1150 nin0
        have E_b1096_1159 : Exa Z T1150.heap b1096 "com/example/tidewheel/tidewheel/model/KeyedRequest" := E_b1096_1140.keep K1150
        have F_b1096_key_1160 : Fld Z T1150.heap b1096 "com/example/tidewheel/tidewheel/model/KeyedRequest" "key" "Ljava/lang/String;" (.ref b6) := F_b1096_key_1141.keep K1150 nin0
        have F_b1096_request_1161 : Fld Z T1150.heap b1096 "com/example/tidewheel/tidewheel/model/KeyedRequest" "request" "Ljava/lang/String;" (.ref b30) := F_b1096_request_1142.keep K1150 nin0
        have F_b1096_resource_1162 : Fld Z T1150.heap b1096 "com/example/tidewheel/tidewheel/model/KeyedRequest" "resource" "Ljava/lang/String;" .null := F_b1096_resource_1143.keep K1150 nin0
        have F_b1096_answer_1163 : Fld Z T1150.heap b1096 "com/example/tidewheel/tidewheel/model/KeyedRequest" "answer" "Lcom/example/tidewheel/tidewheel/model/KeyedRequest$Answer;" .null := F_b1096_answer_1144.keep K1150 nin0
        have E_b1106_1164 : Exa Z T1150.heap b1106 "java/util/Optional" := E_b1106_1145.keep K1150
        have F_b1106_value_1165 : Fld Z T1150.heap b1106 "java/util/Optional" "value" "Ljava/lang/Object;" .null := F_b1106_value_1146.keep K1150 nin0
        have E_b1131_1166 : Exa Z T1150.heap b1131 "java/util/Optional" := Eq1131.keep K1150
        have F_b1131_value_1167 : Fld Z T1150.heap b1131 "java/util/Optional" "value" "Ljava/lang/Object;" .null := Fq1131.keep K1150 nin0
        have pre1168 : ∀ t, Steps p.tables e below (T1150.setTop (mkF m 282 #[.val (.int p0), .val (.int p1), .val (.int p2), .val (.int p3), .val (.int p4), .val (.int p5), .val (.ref b6), .val (.ref b30), .val .null, .val .null, .val .null, .val (.ref b1085), .val (.ref b1096), .val .null, .val (.int (1 : Int32))] [.null, (.ref b1150)])) t → Steps p.tables e below (s₁.setTop (entryFrame m #[(.int p0), (.int p1), (.int p2), (.int p3), (.int p4), (.int p5)] maxLocals)) t := by
          intro t kk
          refine pre1149 t ?_
          show Steps p.tables e below (T1148.setTop (mkF m 278 #[.val (.int p0), .val (.int p1), .val (.int p2), .val (.int p3), .val (.int p4), .val (.int p5), .val (.ref b6), .val (.ref b30), .val .null, .val .null, .val .null, .val (.ref b1085), .val (.ref b1096), .val .null, .val (.int (1 : Int32))] [(.ref b1085)])) _
          refine st1150.trans ?_
          refine XS.aconstNull X1150.here hx rfl (hb hby at_281) ?_
          exact kk
        clear X1148 e1148 st1150 N1150q N1148 KP1131 Z1131 O_1132 E_b6_1133 E_b30_1134 E_b1085_1135 F_b1085_key_1136 F_b1085_request_1137 F_b1085_resource_1138 F_b1085_answer_1139 E_b1096_1140 F_b1096_key_1141 F_b1096_request_1142 F_b1096_resource_1143 F_b1096_answer_1144 E_b1106_1145 F_b1106_value_1146 Eq1131 Fq1131 K1150 pre1149
        as_aux_lemma =>
        obtain ⟨cq1169, kq1169, q1169a, q1169b, q1169c⟩ := isOf hZ rfl Eq1150
        obtain ⟨_, _, ⟨T1169, L1169, k1169, n1169⟩, -, X1169, ⟨Lc1169, hQ1169, l1169, y1169, z1169⟩, st1169⟩ := X1150.virtualBack hx (y := (⟨"java/util/Optional", "orElse", "(Ljava/lang/Object;)Ljava/lang/Object;"⟩ : MethodName)) (z := (⟨"java/util/Optional", "orElse", "(Ljava/lang/Object;)Ljava/lang/Object;"⟩ : MethodName)) hown (mt_78 hZ hw) (mt_79 hZ hw) (notFace_of_selects (args := #[]) (mt_81 hZ hw)) (mt_81 hZ hw) (mt_80 hZ hw) (by decide) (backOf (W := 0) (rm13_n l Z aA hw [] b1150  T1150.heap n0 Z1150 Fq1150) hZ (hw _ tb_82) (hw _ tb_75) (by decide) (by decide)) q1169a q1169c (g := (mkF m 282 #[.val (.int p0), .val (.int p1), .val (.int p2), .val (.int p3), .val (.int p4), .val (.int p5), .val (.ref b6), .val (.ref b30), .val .null, .val .null, .val .null, .val (.ref b1085), .val (.ref b1096), .val .null, .val (.int (1 : Int32))] [.null, (.ref b1150)])) rfl (by rw [hml]; rfl) (Steps.refl _) (argsL := [.null]) (rest := []) (lenOf pd__28Ljava_2flang_2fObject_3b_29Ljava_2flang_2fObject_3b rfl) rfl (by show 2 * 0 + _ ≤ _; exact Nat.le_of_eq rfl) (hb hby at_282) (fun _ _ => ⟨rfl, rfl, (by decide : 11 + 0 ≤ _), (by decide : 27 + 0 ≤ _)⟩)
        dsimp only [Pt.U, Pt.locs, Pt.cells, Pt.slots] at X1169 l1169 y1169 z1169 st1169 hQ1169
        replace l1169 := l1169.symm
        subst l1169
        obtain rfl : k1169 = 11 := y1169
        obtain rfl : n1169 = 27 := z1169
        obtain ⟨rfl, N1169q, e1169⟩ := hQ1169
        have N1169 := Fr.app N1150 N1169q
        have pre1170 : ∀ t, Steps p.tables e below (T1169.setTop (mkF m 295 #[.val (.int p0), .val (.int p1), .val (.int p2), .val (.int p3), .val (.int p4), .val (.int p5), .val (.ref b6), .val (.ref b30), .val .null, .val .null, .val .null, .val (.ref b1085), .val (.ref b1096), .val .null, .val (.int (1 : Int32))] [(.int (1 : Int32))])) t → Steps p.tables e below (s₁.setTop (entryFrame m #[(.int p0), (.int p1), (.int p2), (.int p3), (.int p4), (.int p5)] maxLocals)) t := by
          intro t kk
          refine pre1168 t ?_
          show Steps p.tables e below (T1150.setTop (mkF m 282 #[.val (.int p0), .val (.int p1), .val (.int p2), .val (.int p3), .val (.int p4), .val (.int p5), .val (.ref b6), .val (.ref b30), .val .null, .val .null, .val .null, .val (.ref b1085), .val (.ref b1096), .val .null, .val (.int (1 : Int32))] [.null, (.ref b1150)])) _
          refine st1169.trans ?_
          refine XS.aload X1169.here hx rfl (hb hby at_285) rfl rfl ?_
          refine Jvm.RoadKit.acmp (g := (mkF m 287 #[.val (.int p0), .val (.int p1), .val (.int p2), .val (.int p3), .val (.int p4), .val (.int p5), .val (.ref b6), .val (.ref b30), .val .null, .val .null, .val .null, .val (.ref b1085), .val (.ref b1096), .val .null, .val (.int (1 : Int32))] [.null, .null])) X1169 hx rfl rfl rfl (pc0 := 287) (pc' := 290) (same := true) rfl (hb hby at_287) rfl (decide_eq_true rfl) (by decide) (by decide) ?_
          refine XS.iconst X1169.here hx rfl (hb hby at_290) ?_
          refine XS.goto X1169.here hx rfl (pc0 := 291) (pc' := 295) rfl (hb hby at_291) (by decide) (by decide) ?_
          exact kk
        clear X1150 st1169 N1169q N1150 pre1168
        as_aux_lemma =>
        obtain ⟨fs, hr, hrun, hended, hW, hsame⟩ := X1169.leave (v := some (.int (1 : Int32))) (fun h => by rw [Bd.returns] at h; cases h)
        refine ⟨_, _, pre1170 _ ?_, hrun, hended, _, _, rfl, ?_, ⟨_, rfl⟩, hW, hsame.mono (by decide) (by decide)⟩
        · show Steps p.tables e below (T1169.setTop (mkF m 295 #[.val (.int p0), .val (.int p1), .val (.int p2), .val (.int p3), .val (.int p4), .val (.int p5), .val (.ref b6), .val (.ref b30), .val .null, .val .null, .val .null, .val (.ref b1085), .val (.ref b1096), .val .null, .val (.int (1 : Int32))] [(.int (1 : Int32))])) _
          exact retN X1169 hx (t := .boolean) Bd.returns (by simp) (hb hby at_295) hr
        · show Q0 Z p0 p1 p2 p3 p4 p5 zcs wE h0 n0 _ T1169.heap _
          rw [e1169]
          exact ⟨rfl, N1169⟩
set_option maxRecDepth 65536 in
set_option maxHeartbeats 40000000 in
theorem comes_1 {Post : Tables → Env → Array Value → State → Outcome → State → Prop} (hpost : ∀ tb e args s v u, (limb_1_1.after args s (.returned v) u = true ∧ limb_1_2.after args s (.returned v) u = true ∧ True) → FrameEnd s (.returned v) u (Jvm.fieldLocs frame_1_writes args s ++ Jvm.arrayLocs frame_1_arrays args s ++ Jvm.staticLocs frame_1_statics s) 40 192 → Post tb e args s (.returned v) u) :
    ArmFor flags0 classFile x code maxLocals ret World_1 tables_1 room_1 Calls_1 rest_1 Pre_1 Post := by
  intro l hfl _ _ p e ha hc hk s m args below hf hA hF happ hP
  obtain ⟨hcalls, hrest, hpre⟩ := hP
  obtain ⟨-, -, -, hnamed, -, -, -, hat⟩ := (Spec.applies_iff hf).mp happ
  obtain ⟨hg, hn⟩ := and_e (Cond.before_iff.mp (show (Jvm.Cond.and given_1 narrow_1).before args s = true from hpre))
  obtain ⟨hcount, hg0⟩ := and_e hg
  obtain ⟨ga0, hg1⟩ := and_e hg0
  obtain ⟨ga1, hg2⟩ := and_e hg1
  obtain ⟨ga2, hg3⟩ := and_e hg2
  obtain ⟨ga3, hg4⟩ := and_e hg3
  obtain ⟨ga4, hg5⟩ := and_e hg4
  have ga5 := hg5
  obtain ⟨w0, w1, w2, w3, w4, w5, rfl⟩ : ∃ w0 w1 w2 w3 w4 w5 : Value, args = #[w0, w1, w2, w3, w4, w5] := by
    have hs : args.size = 6 := by simpa [Cond.value, given_1] using hcount
    obtain ⟨L⟩ := args
    match L, hs with
    | [w0, w1, w2, w3, w4, w5], _ => exact ⟨w0, w1, w2, w3, w4, w5, rfl⟩
  have hw := fun d (hd : d ∈ tables_1) => atoms_spec (ws := Jvm.Cond.code x code maxLocals ret :: tables_1) hat d (List.mem_cons_of_mem _ hd)
  have hfit : Fit s := fun {y c} hc i hi => by
    obtain ⟨ha, rfl⟩ := Array.getElem?_eq_some_iff.mp hc
    have q := List.all_eq_true.mp ((Array.all_eq_true_iff_forall_mem.mp hF) _ (Array.getElem_mem ha)) i (List.mem_range.mpr hi)
    simpa [Array.getElem?_eq_getElem hi] using q
  obtain ⟨hsets, hown0⟩ := atoms_of _ (rest_1_c_eq ▸ (show rest_1_c.before _ s = true from hrest))
  have hr0 := Cond.before_iff.mp hown0
  obtain ⟨i0, ei0⟩ := is_v ga0
  obtain rfl : w0 = (.int i0) := Option.some.inj ei0
  obtain ⟨i1, ei1⟩ := is_v ga1
  obtain rfl : w1 = (.int i1) := Option.some.inj ei1
  obtain ⟨i2, ei2⟩ := is_v ga2
  obtain rfl : w2 = (.int i2) := Option.some.inj ei2
  obtain ⟨i3, ei3⟩ := is_v ga3
  obtain rfl : w3 = (.int i3) := Option.some.inj ei3
  obtain ⟨i4, ei4⟩ := is_v ga4
  obtain rfl : w4 = (.int i4) := Option.some.inj ei4
  obtain ⟨i5, ei5⟩ := is_v ga5
  obtain rfl : w5 = (.int i5) := Option.some.inj ei5
  have n3 := not_v (Cond.before_iff.mp (hsets _ (List.mem_of_getElem? (i := 2) rfl)))
  obtain ⟨i7, e6⟩ := is_v (Cond.before_iff.mp (hsets _ (List.mem_of_getElem? (i := 1) rfl)))
  have S_CS : Sta s s.heap "java/lang/String" "COMPACT_STRINGS" "Z" (.int i7) := Sta.start e6 (Or.inl (hsets _ (List.mem_of_getElem? (i := 0) rfl)))
  have c9 : ¬ (i7 = (0 : Int32)) := gotF (Cond.eq_ints e6 (Term.int_eval (0))) n3
  obtain ⟨wE, vE⟩ := exa_v (Cond.before_iff.mp (hsets _ (List.mem_of_getElem? (i := 11) rfl)))
  have S_E : Sta s s.heap "java/util/Optional" "EMPTY" "Ljava/util/Optional;" (.ref wE) := Sta.start vE (Or.inl (hsets _ (List.mem_of_getElem? (i := 10) rfl)))
  have X_E : Exa s s.heap wE "java/util/Optional" := Exa.start vE (Cond.before_iff.mp (hsets _ (List.mem_of_getElem? (i := 11) rfl)))
  have f0 := null_v (Cond.before_iff.mp (hsets _ (List.mem_of_getElem? (i := 12) rfl)))
  rw [fld_at vE] at f0
  have G_E : Fld s s.heap wE "java/util/Optional" "value" "Ljava/lang/Object;" .null := Fld.start f0
  obtain ⟨n, o, h1, h2, h3, _, L, rfl, ⟨rfl, N⟩, hq⟩ := rm0 l s _ hw tables_1 i0 i1 i2 i3 i4 i5 i7 wE s.heap s.heap.size (Nat.le_refl _) (Old.start s) S_CS c9 S_E X_E G_E p e ha hc hk s m _ below hf ((Spec.applies_iff_loose hf).mp happ).1 ⟨rfl, State.Warmed39.refl s, rfl⟩ trivial
  refine ⟨n, _, h1, h2, h3, hpost _ _ _ _ _ _ ⟨Cond.after_iff.mpr rfl, Cond.after_iff.mpr (eq_i res_at (Term.int_eval (1)) rfl), trivial⟩ ⟨hq.1, hq.2.1, (hq.2.2.sift fun y hy => Or.inr (N y hy)).mono (by decide) (by decide)⟩⟩
theorem main_1_1 : Claimed_1_1 := comes_1 fun _ _ _ _ _ _ h hF => ⟨h.1, hF⟩
theorem main_1_2 : Claimed_1_2 := comes_1 fun _ _ _ _ _ _ h hF => ⟨h.2.1, hF⟩
end Jvm.Pilot.@@N@@
namespace Jvm.Pilot.@@N@@
open Jvm Jvm.ClassFile Sem Op Lib Jvm.Free Jvm.Stand Jvm.Pilot.@@N@@.Jvm.D
/-! MADE BY PROGRAM (witnessworld.py) out of the Statement's table words and the real class files: 22 classes; the members and pool entries that the words name. The judged class is class 1, her method 1. -/
namespace start1
open Jvm.ClassFile
def u (s : String) : CpInfo := .utf8 (stringToUtf16 s)
/-- a pool by its gaps: so many unusable entries, then the entry; so many at the end -/
def gap : Nat → List CpInfo → List CpInfo
  | 0, r => r
  | n + 1, r => .unusable :: gap n r
def poolList (es : List (Nat × CpInfo)) (last : Nat) : List CpInfo := es.foldr (fun e r => gap e.1 (e.2 :: r)) (gap last [])
def pool (es : List (Nat × CpInfo)) (last : Nat) : Array CpInfo := ⟨poolList es last⟩
def fileOf (pool : Array CpInfo) (this : Nat) (attrs : Array Attribute := #[]) (ms : Array MethodInfo := #[]) (fl : Nat := 33) (sup : Nat := 0) (ifs : Array Nat := #[]) (fds : Array FieldInfo := #[]) : ClassFile where
  minorVersion := 0
  majorVersion := 65
  constantPool := pool
  accessFlags := fl
  thisClass := this
  superClass := sup
  interfaces := ifs
  fields := fds
  methods := ms
  attributes := attrs
def plain (name : String) (sup : Option ClassId) : Class where
  name := name
  kind := .ordinary
  loader := none
  accessFlags := 33
  super := sup
  interfaces := #[]
  cf := none
  fields := #[]
  methods := #[]
  instanceTypes := #[]
  staticTypes := #[]
  resolved := #[]
  callSites := []
  init := .initialized
  statics := none
  mirror := none

def pool0 : Array CpInfo := pool [(5, u "<init>"), (0, u "()V"), (1, .class_ 10), (1, u "java/lang/Object")] 113

def k0c0 : Code := { maxStack := 0, maxLocals := 1, code := object_method_1_code, exceptionTable := #[], attributes := #[] }
def k0m0 : Method := { name := "<init>", desc := "()V", sig := { parameters := [], returnType := none }, accessFlags := 1, code := some k0c0 }
/-- java/lang/Object -/
def k0 : Class := { plain "java/lang/Object" none with
  accessFlags := 33
  interfaces := #[]
  cf := some (fileOf pool0 8 #[] #[{ accessFlags := 1, nameIndex := 5, descriptorIndex := 6, attributes := #[] }] 33 0 #[] #[])
  fields := #[]
  methods := #[k0m0]
  instanceTypes := #[]
  staticTypes := #[]
  resolved := Array.replicate 124 none
  statics := none }

def pool1 : Array CpInfo := pool [(2, .class_ 4), (1, u "java/lang/Object"), (0, u "<init>"), (0, u "()V"), (0, .class_ 8), (0, u "java/lang/String"), (0, .methodref 7 10), (0, .nameAndType 5 11), (0, u "([C)V"), (0, .class_ 13), (0, u "com/example/tidewheel/tidewheel/model/KeyedRequest$Answer"), (0, .methodref 12 15), (0, .nameAndType 5 16), (0, u "(ILjava/lang/String;)V"), (0, .class_ 18), (0, u "com/example/tidewheel/tidewheel/model/KeyedRequest"), (0, .methodref 17 20), (0, .nameAndType 5 21), (0, u "(Ljava/lang/String;Ljava/lang/String;Ljava/lang/String;Lcom/example/tidewheel/tidewheel/model/KeyedRequest$Answer;)V"), (0, .methodref 17 23), (0, .nameAndType 24 25), (0, u "answered"), (0, u "(Lcom/example/tidewheel/tidewheel/model/KeyedRequest$Answer;)Lcom/example/tidewheel/tidewheel/model/KeyedRequest;"), (0, .methodref 17 27), (0, .nameAndType 28 29), (0, u "resource"), (0, u "()Ljava/util/Optional;"), (0, .methodref 31 32), (0, .class_ 33), (0, .nameAndType 34 35), (0, u "java/util/Optional"), (0, u "orElse"), (0, u "(Ljava/lang/Object;)Ljava/lang/Object;"), (0, .methodref 7 37), (0, .nameAndType 38 39), (0, u "equals"), (0, u "(Ljava/lang/Object;)Z"), (0, .methodref 17 41), (0, .nameAndType 42 43), (0, u "key"), (0, u "()Ljava/lang/String;"), (0, .methodref 17 45), (0, .nameAndType 46 43), (0, u "request"), (0, .methodref 17 48), (0, .nameAndType 49 29), (0, u "answer"), (0, .class_ 51), (0, u "com/example/tidewheel/tidewheel/model/KeyedRequestAnsweredPinLaw"), (2, u "law"), (0, u "(IIIIII)Z")] 5

def k1m0 : Method := { name := "<init>", desc := "()V", sig := { parameters := [], returnType := none }, accessFlags := 1, code := none }
def k1c1 : Code := { maxStack := 7, maxLocals := 15, code := code, exceptionTable := #[], attributes := #[] }
def k1m1 : Method := { name := "law", desc := "(IIIIII)Z", sig := { parameters := [.int, .int, .int, .int, .int, .int], returnType := some .boolean }, accessFlags := 9, code := some k1c1 }
/-- com/example/tidewheel/tidewheel/model/KeyedRequestAnsweredPinLaw -/
def k1 : Class := { plain "com/example/tidewheel/tidewheel/model/KeyedRequestAnsweredPinLaw" (some 0) with
  accessFlags := 49
  interfaces := #[]
  cf := some (fileOf pool1 50 #[] #[{ accessFlags := 1, nameIndex := 5, descriptorIndex := 6, attributes := #[] }, { accessFlags := 9, nameIndex := 54, descriptorIndex := 55, attributes := #[] }] 49 2 #[] #[])
  fields := #[]
  methods := #[k1m0, k1m1]
  instanceTypes := #[]
  staticTypes := #[]
  resolved := Array.replicate 61 none
  statics := none }

def pool2 : Array CpInfo := pool [(1, .class_ 2), (0, u "java/io/Serializable"), (0, .class_ 4), (0, u "java/lang/Object")] 2

/-- java/io/Serializable -/
def k2 : Class := { plain "java/io/Serializable" (some 0) with
  accessFlags := 1537
  interfaces := #[]
  cf := some (fileOf pool2 1 #[] #[] 1537 3 #[] #[])
  fields := #[]
  methods := #[]
  instanceTypes := #[]
  staticTypes := #[]
  resolved := Array.replicate 7 none
  statics := none }

def pool3 : Array CpInfo := pool [(1, .class_ 2), (0, u "java/lang/Comparable"), (0, .class_ 4), (0, u "java/lang/Object")] 7

/-- java/lang/Comparable -/
def k3 : Class := { plain "java/lang/Comparable" (some 0) with
  accessFlags := 1537
  interfaces := #[]
  cf := some (fileOf pool3 1 #[] #[] 1537 3 #[] #[])
  fields := #[]
  methods := #[]
  instanceTypes := #[]
  staticTypes := #[]
  resolved := Array.replicate 12 none
  statics := none }

def pool4 : Array CpInfo := pool [(2, .class_ 4), (1, u "java/lang/CharSequence"), (42, .class_ 48), (0, u "java/lang/CharSequence$1CodePointIterator"), (10, .class_ 60), (0, u "java/lang/CharSequence$1CharIterator"), (5, .class_ 67), (0, u "java/lang/Object")] 63

/-- java/lang/CharSequence -/
def k4 : Class := { plain "java/lang/CharSequence" (some 0) with
  accessFlags := 1537
  interfaces := #[]
  cf := some (fileOf pool4 2 #[.nestMembers #[47, 59]] #[] 1537 66 #[] #[])
  fields := #[]
  methods := #[]
  instanceTypes := #[]
  staticTypes := #[]
  resolved := Array.replicate 131 none
  statics := none }

def pool5 : Array CpInfo := pool [(1, .class_ 2), (0, u "java/lang/constant/Constable"), (0, .class_ 4), (0, u "java/lang/Object")] 6

/-- java/lang/constant/Constable -/
def k5 : Class := { plain "java/lang/constant/Constable" (some 0) with
  accessFlags := 1537
  interfaces := #[]
  cf := some (fileOf pool5 1 #[] #[] 1537 3 #[] #[])
  fields := #[]
  methods := #[]
  instanceTypes := #[]
  staticTypes := #[]
  resolved := Array.replicate 11 none
  statics := none }

def pool6 : Array CpInfo := pool [(1, .class_ 2), (0, u "java/lang/constant/ConstantDesc"), (0, .class_ 4), (0, u "java/lang/Object")] 32

/-- java/lang/constant/ConstantDesc -/
def k6 : Class := { plain "java/lang/constant/ConstantDesc" (some 0) with
  accessFlags := 1537
  interfaces := #[]
  cf := some (fileOf pool6 1 #[] #[] 1537 3 #[] #[])
  fields := #[]
  methods := #[]
  instanceTypes := #[]
  staticTypes := #[]
  resolved := Array.replicate 37 none
  statics := none }

def pool7 : Array CpInfo := pool [(1, .methodref 2 3), (0, .class_ 4), (0, .nameAndType 5 6), (0, u "java/lang/Object"), (0, u "<init>"), (0, u "()V"), (2, .fieldref 10 11), (0, .class_ 12), (0, .nameAndType 13 14), (0, u "java/lang/String"), (0, u "value"), (0, u "[B"), (0, .fieldref 10 16), (0, .nameAndType 17 18), (0, u "coder"), (0, u "B"), (2, u "hash"), (0, u "I"), (2, u "hashIsZero"), (0, u "Z"), (0, .methodref 10 28), (0, .nameAndType 5 29), (0, u "([CIILjava/lang/Void;)V"), (8, .fieldref 10 39), (0, .nameAndType 40 26), (0, u "COMPACT_STRINGS"), (1, .class_ 44), (1, u "java/lang/StringUTF16"), (0, u "compress"), (1, .methodref 42 48), (0, .nameAndType 49 50), (0, u "coderFromArrayLen"), (0, u "([BI)B"), (126, .methodref 42 178), (0, .nameAndType 45 179), (0, u "([CII)[B"), (363, u "equals"), (29, u "(Ljava/lang/Object;)Z"), (1, .class_ 576), (0, u "java/lang/CharSequence"), (22, u "CASE_INSENSITIVE_ORDER"), (0, u "Ljava/util/Comparator;"), (409, u "([C)V"), (90, u "serialPersistentFields"), (0, u "[Ljava/io/ObjectStreamField;"), (0, .class_ 1104), (0, u "java/lang/String$CaseInsensitiveComparator"), (1, .class_ 1107), (0, u "java/io/Serializable"), (0, .class_ 1109), (0, u "java/lang/Comparable"), (0, .class_ 1111), (0, u "java/lang/constant/Constable"), (0, .class_ 1113), (0, u "java/lang/constant/ConstantDesc"), (2, u "serialVersionUID"), (0, u "J"), (3, u "REPL"), (0, u "C"), (2, u "LATIN1"), (1, u "UTF16")] 323

def k7m0 : Method := { name := "<init>", desc := "()V", sig := { parameters := [], returnType := none }, accessFlags := 1, code := none }
def k7c1 : Code := { maxStack := 5, maxLocals := 2, code := jdk_42_method_3_code, exceptionTable := #[], attributes := #[] }
def k7m1 : Method := { name := "<init>", desc := "([C)V", sig := { parameters := [(.array .char)], returnType := none }, accessFlags := 1, code := some k7c1 }
def k7c2 : Code := { maxStack := 2, maxLocals := 3, code := jdk_42_method_66_code, exceptionTable := #[], attributes := #[] }
def k7m2 : Method := { name := "equals", desc := "(Ljava/lang/Object;)Z", sig := { parameters := [(.object "java/lang/Object")], returnType := some .boolean }, accessFlags := 1, code := some k7c2 }
def k7c3 : Code := { maxStack := 4, maxLocals := 6, code := jdk_42_method_149_code, exceptionTable := #[], attributes := #[] }
def k7m3 : Method := { name := "<init>", desc := "([CIILjava/lang/Void;)V", sig := { parameters := [(.array .char), .int, .int, (.object "java/lang/Void")], returnType := none }, accessFlags := 2, code := some k7c3 }
/-- java/lang/String -/
def k7 : Class := { plain "java/lang/String" (some 0) with
  accessFlags := 49
  interfaces := #[2, 3, 4, 5, 6]
  cf := some (fileOf pool7 10 #[.nestMembers #[1103]] #[{ accessFlags := 1, nameIndex := 5, descriptorIndex := 6, attributes := #[] }, { accessFlags := 1, nameIndex := 5, descriptorIndex := 1010, attributes := #[] }, { accessFlags := 1, nameIndex := 543, descriptorIndex := 573, attributes := #[] }, { accessFlags := 2, nameIndex := 5, descriptorIndex := 29, attributes := #[] }] 49 2 #[1106, 1108, 575, 1110, 1112] #[{ accessFlags := 18, nameIndex := 13, descriptorIndex := 14, attributes := #[] }, { accessFlags := 18, nameIndex := 17, descriptorIndex := 18, attributes := #[] }, { accessFlags := 2, nameIndex := 21, descriptorIndex := 22, attributes := #[] }, { accessFlags := 2, nameIndex := 25, descriptorIndex := 26, attributes := #[] }, { accessFlags := 26, nameIndex := 1116, descriptorIndex := 1117, attributes := #[] }, { accessFlags := 24, nameIndex := 40, descriptorIndex := 26, attributes := #[] }, { accessFlags := 26, nameIndex := 1101, descriptorIndex := 1102, attributes := #[] }, { accessFlags := 26, nameIndex := 1121, descriptorIndex := 1122, attributes := #[] }, { accessFlags := 25, nameIndex := 599, descriptorIndex := 600, attributes := #[] }, { accessFlags := 24, nameIndex := 1125, descriptorIndex := 18, attributes := #[] }, { accessFlags := 24, nameIndex := 1127, descriptorIndex := 18, attributes := #[] }])
  fields := #[{ name := "value", type := (.array .byte), accessFlags := 18, slot := 0, constantValue := 0 }, { name := "coder", type := .byte, accessFlags := 18, slot := 1, constantValue := 0 }, { name := "hash", type := .int, accessFlags := 2, slot := 2, constantValue := 0 }, { name := "hashIsZero", type := .boolean, accessFlags := 2, slot := 3, constantValue := 0 }, { name := "serialVersionUID", type := .long, accessFlags := 26, slot := 0, constantValue := 0 }, { name := "COMPACT_STRINGS", type := .boolean, accessFlags := 24, slot := 1, constantValue := 0 }, { name := "serialPersistentFields", type := (.array (.object "java/io/ObjectStreamField")), accessFlags := 26, slot := 2, constantValue := 0 }, { name := "REPL", type := .char, accessFlags := 26, slot := 3, constantValue := 0 }, { name := "CASE_INSENSITIVE_ORDER", type := (.object "java/util/Comparator"), accessFlags := 25, slot := 4, constantValue := 0 }, { name := "LATIN1", type := .byte, accessFlags := 24, slot := 5, constantValue := 0 }, { name := "UTF16", type := .byte, accessFlags := 24, slot := 6, constantValue := 0 }]
  methods := #[k7m0, k7m1, k7m2, k7m3]
  instanceTypes := #[(.array .byte), .byte, .int, .boolean]
  staticTypes := #[.long, .boolean, (.array (.object "java/io/ObjectStreamField")), .char, (.object "java/util/Comparator"), .byte, .byte]
  resolved := Array.replicate 1451 none
  statics := some 0 }

def pool8 : Array CpInfo := pool [(6, .class_ 8), (1, u "java/lang/Object"), (0, u "<init>"), (0, u "()V"), (1, .class_ 14), (1, u "java/lang/StringUTF16"), (31, u "$assertionsDisabled"), (0, u "Z"), (13, u "HI_BYTE_SHIFT"), (0, u "I"), (2, u "LO_BYTE_SHIFT"), (49, .methodref 12 116), (0, .nameAndType 117 118), (0, u "compress"), (0, u "([CI[BII)I"), (3, u "([CII)[B"), (138, u "coderFromArrayLen"), (0, u "([BI)B"), (106, .class_ 371), (1, u "java/lang/StringUTF16$LinesSpliterator"), (58, u "MAX_LENGTH"), (196, .class_ 628), (0, u "java/lang/StringUTF16$CodePointsSpliterator"), (0, .class_ 630), (0, u "java/lang/StringUTF16$CharsSpliterator")] 4

def k8m0 : Method := { name := "<init>", desc := "()V", sig := { parameters := [], returnType := none }, accessFlags := 0, code := none }
def k8c1 : Code := { maxStack := 2, maxLocals := 2, code := jdk_52_method_15_code, exceptionTable := #[], attributes := #[] }
def k8m1 : Method := { name := "coderFromArrayLen", desc := "([BI)B", sig := { parameters := [(.array .byte), .int], returnType := some .byte }, accessFlags := 8, code := some k8c1 }
def k8c2 : Code := { maxStack := 5, maxLocals := 6, code := jdk_52_method_16_code, exceptionTable := #[], attributes := #[] }
def k8m2 : Method := { name := "compress", desc := "([CII)[B", sig := { parameters := [(.array .char), .int, .int], returnType := some (.array .byte) }, accessFlags := 9, code := some k8c2 }
def k8c3 : Code := { maxStack := 3, maxLocals := 7, code := jdk_52_method_21_code, exceptionTable := #[], attributes := #[] }
def k8m3 : Method := { name := "compress", desc := "([CI[BII)I", sig := { parameters := [(.array .char), .int, (.array .byte), .int, .int], returnType := some .int }, accessFlags := 9, code := some k8c3 }
/-- java/lang/StringUTF16 -/
def k8 : Class := { plain "java/lang/StringUTF16" (some 0) with
  accessFlags := 48
  interfaces := #[]
  cf := some (fileOf pool8 12 #[.nestMembers #[627, 629, 369]] #[{ accessFlags := 0, nameIndex := 9, descriptorIndex := 10, attributes := #[] }, { accessFlags := 8, nameIndex := 261, descriptorIndex := 262, attributes := #[] }, { accessFlags := 9, nameIndex := 117, descriptorIndex := 122, attributes := #[] }, { accessFlags := 9, nameIndex := 117, descriptorIndex := 118, attributes := #[] }] 48 6 #[] #[{ accessFlags := 26, nameIndex := 61, descriptorIndex := 62, attributes := #[] }, { accessFlags := 26, nameIndex := 65, descriptorIndex := 62, attributes := #[] }, { accessFlags := 24, nameIndex := 430, descriptorIndex := 62, attributes := #[] }, { accessFlags := 4120, nameIndex := 46, descriptorIndex := 47, attributes := #[] }])
  fields := #[{ name := "HI_BYTE_SHIFT", type := .int, accessFlags := 26, slot := 0, constantValue := 0 }, { name := "LO_BYTE_SHIFT", type := .int, accessFlags := 26, slot := 1, constantValue := 0 }, { name := "MAX_LENGTH", type := .int, accessFlags := 24, slot := 2, constantValue := 0 }, { name := "$assertionsDisabled", type := .boolean, accessFlags := 4120, slot := 3, constantValue := 0 }]
  methods := #[k8m0, k8m1, k8m2, k8m3]
  instanceTypes := #[]
  staticTypes := #[.int, .int, .int, .boolean]
  resolved := Array.replicate 635 none
  statics := none }

def pool9 : Array CpInfo := pool [(1, .methodref 2 3), (0, .class_ 4), (0, .nameAndType 5 6), (0, u "com/example/tidewheel/tidewheel/model/KeyedRequest$Answer"), (0, u "<init>"), (0, u "(ILjava/lang/String;Lcom/example/tidewheel/tidewheel/model/RefusedException$Reason;)V"), (0, .methodref 8 9), (0, .class_ 10), (0, .nameAndType 5 11), (0, u "java/lang/Object"), (0, u "()V"), (0, .fieldref 2 13), (0, .nameAndType 14 15), (0, u "status"), (0, u "I"), (0, .fieldref 2 17), (0, .nameAndType 18 19), (0, u "body"), (0, u "Ljava/lang/String;"), (0, .fieldref 2 21), (0, .nameAndType 22 23), (0, u "refusal"), (0, u "Lcom/example/tidewheel/tidewheel/model/RefusedException$Reason;"), (27, u "(ILjava/lang/String;)V"), (13, .class_ 66), (0, u "com/example/tidewheel/tidewheel/model/KeyedRequest")] 24

def k9c0 : Code := { maxStack := 4, maxLocals := 3, code := prog_31_method_1_code, exceptionTable := #[], attributes := #[] }
def k9m0 : Method := { name := "<init>", desc := "(ILjava/lang/String;)V", sig := { parameters := [.int, (.object "java/lang/String")], returnType := none }, accessFlags := 1, code := some k9c0 }
def k9c1 : Code := { maxStack := 2, maxLocals := 4, code := prog_31_method_2_code, exceptionTable := #[], attributes := #[] }
def k9m1 : Method := { name := "<init>", desc := "(ILjava/lang/String;Lcom/example/tidewheel/tidewheel/model/RefusedException$Reason;)V", sig := { parameters := [.int, (.object "java/lang/String"), (.object "com/example/tidewheel/tidewheel/model/RefusedException$Reason")], returnType := none }, accessFlags := 2, code := some k9c1 }
/-- com/example/tidewheel/tidewheel/model/KeyedRequest$Answer -/
def k9 : Class := { plain "com/example/tidewheel/tidewheel/model/KeyedRequest$Answer" (some 0) with
  accessFlags := 49
  interfaces := #[]
  cf := some (fileOf pool9 2 #[.nestHost 65] #[{ accessFlags := 1, nameIndex := 5, descriptorIndex := 51, attributes := #[] }, { accessFlags := 2, nameIndex := 5, descriptorIndex := 6, attributes := #[] }] 49 8 #[] #[{ accessFlags := 18, nameIndex := 14, descriptorIndex := 15, attributes := #[] }, { accessFlags := 18, nameIndex := 18, descriptorIndex := 19, attributes := #[] }, { accessFlags := 18, nameIndex := 22, descriptorIndex := 23, attributes := #[] }])
  fields := #[{ name := "status", type := .int, accessFlags := 18, slot := 0, constantValue := 0 }, { name := "body", type := (.object "java/lang/String"), accessFlags := 18, slot := 1, constantValue := 0 }, { name := "refusal", type := (.object "com/example/tidewheel/tidewheel/model/RefusedException$Reason"), accessFlags := 18, slot := 2, constantValue := 0 }]
  methods := #[k9m0, k9m1]
  instanceTypes := #[.int, (.object "java/lang/String"), (.object "com/example/tidewheel/tidewheel/model/RefusedException$Reason")]
  staticTypes := #[]
  resolved := Array.replicate 91 none
  statics := none }

def pool10 : Array CpInfo := pool [(1, .methodref 2 3), (0, .class_ 4), (0, .nameAndType 5 6), (0, u "java/lang/Object"), (0, u "<init>"), (0, u "()V"), (0, .fieldref 8 9), (0, .class_ 10), (0, .nameAndType 11 12), (0, u "com/example/tidewheel/tidewheel/model/KeyedRequest"), (0, u "key"), (0, u "Ljava/lang/String;"), (0, .fieldref 8 14), (0, .nameAndType 15 12), (0, u "request"), (0, .fieldref 8 17), (0, .nameAndType 18 12), (0, u "resource"), (0, .fieldref 8 20), (0, .nameAndType 21 22), (0, u "answer"), (0, u "Lcom/example/tidewheel/tidewheel/model/KeyedRequest$Answer;"), (0, .methodref 8 24), (0, .nameAndType 5 25), (0, u "(Ljava/lang/String;Ljava/lang/String;Ljava/lang/String;Lcom/example/tidewheel/tidewheel/model/KeyedRequest$Answer;)V"), (0, .methodref 27 28), (0, .class_ 29), (0, .nameAndType 30 31), (0, u "java/util/Optional"), (0, u "ofNullable"), (0, u "(Ljava/lang/Object;)Ljava/util/Optional;"), (6, u "answered"), (0, u "(Lcom/example/tidewheel/tidewheel/model/KeyedRequest$Answer;)Lcom/example/tidewheel/tidewheel/model/KeyedRequest;"), (0, u "()Ljava/lang/String;"), (0, u "()Ljava/util/Optional;"), (6, .class_ 49), (0, u "com/example/tidewheel/tidewheel/model/KeyedRequest$Answer")] 2

def k10c0 : Code := { maxStack := 2, maxLocals := 5, code := prog_30_method_1_code, exceptionTable := #[], attributes := #[] }
def k10m0 : Method := { name := "<init>", desc := "(Ljava/lang/String;Ljava/lang/String;Ljava/lang/String;Lcom/example/tidewheel/tidewheel/model/KeyedRequest$Answer;)V", sig := { parameters := [(.object "java/lang/String"), (.object "java/lang/String"), (.object "java/lang/String"), (.object "com/example/tidewheel/tidewheel/model/KeyedRequest$Answer")], returnType := none }, accessFlags := 1, code := some k10c0 }
def k10c1 : Code := { maxStack := 6, maxLocals := 2, code := prog_30_method_4_code, exceptionTable := #[], attributes := #[] }
def k10m1 : Method := { name := "answered", desc := "(Lcom/example/tidewheel/tidewheel/model/KeyedRequest$Answer;)Lcom/example/tidewheel/tidewheel/model/KeyedRequest;", sig := { parameters := [(.object "com/example/tidewheel/tidewheel/model/KeyedRequest$Answer")], returnType := some (.object "com/example/tidewheel/tidewheel/model/KeyedRequest") }, accessFlags := 1, code := some k10c1 }
def k10c2 : Code := { maxStack := 1, maxLocals := 1, code := prog_30_method_5_code, exceptionTable := #[], attributes := #[] }
def k10m2 : Method := { name := "key", desc := "()Ljava/lang/String;", sig := { parameters := [], returnType := some (.object "java/lang/String") }, accessFlags := 1, code := some k10c2 }
def k10c3 : Code := { maxStack := 1, maxLocals := 1, code := prog_30_method_6_code, exceptionTable := #[], attributes := #[] }
def k10m3 : Method := { name := "request", desc := "()Ljava/lang/String;", sig := { parameters := [], returnType := some (.object "java/lang/String") }, accessFlags := 1, code := some k10c3 }
def k10c4 : Code := { maxStack := 1, maxLocals := 1, code := prog_30_method_7_code, exceptionTable := #[], attributes := #[] }
def k10m4 : Method := { name := "resource", desc := "()Ljava/util/Optional;", sig := { parameters := [], returnType := some (.object "java/util/Optional") }, accessFlags := 1, code := some k10c4 }
def k10c5 : Code := { maxStack := 1, maxLocals := 1, code := prog_30_method_8_code, exceptionTable := #[], attributes := #[] }
def k10m5 : Method := { name := "answer", desc := "()Ljava/util/Optional;", sig := { parameters := [], returnType := some (.object "java/util/Optional") }, accessFlags := 1, code := some k10c5 }
/-- com/example/tidewheel/tidewheel/model/KeyedRequest -/
def k10 : Class := { plain "com/example/tidewheel/tidewheel/model/KeyedRequest" (some 0) with
  accessFlags := 49
  interfaces := #[]
  cf := some (fileOf pool10 8 #[.nestMembers #[48]] #[{ accessFlags := 1, nameIndex := 5, descriptorIndex := 25, attributes := #[] }, { accessFlags := 1, nameIndex := 38, descriptorIndex := 39, attributes := #[] }, { accessFlags := 1, nameIndex := 11, descriptorIndex := 40, attributes := #[] }, { accessFlags := 1, nameIndex := 15, descriptorIndex := 40, attributes := #[] }, { accessFlags := 1, nameIndex := 18, descriptorIndex := 41, attributes := #[] }, { accessFlags := 1, nameIndex := 21, descriptorIndex := 41, attributes := #[] }] 49 2 #[] #[{ accessFlags := 18, nameIndex := 11, descriptorIndex := 12, attributes := #[] }, { accessFlags := 18, nameIndex := 15, descriptorIndex := 12, attributes := #[] }, { accessFlags := 18, nameIndex := 18, descriptorIndex := 12, attributes := #[] }, { accessFlags := 18, nameIndex := 21, descriptorIndex := 22, attributes := #[] }])
  fields := #[{ name := "key", type := (.object "java/lang/String"), accessFlags := 18, slot := 0, constantValue := 0 }, { name := "request", type := (.object "java/lang/String"), accessFlags := 18, slot := 1, constantValue := 0 }, { name := "resource", type := (.object "java/lang/String"), accessFlags := 18, slot := 2, constantValue := 0 }, { name := "answer", type := (.object "com/example/tidewheel/tidewheel/model/KeyedRequest$Answer"), accessFlags := 18, slot := 3, constantValue := 0 }]
  methods := #[k10m0, k10m1, k10m2, k10m3, k10m4, k10m5]
  instanceTypes := #[(.object "java/lang/String"), (.object "java/lang/String"), (.object "java/lang/String"), (.object "com/example/tidewheel/tidewheel/model/KeyedRequest$Answer")]
  staticTypes := #[]
  resolved := Array.replicate 52 none
  statics := none }

def pool11 : Array CpInfo := pool [(1, .fieldref 2 3), (0, .class_ 4), (0, .nameAndType 5 6), (0, u "java/util/Optional"), (0, u "EMPTY"), (0, u "Ljava/util/Optional;"), (0, .methodref 8 9), (0, .class_ 10), (0, .nameAndType 11 12), (0, u "java/lang/Object"), (0, u "<init>"), (0, u "()V"), (0, .fieldref 2 14), (0, .nameAndType 15 16), (0, u "value"), (0, u "Ljava/lang/Object;"), (5, u "(Ljava/lang/Object;)Ljava/lang/Object;"), (0, .methodref 2 24), (0, .nameAndType 11 25), (0, u "(Ljava/lang/Object;)V"), (38, u "ofNullable"), (0, u "(Ljava/lang/Object;)Ljava/util/Optional;"), (99, u "orElse")] 21

def k11c0 : Code := { maxStack := 2, maxLocals := 2, code := jdk_32_method_2_code, exceptionTable := #[], attributes := #[] }
def k11m0 : Method := { name := "<init>", desc := "(Ljava/lang/Object;)V", sig := { parameters := [(.object "java/lang/Object")], returnType := none }, accessFlags := 2, code := some k11c0 }
def k11c1 : Code := { maxStack := 3, maxLocals := 1, code := jdk_32_method_4_code, exceptionTable := #[], attributes := #[] }
def k11m1 : Method := { name := "ofNullable", desc := "(Ljava/lang/Object;)Ljava/util/Optional;", sig := { parameters := [(.object "java/lang/Object")], returnType := some (.object "java/util/Optional") }, accessFlags := 9, code := some k11c1 }
def k11c2 : Code := { maxStack := 1, maxLocals := 2, code := jdk_32_method_15_code, exceptionTable := #[], attributes := #[] }
def k11m2 : Method := { name := "orElse", desc := "(Ljava/lang/Object;)Ljava/lang/Object;", sig := { parameters := [(.object "java/lang/Object")], returnType := some (.object "java/lang/Object") }, accessFlags := 1, code := some k11c2 }
/-- java/util/Optional -/
def k11 : Class := { plain "java/util/Optional" (some 0) with
  accessFlags := 49
  interfaces := #[]
  cf := some (fileOf pool11 2 #[] #[{ accessFlags := 2, nameIndex := 11, descriptorIndex := 25, attributes := #[] }, { accessFlags := 9, nameIndex := 64, descriptorIndex := 65, attributes := #[] }, { accessFlags := 1, nameIndex := 165, descriptorIndex := 22, attributes := #[] }] 49 8 #[] #[{ accessFlags := 26, nameIndex := 5, descriptorIndex := 6, attributes := #[] }, { accessFlags := 18, nameIndex := 15, descriptorIndex := 16, attributes := #[] }])
  fields := #[{ name := "EMPTY", type := (.object "java/util/Optional"), accessFlags := 26, slot := 0, constantValue := 0 }, { name := "value", type := (.object "java/lang/Object"), accessFlags := 18, slot := 0, constantValue := 0 }]
  methods := #[k11m0, k11m1, k11m2]
  instanceTypes := #[(.object "java/lang/Object")]
  staticTypes := #[(.object "java/util/Optional")]
  resolved := Array.replicate 187 none
  statics := some 1 }

def pool12 : Array CpInfo := pool [(4, .class_ 6), (1, u "java/lang/Object"), (0, u "<init>"), (0, u "()V"), (5, .class_ 16), (1, u "java/lang/StringLatin1"), (104, u "$assertionsDisabled"), (0, u "Z"), (98, .class_ 223), (1, u "java/lang/StringLatin1$LinesSpliterator"), (166, .class_ 391), (0, u "java/lang/StringLatin1$CharsSpliterator")] 3

def k12m0 : Method := { name := "<init>", desc := "()V", sig := { parameters := [], returnType := none }, accessFlags := 0, code := none }
/-- java/lang/StringLatin1 -/
def k12 : Class := { plain "java/lang/StringLatin1" (some 0) with
  accessFlags := 48
  interfaces := #[]
  cf := some (fileOf pool12 14 #[.nestMembers #[390, 221]] #[{ accessFlags := 0, nameIndex := 7, descriptorIndex := 8, attributes := #[] }] 48 4 #[] #[{ accessFlags := 4120, nameIndex := 121, descriptorIndex := 122, attributes := #[] }])
  fields := #[{ name := "$assertionsDisabled", type := .boolean, accessFlags := 4120, slot := 0, constantValue := 0 }]
  methods := #[k12m0]
  instanceTypes := #[]
  staticTypes := #[.boolean]
  resolved := Array.replicate 395 none
  statics := none }

def pool13 : Array CpInfo := pool [(2, .class_ 4), (1, u "java/lang/Object"), (0, u "<init>"), (0, u "()V"), (17, .class_ 26), (1, u "jdk/internal/util/Preconditions"), (28, .class_ 56), (0, u "jdk/internal/util/Preconditions$4"), (57, .class_ 115), (0, u "jdk/internal/util/Preconditions$1"), (7, u "SIOOBE_FORMATTER"), (0, u "Ljava/util/function/BiFunction;"), (0, .class_ 126), (0, u "jdk/internal/util/Preconditions$2"), (3, u "AIOOBE_FORMATTER"), (0, .class_ 132), (0, u "jdk/internal/util/Preconditions$3"), (3, u "IOOBE_FORMATTER")] 57

def k13m0 : Method := { name := "<init>", desc := "()V", sig := { parameters := [], returnType := none }, accessFlags := 1, code := none }
/-- jdk/internal/util/Preconditions -/
def k13 : Class := { plain "jdk/internal/util/Preconditions" (some 0) with
  accessFlags := 33
  interfaces := #[]
  cf := some (fileOf pool13 24 #[.nestMembers #[55, 131, 125, 114]] #[{ accessFlags := 1, nameIndex := 5, descriptorIndex := 6, attributes := #[] }] 33 2 #[] #[{ accessFlags := 25, nameIndex := 123, descriptorIndex := 124, attributes := #[] }, { accessFlags := 25, nameIndex := 130, descriptorIndex := 124, attributes := #[] }, { accessFlags := 25, nameIndex := 136, descriptorIndex := 124, attributes := #[] }])
  fields := #[{ name := "SIOOBE_FORMATTER", type := (.object "java/util/function/BiFunction"), accessFlags := 25, slot := 0, constantValue := 0 }, { name := "AIOOBE_FORMATTER", type := (.object "java/util/function/BiFunction"), accessFlags := 25, slot := 1, constantValue := 0 }, { name := "IOOBE_FORMATTER", type := (.object "java/util/function/BiFunction"), accessFlags := 25, slot := 2, constantValue := 0 }]
  methods := #[k13m0]
  instanceTypes := #[]
  staticTypes := #[(.object "java/util/function/BiFunction"), (.object "java/util/function/BiFunction"), (.object "java/util/function/BiFunction")]
  resolved := Array.replicate 194 none
  statics := some 2 }

def pool14 : Array CpInfo := pool [(9, u "<init>"), (6, .class_ 18), (1, u "java/lang/Object"), (0, u "()V"), (1, .class_ 23), (1, u "jdk/internal/util/ArraysSupport"), (0, u "LOG2_ARRAY_LONG_INDEX_SCALE"), (0, u "I"), (2, u "U"), (0, u "Ljdk/internal/misc/Unsafe;"), (8, u "BIG_ENDIAN"), (0, u "Z"), (8, u "LOG2_BYTE_BIT_SIZE"), (4, u "LOG2_ARRAY_INT_INDEX_SCALE"), (54, u "JLA"), (0, u "Ljdk/internal/access/JavaLangAccess;"), (11, u "LOG2_ARRAY_BOOLEAN_INDEX_SCALE"), (9, u "LOG2_ARRAY_BYTE_INDEX_SCALE"), (5, u "LOG2_ARRAY_CHAR_INDEX_SCALE"), (5, u "LOG2_ARRAY_SHORT_INDEX_SCALE"), (18, u "LOG2_ARRAY_FLOAT_INDEX_SCALE"), (24, u "LOG2_ARRAY_DOUBLE_INDEX_SCALE"), (89, u "T_BOOLEAN"), (2, u "T_CHAR"), (1, u "T_FLOAT"), (1, u "T_DOUBLE"), (1, u "T_BYTE"), (1, u "T_SHORT"), (1, u "T_INT"), (1, u "T_LONG"), (1, u "SOFT_MAX_ARRAY_LENGTH")] 83

def k14m0 : Method := { name := "<init>", desc := "()V", sig := { parameters := [], returnType := none }, accessFlags := 2, code := none }
/-- jdk/internal/util/ArraysSupport -/
def k14 : Class := { plain "jdk/internal/util/ArraysSupport" (some 0) with
  accessFlags := 33
  interfaces := #[]
  cf := some (fileOf pool14 21 #[] #[{ accessFlags := 2, nameIndex := 9, descriptorIndex := 19, attributes := #[] }] 33 16 #[] #[{ accessFlags := 24, nameIndex := 28, descriptorIndex := 29, attributes := #[] }, { accessFlags := 26, nameIndex := 38, descriptorIndex := 39, attributes := #[] }, { accessFlags := 25, nameIndex := 121, descriptorIndex := 25, attributes := #[] }, { accessFlags := 25, nameIndex := 131, descriptorIndex := 25, attributes := #[] }, { accessFlags := 25, nameIndex := 137, descriptorIndex := 25, attributes := #[] }, { accessFlags := 25, nameIndex := 143, descriptorIndex := 25, attributes := #[] }, { accessFlags := 25, nameIndex := 53, descriptorIndex := 25, attributes := #[] }, { accessFlags := 25, nameIndex := 24, descriptorIndex := 25, attributes := #[] }, { accessFlags := 25, nameIndex := 162, descriptorIndex := 25, attributes := #[] }, { accessFlags := 25, nameIndex := 187, descriptorIndex := 25, attributes := #[] }, { accessFlags := 26, nameIndex := 48, descriptorIndex := 25, attributes := #[] }, { accessFlags := 25, nameIndex := 277, descriptorIndex := 25, attributes := #[] }, { accessFlags := 25, nameIndex := 280, descriptorIndex := 25, attributes := #[] }, { accessFlags := 25, nameIndex := 282, descriptorIndex := 25, attributes := #[] }, { accessFlags := 25, nameIndex := 284, descriptorIndex := 25, attributes := #[] }, { accessFlags := 25, nameIndex := 286, descriptorIndex := 25, attributes := #[] }, { accessFlags := 25, nameIndex := 288, descriptorIndex := 25, attributes := #[] }, { accessFlags := 25, nameIndex := 290, descriptorIndex := 25, attributes := #[] }, { accessFlags := 25, nameIndex := 292, descriptorIndex := 25, attributes := #[] }, { accessFlags := 26, nameIndex := 108, descriptorIndex := 109, attributes := #[] }, { accessFlags := 25, nameIndex := 294, descriptorIndex := 25, attributes := #[] }])
  fields := #[{ name := "U", type := (.object "jdk/internal/misc/Unsafe"), accessFlags := 24, slot := 0, constantValue := 0 }, { name := "BIG_ENDIAN", type := .boolean, accessFlags := 26, slot := 1, constantValue := 0 }, { name := "LOG2_ARRAY_BOOLEAN_INDEX_SCALE", type := .int, accessFlags := 25, slot := 2, constantValue := 0 }, { name := "LOG2_ARRAY_BYTE_INDEX_SCALE", type := .int, accessFlags := 25, slot := 3, constantValue := 0 }, { name := "LOG2_ARRAY_CHAR_INDEX_SCALE", type := .int, accessFlags := 25, slot := 4, constantValue := 0 }, { name := "LOG2_ARRAY_SHORT_INDEX_SCALE", type := .int, accessFlags := 25, slot := 5, constantValue := 0 }, { name := "LOG2_ARRAY_INT_INDEX_SCALE", type := .int, accessFlags := 25, slot := 6, constantValue := 0 }, { name := "LOG2_ARRAY_LONG_INDEX_SCALE", type := .int, accessFlags := 25, slot := 7, constantValue := 0 }, { name := "LOG2_ARRAY_FLOAT_INDEX_SCALE", type := .int, accessFlags := 25, slot := 8, constantValue := 0 }, { name := "LOG2_ARRAY_DOUBLE_INDEX_SCALE", type := .int, accessFlags := 25, slot := 9, constantValue := 0 }, { name := "LOG2_BYTE_BIT_SIZE", type := .int, accessFlags := 26, slot := 10, constantValue := 0 }, { name := "T_BOOLEAN", type := .int, accessFlags := 25, slot := 11, constantValue := 0 }, { name := "T_CHAR", type := .int, accessFlags := 25, slot := 12, constantValue := 0 }, { name := "T_FLOAT", type := .int, accessFlags := 25, slot := 13, constantValue := 0 }, { name := "T_DOUBLE", type := .int, accessFlags := 25, slot := 14, constantValue := 0 }, { name := "T_BYTE", type := .int, accessFlags := 25, slot := 15, constantValue := 0 }, { name := "T_SHORT", type := .int, accessFlags := 25, slot := 16, constantValue := 0 }, { name := "T_INT", type := .int, accessFlags := 25, slot := 17, constantValue := 0 }, { name := "T_LONG", type := .int, accessFlags := 25, slot := 18, constantValue := 0 }, { name := "JLA", type := (.object "jdk/internal/access/JavaLangAccess"), accessFlags := 26, slot := 19, constantValue := 0 }, { name := "SOFT_MAX_ARRAY_LENGTH", type := .int, accessFlags := 25, slot := 20, constantValue := 0 }]
  methods := #[k14m0]
  instanceTypes := #[]
  staticTypes := #[(.object "jdk/internal/misc/Unsafe"), .boolean, .int, .int, .int, .int, .int, .int, .int, .int, .int, .int, .int, .int, .int, .int, .int, .int, .int, (.object "jdk/internal/access/JavaLangAccess"), .int]
  resolved := Array.replicate 378 none
  statics := none }

def pool15 : Array CpInfo := pool [(1, u "java/lang/Cloneable"), (0, .class_ 1), (0, u "java/lang/Object"), (0, .class_ 3)] 3

/-- java/lang/Cloneable -/
def k15 : Class := { plain "java/lang/Cloneable" (some 0) with
  accessFlags := 1537
  interfaces := #[]
  cf := some (fileOf pool15 2 #[] #[] 1537 4 #[] #[])
  fields := #[]
  methods := #[]
  instanceTypes := #[]
  staticTypes := #[]
  resolved := Array.replicate 8 none
  statics := none }

/-- the primitive byte -/
def k16 : Class := { plain "byte" none with kind := .primitive 'B', accessFlags := 0x411 }
/-- [B -/
def k17 : Class := { plain "[B" (some 0) with kind := .array 16 .byte, interfaces := #[15, 2], accessFlags := 1041 }

/-- the primitive char -/
def k18 : Class := { plain "char" none with kind := .primitive 'C', accessFlags := 0x411 }
/-- [C -/
def k19 : Class := { plain "[C" (some 0) with kind := .array 18 .char, interfaces := #[15, 2], accessFlags := 1041 }

/-- the primitive int -/
def k20 : Class := { plain "int" none with kind := .primitive 'I', accessFlags := 0x411 }
/-- [I -/
def k21 : Class := { plain "[I" (some 0) with kind := .array 20 .int, interfaces := #[15, 2], accessFlags := 1041 }

def heap : Heap := #[{ cls := 7, slots := #[.long 0, .int 1, .null, .int 0, .null, .int 0, .int 0], vm := .statics 7 },
  { cls := 11, slots := #[.ref 3], vm := .statics 11 },
  { cls := 13, slots := #[.null, .null, .null], vm := .statics 13 },
  { cls := 11, slots := #[.null], vm := .none }]
def classes : Array Class := #[k0, k1, k2, k3, k4, k5, k6, k7, k8, k9, k10, k11, k12, k13, k14, k15, k16, k17, k18, k19, k20, k21]
def interned : List (Array UInt16 × Addr) := []
def slotsUsed : Nat := 12
def theMethod : MethodId := ⟨1, 1⟩
def args0 : Array Value := #[.int 1, .int 2, .int 3, .int 4, .int 5, .int 0]
def aboutOver (below : List Frame) : State where
  vm := { classes := classes, interned := interned.toArray }
  heap := heap
  slotsUsed := slotsUsed
  threads := #[{ frames := .invoking theMethod args0 :: below }]
def below0 : List Frame := [.native { method := ⟨0, 0⟩, args := #[] }]
def about1 : State := aboutOver below0
def p0 : Program := .bare "" "" ""
def e0 : Env := launch0.env 0 0 0
theorem w_frames : about1.frames = Frame.invoking theMethod args0 :: below0 := rfl
set_option maxRecDepth 65536 in
theorem w_args : argsFit about1.vm theMethod args0 = true := by decide +kernel
set_option maxRecDepth 65536 in
theorem w_heap : heapFits about1 = true := by decide +kernel
set_option maxRecDepth 65536 in
theorem w_runnable : about1.curStatus? = some .runnable := by decide +kernel
set_option maxRecDepth 65536 in
theorem w_alone : about1.alone = true := by decide +kernel
set_option maxRecDepth 65536 in
theorem w_named : about1.methodNamed? x = some theMethod := by decide +kernel
set_option maxRecDepth 65536 in
theorem w_hears : about1.hears theMethod below0 = true := by decide +kernel
set_option maxRecDepth 65536 in
theorem w_ripe : about1.ripe theMethod args0 below0 = true := by decide +kernel
theorem w_running : about1.status = .running := rfl
set_option maxRecDepth 65536 in
theorem w_room : about1.hasRoom e0.platform room_1 = true :=
  launch0.hasRoom_least _ room_1 (by decide +kernel) (by decide +kernel) (by decide +kernel) (by decide +kernel) (by decide +kernel) (by decide +kernel)
theorem allAtoms_all (ts : List Jvm.Cond) (a : Array Jvm.Value) (st : Jvm.State) : (allAtoms ts).before a st = ts.all (fun c => c.before a st) := by
  induction ts with
  | nil => rfl
  | cons c t ih =>
    show (Jvm.Cond.and c (allAtoms t)).before a st = _
    rw [Jvm.Cond.before_and, ih, List.all_cons]
def words1 : List Jvm.Cond := Jvm.Cond.code x code maxLocals ret :: tables_1
/-- a 'code' word, met by the world's own term for the bytes: nothing is compared byte by byte -/
theorem code_word {y : MethodName} {bytes : ByteArray} {mx : Nat} {rt : Option FieldType} {a : Array Value} {s : State} {m : MethodId} {meth : Method} {c : Code} (h1 : s.methodNamed? y = some m) (h2 : s.vm.method? m = some meth) (h3 : meth.code = some c) (h4 : c.code = bytes)
    (h5 : (c.maxLocals == mx && c.exceptionTable.isEmpty && decide (c.maxStack ≤ mostOperands) && decide (meth.sig.returnType = rt) && !meth.locks && decide (parseMethodDescriptor y.desc = some meth.sig)) = true) : (Jvm.Cond.code y bytes mx rt).before a s = true := by
  simp only [Bool.and_eq_true, beq_iff_eq, Bool.not_eq_true', decide_eq_true_eq] at h5
  obtain ⟨⟨⟨⟨⟨g1, g2⟩, g3⟩, g4⟩, g5⟩, g6⟩ := h5
  simp [Cond.before, Cond.holds, Cond.value, h1, h2, h3, h4, g1, g2, g3, g4, g5, g6]
def isCode : Jvm.Cond → Bool
  | .code _ _ _ _ => true
  | _ => false
theorem all_split {L : List Jvm.Cond} {P : Jvm.Cond → Bool} (h1 : L.all (fun c => isCode c || P c) = true) (h2 : ∀ c ∈ L.filter isCode, P c = true) : L.all P = true := by
  refine List.all_eq_true.mpr fun c hc => ?_
  have h := List.all_eq_true.mp h1 c hc
  rcases Bool.eq_false_or_eq_true (isCode c) with hi | hi
  · exact h2 c (List.mem_filter.mpr ⟨hc, hi⟩)
  · simpa [hi] using h
set_option maxRecDepth 65536 in
theorem w_c0 : (Jvm.Cond.code x code maxLocals ret).before args0 about1 = true := code_word (m := ⟨1, 1⟩) (meth := k1m1) (c := k1c1) (by decide +kernel) rfl rfl rfl (by decide +kernel)
set_option maxRecDepth 65536 in
theorem w_c1 : (Jvm.Cond.code ({ cls := "java/lang/String", name := "<init>", desc := "([C)V" } : Jvm.MethodName) jdk_42_method_3_code (2 : Nat) (Option.none : Option Jvm.ClassFile.FieldType)).before args0 about1 = true := code_word (m := ⟨7, 1⟩) (meth := k7m1) (c := k7c1) (by decide +kernel) rfl rfl rfl (by decide +kernel)
set_option maxRecDepth 65536 in
theorem w_c2 : (Jvm.Cond.code ({ cls := "java/lang/String", name := "<init>", desc := "([CIILjava/lang/Void;)V" } : Jvm.MethodName) jdk_42_method_149_code (6 : Nat) (Option.none : Option Jvm.ClassFile.FieldType)).before args0 about1 = true := code_word (m := ⟨7, 3⟩) (meth := k7m3) (c := k7c3) (by decide +kernel) rfl rfl rfl (by decide +kernel)
set_option maxRecDepth 65536 in
theorem w_c3 : (Jvm.Cond.code ({ cls := "java/lang/Object", name := "<init>", desc := "()V" } : Jvm.MethodName) object_method_1_code (1 : Nat) (Option.none : Option Jvm.ClassFile.FieldType)).before args0 about1 = true := code_word (m := ⟨0, 0⟩) (meth := k0m0) (c := k0c0) (by decide +kernel) rfl rfl rfl (by decide +kernel)
set_option maxRecDepth 65536 in
theorem w_c4 : (Jvm.Cond.code ({ cls := "java/lang/StringUTF16", name := "compress", desc := "([CII)[B" } : Jvm.MethodName) jdk_52_method_16_code (6 : Nat) (Option.some (Jvm.ClassFile.FieldType.array Jvm.ClassFile.FieldType.byte))).before args0 about1 = true := code_word (m := ⟨8, 2⟩) (meth := k8m2) (c := k8c2) (by decide +kernel) rfl rfl rfl (by decide +kernel)
set_option maxRecDepth 65536 in
theorem w_c5 : (Jvm.Cond.code ({ cls := "java/lang/StringUTF16", name := "compress", desc := "([CI[BII)I" } : Jvm.MethodName) jdk_52_method_21_code (7 : Nat) (Option.some Jvm.ClassFile.FieldType.int)).before args0 about1 = true := code_word (m := ⟨8, 3⟩) (meth := k8m3) (c := k8c3) (by decide +kernel) rfl rfl rfl (by decide +kernel)
set_option maxRecDepth 65536 in
theorem w_c6 : (Jvm.Cond.code ({ cls := "java/lang/StringUTF16", name := "coderFromArrayLen", desc := "([BI)B" } : Jvm.MethodName) jdk_52_method_15_code (2 : Nat) (Option.some Jvm.ClassFile.FieldType.byte)).before args0 about1 = true := code_word (m := ⟨8, 1⟩) (meth := k8m1) (c := k8c1) (by decide +kernel) rfl rfl rfl (by decide +kernel)
set_option maxRecDepth 65536 in
theorem w_c7 : (Jvm.Cond.code ({ cls := "com/example/tidewheel/tidewheel/model/KeyedRequest$Answer", name := "<init>", desc := "(ILjava/lang/String;)V" } : Jvm.MethodName) prog_31_method_1_code (3 : Nat) (Option.none : Option Jvm.ClassFile.FieldType)).before args0 about1 = true := code_word (m := ⟨9, 0⟩) (meth := k9m0) (c := k9c0) (by decide +kernel) rfl rfl rfl (by decide +kernel)
set_option maxRecDepth 65536 in
theorem w_c8 : (Jvm.Cond.code ({ cls := "com/example/tidewheel/tidewheel/model/KeyedRequest$Answer", name := "<init>", desc := "(ILjava/lang/String;Lcom/example/tidewheel/tidewheel/model/RefusedException$Reason;)V" } : Jvm.MethodName) prog_31_method_2_code (4 : Nat) (Option.none : Option Jvm.ClassFile.FieldType)).before args0 about1 = true := code_word (m := ⟨9, 1⟩) (meth := k9m1) (c := k9c1) (by decide +kernel) rfl rfl rfl (by decide +kernel)
set_option maxRecDepth 65536 in
theorem w_c9 : (Jvm.Cond.code ({ cls := "com/example/tidewheel/tidewheel/model/KeyedRequest", name := "<init>", desc := "(Ljava/lang/String;Ljava/lang/String;Ljava/lang/String;Lcom/example/tidewheel/tidewheel/model/KeyedRequest$Answer;)V" } : Jvm.MethodName) prog_30_method_1_code (5 : Nat) (Option.none : Option Jvm.ClassFile.FieldType)).before args0 about1 = true := code_word (m := ⟨10, 0⟩) (meth := k10m0) (c := k10c0) (by decide +kernel) rfl rfl rfl (by decide +kernel)
set_option maxRecDepth 65536 in
theorem w_c10 : (Jvm.Cond.code ({ cls := "com/example/tidewheel/tidewheel/model/KeyedRequest", name := "answered", desc := "(Lcom/example/tidewheel/tidewheel/model/KeyedRequest$Answer;)Lcom/example/tidewheel/tidewheel/model/KeyedRequest;" } : Jvm.MethodName) prog_30_method_4_code (2 : Nat) (Option.some (Jvm.ClassFile.FieldType.object "com/example/tidewheel/tidewheel/model/KeyedRequest"))).before args0 about1 = true := code_word (m := ⟨10, 1⟩) (meth := k10m1) (c := k10c1) (by decide +kernel) rfl rfl rfl (by decide +kernel)
set_option maxRecDepth 65536 in
theorem w_c11 : (Jvm.Cond.code ({ cls := "com/example/tidewheel/tidewheel/model/KeyedRequest", name := "resource", desc := "()Ljava/util/Optional;" } : Jvm.MethodName) prog_30_method_7_code (1 : Nat) (Option.some (Jvm.ClassFile.FieldType.object "java/util/Optional"))).before args0 about1 = true := code_word (m := ⟨10, 4⟩) (meth := k10m4) (c := k10c4) (by decide +kernel) rfl rfl rfl (by decide +kernel)
set_option maxRecDepth 65536 in
theorem w_c12 : (Jvm.Cond.code ({ cls := "java/util/Optional", name := "ofNullable", desc := "(Ljava/lang/Object;)Ljava/util/Optional;" } : Jvm.MethodName) jdk_32_method_4_code (1 : Nat) (Option.some (Jvm.ClassFile.FieldType.object "java/util/Optional"))).before args0 about1 = true := code_word (m := ⟨11, 1⟩) (meth := k11m1) (c := k11c1) (by decide +kernel) rfl rfl rfl (by decide +kernel)
set_option maxRecDepth 65536 in
theorem w_c13 : (Jvm.Cond.code ({ cls := "java/util/Optional", name := "orElse", desc := "(Ljava/lang/Object;)Ljava/lang/Object;" } : Jvm.MethodName) jdk_32_method_15_code (2 : Nat) (Option.some (Jvm.ClassFile.FieldType.object "java/lang/Object"))).before args0 about1 = true := code_word (m := ⟨11, 2⟩) (meth := k11m2) (c := k11c2) (by decide +kernel) rfl rfl rfl (by decide +kernel)
set_option maxRecDepth 65536 in
theorem w_c14 : (Jvm.Cond.code ({ cls := "com/example/tidewheel/tidewheel/model/KeyedRequest", name := "key", desc := "()Ljava/lang/String;" } : Jvm.MethodName) prog_30_method_5_code (1 : Nat) (Option.some (Jvm.ClassFile.FieldType.object "java/lang/String"))).before args0 about1 = true := code_word (m := ⟨10, 2⟩) (meth := k10m2) (c := k10c2) (by decide +kernel) rfl rfl rfl (by decide +kernel)
set_option maxRecDepth 65536 in
theorem w_c15 : (Jvm.Cond.code ({ cls := "java/lang/String", name := "equals", desc := "(Ljava/lang/Object;)Z" } : Jvm.MethodName) jdk_42_method_66_code (3 : Nat) (Option.some Jvm.ClassFile.FieldType.boolean)).before args0 about1 = true := code_word (m := ⟨7, 2⟩) (meth := k7m2) (c := k7c2) (by decide +kernel) rfl rfl rfl (by decide +kernel)
set_option maxRecDepth 65536 in
theorem w_c16 : (Jvm.Cond.code ({ cls := "com/example/tidewheel/tidewheel/model/KeyedRequest", name := "request", desc := "()Ljava/lang/String;" } : Jvm.MethodName) prog_30_method_6_code (1 : Nat) (Option.some (Jvm.ClassFile.FieldType.object "java/lang/String"))).before args0 about1 = true := code_word (m := ⟨10, 3⟩) (meth := k10m3) (c := k10c3) (by decide +kernel) rfl rfl rfl (by decide +kernel)
set_option maxRecDepth 65536 in
theorem w_c17 : (Jvm.Cond.code ({ cls := "com/example/tidewheel/tidewheel/model/KeyedRequest", name := "answer", desc := "()Ljava/util/Optional;" } : Jvm.MethodName) prog_30_method_8_code (1 : Nat) (Option.some (Jvm.ClassFile.FieldType.object "java/util/Optional"))).before args0 about1 = true := code_word (m := ⟨10, 5⟩) (meth := k10m5) (c := k10c5) (by decide +kernel) rfl rfl rfl (by decide +kernel)
set_option maxRecDepth 65536 in
theorem w_c18 : (Jvm.Cond.code ({ cls := "java/util/Optional", name := "<init>", desc := "(Ljava/lang/Object;)V" } : Jvm.MethodName) jdk_32_method_2_code (2 : Nat) (Option.none : Option Jvm.ClassFile.FieldType)).before args0 about1 = true := code_word (m := ⟨11, 0⟩) (meth := k11m0) (c := k11c0) (by decide +kernel) rfl rfl rfl (by decide +kernel)
def codes1 : List Jvm.Cond := [Jvm.Cond.code x code maxLocals ret, Jvm.Cond.code ({ cls := "java/lang/String", name := "<init>", desc := "([C)V" } : Jvm.MethodName) jdk_42_method_3_code (2 : Nat) (Option.none : Option Jvm.ClassFile.FieldType), Jvm.Cond.code ({ cls := "java/lang/String", name := "<init>", desc := "([CIILjava/lang/Void;)V" } : Jvm.MethodName) jdk_42_method_149_code (6 : Nat) (Option.none : Option Jvm.ClassFile.FieldType), Jvm.Cond.code ({ cls := "java/lang/Object", name := "<init>", desc := "()V" } : Jvm.MethodName) object_method_1_code (1 : Nat) (Option.none : Option Jvm.ClassFile.FieldType), Jvm.Cond.code ({ cls := "java/lang/StringUTF16", name := "compress", desc := "([CII)[B" } : Jvm.MethodName) jdk_52_method_16_code (6 : Nat) (Option.some (Jvm.ClassFile.FieldType.array Jvm.ClassFile.FieldType.byte)), Jvm.Cond.code ({ cls := "java/lang/StringUTF16", name := "compress", desc := "([CI[BII)I" } : Jvm.MethodName) jdk_52_method_21_code (7 : Nat) (Option.some Jvm.ClassFile.FieldType.int), Jvm.Cond.code ({ cls := "java/lang/StringUTF16", name := "coderFromArrayLen", desc := "([BI)B" } : Jvm.MethodName) jdk_52_method_15_code (2 : Nat) (Option.some Jvm.ClassFile.FieldType.byte), Jvm.Cond.code ({ cls := "com/example/tidewheel/tidewheel/model/KeyedRequest$Answer", name := "<init>", desc := "(ILjava/lang/String;)V" } : Jvm.MethodName) prog_31_method_1_code (3 : Nat) (Option.none : Option Jvm.ClassFile.FieldType), Jvm.Cond.code ({ cls := "com/example/tidewheel/tidewheel/model/KeyedRequest$Answer", name := "<init>", desc := "(ILjava/lang/String;Lcom/example/tidewheel/tidewheel/model/RefusedException$Reason;)V" } : Jvm.MethodName) prog_31_method_2_code (4 : Nat) (Option.none : Option Jvm.ClassFile.FieldType), Jvm.Cond.code ({ cls := "com/example/tidewheel/tidewheel/model/KeyedRequest", name := "<init>", desc := "(Ljava/lang/String;Ljava/lang/String;Ljava/lang/String;Lcom/example/tidewheel/tidewheel/model/KeyedRequest$Answer;)V" } : Jvm.MethodName) prog_30_method_1_code (5 : Nat) (Option.none : Option Jvm.ClassFile.FieldType), Jvm.Cond.code ({ cls := "com/example/tidewheel/tidewheel/model/KeyedRequest", name := "answered", desc := "(Lcom/example/tidewheel/tidewheel/model/KeyedRequest$Answer;)Lcom/example/tidewheel/tidewheel/model/KeyedRequest;" } : Jvm.MethodName) prog_30_method_4_code (2 : Nat) (Option.some (Jvm.ClassFile.FieldType.object "com/example/tidewheel/tidewheel/model/KeyedRequest")), Jvm.Cond.code ({ cls := "com/example/tidewheel/tidewheel/model/KeyedRequest", name := "resource", desc := "()Ljava/util/Optional;" } : Jvm.MethodName) prog_30_method_7_code (1 : Nat) (Option.some (Jvm.ClassFile.FieldType.object "java/util/Optional")), Jvm.Cond.code ({ cls := "java/util/Optional", name := "ofNullable", desc := "(Ljava/lang/Object;)Ljava/util/Optional;" } : Jvm.MethodName) jdk_32_method_4_code (1 : Nat) (Option.some (Jvm.ClassFile.FieldType.object "java/util/Optional")), Jvm.Cond.code ({ cls := "java/util/Optional", name := "orElse", desc := "(Ljava/lang/Object;)Ljava/lang/Object;" } : Jvm.MethodName) jdk_32_method_15_code (2 : Nat) (Option.some (Jvm.ClassFile.FieldType.object "java/lang/Object")), Jvm.Cond.code ({ cls := "com/example/tidewheel/tidewheel/model/KeyedRequest", name := "key", desc := "()Ljava/lang/String;" } : Jvm.MethodName) prog_30_method_5_code (1 : Nat) (Option.some (Jvm.ClassFile.FieldType.object "java/lang/String")), Jvm.Cond.code ({ cls := "java/lang/String", name := "equals", desc := "(Ljava/lang/Object;)Z" } : Jvm.MethodName) jdk_42_method_66_code (3 : Nat) (Option.some Jvm.ClassFile.FieldType.boolean), Jvm.Cond.code ({ cls := "com/example/tidewheel/tidewheel/model/KeyedRequest", name := "request", desc := "()Ljava/lang/String;" } : Jvm.MethodName) prog_30_method_6_code (1 : Nat) (Option.some (Jvm.ClassFile.FieldType.object "java/lang/String")), Jvm.Cond.code ({ cls := "com/example/tidewheel/tidewheel/model/KeyedRequest", name := "answer", desc := "()Ljava/util/Optional;" } : Jvm.MethodName) prog_30_method_8_code (1 : Nat) (Option.some (Jvm.ClassFile.FieldType.object "java/util/Optional")), Jvm.Cond.code ({ cls := "java/util/Optional", name := "<init>", desc := "(Ljava/lang/Object;)V" } : Jvm.MethodName) jdk_32_method_2_code (2 : Nat) (Option.none : Option Jvm.ClassFile.FieldType)]
set_option maxRecDepth 65536 in
theorem codes_eq : words1.filter isCode = codes1 := rfl
theorem w_codes : ∀ c ∈ words1.filter isCode, c.before args0 about1 = true := by
  rw [codes_eq]
  intro c hc
  simp only [codes1, List.mem_cons, List.not_mem_nil, or_false] at hc
  rcases hc with rfl | rfl | rfl | rfl | rfl | rfl | rfl | rfl | rfl | rfl | rfl | rfl | rfl | rfl | rfl | rfl | rfl | rfl | rfl
  · exact w_c0
  · exact w_c1
  · exact w_c2
  · exact w_c3
  · exact w_c4
  · exact w_c5
  · exact w_c6
  · exact w_c7
  · exact w_c8
  · exact w_c9
  · exact w_c10
  · exact w_c11
  · exact w_c12
  · exact w_c13
  · exact w_c14
  · exact w_c15
  · exact w_c16
  · exact w_c17
  · exact w_c18
set_option maxRecDepth 65536 in
theorem w_t1 : (words1.take 24).all (fun c => isCode c || c.before args0 about1) = true := by decide +kernel
set_option maxRecDepth 65536 in
theorem w_t2 : ((words1.drop 24).take 24).all (fun c => isCode c || c.before args0 about1) = true := by decide +kernel
set_option maxRecDepth 65536 in
theorem w_t3 : (((words1.drop 24).drop 24).take 24).all (fun c => isCode c || c.before args0 about1) = true := by decide +kernel
set_option maxRecDepth 65536 in
theorem w_t4 : ((((words1.drop 24).drop 24).drop 24).take 24).all (fun c => isCode c || c.before args0 about1) = true := by decide +kernel
set_option maxRecDepth 65536 in
theorem w_t5 : ((((words1.drop 24).drop 24).drop 24).drop 24).all (fun c => isCode c || c.before args0 about1) = true := by decide +kernel
theorem w_tables : (allAtoms (Jvm.Cond.code x code maxLocals ret :: tables_1)).before args0 about1 = true := by
  rw [allAtoms_all]
  show words1.all (fun c => c.before args0 about1) = true
  refine all_split ?_ w_codes
  rw [← List.take_append_drop 24 words1, List.all_append, w_t1, ← List.take_append_drop 24 (words1.drop 24), List.all_append, w_t2, ← List.take_append_drop 24 ((words1.drop 24).drop 24), List.all_append, w_t3, ← List.take_append_drop 24 (((words1.drop 24).drop 24).drop 24), List.all_append, w_t4, w_t5]
  rfl
set_option maxRecDepth 65536 in
theorem w_rest : rest_1_c.before args0 about1 = true := by decide +kernel
set_option maxRecDepth 65536 in
theorem w_case : (Jvm.Cond.and given_1 narrow_1).before args0 about1 = true := by decide +kernel
theorem w_applies : (headSpec (Jvm.Cond.code x code maxLocals ret :: tables_1) room_1).applies x e0.platform about1 = true :=
  (Spec.applies_iff w_frames).mpr ⟨w_running, w_runnable, w_alone, w_named, w_hears, w_ripe, w_room, w_tables⟩
theorem atStart : AtStart classFile x code maxLocals ret World_1 tables_1 room_1 Calls_1 rest_1 Pre_1 launch0 p0 e0 about1 theMethod args0 below0 :=
  ⟨lists_1, trivial, launch0.admits_env _ _ _, launch0.least_env, fairChoices_fair.cas, fairChoices_fair.clock, w_frames, w_args, w_heap, w_applies, trivial, w_rest, w_case⟩
end start1
theorem witness_1 : WitnessClaimed_1 := ⟨start1.p0, start1.e0, start1.about1, start1.theMethod, start1.args0, start1.below0, start1.atStart⟩
end Jvm.Pilot.@@N@@
