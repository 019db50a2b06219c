import JvmDerived
import JvmDerived.Pilot.@@N@@Statement
import JvmDerived.Pilot.@@N@@Code
set_option linter.unusedVariables false
set_option linter.unusedSimpArgs false
/- laws to paste: Road.lenW, Road.codOf, pair_says, lo8_mask, shr0, Road.wide_lo, Road.wide_hi, Road.low_at (cut by pick.py; bodies as the Statement names them) -/
namespace Jvm.Pilot.@@N@@
namespace StrChars
open Jvm Sem ClassFile Op Lib Jvm.Stand Jvm.Free.XT Jvm.Free.ALB Jvm.Free.JM Jvm.Free
open Jvm.Lib.Cold (StaticIs)
/-- a char array whose places are chars -/
def Ch (a : Addr) (A : Cell) (U : State) : Prop := Arr .char a A U ∧ Typed .char A
theorem Ch.mv {a : Addr} {A : Cell} {U U' : State} (h : Ch a A U) (hal : U.vm.Alike U'.vm) (hh : U'.heap = U.heap) : Ch a A U' := ⟨h.1.mv hal hh, h.2⟩
theorem Ch.keep {a : Addr} {A : Cell} {U U' : State} (h : Ch a A U) (hal : U.vm.Alike U'.vm) (hk : U'.heap[a]? = some A) : Ch a A U' := ⟨h.1.keep hal hk, h.2⟩
/-- what place i of a char[]'s cell holds -/
def cv (A : Cell) (i : Nat) : Int32 := match A.slots[i]? with | some (.int x) => x | _ => 0
theorem Ch.get {a : Addr} {A : Cell} {U : State} (h : Ch a A U) {i : Nat} (hi : i < A.slots.size) : A.slots[i]? = some (.int (cv A i)) := by
  have e := Array.getElem?_eq_getElem hi
  have f := h.2 i _ e
  unfold cv; rw [e]
  generalize A.slots[i] = v at f
  cases v <;> simp [fits] at f ⊢
/-- the byte that i2b leaves of a char -/
def lo8 (x : Int32) : Int32 := x.toInt8.toInt32
theorem fits_lo8 (y : Int32) : fits .byte (.int (lo8 y)) = true := by
  have h1 := y.toInt8.le_toInt
  have h2 := y.toInt8.toInt_lt
  simp only [lo8, fits, Bool.and_eq_true, decide_eq_true_eq, Int32.le_iff_toInt_le, Int8.toInt_toInt32, show (-128 : Int32).toInt = -128 from by decide, show (127 : Int32).toInt = 127 from by decide]
  omega
/-- A' is A but that each place j of lo .. hi - 1 holds f j -/
def Laid (A A' : Cell) (lo hi : Nat) (f : Nat → Value) : Prop := A'.cls = A.cls ∧ A'.vm = A.vm ∧ A'.slots.size = A.slots.size ∧ ∀ i, A'.slots[i]? = if lo ≤ i ∧ i < hi then some (f i) else A.slots[i]?
theorem Laid.zero (A : Cell) (lo : Nat) (f : Nat → Value) : Laid A A lo (lo + 0) f := ⟨rfl, rfl, rfl, fun i => by rw [if_neg (by omega)]⟩
theorem Laid.step {A Ak : Cell} {lo k : Nat} {f : Nat → Value} {v : Value} (h : Laid A Ak lo k f) (hlo : lo ≤ k) (hk : k < Ak.slots.size) (hv : v = f k) : Laid A (Ak.setSlot k v) lo (k + 1) f := by
  refine ⟨h.1, h.2.1, by simpa [Cell.setSlot] using h.2.2.1, fun i => ?_⟩
  by_cases e : k = i
  · subst e; rw [Cell.slots_setSlot_self v hk, if_pos (by omega), hv]
  · rw [Cell.slots_setSlot_ne v e, h.2.2.2 i]
    by_cases q : lo ≤ i ∧ i < k
    · rw [if_pos q, if_pos (by omega)]
    · rw [if_neg q, if_neg (by omega)]
def U16 : String := "java/lang/StringUTF16"
namespace Cmp5
def yN : MethodName := ⟨"java/lang/StringUTF16", "compress", "([CI[BII)I"⟩
abbrev yB : ByteArray := jdk_52_method_21_code
theorem d0 : decode yB 0 = .ok (.iconst 0, 1) := by decide +kernel
theorem d1 : decode yB 1 = .ok (.istore 5, 2) := by decide +kernel
theorem d3 : decode yB 3 = .ok (.iload 5, 2) := by decide +kernel
theorem d5 : decode yB 5 = .ok (.iload 4, 2) := by decide +kernel
theorem d7 : decode yB 7 = .ok (.if_icmp (.ge) 37, 3) := by decide +kernel
theorem d10 : decode yB 10 = .ok (.aload_n 0, 1) := by decide +kernel
theorem d11 : decode yB 11 = .ok (.iload_n 1, 1) := by decide +kernel
theorem d12 : decode yB 12 = .ok (.caload, 1) := by decide +kernel
theorem d13 : decode yB 13 = .ok (.istore 6, 2) := by decide +kernel
theorem d15 : decode yB 15 = .ok (.iload 6, 2) := by decide +kernel
theorem d17 : decode yB 17 = .ok (.sipush 255, 3) := by decide +kernel
theorem d20 : decode yB 20 = .ok (.if_icmp (.le) 6, 3) := by decide +kernel
theorem d26 : decode yB 26 = .ok (.aload_n 2, 1) := by decide +kernel
theorem d27 : decode yB 27 = .ok (.iload_n 3, 1) := by decide +kernel
theorem d28 : decode yB 28 = .ok (.iload 6, 2) := by decide +kernel
theorem d30 : decode yB 30 = .ok (.i2b, 1) := by decide +kernel
theorem d31 : decode yB 31 = .ok (.bastore, 1) := by decide +kernel
theorem d32 : decode yB 32 = .ok (.iinc 1 1, 3) := by decide +kernel
theorem d35 : decode yB 35 = .ok (.iinc 3 1, 3) := by decide +kernel
theorem d38 : decode yB 38 = .ok (.iinc 5 1, 3) := by decide +kernel
theorem d41 : decode yB 41 = .ok (.goto (-38), 3) := by decide +kernel
theorem d44 : decode yB 44 = .ok (.iload 4, 2) := by decide +kernel
theorem d46 : decode yB 46 = .ok (.ireturn, 1) := by decide +kernel
def site : List Cond := []
def tab : Cond := tabOf yN yB 7 (some .int) site
def P (b : Addr) (A : Cell) (d : Addr) (B : Cell) (o q len : Nat) (args : Array Value) (s : State) : Prop := args = #[.ref b, .int (Int32.ofNat o), .ref d, .int (Int32.ofNat q), .int (Int32.ofNat len)] ∧ Ch b A s ∧ Arr .byte d B s ∧ b ≠ d ∧ o + len ≤ A.slots.size ∧ q + len ≤ B.slots.size ∧ ∀ i, i < len → ¬ 255 < cv A (o + i)
def E (b : Addr) (A : Cell) (d : Addr) (B : Cell) (o q len : Nat) (r : Option Value) (s u : State) : Prop := r = some (.int (Int32.ofNat len)) ∧ ∃ B', Put d B' s u ∧ Laid B B' q (q + len) (fun j => Value.int (lo8 (cv A (o + (j - q)))))
/-- no char of the range above 255: len; the places written hold each char's low byte -/
theorem law (l : Launch) (b : Addr) (A : Cell) (d : Addr) (B : Cell) (o q len : Nat) : Law l yN 5 5 0 0 yB 7 (some .int) site (P b A d B o q len) (E b A d B o q len) (copyLocs d q len) 0 0 := by
  refine Law.of_walk (plainFor_of_name (by decide +kernel)) (by decide +kernel) (by decide +kernel) (by decide) (fun _ _ h => by rw [h.1]; rfl) (fun _ U U' hal hh h => ⟨h.1, h.2.1.mv hal hh, h.2.2.1.mv hal hh, h.2.2.2⟩) (fun r U U' V V' h1 hal h2 h => ⟨h.1, h.2.elim fun B' q => ⟨B', q.1.mv h1 h2, q.2⟩⟩) ?_
  intro p e s m args below meth c s₁ X0 hexec hbytes hml hret hlk hnm hown hh0 W hP
  obtain ⟨rfl, hA, hB, hne, l1, l2, hp⟩ := hP
  have c1 : Steps p.tables e below (s₁.setTop (entryFrame m #[.ref b, .int (Int32.ofNat o), .ref d, .int (Int32.ofNat q), .int (Int32.ofNat len)] 7)) (s₁.setTop (mkF m 0 #[.val (.ref b), .val (.int (Int32.ofNat o)), .val (.ref d), .val (.int (Int32.ofNat q)), .val (.int (Int32.ofNat len)), .unset, .unset] [])) := entry rfl
  have hA0 := hA.1.mv X0.warmed.alike hh0
  have hB0 := hB.mv X0.warmed.alike hh0
  have a31 := hA.1.2.2.2
  have c2 : Steps p.tables e below (s₁.setTop (entryFrame m #[.ref b, .int (Int32.ofNat o), .ref d, .int (Int32.ofNat q), .int (Int32.ofNat len)] 7)) (s₁.setTop (mkF m 3 #[.val (.ref b), .val (.int (Int32.ofNat o)), .val (.ref d), .val (.int (Int32.ofNat q)), .val (.int (Int32.ofNat len)), .val (.int 0), .unset] [])) := c1.trans (by
    refine iconstV X0.here hexec rfl 0 (hb hbytes d0) (by decide) ?_
    refine XS.istore X0.here hexec rfl (hb hbytes d1) rfl rfl ?_
    exact Steps.refl _)
  have loop : ∀ (r i : Nat), i + r = len → ∀ (z : Slot), (z = .unset ∨ ∃ w, z = .val w ∧ w.category = 1) → ∀ (Tl : State) (Bk : Cell), Stand p l e { frames := 0, locals := 0, cells := 0, slots := 0 } s m #[.ref b, .int (Int32.ofNat o), .ref d, .int (Int32.ofNat q), .int (Int32.ofNat len)] below meth c Tl ([] ++ copyLocs d q i) 0 0 → Put d Bk s₁ Tl → Laid B Bk q (q + i) (fun j => Value.int (lo8 (cv A (o + (j - q))))) →
      Steps p.tables e below (s₁.setTop (entryFrame m #[.ref b, .int (Int32.ofNat o), .ref d, .int (Int32.ofNat q), .int (Int32.ofNat len)] 7)) (Tl.setTop (mkF m 3 #[.val (.ref b), .val (.int (Int32.ofNat (o + i))), .val (.ref d), .val (.int (Int32.ofNat (q + i))), .val (.int (Int32.ofNat len)), .val (.int (Int32.ofNat i)), z] [])) → ∃ (T' : State) (B' : Cell) (z' : Slot), Stand p l e { frames := 0, locals := 0, cells := 0, slots := 0 } s m #[.ref b, .int (Int32.ofNat o), .ref d, .int (Int32.ofNat q), .int (Int32.ofNat len)] below meth c T' ([] ++ copyLocs d q len) 0 0 ∧ Put d B' s₁ T' ∧ Laid B B' q (q + len) (fun j => Value.int (lo8 (cv A (o + (j - q))))) ∧
      Steps p.tables e below (s₁.setTop (entryFrame m #[.ref b, .int (Int32.ofNat o), .ref d, .int (Int32.ofNat q), .int (Int32.ofNat len)] 7)) (T'.setTop (mkF m 3 #[.val (.ref b), .val (.int (Int32.ofNat (o + len))), .val (.ref d), .val (.int (Int32.ofNat (q + len))), .val (.int (Int32.ofNat len)), .val (.int (Int32.ofNat len)), z'] [])) := by
    intro r
    induction r with
    | zero =>
      intro i hi z hz Tl Bk Xl pl fl cl
      have hil : i = len := by omega
      rw [hil] at Xl fl cl
      exact ⟨Tl, Bk, z, Xl, pl, fl, cl⟩
    | succ r ih =>
      intro i hi z hz Tl Bk Xl pl fl cl
      have all := X0.warmed.alike.symm.trans Xl.warmed.alike
      have hAl := hA0.keep all (pl.other hne hA0.1)
      have hBk := hB0.like all pl.1 fl.1 fl.2.1 fl.2.2.1
      have hlt : q + i < Bk.slots.size := by rw [fl.2.2.1]; omega
      have c3 : Steps p.tables e below (s₁.setTop (entryFrame m #[.ref b, .int (Int32.ofNat o), .ref d, .int (Int32.ofNat q), .int (Int32.ofNat len)] 7)) (Tl.setTop (mkF m 12 #[.val (.ref b), .val (.int (Int32.ofNat (o + i))), .val (.ref d), .val (.int (Int32.ofNat (q + i))), .val (.int (Int32.ofNat len)), .val (.int (Int32.ofNat i)), z] [.int (Int32.ofNat (o + i)), .ref b])) := cl.trans (by
        refine XS.iload Xl.here hexec rfl (hb hbytes d3) rfl ?_
        refine XS.iload Xl.here hexec rfl (hb hbytes d5) rfl ?_
        refine XS.icmpNo Xl.here hexec rfl (hb hbytes d7) rfl (ii_ge_f (lt32 (by omega) (by omega))) ?_
        refine XS.aloadN Xl.here hexec rfl (hb hbytes d10) rfl rfl ?_
        refine XS.iloadN Xl.here hexec rfl (hb hbytes d11) rfl ?_
        exact Steps.refl _)
      have c4 : Steps p.tables e below (s₁.setTop (entryFrame m #[.ref b, .int (Int32.ofNat o), .ref d, .int (Int32.ofNat q), .int (Int32.ofNat len)] 7)) (Tl.setTop (mkF m 13 #[.val (.ref b), .val (.int (Int32.ofNat (o + i))), .val (.ref d), .val (.int (Int32.ofNat (q + i))), .val (.int (Int32.ofNat len)), .val (.int (Int32.ofNat i)), z] [.int (cv A (o + i))])) := c3.trans (by
        refine Xl.aget hexec hAl rfl (hA.get (i := o + i) (by omega)) rfl rfl (hb hbytes d12) ?_
        exact Steps.refl _)
      have c5 : Steps p.tables e below (s₁.setTop (entryFrame m #[.ref b, .int (Int32.ofNat o), .ref d, .int (Int32.ofNat q), .int (Int32.ofNat len)] 7)) (Tl.setTop (mkF m 15 #[.val (.ref b), .val (.int (Int32.ofNat (o + i))), .val (.ref d), .val (.int (Int32.ofNat (q + i))), .val (.int (Int32.ofNat len)), .val (.int (Int32.ofNat i)), .val (.int (cv A (o + i)))] [])) := c4.trans (by
        refine XS.istoreS Xl.here hexec rfl (hb hbytes d13) rfl rfl hz ?_
        exact Steps.refl _)
      have c6 : Steps p.tables e below (s₁.setTop (entryFrame m #[.ref b, .int (Int32.ofNat o), .ref d, .int (Int32.ofNat q), .int (Int32.ofNat len)] 7)) (Tl.setTop (mkF m 31 #[.val (.ref b), .val (.int (Int32.ofNat (o + i))), .val (.ref d), .val (.int (Int32.ofNat (q + i))), .val (.int (Int32.ofNat len)), .val (.int (Int32.ofNat i)), .val (.int (cv A (o + i)))] [.int (lo8 (cv A (o + i))), .int (Int32.ofNat (q + i)), .ref d])) := c5.trans (by
        refine XS.iload Xl.here hexec rfl (hb hbytes d15) rfl ?_
        refine sipushV Xl.here hexec rfl 255 (hb hbytes d17) (by decide) ?_
        refine XS.icmpYes Xl.here hexec rfl (pc0 := 20) rfl (hb hbytes d20) rfl (ii_le_t (hp i (by omega))) (by decide) rfl ?_
        refine XS.aloadN Xl.here hexec rfl (hb hbytes d26) rfl rfl ?_
        refine XS.iloadN Xl.here hexec rfl (hb hbytes d27) rfl ?_
        refine XS.iload Xl.here hexec rfl (hb hbytes d28) rfl ?_
        refine i2b Xl.here hexec rfl (hb hbytes d30) rfl ?_
        exact Steps.refl _)
      obtain ⟨T7, X7, p7, st7⟩ := Xl.aput hexec hBk rfl hlt rfl (fits_lo8 (cv A (o + i))) (g := (mkF m 31 #[.val (.ref b), .val (.int (Int32.ofNat (o + i))), .val (.ref d), .val (.int (Int32.ofNat (q + i))), .val (.int (Int32.ofNat len)), .val (.int (Int32.ofNat i)), .val (.int (cv A (o + i)))] [.int (lo8 (cv A (o + i))), .int (Int32.ofNat (q + i)), .ref d])) rfl (rest := []) rfl (hb hbytes d31)
      have c8 : Steps p.tables e below (s₁.setTop (entryFrame m #[.ref b, .int (Int32.ofNat o), .ref d, .int (Int32.ofNat q), .int (Int32.ofNat len)] 7)) (T7.setTop (mkF m 32 #[.val (.ref b), .val (.int (Int32.ofNat (o + i))), .val (.ref d), .val (.int (Int32.ofNat (q + i))), .val (.int (Int32.ofNat len)), .val (.int (Int32.ofNat i)), .val (.int (cv A (o + i)))] [])) := c6.trans (st7 _ (Steps.refl _))
      have c9 : Steps p.tables e below (s₁.setTop (entryFrame m #[.ref b, .int (Int32.ofNat o), .ref d, .int (Int32.ofNat q), .int (Int32.ofNat len)] 7)) (T7.setTop (mkF m 3 #[.val (.ref b), .val (.int (Int32.ofNat (o + i) + 1)), .val (.ref d), .val (.int (Int32.ofNat (q + i) + 1)), .val (.int (Int32.ofNat len)), .val (.int (Int32.ofNat i + 1)), .val (.int (cv A (o + i)))] [])) := c8.trans (by
        refine iincV X7.here hexec rfl 1 (hb hbytes d32) (by decide) rfl rfl ?_
        refine iincV X7.here hexec rfl 1 (hb hbytes d35) (by decide) rfl rfl ?_
        refine iincV X7.here hexec rfl 1 (hb hbytes d38) (by decide) rfl rfl ?_
        refine XS.goto X7.here hexec rfl (pc0 := 41) rfl (hb hbytes d41) (by decide) rfl ?_
        exact Steps.refl _)
      have c10 : Steps p.tables e below (s₁.setTop (entryFrame m #[.ref b, .int (Int32.ofNat o), .ref d, .int (Int32.ofNat q), .int (Int32.ofNat len)] 7)) (T7.setTop (mkF m 3 #[.val (.ref b), .val (.int (Int32.ofNat (o + (i + 1)))), .val (.ref d), .val (.int (Int32.ofNat (q + (i + 1)))), .val (.int (Int32.ofNat len)), .val (.int (Int32.ofNat (i + 1))), .val (.int (cv A (o + i)))] [])) := by
        have := c9
        rw [succ32, succ32, succ32] at this
        exact this
      exact ih (i + 1) (by omega) _ (Or.inr ⟨_, rfl, rfl⟩) T7 _ (by rw [copyLocs_step, ← List.append_assoc]; exact X7) (pl.trans p7) (fl.step (by omega) hlt (by simp)) c10
  obtain ⟨T9, B9, z9, X9, p9, f9, g9⟩ := loop len 0 (by omega) .unset (Or.inl rfl) s₁ B (by simpa [copyLocs] using X0) ⟨hB0.1, fun _ _ => rfl, rfl⟩ (Laid.zero _ _ _) c2
  have c11 : Steps p.tables e below (s₁.setTop (entryFrame m #[.ref b, .int (Int32.ofNat o), .ref d, .int (Int32.ofNat q), .int (Int32.ofNat len)] 7)) (T9.setTop (mkF m 46 #[.val (.ref b), .val (.int (Int32.ofNat (o + len))), .val (.ref d), .val (.int (Int32.ofNat (q + len))), .val (.int (Int32.ofNat len)), .val (.int (Int32.ofNat len)), z9] [.int (Int32.ofNat len)])) := g9.trans (by
    refine XS.iload X9.here hexec rfl (hb hbytes d3) rfl ?_
    refine XS.iload X9.here hexec rfl (hb hbytes d5) rfl ?_
    refine XS.icmpYes X9.here hexec rfl (pc0 := 7) rfl (hb hbytes d7) rfl (ii_ge_t (nlt32 (by omega) (Nat.le_refl _))) (by decide) rfl ?_
    refine XS.iload X9.here hexec rfl (hb hbytes d44) rfl ?_
    exact Steps.refl _)
  exact ⟨T9, some (.int (Int32.ofNat len)), _, _, _, X9, by simp, rfl, rfl, (fun h => by cases h), ⟨rfl, B9, p9.from hh0, f9⟩, fun fs hl => c11.trans (X9.ireturnOut hexec hret rfl (Or.inl rfl) (hb hbytes d46) hl)⟩
end Cmp5
namespace Cmp3
def yN : MethodName := ⟨"java/lang/StringUTF16", "compress", "([CII)[B"⟩
abbrev yB : ByteArray := jdk_52_method_16_code
theorem d0 : decode yB 0 = .ok (.iload_n 2, 1) := by decide +kernel
theorem d1 : decode yB 1 = .ok (.newarray .byte, 2) := by decide +kernel
theorem d3 : decode yB 3 = .ok (.astore_n 3, 1) := by decide +kernel
theorem d4 : decode yB 4 = .ok (.aload_n 0, 1) := by decide +kernel
theorem d5 : decode yB 5 = .ok (.iload_n 1, 1) := by decide +kernel
theorem d6 : decode yB 6 = .ok (.aload_n 3, 1) := by decide +kernel
theorem d7 : decode yB 7 = .ok (.iconst 0, 1) := by decide +kernel
theorem d8 : decode yB 8 = .ok (.iload_n 2, 1) := by decide +kernel
theorem d9 : decode yB 9 = .ok (.invokestatic 115, 3) := by decide +kernel
theorem d12 : decode yB 12 = .ok (.istore 4, 2) := by decide +kernel
theorem d14 : decode yB 14 = .ok (.iload 4, 2) := by decide +kernel
theorem d16 : decode yB 16 = .ok (.iload_n 2, 1) := by decide +kernel
theorem d17 : decode yB 17 = .ok (.if_icmp (.eq) 40, 3) := by decide +kernel
theorem d57 : decode yB 57 = .ok (.aload_n 3, 1) := by decide +kernel
theorem d58 : decode yB 58 = .ok (.areturn, 1) := by decide +kernel
def site : List Cond := [.arrayClass .byte, Cmp5.tab] ++ staticW U16 115 Cmp5.yN
def tab : Cond := tabOf yN yB 6 (some (.array .byte)) site
def P (b : Addr) (A : Cell) (o len : Nat) (args : Array Value) (s : State) : Prop := args = #[.ref b, .int (Int32.ofNat o), .int (Int32.ofNat len)] ∧ Ch b A s ∧ o + len ≤ A.slots.size ∧ len ≤ 536870912 ∧ ∀ i, i < len → ¬ 255 < cv A (o + i)
def E (b : Addr) (A : Cell) (o len : Nat) (r : Option Value) (s u : State) : Prop := NewArr .byte "[B" len (fun j => .int (lo8 (cv A (o + j)))) r s u ∧ u.heap.size = s.heap.size + 1
/-- no char of the range above 255: a new byte[] of their low bytes -/
theorem law (l : Launch) (b : Addr) (A : Cell) (o len : Nat) : Law l yN 3 3 1 18 yB 6 (some (.array .byte)) site (P b A o len) (E b A o len) [] 1 len := by
  refine Law.of_walk (plainFor_of_name (by decide +kernel)) (by decide +kernel) (by decide +kernel) (by decide) (fun _ _ h => by rw [h.1]; rfl) (fun _ U U' hal hh h => ⟨h.1, h.2.1.mv hal hh, h.2.2⟩) (fun r U U' V V' h1 hal h2 h => ⟨NewArr.mv r U U' V V' h1 hal h2 h.1, by rw [h1, h2]; exact h.2⟩) ?_
  intro p e s m args below meth c s₁ X0 hexec hbytes hml hret hlk hnm hown hh0 W hP
  obtain ⟨rfl, hA, l1, l2, hp⟩ := hP
  have a31 := hA.1.2.2.2
  have c1 : Steps p.tables e below (s₁.setTop (entryFrame m #[.ref b, .int (Int32.ofNat o), .int (Int32.ofNat len)] 6)) (s₁.setTop (mkF m 0 #[.val (.ref b), .val (.int (Int32.ofNat o)), .val (.int (Int32.ofNat len)), .unset, .unset, .unset] [])) := entry rfl
  have c2 : Steps p.tables e below (s₁.setTop (entryFrame m #[.ref b, .int (Int32.ofNat o), .int (Int32.ofNat len)] 6)) (s₁.setTop (mkF m 1 #[.val (.ref b), .val (.int (Int32.ofNat o)), .val (.int (Int32.ofNat len)), .unset, .unset, .unset] [.int (Int32.ofNat len)])) := c1.trans (by
    refine XS.iloadN X0.here hexec rfl (hb hbytes d0) rfl ?_
    exact Steps.refl _)
  obtain ⟨T3, B3, X3, ba3, bs3, bv3, bh3, bf3, st3⟩ := X0.anew hexec (atype := .byte) (wk W (.arrayClass .byte)) rfl (by show len * 1 ≤ _; omega) (by omega) (g := (mkF m 1 #[.val (.ref b), .val (.int (Int32.ofNat o)), .val (.int (Int32.ofNat len)), .unset, .unset, .unset] [.int (Int32.ofNat len)])) rfl (hb hbytes d1) (rest := []) rfl (Nat.le_refl _) (by show 0 + len ≤ len; omega)
  rw [hh0] at ba3 st3
  have kp3 : XT.Kept s T3 := (XT.Kept.of_eq hh0).push bh3
  have hA3 := hA.keep X3.warmed.alike (kp3 _ _ hA.1.1)
  have hne : b ≠ s.heap.size := hA.1.ne
  have c4 : Steps p.tables e below (s₁.setTop (entryFrame m #[.ref b, .int (Int32.ofNat o), .int (Int32.ofNat len)] 6)) (T3.setTop (mkF m 3 #[.val (.ref b), .val (.int (Int32.ofNat o)), .val (.int (Int32.ofNat len)), .unset, .unset, .unset] [.ref s.heap.size])) := c2.trans (st3 _ (Steps.refl _))
  have c5 : Steps p.tables e below (s₁.setTop (entryFrame m #[.ref b, .int (Int32.ofNat o), .int (Int32.ofNat len)] 6)) (T3.setTop (mkF m 9 #[.val (.ref b), .val (.int (Int32.ofNat o)), .val (.int (Int32.ofNat len)), .val (.ref s.heap.size), .unset, .unset] [.int (Int32.ofNat len), .int 0, .ref s.heap.size, .int (Int32.ofNat o), .ref b])) := c4.trans (by
    refine XS.astoreN X3.here hexec rfl (hb hbytes d3) rfl rfl rfl ?_
    refine XS.aloadN X3.here hexec rfl (hb hbytes d4) rfl rfl ?_
    refine XS.iloadN X3.here hexec rfl (hb hbytes d5) rfl ?_
    refine XS.aloadN X3.here hexec rfl (hb hbytes d6) rfl rfl ?_
    refine iconstV X3.here hexec rfl 0 (hb hbytes d7) (by decide) ?_
    refine XS.iloadN X3.here hexec rfl (hb hbytes d8) rfl ?_
    exact Steps.refl _)
  obtain ⟨v6, T6, X6, E6, g6⟩ := X3.callS hexec (Cmp5.law l b A s.heap.size B3 o 0 len) hown (wks W (staticW U16 115 Cmp5.yN)) (wk W Cmp5.tab) (W := 0) (Nat.le_of_ble_eq_true rfl) (Nat.le_of_ble_eq_true rfl) (Nat.le_refl _) (by show 0 + len + 0 ≤ len; omega) (g := (mkF m 9 #[.val (.ref b), .val (.int (Int32.ofNat o)), .val (.int (Int32.ofNat len)), .val (.ref s.heap.size), .unset, .unset] [.int (Int32.ofNat len), .int (Int32.ofNat 0), .ref s.heap.size, .int (Int32.ofNat o), .ref b])) rfl (by rw [hml]; rfl) c5 (argsL := [.ref b, .int (Int32.ofNat o), .ref s.heap.size, .int (Int32.ofNat 0), .int (Int32.ofNat len)]) (rest := []) rfl rfl (by show 2 * 0 + 0 ≤ _; decide) (hb hbytes d9) (⟨rfl, hA3, ba3, hne, l1, by rw [bs3]; simp, hp⟩)
  obtain ⟨rfl, B6, p6, f6⟩ := E6
  have c7 : Steps p.tables e below (s₁.setTop (entryFrame m #[.ref b, .int (Int32.ofNat o), .int (Int32.ofNat len)] 6)) (T6.setTop (mkF m 12 #[.val (.ref b), .val (.int (Int32.ofNat o)), .val (.int (Int32.ofNat len)), .val (.ref s.heap.size), .unset, .unset] [.int (Int32.ofNat len)])) := g6
  have c8 : Steps p.tables e below (s₁.setTop (entryFrame m #[.ref b, .int (Int32.ofNat o), .int (Int32.ofNat len)] 6)) (T6.setTop (mkF m 58 #[.val (.ref b), .val (.int (Int32.ofNat o)), .val (.int (Int32.ofNat len)), .val (.ref s.heap.size), .val (.int (Int32.ofNat len)), .unset] [.ref s.heap.size])) := c7.trans (by
    refine XS.istore X6.here hexec rfl (hb hbytes d12) rfl rfl ?_
    refine XS.iload X6.here hexec rfl (hb hbytes d14) rfl ?_
    refine XS.iloadN X6.here hexec rfl (hb hbytes d16) rfl ?_
    refine XS.icmpYes X6.here hexec rfl (pc0 := 17) rfl (hb hbytes d17) rfl (ii_eq_t rfl) (by decide) rfl ?_
    refine XS.aloadN X6.here hexec rfl (hb hbytes d57) rfl rfl ?_
    exact Steps.refl _)
  have X8 := X6.wide (L' := []) (cells' := 1) (slots' := len) (fun x hx hlt => by
    simp only [List.nil_append, copyLocs, List.mem_map, List.mem_range] at hx
    obtain ⟨i, -, rfl⟩ := hx
    exact absurd hlt (Nat.lt_irrefl _)) (Nat.le_refl _) (by omega)
  exact ⟨T6, some (.ref s.heap.size), _, _, _, X8, rfl, rfl, rfl, (fun h => by cases h), ⟨⟨rfl, B6, ba3.like (X3.warmed.alike.symm.trans X6.warmed.alike) p6.1 f6.1 f6.2.1 f6.2.2.1, f6.2.1.trans bv3, by rw [X6.warmed.alike.findClass, f6.1]; exact bf3, by rw [f6.2.2.1, bs3]; simp, fun j hj => by rw [f6.2.2.2 j, if_pos (by omega)]; rfl, kp3.put p6 (Nat.le_refl _)⟩, by rw [p6.2.2, bh3, hh0]; simp⟩, fun fs hl => c8.trans (X8.areturnOut hexec rfl hret rfl (hb hbytes d58) hl)⟩
end Cmp3
namespace CodL
def yN : MethodName := ⟨"java/lang/StringUTF16", "coderFromArrayLen", "([BI)B"⟩
abbrev yB : ByteArray := jdk_52_method_15_code
theorem d0 : decode yB 0 = .ok (.iload_n 1, 1) := by decide +kernel
theorem d1 : decode yB 1 = .ok (.aload_n 0, 1) := by decide +kernel
theorem d2 : decode yB 2 = .ok (.arraylength, 1) := by decide +kernel
theorem d3 : decode yB 3 = .ok (.isub, 1) := by decide +kernel
theorem d4 : decode yB 4 = .ok (.bipush 31, 2) := by decide +kernel
theorem d6 : decode yB 6 = .ok (.iushr, 1) := by decide +kernel
theorem d7 : decode yB 7 = .ok (.i2b, 1) := by decide +kernel
theorem d8 : decode yB 8 = .ok (.ireturn, 1) := by decide +kernel
def site : List Cond := []
def tab : Cond := tabOf yN yB 2 (some .byte) site
def P (d : Addr) (B : Cell) (args : Array Value) (s : State) : Prop := args = #[.ref d, .int (Int32.ofNat B.slots.size)] ∧ Arr .byte d B s
def E (r : Option Value) (s u : State) : Prop := XT.PureE (some (.int 0)) r s u
/-- an array as long as the number of chars: LATIN1 -/
theorem law (l : Launch) (d : Addr) (B : Cell) : Law l yN 2 2 0 0 yB 2 (some .byte) site (P d B) E [] 0 0 := by
  refine Law.of_walk (plainFor_of_name (by decide +kernel)) (by decide +kernel) (by decide +kernel) (by decide) (fun _ _ h => by rw [h.1]; rfl) (fun _ U U' hal hh h => ⟨h.1, h.2.mv hal hh⟩) (fun r U U' V V' h1 hal h2 h => XT.PureE.mv r U U' V V' h1 hal h2 h) ?_
  intro p e s m args below meth c s₁ X0 hexec hbytes hml hret hlk hnm hown hh0 W hP
  obtain ⟨rfl, hB⟩ := hP
  have hB0 := hB.mv X0.warmed.alike hh0
  have c1 : Steps p.tables e below (s₁.setTop (entryFrame m #[.ref d, .int (Int32.ofNat B.slots.size)] 2)) (s₁.setTop (mkF m 0 #[.val (.ref d), .val (.int (Int32.ofNat B.slots.size))] [])) := entry rfl
  have c2 : Steps p.tables e below (s₁.setTop (entryFrame m #[.ref d, .int (Int32.ofNat B.slots.size)] 2)) (s₁.setTop (mkF m 2 #[.val (.ref d), .val (.int (Int32.ofNat B.slots.size))] [.ref d, .int (Int32.ofNat B.slots.size)])) := c1.trans (by
    refine XS.iloadN X0.here hexec rfl (hb hbytes d0) rfl ?_
    refine XS.aloadN X0.here hexec rfl (hb hbytes d1) rfl rfl ?_
    exact Steps.refl _)
  have c3 : Steps p.tables e below (s₁.setTop (entryFrame m #[.ref d, .int (Int32.ofNat B.slots.size)] 2)) (s₁.setTop (mkF m 8 #[.val (.ref d), .val (.int (Int32.ofNat B.slots.size))] [.int (lo8 (ushr (Int32.ofNat B.slots.size - Int32.ofNat B.slots.size) 31))])) := c2.trans (by
    refine X0.alen hexec hB0 rfl rfl (hb hbytes d2) ?_
    refine XS.isub X0.here hexec rfl (hb hbytes d3) rfl ?_
    refine bipushV X0.here hexec rfl 31 (hb hbytes d4) (by decide) ?_
    refine iushr X0.here hexec rfl (hb hbytes d6) rfl ?_
    refine i2b X0.here hexec rfl (hb hbytes d7) rfl ?_
    exact Steps.refl _)
  have e0 : lo8 (ushr (Int32.ofNat B.slots.size - Int32.ofNat B.slots.size) 31) = 0 := by rw [Int32.sub_self]; decide
  rw [e0] at c3
  exact ⟨s₁, some (.int 0), _, _, _, X0, rfl, rfl, rfl, (fun h => by cases h), ⟨rfl, hh0⟩, fun fs hl => c3.trans (X0.ireturnOut hexec hret rfl (Or.inr (Or.inr (Or.inl rfl))) (hb hbytes d8) hl)⟩
end CodL
/-- the String at a is Latin-1 over a new byte[] (the heap's one new cell): the low bytes of the len chars of A from o on; every cell but a is kept -/
def Got (a : Addr) (D : Cell) (fV fC : Field) (A : Cell) (o len : Nat) (r : Option Value) (s u : State) : Prop := r = none ∧ ∃ D' V : Cell, Blank "java/lang/String" a D' u ∧ Same D D' [fV.slot, fC.slot] ∧ D'.slots[fV.slot]? = some (.ref s.heap.size) ∧ D'.slots[fC.slot]? = some (.int 0) ∧ Arr .byte s.heap.size V u ∧ V.vm = .none ∧ u.vm.findClass "[B" = some V.cls ∧ V.slots.size = len ∧ (∀ j, j < len → V.slots[j]? = some (.int (lo8 (cv A (o + j))))) ∧ (∀ (y : Addr) (c : Cell), y ≠ a → s.heap[y]? = some c → u.heap[y]? = some c) ∧ u.heap.size = s.heap.size + 1
theorem Got.mv {a : Addr} {D A : Cell} {fV fC : Field} {o len : Nat} : ∀ r (U U' V V' : State), U'.heap = U.heap → V.vm.Alike V'.vm → V'.heap = V.heap → Got a D fV fC A o len r U V → Got a D fV fC A o len r U' V' :=
  fun r U U' V V' h1 hal h2 ⟨e0, D', X, a1, a2, a3, a4, a5, a6, a7, a8, a9, a10, a11⟩ => ⟨e0, D', X, a1.mv hal h2, a2, by rw [h1]; exact a3, a4, by rw [h1]; exact a5.mv hal h2, a6, by rw [hal.findClass]; exact a7, a8, a9, by rw [h1, h2]; exact a10, by rw [h1, h2]; exact a11⟩
namespace New4
def yN : MethodName := ⟨"java/lang/String", "<init>", "([CIILjava/lang/Void;)V"⟩
abbrev yB : ByteArray := jdk_42_method_149_code
theorem d0 : decode yB 0 = .ok (.aload_n 0, 1) := by decide +kernel
theorem d1 : decode yB 1 = .ok (.invokespecial 1, 3) := by decide +kernel
theorem d4 : decode yB 4 = .ok (.iload_n 3, 1) := by decide +kernel
theorem d5 : decode yB 5 = .ok (.ifCond (.ne) 22, 3) := by decide +kernel
theorem d27 : decode yB 27 = .ok (.getstatic 38, 3) := by decide +kernel
theorem d30 : decode yB 30 = .ok (.ifCond (.eq) 28, 3) := by decide +kernel
theorem d33 : decode yB 33 = .ok (.aload_n 1, 1) := by decide +kernel
theorem d34 : decode yB 34 = .ok (.iload_n 2, 1) := by decide +kernel
theorem d35 : decode yB 35 = .ok (.iload_n 3, 1) := by decide +kernel
theorem d36 : decode yB 36 = .ok (.invokestatic 177, 3) := by decide +kernel
theorem d39 : decode yB 39 = .ok (.astore 5, 2) := by decide +kernel
theorem d41 : decode yB 41 = .ok (.aload_n 0, 1) := by decide +kernel
theorem d42 : decode yB 42 = .ok (.aload 5, 2) := by decide +kernel
theorem d44 : decode yB 44 = .ok (.iload_n 3, 1) := by decide +kernel
theorem d45 : decode yB 45 = .ok (.invokestatic 47, 3) := by decide +kernel
theorem d48 : decode yB 48 = .ok (.putfield 15, 3) := by decide +kernel
theorem d51 : decode yB 51 = .ok (.aload_n 0, 1) := by decide +kernel
theorem d52 : decode yB 52 = .ok (.aload 5, 2) := by decide +kernel
theorem d54 : decode yB 54 = .ok (.putfield 9, 3) := by decide +kernel
theorem d57 : decode yB 57 = .ok (.return_, 1) := by decide +kernel
def site : List Cond := [.fieldLink "java/lang/String" 38 "java/lang/String" "COMPACT_STRINGS" "Z", Cmp3.tab, CodL.tab, .laysFinal "java/lang/String" "java/lang/String" "value" "[B", .fieldLink "java/lang/String" 9 "java/lang/String" "value" "[B", .laysFinal "java/lang/String" "java/lang/String" "coder" "B", .fieldLink "java/lang/String" 15 "java/lang/String" "coder" "B"] ++ objW "java/lang/String" 1 ++ staticW "java/lang/String" 177 Cmp3.yN ++ staticW "java/lang/String" 47 CodL.yN
def tab : Cond := tabOf yN yB 6 none site
def P (a : Addr) (D : Cell) (fV fC : Field) (b : Addr) (A : Cell) (z : Int32) (o len : Nat) (args : Array Value) (s : State) : Prop := args = #[.ref a, .ref b, .int (Int32.ofNat o), .int (Int32.ofNat len), .null] ∧ Blank "java/lang/String" a D s ∧ Found "java/lang/String" "value" "[B" fV s ∧ Found "java/lang/String" "coder" "B" fC s ∧ Ch b A s ∧ StaticIs s "java/lang/String" "COMPACT_STRINGS" "Z" (.int z) ∧ ¬ z = 0 ∧ 0 < len ∧ o + len ≤ A.slots.size ∧ len ≤ 536870912 ∧ ∀ i, i < len → ¬ 255 < cv A (o + i)
def E (a : Addr) (D : Cell) (fV fC : Field) (A : Cell) (o len : Nat) (r : Option Value) (s u : State) : Prop := Got a D fV fC A o len r s u
/-- len > 0, no char of the range above 255: a Latin-1 String of their low bytes -/
theorem law (l : Launch) (a : Addr) (D : Cell) (fV fC : Field) (b : Addr) (A : Cell) (z : Int32) (o len : Nat) : Law l yN 5 4 2 35 yB 6 none site (P a D fV fC b A z o len) (E a D fV fC A o len) [⟨a, fC.slot⟩, ⟨a, fV.slot⟩] 1 len := by
  refine Law.of_walk (plainFor_of_name (by decide +kernel)) (by decide +kernel) (by decide +kernel) (by decide) (fun _ _ h => by rw [h.1]; rfl) (fun _ U U' hal hh h => ⟨h.1, h.2.1.mv hal hh, h.2.2.1.al hal, h.2.2.2.1.al hal, h.2.2.2.2.1.mv hal hh, h.2.2.2.2.2.1.there hal hh, h.2.2.2.2.2.2⟩) (fun r U U' V V' h1 hal h2 h => Got.mv r U U' V V' h1 hal h2 h) ?_
  intro p e s m args below meth c s₁ X0 hexec hbytes hml hret hlk hnm hown hh0 W hP
  obtain ⟨rfl, hB, f1, f2, hA, s1, hz, l0, l1, l2, hp⟩ := hP
  have a31 := hA.1.2.2.2
  have c1 : Steps p.tables e below (s₁.setTop (entryFrame m #[.ref a, .ref b, .int (Int32.ofNat o), .int (Int32.ofNat len), .null] 6)) (s₁.setTop (mkF m 0 #[.val (.ref a), .val (.ref b), .val (.int (Int32.ofNat o)), .val (.int (Int32.ofNat len)), .val .null, .unset] [])) := entry rfl
  have c2 : Steps p.tables e below (s₁.setTop (entryFrame m #[.ref a, .ref b, .int (Int32.ofNat o), .int (Int32.ofNat len), .null] 6)) (s₁.setTop (mkF m 1 #[.val (.ref a), .val (.ref b), .val (.int (Int32.ofNat o)), .val (.int (Int32.ofNat len)), .val .null, .unset] [.ref a])) := c1.trans (by
    refine XS.aloadN X0.here hexec rfl (hb hbytes d0) rfl rfl ?_
    exact Steps.refl _)
  obtain ⟨T3, X3, q3, st3⟩ := X0.oinit hexec hown (wks W (objW "java/lang/String" 1)) (g := (mkF m 1 #[.val (.ref a), .val (.ref b), .val (.int (Int32.ofNat o)), .val (.int (Int32.ofNat len)), .val .null, .unset] [.ref a])) rfl (by rw [hml]; rfl) (rest := []) rfl (hb hbytes d1) (W := 0) (by show 2 * 0 + 0 ≤ _; decide) (Nat.le_of_ble_eq_true rfl) (Nat.le_of_ble_eq_true rfl)
  have hh3 := q3.trans hh0
  have c4 : Steps p.tables e below (s₁.setTop (entryFrame m #[.ref a, .ref b, .int (Int32.ofNat o), .int (Int32.ofNat len), .null] 6)) (T3.setTop (mkF m 27 #[.val (.ref a), .val (.ref b), .val (.int (Int32.ofNat o)), .val (.int (Int32.ofNat len)), .val .null, .unset] [])) := (c2.trans (st3 _ (Steps.refl _))).trans (by
    refine XS.iloadN X3.here hexec rfl (hb hbytes d4) rfl ?_
    refine XS.ifYes X3.here hexec rfl (pc0 := 5) rfl (hb hbytes d5) rfl (i0_ne_t (nz32 (by omega) l0)) (by decide) rfl ?_
    exact Steps.refl _)
  obtain ⟨T5, X5, q5, st5⟩ := X3.sget hexec hown (wk W (.fieldLink "java/lang/String" 38 "java/lang/String" "COMPACT_STRINGS" "Z")) s1 (fun _ _ h => by rw [hh3]; exact h) (g := (mkF m 27 #[.val (.ref a), .val (.ref b), .val (.int (Int32.ofNat o)), .val (.int (Int32.ofNat len)), .val .null, .unset] [])) rfl (hb hbytes d27)
  have hh5 := q5.trans hh3
  have c6 : Steps p.tables e below (s₁.setTop (entryFrame m #[.ref a, .ref b, .int (Int32.ofNat o), .int (Int32.ofNat len), .null] 6)) (T5.setTop (mkF m 30 #[.val (.ref a), .val (.ref b), .val (.int (Int32.ofNat o)), .val (.int (Int32.ofNat len)), .val .null, .unset] [.int z])) := c4.trans (st5 _ (Steps.refl _))
  have c7 : Steps p.tables e below (s₁.setTop (entryFrame m #[.ref a, .ref b, .int (Int32.ofNat o), .int (Int32.ofNat len), .null] 6)) (T5.setTop (mkF m 36 #[.val (.ref a), .val (.ref b), .val (.int (Int32.ofNat o)), .val (.int (Int32.ofNat len)), .val .null, .unset] [.int (Int32.ofNat len), .int (Int32.ofNat o), .ref b])) := c6.trans (by
    refine XS.ifNo X5.here hexec rfl (hb hbytes d30) rfl (i0_eq_f hz) ?_
    refine XS.aloadN X5.here hexec rfl (hb hbytes d33) rfl rfl ?_
    refine XS.iloadN X5.here hexec rfl (hb hbytes d34) rfl ?_
    refine XS.iloadN X5.here hexec rfl (hb hbytes d35) rfl ?_
    exact Steps.refl _)
  obtain ⟨v8, T8, X8, E8, g8⟩ := X5.callS hexec (Cmp3.law l b A o len) hown (wks W (staticW "java/lang/String" 177 Cmp3.yN)) (wk W Cmp3.tab) (W := 0) (Nat.le_of_ble_eq_true rfl) (Nat.le_of_ble_eq_true rfl) (Nat.le_refl _) (by show 0 + len ≤ len; omega) (g := (mkF m 36 #[.val (.ref a), .val (.ref b), .val (.int (Int32.ofNat o)), .val (.int (Int32.ofNat len)), .val .null, .unset] [.int (Int32.ofNat len), .int (Int32.ofNat o), .ref b])) rfl (by rw [hml]; rfl) c7 (argsL := [.ref b, .int (Int32.ofNat o), .int (Int32.ofNat len)]) (rest := []) rfl rfl (by show 2 * 0 + 0 ≤ _; decide) (hb hbytes d36) (⟨rfl, hA.mv X5.warmed.alike hh5, l1, l2, hp⟩)
  obtain ⟨e8, z8⟩ := E8
  obtain ⟨rfl, N, n1, n2, n3, n4, n5, n6⟩ := NewArr.mv _ T5 s _ _ hh5.symm (Vm.Alike.refl _) rfl e8
  rw [hh5] at z8
  have hB1 := hB.keep X8.warmed.alike (n6 _ _ hB.1)
  have hne : s.heap.size ≠ a := (Nat.ne_of_lt (Array.getElem?_eq_some_iff.mp hB.1).1).symm
  have c9 : Steps p.tables e below (s₁.setTop (entryFrame m #[.ref a, .ref b, .int (Int32.ofNat o), .int (Int32.ofNat len), .null] 6)) (T8.setTop (mkF m 39 #[.val (.ref a), .val (.ref b), .val (.int (Int32.ofNat o)), .val (.int (Int32.ofNat len)), .val .null, .unset] [.ref s.heap.size])) := g8
  have c10 : Steps p.tables e below (s₁.setTop (entryFrame m #[.ref a, .ref b, .int (Int32.ofNat o), .int (Int32.ofNat len), .null] 6)) (T8.setTop (mkF m 45 #[.val (.ref a), .val (.ref b), .val (.int (Int32.ofNat o)), .val (.int (Int32.ofNat len)), .val .null, .val (.ref s.heap.size)] [.int (Int32.ofNat N.slots.size), .ref s.heap.size, .ref a])) := by
    have hc : Steps p.tables e below (s₁.setTop (entryFrame m #[.ref a, .ref b, .int (Int32.ofNat o), .int (Int32.ofNat len), .null] 6)) (T8.setTop (mkF m 45 #[.val (.ref a), .val (.ref b), .val (.int (Int32.ofNat o)), .val (.int (Int32.ofNat len)), .val .null, .val (.ref s.heap.size)] [.int (Int32.ofNat len), .ref s.heap.size, .ref a])) := c9.trans (by
      refine XS.astore X8.here hexec rfl (hb hbytes d39) rfl rfl rfl ?_
      refine XS.aloadN X8.here hexec rfl (hb hbytes d41) rfl rfl ?_
      refine XS.aload X8.here hexec rfl (hb hbytes d42) rfl rfl ?_
      refine XS.iloadN X8.here hexec rfl (hb hbytes d44) rfl ?_
      exact Steps.refl _)
    rw [n4]; exact hc
  obtain ⟨v11, T11, X11, E11, g11⟩ := X8.callS hexec (CodL.law l s.heap.size N) hown (wks W (staticW "java/lang/String" 47 CodL.yN)) (wk W CodL.tab) (W := 1) (Nat.le_of_ble_eq_true rfl) (Nat.le_of_ble_eq_true rfl) (Nat.le_refl _) (by show 0 + len + 0 ≤ len; omega) (g := (mkF m 45 #[.val (.ref a), .val (.ref b), .val (.int (Int32.ofNat o)), .val (.int (Int32.ofNat len)), .val .null, .val (.ref s.heap.size)] [.int (Int32.ofNat N.slots.size), .ref s.heap.size, .ref a])) rfl (by rw [hml]; rfl) c10 (argsL := [.ref s.heap.size, .int (Int32.ofNat N.slots.size)]) (rest := [.ref a]) rfl rfl (by show 2 * 0 + (1 + 0) ≤ _; decide) (hb hbytes d45) (⟨rfl, n1⟩)
  obtain ⟨rfl, q11⟩ := E11
  have hB11 := hB1.mv (X8.warmed.alike.symm.trans X11.warmed.alike) q11
  have c12 : Steps p.tables e below (s₁.setTop (entryFrame m #[.ref a, .ref b, .int (Int32.ofNat o), .int (Int32.ofNat len), .null] 6)) (T11.setTop (mkF m 48 #[.val (.ref a), .val (.ref b), .val (.int (Int32.ofNat o)), .val (.int (Int32.ofNat len)), .val .null, .val (.ref s.heap.size)] [.int 0, .ref a])) := g11
  obtain ⟨T13, X13, p13, bl13, sl13, st13⟩ := X11.finit hexec hown (wk W (.fieldLink "java/lang/String" 15 "java/lang/String" "coder" "B")) (Or.inr ⟨_, (wk W (.laysFinal "java/lang/String" "java/lang/String" "coder" "B"))⟩) (Or.inl ⟨rfl, hnm⟩) f2 (Or.inl rfl) hB11 (t := .byte) (by decide +kernel) rfl (g := (mkF m 48 #[.val (.ref a), .val (.ref b), .val (.int (Int32.ofNat o)), .val (.int (Int32.ofNat len)), .val .null, .val (.ref s.heap.size)] [.int 0, .ref a])) rfl (rest := []) rfl (hb hbytes d48)
  have c14 : Steps p.tables e below (s₁.setTop (entryFrame m #[.ref a, .ref b, .int (Int32.ofNat o), .int (Int32.ofNat len), .null] 6)) (T13.setTop (mkF m 54 #[.val (.ref a), .val (.ref b), .val (.int (Int32.ofNat o)), .val (.int (Int32.ofNat len)), .val .null, .val (.ref s.heap.size)] [.ref s.heap.size, .ref a])) := (c12.trans (st13 _ (Steps.refl _))).trans (by
    refine XS.aloadN X13.here hexec rfl (hb hbytes d51) rfl rfl ?_
    refine XS.aload X13.here hexec rfl (hb hbytes d52) rfl rfl ?_
    exact Steps.refl _)
  obtain ⟨T15, X15, p15, bl15, sl15, st15⟩ := X13.finit hexec hown (wk W (.fieldLink "java/lang/String" 9 "java/lang/String" "value" "[B")) (Or.inr ⟨_, (wk W (.laysFinal "java/lang/String" "java/lang/String" "value" "[B"))⟩) (Or.inl ⟨rfl, hnm⟩) f1 (Or.inl rfl) bl13 (t := (.array .byte)) (by decide +kernel) rfl (g := (mkF m 54 #[.val (.ref a), .val (.ref b), .val (.int (Int32.ofNat o)), .val (.int (Int32.ofNat len)), .val .null, .val (.ref s.heap.size)] [.ref s.heap.size, .ref a])) rfl (rest := []) rfl (hb hbytes d54)
  have c16 : Steps p.tables e below (s₁.setTop (entryFrame m #[.ref a, .ref b, .int (Int32.ofNat o), .int (Int32.ofNat len), .null] 6)) (T15.setTop (mkF m 57 #[.val (.ref a), .val (.ref b), .val (.int (Int32.ofNat o)), .val (.int (Int32.ofNat len)), .val .null, .val (.ref s.heap.size)] [])) := c14.trans (st15 _ (Steps.refl _))
  have ap := apart (Or.inr ⟨_, (wk W (.laysFinal "java/lang/String" "java/lang/String" "value" "[B"))⟩) (Or.inr ⟨_, (wk W (.laysFinal "java/lang/String" "java/lang/String" "coder" "B"))⟩) f1 f2 (t₁ := .array .byte) (t₂ := .byte) (by decide +kernel) (by decide +kernel) (by decide)
  have al := X8.warmed.alike.symm.trans X15.warmed.alike
  have n7 : T11.heap[s.heap.size]? = some N := by rw [q11]; exact n1.1
  exact ⟨T15, none, _, _, _, X15, by simp, rfl, by omega, (fun _ => rfl), ⟨rfl, _, N, bl15, ((Same.refl D _).set _ (by simp)).set _ (by simp), sl15, (Cell.slots_setSlot_ne _ ap).trans sl13, n1.keep al (p15.other hne (p13.other hne n7)), n2, by rw [al.findClass]; exact n3, n4, n5, fun y c h1 h2 => p15.other h1 (p13.other h1 (by rw [q11]; exact n6 y c h2)), by rw [p15.2.2, p13.2.2, q11]; exact z8⟩, fun fs hl => c16.trans (X15.returnOut hexec hret (hb hbytes d57) hl)⟩
end New4
namespace New1
def yN : MethodName := ⟨"java/lang/String", "<init>", "([C)V"⟩
abbrev yB : ByteArray := jdk_42_method_3_code
theorem d0 : decode yB 0 = .ok (.aload_n 0, 1) := by decide +kernel
theorem d1 : decode yB 1 = .ok (.aload_n 1, 1) := by decide +kernel
theorem d2 : decode yB 2 = .ok (.iconst 0, 1) := by decide +kernel
theorem d3 : decode yB 3 = .ok (.aload_n 1, 1) := by decide +kernel
theorem d4 : decode yB 4 = .ok (.arraylength, 1) := by decide +kernel
theorem d5 : decode yB 5 = .ok (.aconst_null, 1) := by decide +kernel
theorem d6 : decode yB 6 = .ok (.invokespecial 27, 3) := by decide +kernel
theorem d9 : decode yB 9 = .ok (.return_, 1) := by decide +kernel
def site : List Cond := [New4.tab] ++ initW "java/lang/String" 27 New4.yN
def tab : Cond := tabOf yN yB 2 none site
def P (a : Addr) (D : Cell) (fV fC : Field) (b : Addr) (A : Cell) (z : Int32) (args : Array Value) (s : State) : Prop := args = #[.ref a, .ref b] ∧ Blank "java/lang/String" a D s ∧ Found "java/lang/String" "value" "[B" fV s ∧ Found "java/lang/String" "coder" "B" fC s ∧ Ch b A s ∧ StaticIs s "java/lang/String" "COMPACT_STRINGS" "Z" (.int z) ∧ ¬ z = 0 ∧ 0 < A.slots.size ∧ A.slots.size ≤ 536870912 ∧ ∀ i, i < A.slots.size → ¬ 255 < cv A i
def E (a : Addr) (D : Cell) (fV fC : Field) (A : Cell) (r : Option Value) (s u : State) : Prop := Got a D fV fC A 0 A.slots.size r s u
/-- new String(chars), not empty, no char above 255: a Latin-1 String of their low bytes -/
theorem law (l : Launch) (a : Addr) (D : Cell) (fV fC : Field) (b : Addr) (A : Cell) (z : Int32) : Law l yN 2 1 3 52 yB 2 none site (P a D fV fC b A z) (E a D fV fC A) [⟨a, fC.slot⟩, ⟨a, fV.slot⟩] 1 A.slots.size := by
  refine Law.of_walk (plainFor_of_name (by decide +kernel)) (by decide +kernel) (by decide +kernel) (by decide) (fun _ _ h => by rw [h.1]; rfl) (fun _ U U' hal hh h => ⟨h.1, h.2.1.mv hal hh, h.2.2.1.al hal, h.2.2.2.1.al hal, h.2.2.2.2.1.mv hal hh, h.2.2.2.2.2.1.there hal hh, h.2.2.2.2.2.2⟩) (fun r U U' V V' h1 hal h2 h => Got.mv r U U' V V' h1 hal h2 h) ?_
  intro p e s m args below meth c s₁ X0 hexec hbytes hml hret hlk hnm hown hh0 W hP
  obtain ⟨rfl, hB, f1, f2, hA, s1, hz, l0, l2, hp⟩ := hP
  have c1 : Steps p.tables e below (s₁.setTop (entryFrame m #[.ref a, .ref b] 2)) (s₁.setTop (mkF m 0 #[.val (.ref a), .val (.ref b)] [])) := entry rfl
  have c2 : Steps p.tables e below (s₁.setTop (entryFrame m #[.ref a, .ref b] 2)) (s₁.setTop (mkF m 6 #[.val (.ref a), .val (.ref b)] [.null, .int (Int32.ofNat A.slots.size), .int 0, .ref b, .ref a])) := c1.trans (by
    refine XS.aloadN X0.here hexec rfl (hb hbytes d0) rfl rfl ?_
    refine XS.aloadN X0.here hexec rfl (hb hbytes d1) rfl rfl ?_
    refine iconstV X0.here hexec rfl 0 (hb hbytes d2) (by decide) ?_
    refine XS.aloadN X0.here hexec rfl (hb hbytes d3) rfl rfl ?_
    refine X0.alen hexec (hA.1.mv X0.warmed.alike hh0) rfl rfl (hb hbytes d4) ?_
    refine XS.aconstNull X0.here hexec rfl (hb hbytes d5) ?_
    exact Steps.refl _)
  obtain ⟨v3, T3, X3, E3, g3⟩ := X0.callN hexec (New4.law l a D fV fC b A z 0 A.slots.size) rfl hown (wks W (initW "java/lang/String" 27 New4.yN)) (W New4.tab (by simp only [site, List.mem_cons, List.mem_append, true_or, or_true])) (W := 0) (Nat.le_of_ble_eq_true rfl) (Nat.le_of_ble_eq_true rfl) (Nat.le_refl _) (by show 0 + A.slots.size ≤ A.slots.size; omega) (g := (mkF m 6 #[.val (.ref a), .val (.ref b)] [.null, .int (Int32.ofNat A.slots.size), .int (Int32.ofNat 0), .ref b, .ref a])) rfl (by rw [hml]; rfl) c2 (argsL := [.ref b, .int (Int32.ofNat 0), .int (Int32.ofNat A.slots.size), .null]) (rest := []) rfl rfl (by show 2 * 0 + 0 ≤ _; decide) (hb hbytes d6) (⟨rfl, hB.mv X0.warmed.alike hh0, f1.al X0.warmed.alike, f2.al X0.warmed.alike, hA.mv X0.warmed.alike hh0, s1.there X0.warmed.alike hh0, hz, l0, by omega, l2, fun i hi => by rw [Nat.zero_add]; exact hp i hi⟩)
  have e0 := Got.mv _ s₁ s _ _ hh0.symm (Vm.Alike.refl _) rfl E3
  obtain rfl := e0.1
  have c4 : Steps p.tables e below (s₁.setTop (entryFrame m #[.ref a, .ref b] 2)) (T3.setTop (mkF m 9 #[.val (.ref a), .val (.ref b)] [])) := g3
  exact ⟨T3, none, _, _, _, X3, by simp, rfl, by omega, (fun _ => rfl), e0, fun fs hl => c4.trans (X3.returnOut hexec hret (hb hbytes d9) hl)⟩
theorem pays {l : Launch} {R : Room} {p : Program} {e : Env} {below : List Frame} {s : State} {sargs : Array Value} {len W : Nat} (a : Addr) (D : Cell) (fV fC : Field) (b : Addr) (A : Cell) (z : Int32) (htab : tab.before sargs s = true) (hfr : 4 ≤ R.frames) (hlo : W + 65 ≤ R.locals) :
    Back l R p e below s sargs yN len W (fun A₁ a₁ => A₁.cells + 1 ≤ R.cells ∧ A₁.slots + A.slots.size ≤ R.slots ∧ P a D fV fC b A z a₁ A₁.U) (fun A₁ _ v₁ B₁ => E a D fV fC A v₁ A₁.U B₁.U ∧ B₁.locs = A₁.locs ++ [⟨a, fC.slot⟩, ⟨a, fV.slot⟩] ∧ B₁.cells = A₁.cells + 1 ∧ B₁.slots = A₁.slots + A.slots.size) :=
  (law l a D fV fC b A z).pays htab hfr (by omega)
end New1
/-- the byte, read back as charAt reads it, is the char -/
theorem lo8_mask {x : Int32} (h0 : ¬ x < 0) (h1 : ¬ 255 < x) : lo8 x &&& 255 = x := by
  have t : ∀ k : Fin 256, lo8 (Int32.ofNat k.val) &&& 255 = Int32.ofNat k.val := by decide +kernel
  rw [Int32.lt_iff_toInt_lt] at h0 h1
  have e0 : (0 : Int32).toInt = 0 := rfl
  have e1 : (255 : Int32).toInt = 255 := rfl
  obtain ⟨k, hk⟩ : ∃ k : Nat, x.toInt = k := ⟨x.toInt.toNat, by omega⟩
  have hx : x = Int32.ofNat k := Int32.toInt_inj.mp (by rw [hk, Int32.toInt_ofNat_small (by omega)])
  rw [hx]
  exact t ⟨k, by omega⟩
end StrChars
namespace StrChars.Road
open Jvm Sem ClassFile Op Lib Jvm.Stand Jvm.Free Jvm.Free.XT
open Jvm.Lib.Cold (StaticIs)
abbrev ST : String := "java/lang/String"
/-- every table word that New1's law asks, flat -/
abbrev words : List Jvm.Cond := [.code New1.yN New1.yB 2 none, .initialized ST, .methodLink ST 27 New4.yN, .instanceMethod New4.yN,
  .code New4.yN New4.yB 6 none, .fieldLink ST 38 ST "COMPACT_STRINGS" "Z", .laysFinal ST ST "value" "[B", .fieldLink ST 9 ST "value" "[B", .laysFinal ST ST "coder" "B", .fieldLink ST 15 ST "coder" "B",
  .methodLink ST 1 Lib.objectInit, .instanceMethod Lib.objectInit, .code Lib.objectInit ⟨#[0xb1]⟩ 1 none, .methodLink ST 177 Cmp3.yN, .static Cmp3.yN, .methodLink ST 47 CodL.yN, .static CodL.yN,
  .code Cmp3.yN Cmp3.yB 6 (some (.array .byte)), .initialized U16, .arrayClass .byte, .methodLink U16 115 Cmp5.yN, .static Cmp5.yN, .code Cmp5.yN Cmp5.yB 7 (some .int), .code CodL.yN CodL.yB 2 (some .byte)]
theorem tab_of {a : Array Value} {s : State} (h : ∀ w ∈ words, w.before a s = true) : New1.tab.before a s = true := by
  have h5 : Cmp5.tab.before a s = true := unparts (wk h (.code Cmp5.yN Cmp5.yB 7 (some .int))) (wks h (.initialized Cmp5.yN.cls :: Cmp5.site))
  have hc : CodL.tab.before a s = true := unparts (wk h (.code CodL.yN CodL.yB 2 (some .byte))) (wks h (.initialized CodL.yN.cls :: CodL.site))
  have q5 : ∀ w ∈ Cmp5.tab :: words, w.before a s = true := fun w hw => (List.mem_cons.mp hw).elim (fun e => e ▸ h5) (h w)
  have h3 : Cmp3.tab.before a s = true := unparts (wk q5 (.code Cmp3.yN Cmp3.yB 6 (some (.array .byte)))) (wks q5 (.initialized Cmp3.yN.cls :: Cmp3.site))
  have q3 : ∀ w ∈ Cmp3.tab :: CodL.tab :: words, w.before a s = true := fun w hw => (List.mem_cons.mp hw).elim (fun e => e ▸ h3) fun hw => (List.mem_cons.mp hw).elim (fun e => e ▸ hc) (h w)
  have h4 : New4.tab.before a s = true := unparts (wk q3 (.code New4.yN New4.yB 6 none)) (wks q3 (.initialized New4.yN.cls :: New4.site))
  have q4 : ∀ w ∈ New4.tab :: words, w.before a s = true := fun w hw => (List.mem_cons.mp hw).elim (fun e => e ▸ h4) (h w)
  exact unparts (wk q4 (.code New1.yN New1.yB 2 none)) (wks q4 (.initialized New1.yN.cls :: New1.site))
/-- the words ride from the start Z to the walk's own state -/
theorem moved {Z s : State} {a0 args : Array Value} (hZ : Z.Warmed39 s.vm) (hw : ∀ d ∈ words, d.before a0 Z = true) : ∀ d ∈ words, d.before args s = true := fun d hd => by
  have q := hw d hd
  have t : ∀ d ∈ words, d = .arrayClass .byte ∨ (d.onTables && d.keepsFace) = true := by decide +kernel
  rcases t d hd with rfl | t
  · exact RoadKit.mvA hZ q
  · exact RoadKit.mv hZ q t
/-- WHAT COMES BACK, over the tables of the start Z: h the heap at the call, h' behind it -/
def Q (Z : State) (x : Addr) (A : Cell) (h : Heap) (v : Option Value) (h' : Heap) (L : List Loc) : Prop := v = none ∧ (∀ y ∈ L, y.base = x) ∧ RoadKit.Keep h h' [x] ∧ h'.size = h.size + 1 ∧ RoadKit.Exa Z h' x ST ∧ RoadKit.Fld Z h' x ST "value" "[B" (.ref h.size) ∧ RoadKit.Fld Z h' x ST "coder" "B" (.int 0) ∧
  (∃ V : Cell, RoadKit.Arr Z h' h.size V .byte ∧ V.vm = .none ∧ Z.vm.findClass "[B" = some V.cls ∧ V.slots.size = A.slots.size ∧ ∀ j, j < A.slots.size → V.slots[j]? = some (.int (lo8 (cv A j)))) ∧
  ∀ (O n d : String) (w : Value), RoadKit.Fld Z h x O n d w → RoadKit.slotOf Z O n d ≠ RoadKit.slotOf Z ST "value" "[B" → RoadKit.slotOf Z O n d ≠ RoadKit.slotOf Z ST "coder" "B" → RoadKit.Fld Z h' x O n d w
/-- **new String(chars) AT A CALL, IN THE ROAD'S FORM**: for specialBack behind newO: x the fresh String, b the char[] with the cell A -/
theorem back {p : Program} {l : Launch} {e : Env} {R : Room} {s : State} {args : Array Value} {below : List Frame} {len W : Nat} {Z : State} {a0 : Array Value} {h : Heap} (hZ : Z.Warmed39 s.vm) (hw : ∀ d ∈ words, d.before a0 Z = true) {kI : Nat} (wi : (Jvm.Cond.instantiable ST kI).before a0 Z = true)
    {x b : Addr} {A : Cell} {z : Int32} {v0 c0 : Value} (E : RoadKit.Exa Z h x ST) (V : RoadKit.Fld Z h x ST "value" "[B" v0) (C : RoadKit.Fld Z h x ST "coder" "B" c0) (K : RoadKit.Arr Z h b A .char) (hty : Typed .char A) (S : RoadKit.Sta Z h ST "COMPACT_STRINGS" "Z" (.int z)) (hz : ¬ z = 0)
    (l0 : 0 < A.slots.size) (l2 : A.slots.size ≤ 536870912) (hp : ∀ i, i < A.slots.size → ¬ 255 < cv A i) (hfr : 4 ≤ R.frames) (hlo : W + 65 ≤ R.locals) :
    Back l R p e below s args New1.yN len W (fun P a => a = #[.ref x, .ref b] ∧ P.U.heap = h ∧ P.cells + 1 ≤ R.cells ∧ P.slots + A.slots.size ≤ R.slots)
      (fun P _ v B => ∃ L, Q Z x A h v B.U.heap L ∧ B.locs = P.locs ++ L ∧ B.cells = P.cells + 1 ∧ B.slots = P.slots + A.slots.size) := by
  intro m meth c P g ig mk a X hg hsize hdg hW hn hp'
  obtain ⟨rfl, rfl, r1, r2⟩ := hp'
  have al : Z.vm.Alike P.U.vm := hZ.alike.trans X.warmed.alike
  obtain ⟨D, cfV, kV, iV, fV, hD, gV, stV, knV, obV, asV, slV⟩ := id V
  obtain ⟨D', cfC, kC, iC, fC, hD', gC, stC, -, -, asC, slC⟩ := id C
  cases hD.symm.trans hD'
  obtain ⟨D2, kD, e1, e2, e3, e4, e5⟩ := id E
  cases hD.symm.trans e1
  obtain ⟨c2, k2, i1, i2, i3, -⟩ := Cond.instantiable_spec wi
  cases e2.symm.trans i1
  cases e3.symm.trans i2
  obtain ⟨kU, u1, u2⟩ := al.2.2 _ _ e3
  have hB : Blank ST x D P.U := ⟨hD, ⟨knV, fun q hq => by rw [hq] at obV; cases obV⟩, by rw [al.findClass]; exact e2, kU, u1, by rw [u2]; exact i3, by rw [u2]; exact e5 i3⟩
  have F1 : Found ST "value" "[B" fV P.U := ⟨SBG.found_only al ⟨cfV, kV, iV, gV⟩, stV⟩
  have F2 : Found ST "coder" "B" fC P.U := ⟨SBG.found_only al ⟨cfC, kC, iC, gC⟩, stC⟩
  have hA : Ch b A P.U := ⟨⟨K.1, State.isArrayOf_alike al K.2.1, K.2.2, by omega⟩, hty⟩
  have hS : StaticIs P.U ST "COMPACT_STRINGS" "Z" (.int z) := by
    obtain ⟨cfS, iS, kS, fS, st, cS, t1, t2, t3, t4, t5, t6, t7⟩ := S
    exact StaticIs.there (s := { Z with heap := P.U.heap }) ⟨cfS, iS, kS, fS, st, cS, t1, t2, t3, t4, t5, (fun q => by rw [q] at t6; cases t6), t7⟩ al rfl
  obtain ⟨v, B, X', ⟨⟨hv, E', V', q1, q2, q3, q4, q5, q6, q7, q8, q9, q10, q11⟩, hl, hc, hs⟩, st⟩ := New1.pays x D fV fC b A z (tab_of (moved hZ hw)) hfr hlo m meth c P g ig mk _ X hg hsize hdg hW hn ⟨r1, r2, rfl, hB, F1, F2, hA, hS, hz, l0, l2, hp⟩
  have al' : Z.vm.Alike B.U.vm := hZ.alike.trans X'.warmed.alike
  have hsz : E'.slots.size = D.slots.size := by
    obtain ⟨-, -, -, kB, w1, w2, w3⟩ := q1
    obtain ⟨kB', y1, y2⟩ := al'.2.2 _ _ e3
    rw [q2.2.1] at w1
    cases w1.symm.trans y1
    rw [w3, e5 i3, y2]
  refine ⟨v, B, X', ⟨_, ⟨hv, ?_, ⟨by omega, fun y cy hy hn' => q10 y cy (by simpa using hn') hy, fun y cy hy => ?_⟩, q11, ⟨E', _, q1.1, by rw [q2.2.1]; exact e2, by rw [q2.2.1]; exact e3, by rw [q2.1]; exact obV, fun _ => by rw [hsz]; exact e5 i3⟩,
    ⟨E', cfV, kV, iV, fV, q1.1, gV, stV, by rw [q2.1]; exact knV, by rw [q2.1]; exact obV, by rw [q2.2.1]; exact asV, q3⟩, ⟨E', cfC, kC, iC, fC, q1.1, gC, stC, by rw [q2.1]; exact knV, by rw [q2.1]; exact obV, by rw [q2.2.1]; exact asC, q4⟩,
    ⟨V', ⟨q5.1, State.isArrayOf_alike al'.symm q5.2.1, q5.2.2.1⟩, q6, by rw [← al'.findClass]; exact q7, q8, fun j hj => by have := q9 j hj; rwa [Nat.zero_add] at this⟩, fun O n d w F n1 n2 => ?_⟩, hl, hc, hs⟩, st⟩
  · intro y hy
    simp only [List.mem_cons, List.not_mem_nil, or_false] at hy
    rcases hy with rfl | rfl <;> rfl
  · by_cases q : y = x
    · subst q
      cases hD.symm.trans hy
      exact ⟨E', q1.1, q2.2.1, q2.1, hsz⟩
    · exact ⟨cy, q10 y cy q hy, rfl, rfl, rfl⟩
  · obtain ⟨D3, cf, k, i, f, g1, g2, g3, g4, g5, g6, g7⟩ := F
    cases hD.symm.trans g1
    simp only [RoadKit.slotOf, g2, gV, gC, Option.map_some, Option.getD_some] at n1 n2
    exact ⟨E', cf, k, i, f, q1.1, g2, g3, by rw [q2.1]; exact g4, by rw [q2.1]; exact g5, by rw [q2.2.1]; exact g6, by rw [q2.2.2 f.slot (by simp [n1, n2])]; exact g7⟩
end StrChars.Road
namespace StrChars.Road
open Jvm Sem ClassFile Op Lib Jvm.Stand Jvm.Free Jvm.Free.XT
/-- WHAT COMES BACK, the byte[] as a list of values -/
def QA (Z : State) (x : Addr) (zn : Int32) (cs : List Int32) (h : Heap) (v : Option Value) (h' : Heap) (L : List Loc) : Prop := v = none ∧ (∀ y ∈ L, y.base = x) ∧ RoadKit.Keep h h' [x] ∧ h'.size = h.size + 1 ∧ RoadKit.Exa Z h' x ST ∧ RoadKit.Fld Z h' x ST "value" "[B" (.ref h.size) ∧ RoadKit.Fld Z h' x ST "coder" "B" (.int 0) ∧
  (∃ kb, Z.vm.findClass "[B" = some kb ∧ RoadKit.Arv Z h' h.size kb .byte zn (cs.map fun c => .int (lo8 c)) (.int 0)) ∧
  ∀ (O n d : String) (w : Value), RoadKit.Fld Z h x O n d w → RoadKit.slotOf Z O n d ≠ RoadKit.slotOf Z ST "value" "[B" → RoadKit.slotOf Z O n d ≠ RoadKit.slotOf Z ST "coder" "B" → RoadKit.Fld Z h' x O n d w
/-- **new String(chars) AT A CALL, THE ARRAYS AS LISTS**: the char[] at b holds cs, not empty, no char above 255 -/
theorem backArv {p : Program} {l : Launch} {e : Env} {R : Room} {s : State} {args : Array Value} {below : List Frame} {len W : Nat} {Z : State} {a0 : Array Value} {h : Heap} (hZ : Z.Warmed39 s.vm) (hw : ∀ d ∈ words, d.before a0 Z = true) {kI : Nat} (wi : (Jvm.Cond.instantiable ST kI).before a0 Z = true)
    {x b : Addr} {k : ClassId} {zn z : Int32} {cs : List Int32} {dv v0 c0 : Value} (E : RoadKit.Exa Z h x ST) (V : RoadKit.Fld Z h x ST "value" "[B" v0) (C : RoadKit.Fld Z h x ST "coder" "B" c0) (K : RoadKit.Arv Z h b k .char zn (cs.map Value.int) dv) (S : RoadKit.Sta Z h ST "COMPACT_STRINGS" "Z" (.int z)) (hz : ¬ z = 0)
    (hlen : zn.toNatClampNeg = cs.length) (h0 : 0 < cs.length) (hbig : cs.length ≤ 536870912) (hall : ∀ c ∈ cs, ¬ 255 < c) (hfr : 4 ≤ R.frames) (hlo : W + 65 ≤ R.locals) :
    Back l R p e below s args New1.yN len W (fun P a => a = #[.ref x, .ref b] ∧ P.U.heap = h ∧ P.cells + 1 ≤ R.cells ∧ P.slots + cs.length ≤ R.slots)
      (fun P _ v B => ∃ L, QA Z x zn cs h v B.U.heap L ∧ B.locs = P.locs ++ L ∧ B.cells = P.cells + 1 ∧ B.slots = P.slots + cs.length) := by
  obtain ⟨A, K1, K2, K3, K4, K5, K6⟩ := K
  have e : A.slots.size = cs.length := K3.trans hlen
  have hat : ∀ (i : Nat) (hi : i < cs.length), A.slots[i]? = some (.int cs[i]) := fun i hi => by rw [K5 i (by omega)]; simp [List.getD_eq_getElem?_getD, hi]
  have hcv : ∀ (i : Nat) (hi : i < cs.length), cv A i = cs[i] := fun i hi => by unfold cv; rw [hat i hi]
  have hty : Typed .char A := fun i v hv => by
    have hi : i < A.slots.size := (Array.getElem?_eq_some_iff.mp hv).1
    have q := K5 i hi
    rw [hv] at q
    rw [Option.some.inj q]
    exact K6 i hi
  refine Back.mono (back hZ hw wi E V C K1 hty S hz (by omega) (by omega) (fun i hi => by rw [hcv i (by omega)]; exact hall _ (List.getElem_mem _)) hfr hlo) (fun P a hp => ⟨hp.1, hp.2.1, hp.2.2.1, by rw [e]; exact hp.2.2.2⟩) (fun P a v B hp hq => ?_)
  obtain ⟨L, ⟨q1, q2, q3, q4, q5, q6, q7, ⟨V', v1, v2, v3, v4, v5⟩, q9⟩, hl, hc, hs⟩ := hq
  refine ⟨L, ⟨q1, q2, q3, q4, q5, q6, q7, ⟨V'.cls, v3, V', v1, rfl, by rw [v4, e, hlen], K4, fun i hi => ?_, fun i hi => ?_⟩, q9⟩, hl, hc, by rw [hs, e]⟩
  · have hi' : i < cs.length := by omega
    rw [v5 i (by omega), hcv i hi']; simp [List.getD_eq_getElem?_getD, hi']
  · have hi' : i < cs.length := by omega
    simp only [List.getD_eq_getElem?_getD, List.getElem?_map, List.getElem?_eq_getElem hi', Option.map_some, Option.getD_some]
    exact fits_lo8 _
end StrChars.Road
namespace StrChars.Road
open Jvm Sem ClassFile Op Lib Jvm.Stand Jvm.Free Jvm.Free.XT
/-- WHAT COMES BACK, in the writer's own shape -/
def QV (Z : State) (x : Addr) (N : Int32) (bs : List Int32) (h : Heap) (n0 : Nat) (v : Option Value) (h' : Heap) (L : List Loc) : Prop := v = none ∧ RoadKit.Fr n0 L ∧ RoadKit.Keep h h' [x] ∧ RoadKit.Exa Z h' x ST ∧ RoadKit.Fld Z h' x ST "coder" "B" (.int 0) ∧
  ∃ (t : Addr) (kb : ClassId), n0 ≤ t ∧ h.size ≤ t ∧ ¬ t = x ∧ RoadKit.Fld Z h' x ST "value" "[B" (.ref t) ∧ RoadKit.Arv Z h' t kb .byte N (bs.map Value.int) (.int 0)
/-- **new String(chars) AT A CALL, FOR THE WRITER**: a char[] of n known ints, each 0 to 255 -/
theorem backV {p : Program} {l : Launch} {e : Env} {R : Room} {s : State} {args : Array Value} {below : List Frame} {len W : Nat} {Z : State} {a0 : Array Value} {h : Heap} (hZ : Z.Warmed39 s.vm) (hw : ∀ d ∈ words, d.before a0 Z = true) {kI : Nat} (wi : (Jvm.Cond.instantiable ST kI).before a0 Z = true)
    {x b : Addr} {kC : ClassId} {cs bs : List Int32} {d v0 c0 : Value} {z N : Int32} {n n0 : Nat} (hx0 : n0 ≤ x) (hh0 : n0 ≤ h.size) (E : RoadKit.Exa Z h x ST) (V : RoadKit.Fld Z h x ST "value" "[B" v0) (C : RoadKit.Fld Z h x ST "coder" "B" c0) (K : RoadKit.Arv Z h b kC .char N (cs.map Value.int) d) (S : RoadKit.Sta Z h ST "COMPACT_STRINGS" "Z" (.int z)) (hz : ¬ z = 0)
    (hn : cs.length = n) (hN : N = Int32.ofNat n) (l0 : 0 < n) (l2 : n ≤ 4000) (hp : ∀ c ∈ cs, ¬ c < 0 ∧ ¬ (255 : Int32) < c) (hb : bs = cs.map (fun c => c.toInt8.toInt32)) (hfr : 4 ≤ R.frames) (hlo : W + 65 ≤ R.locals) :
    Back l R p e below s args (⟨"java/lang/String", "<init>", "([C)V"⟩ : MethodName) len W (fun P a => a = #[.ref x, .ref b] ∧ P.U.heap = h ∧ P.cells + 1 ≤ R.cells ∧ P.slots + n ≤ R.slots)
      (fun P _ v B => ∃ L, QV Z x N bs h n0 v B.U.heap L ∧ B.locs = P.locs ++ L ∧ B.cells = P.cells + 1 ∧ B.slots = P.slots + n) := by
  subst hn hN hb
  refine Back.mono (backArv hZ hw wi E V C K S hz (n32 (by omega)) l0 (by omega) (fun c hc => (hp c hc).2) hfr hlo) (fun P a hp => hp) (fun P a v B hp hq => ?_)
  obtain ⟨L, ⟨q1, q2, q3, q4, q5, q6, q7, ⟨kb, v1, v2⟩, q9⟩, hl, hc, hs⟩ := hq
  exact ⟨L, ⟨q1, fun y hy => by rw [q2 y hy]; exact hx0, q3, q5, q7, h.size, kb, hh0, Nat.le_refl _, Nat.ne_of_gt E.lt, q6, by rw [List.map_map]; exact v2⟩, hl, hc, hs⟩
end StrChars.Road
namespace StrChars
open Jvm Sem ClassFile Op Lib Jvm.Stand Jvm.Free.XT Jvm.Free.ALB Jvm.Free.JM Jvm.Free
open Jvm.Lib.Cold (StaticIs)
def hi8 (x : Int32) : Int32 := lo8 (x >>> ((8 : Int32) &&& 31))
/-- what StringUTF16.getChar makes of two bytes -/
def pairCh (u v : Int32) : Int32 := (((u &&& 255) <<< ((0 : Int32) &&& 31)) ||| ((v &&& 255) <<< ((8 : Int32) &&& 31))).toUInt32.toUInt16.toUInt32.toInt32
theorem shr0 (c : Int32) : c >>> ((0 : Int32) &&& 31) = c := by
  have e : ((0 : Int32) &&& 31) = 0 := by decide
  rw [e]
  apply Int32.toBitVec_inj.mp
  rw [Int32.toBitVec_shiftRight]
  have e1 : ((0 : Int32).toBitVec.smod 32) = 0#32 := by decide
  rw [e1, BitVec.sshiftRight_eq']
  exact BitVec.sshiftRight_zero
theorem lo8_and (x : Int32) : (lo8 x &&& 255).toBitVec.toNat = x.toBitVec.toNat % 256 := by
  have h : (lo8 x).toBitVec = (x.toBitVec.signExtend 8).signExtend 32 := by rw [lo8, Int8.toBitVec_toInt32, Int32.toBitVec_toInt8]
  rw [Int32.toBitVec_and, BitVec.toNat_and, h]
  have e : ((x.toBitVec.signExtend 8).signExtend 32).toNat % 256 = x.toBitVec.toNat % 256 := by
    rw [BitVec.toNat_signExtend]
    have hlt := x.toBitVec.isLt
    simp only [BitVec.toNat_setWidth, BitVec.toNat_signExtend]
    split <;> split <;> omega
  rw [← e]
  exact Nat.and_two_pow_sub_one_eq_mod _ 8
theorem pair_says {c : Int32} (h0 : ¬ c < 0) (h1 : ¬ 65535 < c) : pairCh (lo8 c) (hi8 c) = c := by
  rw [Int32.lt_iff_toInt_lt] at h0 h1
  have e0 : (0 : Int32).toInt = 0 := rfl
  have e1 : (65535 : Int32).toInt = 65535 := rfl
  have hc : c.toInt = c.toBitVec.toNat := by
    have := c.toBitVec.isLt
    have e : c.toInt = c.toBitVec.toInt := rfl
    rw [e] at h0 h1
    rw [e]
    rw [BitVec.toInt_eq_toNat_cond] at h0 h1 ⊢
    split at h0 <;> split <;> omega
  have hn : c.toBitVec.toNat < 65536 := by omega
  have a1 := lo8_and c
  have a2 : (hi8 c &&& 255).toBitVec.toNat = c.toBitVec.toNat / 256 := by
    rw [hi8, lo8_and]
    have e : ((8 : Int32) &&& 31) = 8 := by decide
    rw [e, Int32.toBitVec_shiftRight]
    have e2 : ((8 : Int32).toBitVec.smod 32) = 8#32 := by decide
    rw [e2, BitVec.sshiftRight_eq', BitVec.toNat_sshiftRight_of_msb_false (by rw [BitVec.msb_eq_false_iff_two_mul_lt]; omega)]
    show c.toBitVec.toNat >>> 8 % 256 = _
    rw [Nat.shiftRight_eq_div_pow]
    omega
  unfold pairCh
  apply Int32.toBitVec_inj.mp
  apply BitVec.eq_of_toNat_eq
  have f0 : ((0 : Int32) &&& 31) = 0 := by decide
  have f8 : ((8 : Int32) &&& 31) = 8 := by decide
  rw [f0, f8]
  have g : (((lo8 c &&& 255) <<< (0 : Int32)) ||| ((hi8 c &&& 255) <<< (8 : Int32))).toBitVec.toNat = c.toBitVec.toNat := by
    rw [Int32.toBitVec_or, Int32.toBitVec_shiftLeft, Int32.toBitVec_shiftLeft]
    have s0 : ((0 : Int32).toBitVec.smod 32) = 0#32 := by decide
    have s8 : ((8 : Int32).toBitVec.smod 32) = 8#32 := by decide
    rw [s0, s8, BitVec.toNat_or]
    simp only [BitVec.shiftLeft_eq', BitVec.toNat_shiftLeft, a1, a2]
    show (c.toBitVec.toNat % 256) <<< 0 % 2 ^ 32 ||| (c.toBitVec.toNat / 256) <<< 8 % 2 ^ 32 = _
    rw [Nat.shiftLeft_zero, Nat.mod_eq_of_lt (show c.toBitVec.toNat % 256 < 2 ^ 32 by omega), Nat.mod_eq_of_lt (show (c.toBitVec.toNat / 256) <<< 8 < 2 ^ 32 by rw [Nat.shiftLeft_eq]; omega), Nat.or_comm, ← Nat.shiftLeft_add_eq_or_of_lt (by omega), Nat.shiftLeft_eq]
    omega
  show BitVec.toNat (((((lo8 c &&& 255) <<< (0 : Int32)) ||| ((hi8 c &&& 255) <<< (8 : Int32))).toBitVec.setWidth 16).setWidth 32) = _
  rw [BitVec.toNat_setWidth, BitVec.toNat_setWidth, g]
  omega
end StrChars
namespace StrChars
open Jvm Sem ClassFile Op Lib Jvm.Stand Jvm.Free.XT Jvm.Free.ALB Jvm.Free.JM Jvm.Free
open Jvm.Lib.Cold (StaticIs)
theorem shr1 {n : Nat} (h : 2 * n < 2 ^ 31) : Int32.ofNat (2 * n) >>> ((1 : Int32) &&& 31) = Int32.ofNat n := by
  have e : ((1 : Int32) &&& 31) = 1 := by decide
  rw [e]
  apply Int32.toBitVec_inj.mp
  rw [Int32.toBitVec_shiftRight]
  have e1 : ((1 : Int32).toBitVec.smod 32) = 1#32 := by decide
  have hm : (BitVec.ofNat 32 (2 * n)).toNat = 2 * n := by rw [BitVec.toNat_ofNat, Nat.mod_eq_of_lt (by omega)]
  rw [e1, BitVec.sshiftRight_eq']
  apply BitVec.eq_of_toNat_eq
  show ((BitVec.ofNat 32 (2 * n)).sshiftRight 1).toNat = (BitVec.ofNat 32 n).toNat
  rw [BitVec.toNat_sshiftRight_of_msb_false (by rw [BitVec.msb_eq_false_iff_two_mul_lt, hm]; omega), hm, BitVec.toNat_ofNat, Nat.shiftRight_eq_div_pow]
  omega
/-- the array's cell V codes the n chars f 0 .. f (n - 1) by the coder cd, as the JDK does: coder 1 just where some char is above 255 -/
def Cod (cd : Int32) (n : Nat) (f : Nat → Int32) (V : Cell) : Prop := (cd = 0 ∧ V.slots.size = n ∧ ∀ j, j < n → V.slots[j]? = some (.int (lo8 (f j))) ∧ ¬ 255 < f j) ∨ (cd = 1 ∧ V.slots.size = 2 * n ∧ (∀ j, j < n → V.slots[2 * j]? = some (.int (lo8 (f j))) ∧ V.slots[2 * j + 1]? = some (.int (hi8 (f j)))) ∧ ∃ j, j < n ∧ 255 < f j)
theorem Cod.cd {cd : Int32} {n : Nat} {f : Nat → Int32} {V : Cell} (h : Cod cd n f V) : cd = 0 ∨ cd = 1 := h.imp (fun q => q.1) fun q => q.1
theorem Cod.len {cd : Int32} {n : Nat} {f : Nat → Int32} {V : Cell} (h : Cod cd n f V) (hs : V.slots.size < 2 ^ 31) : Int32.ofNat V.slots.size >>> (cd &&& 31) = Int32.ofNat n := by
  rcases h with ⟨rfl, h, -⟩ | ⟨rfl, h, -⟩
  · rw [shr0, h]
  · rw [h, shr1 (by omega)]
/-- **x is a String of the n chars f 0 .. f (n - 1)**, Latin-1 or UTF-16; its array at t has the cell V -/
def Txt (x t : Addr) (V : Cell) (cd : Int32) (n : Nat) (f : Nat → Int32) (U : State) : Prop := Exact "java/lang/String" x U ∧ Has x "java/lang/String" "value" "[B" (.ref t) U ∧ Has x "java/lang/String" "coder" "B" (.int cd) U ∧ XT.Arr .byte t V U ∧ Cod cd n f V ∧ ∀ j, j < n → ¬ f j < 0 ∧ ¬ 65535 < f j
theorem Txt.mv {x t : Addr} {V : Cell} {cd : Int32} {n : Nat} {f : Nat → Int32} {U U' : State} (h : Txt x t V cd n f U) (hal : U.vm.Alike U'.vm) (hh : U'.heap = U.heap) : Txt x t V cd n f U' := ⟨h.1.mv hal hh, h.2.1.mv hal hh, h.2.2.1.mv hal hh, h.2.2.2.1.mv hal hh, h.2.2.2.2⟩
namespace Cdr
def yN : MethodName := ⟨"java/lang/String", "coder", "()B"⟩
abbrev yB : ByteArray := jdk_42_method_152_code
theorem d0 : decode yB 0 = .ok (.getstatic 38, 3) := by decide +kernel
theorem d3 : decode yB 3 = .ok (.ifCond (.eq) 10, 3) := by decide +kernel
theorem d6 : decode yB 6 = .ok (.aload_n 0, 1) := by decide +kernel
theorem d7 : decode yB 7 = .ok (.getfield 15, 3) := by decide +kernel
theorem d10 : decode yB 10 = .ok (.goto 4, 3) := by decide +kernel
theorem d14 : decode yB 14 = .ok (.ireturn, 1) := by decide +kernel
def site : List Cond := [.fieldLink "java/lang/String" 38 "java/lang/String" "COMPACT_STRINGS" "Z", .fieldLink "java/lang/String" 15 "java/lang/String" "coder" "B"]
def tab : Cond := tabOf yN yB 1 (some .byte) site
def P (x : Addr) (cd z : Int32) (args : Array Value) (s : State) : Prop := args = #[.ref x] ∧ Has x "java/lang/String" "coder" "B" (.int cd) s ∧ (cd = 0 ∨ cd = 1) ∧ StaticIs s "java/lang/String" "COMPACT_STRINGS" "Z" (.int z) ∧ ¬ z = 0
def E (cd : Int32) (r : Option Value) (s u : State) : Prop := XT.PureE (some (.int cd)) r s u
theorem law (l : Launch) (x : Addr) (cd z : Int32) : Law l yN 1 0 0 0 yB 1 (some .byte) site (P x cd z) (E cd) [] 0 0 := by
  refine Law.of_walk (plainFor_of_name (by decide +kernel)) (by decide +kernel) (by decide +kernel) (by decide) (fun _ _ h => by rw [h.1]; rfl) (fun _ U U' hal hh h => ⟨h.1, h.2.1.mv hal hh, h.2.2.1, h.2.2.2.1.there hal hh, h.2.2.2.2⟩) (fun r U U' V V' h1 hal h2 h => XT.PureE.mv r U U' V V' h1 hal h2 h) ?_
  intro p e s m args below meth c s₁ X0 hexec hbytes hml hret hlk hnm hown hh0 W hP
  obtain ⟨rfl, hx, hc, s1, hz⟩ := hP
  have c1 : Steps p.tables e below (s₁.setTop (entryFrame m #[.ref x] 1)) (s₁.setTop (mkF m 0 #[.val (.ref x)] [])) := entry rfl
  obtain ⟨T2, X2, q2, st2⟩ := X0.sget hexec hown (wk W (.fieldLink "java/lang/String" 38 "java/lang/String" "COMPACT_STRINGS" "Z")) s1 (fun _ _ h => by rw [hh0]; exact h) (g := (mkF m 0 #[.val (.ref x)] [])) rfl (hb hbytes d0)
  have hh2 := q2.trans hh0
  have c3 : Steps p.tables e below (s₁.setTop (entryFrame m #[.ref x] 1)) (T2.setTop (mkF m 7 #[.val (.ref x)] [.ref x])) := (c1.trans (st2 _ (Steps.refl _))).trans (by
    refine XS.ifNo X2.here hexec rfl (hb hbytes d3) rfl (i0_eq_f hz) ?_
    refine XS.aloadN X2.here hexec rfl (hb hbytes d6) rfl rfl ?_
    exact Steps.refl _)
  obtain ⟨T4, X4, q4, st4⟩ := X2.hget hexec hown (wk W (.fieldLink "java/lang/String" 15 "java/lang/String" "coder" "B")) (hx.mv X2.warmed.alike hh2) (g := (mkF m 7 #[.val (.ref x)] [.ref x])) rfl (rest := []) rfl (hb hbytes d7)
  have c5 : Steps p.tables e below (s₁.setTop (entryFrame m #[.ref x] 1)) (T4.setTop (mkF m 14 #[.val (.ref x)] [.int cd])) := (c3.trans (st4 _ (Steps.refl _))).trans (by
    refine XS.goto X4.here hexec rfl (pc0 := 10) rfl (hb hbytes d10) (by decide) rfl ?_
    exact Steps.refl _)
  exact ⟨T4, some (.int cd), _, _, _, X4, rfl, rfl, rfl, (fun h => by cases h), ⟨rfl, q4.trans hh2⟩, fun fs hl => c5.trans (X4.ireturnOut hexec hret (by rcases hc with rfl | rfl <;> rfl) (Or.inr (Or.inr (Or.inl rfl))) (hb hbytes d14) hl)⟩
end Cdr
namespace Len
def yN : MethodName := ⟨"java/lang/String", "length", "()I"⟩
abbrev yB : ByteArray := jdk_42_method_54_code
theorem d0 : decode yB 0 = .ok (.aload_n 0, 1) := by decide +kernel
theorem d1 : decode yB 1 = .ok (.getfield 9, 3) := by decide +kernel
theorem d4 : decode yB 4 = .ok (.arraylength, 1) := by decide +kernel
theorem d5 : decode yB 5 = .ok (.aload_n 0, 1) := by decide +kernel
theorem d6 : decode yB 6 = .ok (.invokevirtual 335, 3) := by decide +kernel
theorem d9 : decode yB 9 = .ok (.ishr, 1) := by decide +kernel
theorem d10 : decode yB 10 = .ok (.ireturn, 1) := by decide +kernel
def site : List Cond := [.fieldLink "java/lang/String" 9 "java/lang/String" "value" "[B", Cdr.tab] ++ virtW "java/lang/String" 335 "java/lang/String" Cdr.yN Cdr.yN
def tab : Cond := tabOf yN yB 1 (some .int) site
def P (x t : Addr) (V : Cell) (cd : Int32) (n : Nat) (f : Nat → Int32) (z : Int32) (args : Array Value) (s : State) : Prop := args = #[.ref x] ∧ Txt x t V cd n f s ∧ StaticIs s "java/lang/String" "COMPACT_STRINGS" "Z" (.int z) ∧ ¬ z = 0
def E (n : Nat) (r : Option Value) (s u : State) : Prop := XT.PureE (some (.int (Int32.ofNat n))) r s u
/-- length() of a String of n chars, in either coding -/
theorem law (l : Launch) (x t : Addr) (V : Cell) (cd : Int32) (n : Nat) (f : Nat → Int32) (z : Int32) : Law l yN 1 0 1 13 yB 1 (some .int) site (P x t V cd n f z) (E n) [] 0 0 := by
  refine Law.of_walk (plainFor_of_name (by decide +kernel)) (by decide +kernel) (by decide +kernel) (by decide) (fun _ _ h => by rw [h.1]; rfl) (fun _ U U' hal hh h => ⟨h.1, h.2.1.mv hal hh, h.2.2.1.there hal hh, h.2.2.2⟩) (fun r U U' V V' h1 hal h2 h => XT.PureE.mv r U U' V V' h1 hal h2 h) ?_
  intro p e s m args below meth c s₁ X0 hexec hbytes hml hret hlk hnm hown hh0 W hP
  obtain ⟨rfl, hx, s1, hz⟩ := hP
  have v31 := hx.2.2.2.1.2.2.2
  have c1 : Steps p.tables e below (s₁.setTop (entryFrame m #[.ref x] 1)) (s₁.setTop (mkF m 1 #[.val (.ref x)] [.ref x])) := Steps.trans (entry rfl) (by
    show Steps p.tables e below (s₁.setTop (mkF m 0 #[.val (.ref x)] [])) _
    refine XS.aloadN X0.here hexec rfl (hb hbytes d0) rfl rfl ?_
    exact Steps.refl _)
  obtain ⟨T2, X2, q2, st2⟩ := X0.hget hexec hown (wk W (.fieldLink "java/lang/String" 9 "java/lang/String" "value" "[B")) (hx.mv X0.warmed.alike hh0).2.1 (g := (mkF m 1 #[.val (.ref x)] [.ref x])) rfl (rest := []) rfl (hb hbytes d1)
  have hh2 := q2.trans hh0
  have hx2 := hx.mv X2.warmed.alike hh2
  have c3 : Steps p.tables e below (s₁.setTop (entryFrame m #[.ref x] 1)) (T2.setTop (mkF m 6 #[.val (.ref x)] [.ref x, .int (Int32.ofNat V.slots.size)])) := (c1.trans (st2 _ (Steps.refl _))).trans (by
    refine X2.alen hexec hx2.2.2.2.1 rfl rfl (hb hbytes d4) ?_
    refine XS.aloadN X2.here hexec rfl (hb hbytes d5) rfl rfl ?_
    exact Steps.refl _)
  obtain ⟨v4, T4, X4, E4, g4⟩ := X2.callV hexec (Cdr.law l x cd z) hown (wks W (virtW "java/lang/String" 335 "java/lang/String" Cdr.yN Cdr.yN)) rfl (by decide) (wk W Cdr.tab) (W := 1) (Nat.le_of_ble_eq_true rfl) (Nat.le_of_ble_eq_true rfl) (Nat.le_refl _) (Nat.le_refl _) (hx2.1.fc X2.warmed.alike) hx2.1.is (g := (mkF m 6 #[.val (.ref x)] [.ref x, .int (Int32.ofNat V.slots.size)])) rfl (by rw [hml]; rfl) c3 (argsL := []) (rest := [.int (Int32.ofNat V.slots.size)]) rfl rfl (by show 2 * 0 + (1 + 0) ≤ _; decide) (hb hbytes d6) (⟨rfl, hx2.2.2.1, hx.2.2.2.2.1.cd, s1.there X2.warmed.alike hh2, hz⟩)
  obtain ⟨rfl, q4⟩ := E4
  have c5 : Steps p.tables e below (s₁.setTop (entryFrame m #[.ref x] 1)) (T4.setTop (mkF m 10 #[.val (.ref x)] [.int (Int32.ofNat V.slots.size >>> (cd &&& 31))])) := Steps.trans g4 (by
    refine ishr X4.here hexec rfl (hb hbytes d9) rfl ?_
    exact Steps.refl _)
  rw [hx.2.2.2.2.1.len v31] at c5
  exact ⟨T4, some (.int (Int32.ofNat n)), _, _, _, X4, rfl, rfl, rfl, (fun h => by cases h), ⟨rfl, q4.trans hh2⟩, fun fs hl => c5.trans (X4.ireturnOut hexec hret rfl (Or.inl rfl) (hb hbytes d10) hl)⟩
theorem pays {l : Launch} {R : Room} {p : Program} {e : Env} {below : List Frame} {s : State} {sargs : Array Value} {len W : Nat} (x t : Addr) (V : Cell) (cd : Int32) (n : Nat) (f : Nat → Int32) (z : Int32) (htab : tab.before sargs s = true) (hfr : 2 ≤ R.frames) (hlo : W + 25 ≤ R.locals) :
    Back l R p e below s sargs yN len W (fun A₁ a₁ => A₁.cells + 0 ≤ R.cells ∧ A₁.slots + 0 ≤ R.slots ∧ P x t V cd n f z a₁ A₁.U) (fun A₁ _ v₁ B₁ => E n v₁ A₁.U B₁.U ∧ B₁.locs = A₁.locs ++ [] ∧ B₁.cells = A₁.cells + 0 ∧ B₁.slots = A₁.slots + 0) :=
  (law l x t V cd n f z).pays htab hfr (by omega)
end Len
end StrChars
namespace StrChars.Road
open Jvm Sem ClassFile Op Lib Jvm.Stand Jvm.Free Jvm.Free.XT
open Jvm.Lib.Cold (StaticIs)
theorem consq {a : Array Value} {s : State} {c : Jvm.Cond} {L : List Jvm.Cond} (h0 : c.before a s = true) (h : ∀ w ∈ L, w.before a s = true) : ∀ w ∈ c :: L, w.before a s = true := fun w hw => (List.mem_cons.mp hw).elim (fun e => e ▸ h0) (h w)
/-- the words of String.length(), either coding -/
abbrev wordsLen : List Jvm.Cond := [.code Len.yN Len.yB 1 (some .int), .initialized ST, .fieldLink ST 9 ST "value" "[B", .fieldLink ST 38 ST "COMPACT_STRINGS" "Z", .fieldLink ST 15 ST "coder" "B", .code Cdr.yN Cdr.yB 1 (some .byte), .methodLink ST 335 Cdr.yN, .declares Cdr.yN, .selects ST Cdr.yN Cdr.yN, .instanceMethod Cdr.yN]
theorem tabLen_of {a : Array Value} {s : State} (h : ∀ w ∈ wordsLen, w.before a s = true) : Len.tab.before a s = true := by
  have hc : Cdr.tab.before a s = true := unparts (wk h (.code Cdr.yN Cdr.yB 1 (some .byte))) (wks h (.initialized Cdr.yN.cls :: Cdr.site))
  have q := consq hc h
  exact unparts (wk q (.code Len.yN Len.yB 1 (some .int))) (wks q (.initialized Len.yN.cls :: Len.site))
theorem movedLen {Z s : State} {a0 args : Array Value} (hZ : Z.Warmed39 s.vm) (hw : ∀ d ∈ wordsLen, d.before a0 Z = true) : ∀ d ∈ wordsLen, d.before args s = true := fun d hd => by
  have q := hw d hd
  have t : ∀ d ∈ wordsLen, d = .arrayClass .byte ∨ (d.onTables && d.keepsFace) = true := by decide +kernel
  rcases t d hd with rfl | t
  · exact RoadKit.mvA hZ q
  · exact RoadKit.mv hZ q t
/-- the bytes of the chars cs, low before high -/
def wideBytes : List Int32 → List Value
  | [] => []
  | c :: cs => .int (lo8 c) :: .int (hi8 c) :: wideBytes cs
theorem wide_lo (d : Value) : ∀ (cs : List Int32) (j : Nat), j < cs.length → (wideBytes cs).getD (2 * j) d = .int (lo8 (cs.getD j 0))
  | [], j, h => absurd h (Nat.not_lt_zero j)
  | c :: cs, 0, _ => rfl
  | c :: cs, j + 1, h => by
    have q := wide_lo d cs j (by simpa using h)
    rw [show 2 * (j + 1) = 2 * j + 1 + 1 from by omega]
    simpa [wideBytes] using q
theorem wide_hi (d : Value) : ∀ (cs : List Int32) (j : Nat), j < cs.length → (wideBytes cs).getD (2 * j + 1) d = .int (hi8 (cs.getD j 0))
  | [], j, h => absurd h (Nat.not_lt_zero j)
  | c :: cs, 0, _ => rfl
  | c :: cs, j + 1, h => by
    have q := wide_hi d cs j (by simpa using h)
    rw [show 2 * (j + 1) + 1 = 2 * j + 1 + 1 + 1 from by omega]
    simpa [wideBytes] using q
theorem low_at (d : Value) (cs : List Int32) (j : Nat) (h : j < cs.length) : (cs.map fun c => Value.int (lo8 c)).getD j d = .int (lo8 (cs.getD j 0)) := by
  simp [List.getD_eq_getElem?_getD, h]
/-- an array of N2 bytes vs codes the chars cs by the coder cd -/
def CodA (cs : List Int32) (cd N2 : Int32) (vs : List Value) : Prop := (cd = 0 ∧ N2 = Int32.ofNat cs.length ∧ vs = (cs.map fun c => Value.int (lo8 c)) ∧ ∀ c ∈ cs, ¬ 255 < c) ∨ (cd = 1 ∧ N2 = Int32.ofNat (2 * cs.length) ∧ vs = wideBytes cs ∧ ∃ c ∈ cs, 255 < c)
theorem CodA.cod {cs : List Int32} {cd N2 : Int32} {vs : List Value} {V : Cell} (h : CodA cs cd N2 vs) (hn : 2 * cs.length < 2 ^ 31) (hs : V.slots.size = N2.toNatClampNeg) (hv : RoadKit.Has V vs (.int 0)) : Cod cd cs.length (fun j => cs.getD j 0) V := by
  rcases h with ⟨rfl, rfl, rfl, h⟩ | ⟨rfl, rfl, rfl, c, hc, hw⟩
  · rw [n32 (by omega)] at hs
    exact Or.inl ⟨rfl, hs, fun j hj => ⟨by rw [hv j (by omega), low_at _ _ _ hj], by
      have e : cs.getD j 0 = cs[j] := by simp [List.getD_eq_getElem?_getD, hj]
      show ¬ 255 < cs.getD j 0
      rw [e]; exact h _ (List.getElem_mem _)⟩⟩
  · rw [n32 (by omega)] at hs
    obtain ⟨j, hj, rfl⟩ := List.getElem_of_mem hc
    exact Or.inr ⟨rfl, hs, fun j hj => ⟨by rw [hv _ (by omega), wide_lo _ _ _ hj], by rw [hv _ (by omega), wide_hi _ _ _ hj]⟩, j, hj, by
      have e : cs.getD j 0 = cs[j] := by simp [List.getD_eq_getElem?_getD, hj]
      show 255 < cs.getD j 0
      rw [e]; exact hw⟩
/-- an object of exactly java/lang/String, its two fields found: as the laws ask it -/
theorem strObj {Z U : State} {a0 : Array Value} {kI : Nat} (wi : (Jvm.Cond.instantiable ST kI).before a0 Z = true) (al : Z.vm.Alike U.vm) {x : Addr} {v0 c0 : Value} (E : RoadKit.Exa Z U.heap x ST) (V : RoadKit.Fld Z U.heap x ST "value" "[B" v0) (C : RoadKit.Fld Z U.heap x ST "coder" "B" c0) :
    ∃ (D : Cell) (fV fC : Field), Blank ST x D U ∧ Found ST "value" "[B" fV U ∧ Found ST "coder" "B" fC U ∧ D.slots[fV.slot]? = some v0 ∧ D.slots[fC.slot]? = some c0 ∧ RoadKit.slotOf Z ST "value" "[B" = fV.slot ∧ RoadKit.slotOf Z ST "coder" "B" = fC.slot := by
  obtain ⟨D, cfV, kV, iV, fV, hD, gV, stV, knV, obV, asV, slV⟩ := V
  obtain ⟨D', cfC, kC, iC, fC, hD', gC, stC, -, -, asC, slC⟩ := C
  cases hD.symm.trans hD'
  obtain ⟨D2, kD, e1, e2, e3, e4, e5⟩ := E
  cases hD.symm.trans e1
  obtain ⟨c2, k2, i1, i2, i3, -⟩ := Cond.instantiable_spec wi
  cases e2.symm.trans i1
  cases e3.symm.trans i2
  obtain ⟨kU, u1, u2⟩ := al.2.2 _ _ e3
  exact ⟨D, fV, fC, ⟨hD, ⟨knV, fun q hq => by rw [hq] at obV; cases obV⟩, by rw [al.findClass]; exact e2, kU, u1, by rw [u2]; exact i3, by rw [u2]; exact e5 i3⟩, ⟨SBG.found_only al ⟨cfV, kV, iV, gV⟩, stV⟩, ⟨SBG.found_only al ⟨cfC, kC, iC, gC⟩, stC⟩, slV, slC, by simp [RoadKit.slotOf, gV], by simp [RoadKit.slotOf, gC]⟩
theorem sta_is {Z U : State} (al : Z.vm.Alike U.vm) {C n d : String} {v : Value} (S : RoadKit.Sta Z U.heap C n d v) : StaticIs U C n d v := by
  obtain ⟨cfS, iS, kS, fS, st, cS, t1, t2, t3, t4, t5, t6, t7⟩ := S
  exact StaticIs.there (s := { Z with heap := U.heap }) ⟨cfS, iS, kS, fS, st, cS, t1, t2, t3, t4, t5, (fun q => by rw [q] at t6; cases t6), t7⟩ al rfl
/-- **length() OF SUCH A STRING** -/
theorem lenW {p : Program} {l : Launch} {e : Env} {R : Room} {s : State} {args : Array Value} {below : List Frame} {len W : Nat} {Z : State} {a0 : Array Value} {h : Heap} (hZ : Z.Warmed39 s.vm) (hw : ∀ d ∈ wordsLen, d.before a0 Z = true) {kI : Nat} (wi : (Jvm.Cond.instantiable ST kI).before a0 Z = true)
    {x t : Addr} {kb : ClassId} {cs : List Int32} {cd N2 z : Int32} {vs : List Value} (E : RoadKit.Exa Z h x ST) (V : RoadKit.Fld Z h x ST "value" "[B" (.ref t)) (C : RoadKit.Fld Z h x ST "coder" "B" (.int cd)) (K : RoadKit.Arv Z h t kb .byte N2 vs (.int 0)) (hc : CodA cs cd N2 vs) (hb : ∀ c ∈ cs, ¬ c < 0 ∧ ¬ (65535 : Int32) < c)
    (S : RoadKit.Sta Z h ST "COMPACT_STRINGS" "Z" (.int z)) (hz : ¬ z = 0) (l2 : cs.length ≤ 4000) (hfr : 2 ≤ R.frames) (hlo : W + 25 ≤ R.locals) :
    Back l R p e below s args (⟨"java/lang/String", "length", "()I"⟩ : MethodName) len W (fun P a => a = #[.ref x] ∧ P.U.heap = h ∧ P.cells + 0 ≤ R.cells ∧ P.slots + 0 ≤ R.slots)
      (fun P _ v B => ∃ L, (v = some (.int (Int32.ofNat cs.length)) ∧ L = [] ∧ B.U.heap = h) ∧ B.locs = P.locs ++ L ∧ B.cells = P.cells + 0 ∧ B.slots = P.slots + 0) := by
  obtain ⟨A, K1, K2, K3, K4, K5, K6⟩ := K
  have hcod := hc.cod (by omega) K3 K5
  intro m meth c P g ig mk a X hg hsize hdg hW hn hp'
  obtain ⟨rfl, rfl, r1, r2⟩ := hp'
  have al : Z.vm.Alike P.U.vm := hZ.alike.trans X.warmed.alike
  obtain ⟨D, fV, fC, hB, F1, F2, g1, g2, -, -⟩ := strObj wi al E V C
  have hx : Txt x t A cd cs.length (fun j => cs.getD j 0) P.U := ⟨⟨_, hB.2.2.1, D, hB.1, rfl, by cases q : D.vm <;> first | rfl | exact absurd q (hB.2.1.2 _)⟩, Has.of hB F1 g1, Has.of hB F2 g2, ⟨K1.1, State.isArrayOf_alike al K1.2.1, K1.2.2, by rcases hcod with ⟨-, q, -⟩ | ⟨-, q, -⟩ <;> omega⟩, hcod, fun j hj => by
    have e : cs.getD j 0 = cs[j] := by simp [List.getD_eq_getElem?_getD, hj]
    show ¬ cs.getD j 0 < 0 ∧ ¬ 65535 < cs.getD j 0
    rw [e]; exact hb _ (List.getElem_mem _)⟩
  obtain ⟨v, B, X', ⟨⟨hv, hh⟩, hl, hk, hs⟩, st⟩ := Len.pays x t A cd cs.length (fun j => cs.getD j 0) z (tabLen_of (movedLen hZ hw)) hfr hlo m meth c P g ig mk _ X hg hsize hdg hW hn ⟨r1, r2, rfl, hx, sta_is al S, hz⟩
  exact ⟨v, B, X', ⟨[], ⟨hv, rfl, hh⟩, hl, hk, hs⟩, st⟩
end StrChars.Road
namespace StrChars.Road
open Jvm Sem ClassFile Op Lib Jvm.Stand Jvm.Free Jvm.Free.XT
open Jvm.Lib.Cold (StaticIs)
/-- what backV says of its String, as the contracts of this text ask it: cs's low bytes, coder 0 -/
theorem codOf {cs : List Int32} {n : Nat} (hn : cs.length = n) (hb : ∀ c ∈ cs, ¬ 255 < c) : CodA cs 0 (Int32.ofNat n) ((cs.map lo8).map Value.int) := Or.inl ⟨rfl, by rw [hn], by simp [List.map_map, Function.comp_def], hb⟩
end StrChars.Road
end Jvm.Pilot.@@N@@
namespace Jvm.Pilot.@@N@@
open Jvm Jvm.ClassFile Sem Op Lib Jvm.Free Jvm.Stand Jvm.LawKit Jvm.RoadKit Bundle Jvm.Pilot.@@N@@.Jvm.D
section OwnKit
variable {Z : State} {EL : List (String × Nat)} {a0 : Array Value} {n0 : Nat} {h0 : Heap} {ws : List Addr} {own : String} {bytes : ByteArray} {mx : Nat} {p : Program} {l : Launch} {e : Env} {R : Room} {s : State} {m : MethodId} {args : Array Value} {below : List Frame} {meth : Method} {c : Code} {sv : List Addr} {T : State} {h : Heap} {k n : Nat} {P : Outcome → State → Prop} {pc : Nat} {Ls : Array Slot} {st : List Value}
def OGo (tb : Tables) (e : Env) (below : List Frame) (P : Outcome → State → Prop) (T : State) (g : JFrame) : Prop := ∃ (t : State) (o : Outcome), Steps tb e below (T.setTop g) t ∧ t.status = .running ∧ Ended t below o ∧ P o t
theorem og {tb : Tables} {T' : State} {g g' : JFrame} (st : ∀ t, Steps tb e below (T'.setTop g') t → Steps tb e below (T.setTop g) t) (K : OGo tb e below P T' g') : OGo tb e below P T g := by
  obtain ⟨t, o, h1, h2⟩ := K
  exact ⟨t, o, st t h1, h2⟩
def OEnd (Z : State) (EL : List (String × Nat)) (n0 : Nat) (h0 : Heap) (ws : List Addr) (s : State) (Q : Option Value → Heap → Prop) (k n : Nat) (o : Outcome) (t : State) : Prop :=
  ∃ v L, o = .returned v ∧ (Fr n0 L ∧ Keep h0 t.heap ws ∧ Q v t.heap) ∧ CHr Z EL s.vm s.heap t.vm t.heap ∧ ReturnedEndW s o t L k n ∧ (EL = [] → FrameEnd s o t L k n)
def OIn (Z : State) (EL : List (String × Nat)) (a0 : Array Value) (n0 : Nat) (h0 : Heap) (ws : List Addr) (own : String) (s : State) (m : MethodId) (sv : List Addr) (vm0 : Vm) (locs : List Loc) (h : Heap) : Prop :=
  s.heap = h0 ∧ Old Z n0 h ∧ Keep h0 h ws ∧ (∃ k0, s.Since vm0 k0 ∧ k0 ≤ h.size) ∧ Z.Warmed39 vm0 ∧ vm0.findClass own = some m.cls ∧ EW Z a0 EL ∧ CHr Z EL s.vm s.heap vm0 h ∧ (EL = [] → vm0 = s.vm) ∧ Fr n0 locs ∧ ∀ x ∈ sv, n0 ≤ x ∧ x < h.size ∧ (x ∈ ws ∨ h0.size ≤ x) ∧ Safe Z EL vm0 h x
def OSt (Z : State) (EL : List (String × Nat)) (a0 : Array Value) (n0 : Nat) (h0 : Heap) (ws : List Addr) (own : String) (bytes : ByteArray) (mx : Nat) (p : Program) (l : Launch) (e : Env) (R : Room) (s : State) (m : MethodId) (args : Array Value) (below : List Frame) (meth : Method) (c : Code) (sv : List Addr) (T : State) (h : Heap) (k n : Nat) : Prop :=
  p.tables.exec = Jvm.exec ∧ c.code = bytes ∧ c.maxLocals = mx ∧ T.heap = h ∧ meth.locks = false ∧ ∃ (vm0 : Vm) (locs : List Loc), Stand p l e R (s.setVm vm0) m args below meth c T locs k n ∧ OIn Z EL a0 n0 h0 ws own s m sv vm0 locs h
theorem OSt.here (X : OSt Z EL a0 n0 h0 ws own bytes mx p l e R s m args below meth c sv T h k n) : At T m c below := by obtain ⟨-, -, -, -, -, _, _, Y, -⟩ := X; exact Y.here
theorem OSt.hx (X : OSt Z EL a0 n0 h0 ws own bytes mx p l e R s m args below meth c sv T h k n) : p.tables.exec = Jvm.exec := X.1
theorem OSt.hd (X : OSt Z EL a0 n0 h0 ws own bytes mx p l e R s m args below meth c sv T h k n) {r : Except ClassFile.DecodeError (ClassFile.Instr × Nat)} (hd : decode bytes pc = r) : decode c.code pc = r := hb X.2.1 hd
theorem OSt.old (X : OSt Z EL a0 n0 h0 ws own bytes mx p l e R s m args below meth c sv T h k n) : Old Z n0 h := by obtain ⟨-, -, -, -, -, _, _, -, -, I, -⟩ := X; exact I
theorem OSt.kept (X : OSt Z EL a0 n0 h0 ws own bytes mx p l e R s m args below meth c sv T h k n) : Keep h0 h ws := by obtain ⟨-, -, -, -, -, _, _, -, -, -, I, -⟩ := X; exact I
theorem OSt.more (X : OSt Z EL a0 n0 h0 ws own bytes mx p l e R s m args below meth c sv T h k n) {k' n' : Nat} (hk : k ≤ k') (hn : n ≤ n') : OSt Z EL a0 n0 h0 ws own bytes mx p l e R s m args below meth c sv T h k' n' := by
  obtain ⟨a1, a2, a3, a4, a5, vm0, locs, Y, I⟩ := X
  exact ⟨a1, a2, a3, a4, a5, vm0, locs, Y.more hk hn, I⟩
theorem OSt.less (X : OSt Z EL a0 n0 h0 ws own bytes mx p l e R s m args below meth c sv T h k n) {sv' : List Addr} (q : ∀ x ∈ sv', x ∈ sv) : OSt Z EL a0 n0 h0 ws own bytes mx p l e R s m args below meth c sv' T h k n := by
  obtain ⟨a1, a2, a3, a4, a5, vm0, locs, Y, b1, b2, b3, b4, b5, b6, b7, b8, b9, b10, b11⟩ := X
  exact ⟨a1, a2, a3, a4, a5, vm0, locs, Y, b1, b2, b3, b4, b5, b6, b7, b8, b9, b10, fun x hx => b11 x (q x hx)⟩
theorem OIn.ext {vm0 : Vm} {locs : List Loc} {h' : Heap} (I : OIn Z EL a0 n0 h0 ws own s m sv vm0 locs h) (E : Ext h h') : OIn Z EL a0 n0 h0 ws own s m sv vm0 locs h' := by
  obtain ⟨b1, b2, b3, ⟨k0, b4, b4'⟩, b5, b6, b7, b8, b9, b10, b11⟩ := I
  exact ⟨b1, b2.ext E, b3.ext E, ⟨k0, b4, Nat.le_trans b4' E.1⟩, b5, b6, b7, b8.trans (CHr.ext E b8.1), b9, b10, fun x hx => let q := b11 x hx; ⟨q.1, Nat.lt_of_lt_of_le q.2.1 E.1, q.2.2.1, Safe.ext E b8.1 q.2.2.2⟩⟩
theorem OIn.new {vm0 : Vm} {locs : List Loc} {h' : Heap} (I : OIn Z EL a0 n0 h0 ws own s m sv vm0 locs h) (E : Ext h h') {b : Addr} (h1 : h.size ≤ b) (h2 : b < h'.size) : OIn Z EL a0 n0 h0 ws own s m (b :: sv) vm0 locs h' := by
  have I' := I.ext E
  obtain ⟨b1, b2, b3, -, -, -, -, b8, -⟩ := I
  obtain ⟨c1, c2, c3, c4, c5, c6, c7, c8, c9, c10, c11⟩ := I'
  refine ⟨c1, c2, c3, c4, c5, c6, c7, c8, c9, c10, fun x hx => ?_⟩
  rcases List.mem_cons.mp hx with rfl | hx
  · exact ⟨Nat.le_trans (Nat.le_of_eq b2.1.symm) (Nat.le_trans b2.2.1 h1), h2, Or.inr (Nat.le_trans b3.1 h1), Safe.ext E b8.1 (Safe.new h1)⟩
  · exact c11 x hx
theorem OIn.wr {vm0 : Vm} {locs : List Loc} {h' : Heap} (I : OIn Z EL a0 n0 h0 ws own s m sv vm0 locs h) {a : Addr} {sl : Nat} {v : Value} (ha : a ∈ sv) (W : Wr h h' a sl v) : OIn Z EL a0 n0 h0 ws own s m sv vm0 (locs ++ [⟨a, sl⟩]) h' := by
  obtain ⟨b1, b2, b3, ⟨k0, b4, b4'⟩, b5, b6, b7, b8, b9, b10, b11⟩ := I
  obtain ⟨q1, q2, q3, q4⟩ := b11 a ha
  refine ⟨b1, b2.wr W q1, b3.wr W q3, ⟨k0, b4, by rw [W.size]; exact b4'⟩, b5, b6, b7, b8.trans (CHr.wr W q4 b8.1), b9, b10.app fun y hy => ?_, fun x hx => let r := b11 x hx; ⟨r.1, by rw [W.size]; exact r.2.1, r.2.2.1, Safe.wr W q4 b8.1 r.2.2.2⟩⟩
  cases List.mem_singleton.mp hy; exact q1
theorem OIn.keep {vm0 : Vm} {locs : List Loc} {h' : Heap} (I : OIn Z EL a0 n0 h0 ws own s m sv vm0 locs h) {ws' : List Addr} {L : List Loc} (K : Keep h h' ws') (hs : ∀ x ∈ ws', x ∈ sv) (N : Fr n0 L) : OIn Z EL a0 n0 h0 ws own s m sv vm0 (locs ++ L) h' := by
  obtain ⟨b1, b2, b3, ⟨k0, b4, b4'⟩, b5, b6, b7, b8, b9, b10, b11⟩ := I
  have sf : ∀ x ∈ ws', Safe Z EL vm0 h x := fun x hx => (b11 x (hs x hx)).2.2.2
  exact ⟨b1, b2.keep K fun x hx => (b11 x (hs x hx)).1, b3.trans K fun x hx => (b11 x (hs x hx)).2.2.1, ⟨k0, b4, Nat.le_trans b4' K.1⟩, b5, b6, b7, b8.trans (CHr.keep K sf b8.1), b9, b10.app N, fun x hx => let r := b11 x hx; ⟨r.1, Nat.lt_of_lt_of_le r.2.1 K.1, r.2.2.1, Safe.keep K sf b8.1 r.2.2.2⟩⟩
theorem OIn.call {vm0 : Vm} {locs : List Loc} {h' : Heap} {vm1 : Vm} (I : OIn Z EL a0 n0 h0 ws own s m sv vm0 locs h) {ws' : List Addr} {L : List Loc} (K : Keep h h' ws') (hs : ∀ x ∈ ws', x ∈ sv) (N : Fr n0 L) (C : CHr Z EL vm0 h vm1 h') (S : (s.setVm vm0).Since vm1 h'.size) (hne : EL = [] → vm1 = vm0) : OIn Z EL a0 n0 h0 ws own s m sv vm1 (locs ++ L) h' := by
  obtain ⟨b1, b2, b3, ⟨k0, b4, b4'⟩, b5, b6, b7, b8, b9, b10, b11⟩ := I
  exact ⟨b1, b2.keep K fun x hx => (b11 x (hs x hx)).1, b3.trans K fun x hx => (b11 x (hs x hx)).2.2.1, ⟨_, b4.trans S (Nat.le_trans b4' K.1), Nat.le_refl _⟩, State.Warmed39.trans (t := s.setVm vm0) b5 S.1, by rw [S.1.alike.findClass]; exact b6, b7, b8.trans C, fun q => (hne q).trans (b9 q), b10.app N, fun x hx => let r := b11 x hx; ⟨r.1, Nat.lt_of_lt_of_le r.2.1 K.1, r.2.2.1, C.safe r.2.1 r.2.2.2⟩⟩
theorem og_aload (X : OSt Z EL a0 n0 h0 ws own bytes mx p l e R s m args below meth c sv T h k n) (pc' : Nat) {j : Nat} {v : Value} (hd : decode bytes pc = .ok (.aload j, 2)) (hl : Ls[j]? = some (.val (v))) (hv : v.isRef = true) (hq : pc' = pc + 2) (K : OGo p.tables e below P T (mkF m pc' Ls (v :: st))) : OGo p.tables e below P T (mkF m pc Ls st) := by
  subst hq
  exact og (fun _ q => XS.aload X.here X.hx rfl (X.hd hd) hl hv q) K
theorem og_aloadN (X : OSt Z EL a0 n0 h0 ws own bytes mx p l e R s m args below meth c sv T h k n) (pc' : Nat) {j : Fin 4} {v : Value} (hd : decode bytes pc = .ok (.aload_n j, 1)) (hl : Ls[j.val]? = some (.val (v))) (hv : v.isRef = true) (hq : pc' = pc + 1) (K : OGo p.tables e below P T (mkF m pc' Ls (v :: st))) : OGo p.tables e below P T (mkF m pc Ls st) := by
  subst hq
  exact og (fun _ q => XS.aloadN X.here X.hx rfl (X.hd hd) hl hv q) K
theorem og_iload (X : OSt Z EL a0 n0 h0 ws own bytes mx p l e R s m args below meth c sv T h k n) (pc' : Nat) {j : Nat} {v : Int32} (hd : decode bytes pc = .ok (.iload j, 2)) (hl : Ls[j]? = some (.val (.int v))) (hq : pc' = pc + 2) (K : OGo p.tables e below P T (mkF m pc' Ls (.int v :: st))) : OGo p.tables e below P T (mkF m pc Ls st) := by
  subst hq
  exact og (fun _ q => XS.iload X.here X.hx rfl (X.hd hd) hl q) K
theorem og_iloadN (X : OSt Z EL a0 n0 h0 ws own bytes mx p l e R s m args below meth c sv T h k n) (pc' : Nat) {j : Fin 4} {v : Int32} (hd : decode bytes pc = .ok (.iload_n j, 1)) (hl : Ls[j.val]? = some (.val (.int v))) (hq : pc' = pc + 1) (K : OGo p.tables e below P T (mkF m pc' Ls (.int v :: st))) : OGo p.tables e below P T (mkF m pc Ls st) := by
  subst hq
  exact og (fun _ q => XS.iloadN X.here X.hx rfl (X.hd hd) hl q) K
theorem og_lload (X : OSt Z EL a0 n0 h0 ws own bytes mx p l e R s m args below meth c sv T h k n) (pc' : Nat) {j : Nat} {v : Int64} (hd : decode bytes pc = .ok (.lload j, 2)) (hl : Ls[j]? = some (.val (.long v))) (hq : pc' = pc + 2) (K : OGo p.tables e below P T (mkF m pc' Ls (.long v :: st))) : OGo p.tables e below P T (mkF m pc Ls st) := by
  subst hq
  exact og (fun _ q => XT.lload X.here X.hx rfl (X.hd hd) hl q) K
theorem og_lloadN (X : OSt Z EL a0 n0 h0 ws own bytes mx p l e R s m args below meth c sv T h k n) (pc' : Nat) {j : Fin 4} {v : Int64} (hd : decode bytes pc = .ok (.lload_n j, 1)) (hl : Ls[j.val]? = some (.val (.long v))) (hq : pc' = pc + 1) (K : OGo p.tables e below P T (mkF m pc' Ls (.long v :: st))) : OGo p.tables e below P T (mkF m pc Ls st) := by
  subst hq
  exact og (fun _ q => XT.lloadN X.here X.hx rfl (X.hd hd) hl q) K
theorem og_iconst (X : OSt Z EL a0 n0 h0 ws own bytes mx p l e R s m args below meth c sv T h k n) (pc' : Nat) (v : Int32) {i : Int} (hd : decode bytes pc = .ok (.iconst i, 1)) (hv : Int32.ofInt i = v) (hq : pc' = pc + 1) (K : OGo p.tables e below P T (mkF m pc' Ls (.int v :: st))) : OGo p.tables e below P T (mkF m pc Ls st) := by
  subst hq hv
  exact og (fun _ q => XS.iconst X.here X.hx rfl (X.hd hd) q) K
theorem og_bipush (X : OSt Z EL a0 n0 h0 ws own bytes mx p l e R s m args below meth c sv T h k n) (pc' : Nat) (v : Int32) {i : Int} (hd : decode bytes pc = .ok (.bipush i, 2)) (hv : (Int8.ofInt i).toInt32 = v) (hq : pc' = pc + 2) (K : OGo p.tables e below P T (mkF m pc' Ls (.int v :: st))) : OGo p.tables e below P T (mkF m pc Ls st) := by
  subst hq hv
  exact og (fun _ q => XS.bipush X.here X.hx rfl (X.hd hd) q) K
theorem og_sipush (X : OSt Z EL a0 n0 h0 ws own bytes mx p l e R s m args below meth c sv T h k n) (pc' : Nat) (v : Int32) {i : Int} (hd : decode bytes pc = .ok (.sipush i, 3)) (hv : (Int16.ofInt i).toInt32 = v) (hq : pc' = pc + 3) (K : OGo p.tables e below P T (mkF m pc' Ls (.int v :: st))) : OGo p.tables e below P T (mkF m pc Ls st) := by
  subst hq hv
  exact og (fun _ q => XS.sipush X.here X.hx rfl (X.hd hd) q) K
theorem og_lconst (X : OSt Z EL a0 n0 h0 ws own bytes mx p l e R s m args below meth c sv T h k n) (pc' : Nat) (v : Int64) {i : Fin 2} (hd : decode bytes pc = .ok (.lconst i, 1)) (hv : Int64.ofNat i = v) (hq : pc' = pc + 1) (K : OGo p.tables e below P T (mkF m pc' Ls (.long v :: st))) : OGo p.tables e below P T (mkF m pc Ls st) := by
  subst hq hv
  exact og (fun _ q => XT.lconst X.here X.hx rfl (X.hd hd) q) K
theorem og_aconstNull (X : OSt Z EL a0 n0 h0 ws own bytes mx p l e R s m args below meth c sv T h k n) (pc' : Nat)  (hd : decode bytes pc = .ok (.aconst_null, 1))  (hq : pc' = pc + 1) (K : OGo p.tables e below P T (mkF m pc' Ls (.null :: st))) : OGo p.tables e below P T (mkF m pc Ls st) := by
  subst hq
  exact og (fun _ q => XS.aconstNull X.here X.hx rfl (X.hd hd) q) K
theorem og_iadd (X : OSt Z EL a0 n0 h0 ws own bytes mx p l e R s m args below meth c sv T h k n) (pc' : Nat) {x y : Int32} (hd : decode bytes pc = .ok (.iadd, 1))  (hq : pc' = pc + 1) (K : OGo p.tables e below P T (mkF m pc' Ls (.int (x + y) :: st))) : OGo p.tables e below P T (mkF m pc Ls (.int y :: .int x :: st)) := by
  subst hq
  exact og (fun _ q => XS.iadd X.here X.hx rfl (X.hd hd) rfl q) K
theorem og_isub (X : OSt Z EL a0 n0 h0 ws own bytes mx p l e R s m args below meth c sv T h k n) (pc' : Nat) {x y : Int32} (hd : decode bytes pc = .ok (.isub, 1))  (hq : pc' = pc + 1) (K : OGo p.tables e below P T (mkF m pc' Ls (.int (x - y) :: st))) : OGo p.tables e below P T (mkF m pc Ls (.int y :: .int x :: st)) := by
  subst hq
  exact og (fun _ q => XS.isub X.here X.hx rfl (X.hd hd) rfl q) K
theorem og_iand (X : OSt Z EL a0 n0 h0 ws own bytes mx p l e R s m args below meth c sv T h k n) (pc' : Nat) {x y : Int32} (hd : decode bytes pc = .ok (.iand, 1))  (hq : pc' = pc + 1) (K : OGo p.tables e below P T (mkF m pc' Ls (.int (x &&& y) :: st))) : OGo p.tables e below P T (mkF m pc Ls (.int y :: .int x :: st)) := by
  subst hq
  exact og (fun _ q => XS.iand X.here X.hx rfl (X.hd hd) rfl q) K
theorem og_imul (X : OSt Z EL a0 n0 h0 ws own bytes mx p l e R s m args below meth c sv T h k n) (pc' : Nat) {x y : Int32} (hd : decode bytes pc = .ok (.imul, 1))  (hq : pc' = pc + 1) (K : OGo p.tables e below P T (mkF m pc' Ls (.int (x * y) :: st))) : OGo p.tables e below P T (mkF m pc Ls (.int y :: .int x :: st)) := by
  subst hq
  exact og (fun _ q => XS.imul X.here X.hx rfl (X.hd hd) rfl q) K
theorem og_ixor (X : OSt Z EL a0 n0 h0 ws own bytes mx p l e R s m args below meth c sv T h k n) (pc' : Nat) {x y : Int32} (hd : decode bytes pc = .ok (.ixor, 1))  (hq : pc' = pc + 1) (K : OGo p.tables e below P T (mkF m pc' Ls (.int (x ^^^ y) :: st))) : OGo p.tables e below P T (mkF m pc Ls (.int y :: .int x :: st)) := by
  subst hq
  exact og (fun _ q => XT.ixor X.here X.hx rfl (X.hd hd) rfl q) K
theorem og_ior (X : OSt Z EL a0 n0 h0 ws own bytes mx p l e R s m args below meth c sv T h k n) (pc' : Nat) {x y : Int32} (hd : decode bytes pc = .ok (.ior, 1))  (hq : pc' = pc + 1) (K : OGo p.tables e below P T (mkF m pc' Ls (.int (x ||| y) :: st))) : OGo p.tables e below P T (mkF m pc Ls (.int y :: .int x :: st)) := by
  subst hq
  exact og (fun _ q => XT.ior X.here X.hx rfl (X.hd hd) rfl q) K
theorem og_ishl (X : OSt Z EL a0 n0 h0 ws own bytes mx p l e R s m args below meth c sv T h k n) (pc' : Nat) {x y : Int32} (hd : decode bytes pc = .ok (.ishl, 1))  (hq : pc' = pc + 1) (K : OGo p.tables e below P T (mkF m pc' Ls (.int (x <<< (y &&& 31)) :: st))) : OGo p.tables e below P T (mkF m pc Ls (.int y :: .int x :: st)) := by
  subst hq
  exact og (fun _ q => XT.ishl X.here X.hx rfl (X.hd hd) rfl q) K
theorem og_ishr (X : OSt Z EL a0 n0 h0 ws own bytes mx p l e R s m args below meth c sv T h k n) (pc' : Nat) {x y : Int32} (hd : decode bytes pc = .ok (.ishr, 1))  (hq : pc' = pc + 1) (K : OGo p.tables e below P T (mkF m pc' Ls (.int (x >>> (y &&& 31)) :: st))) : OGo p.tables e below P T (mkF m pc Ls (.int y :: .int x :: st)) := by
  subst hq
  exact og (fun _ q => XT.ishr X.here X.hx rfl (X.hd hd) rfl q) K
theorem og_iushr (X : OSt Z EL a0 n0 h0 ws own bytes mx p l e R s m args below meth c sv T h k n) (pc' : Nat) {x y : Int32} (hd : decode bytes pc = .ok (.iushr, 1))  (hq : pc' = pc + 1) (K : OGo p.tables e below P T (mkF m pc' Ls (.int (Jvm.Free.XT.ushr x y) :: st))) : OGo p.tables e below P T (mkF m pc Ls (.int y :: .int x :: st)) := by
  subst hq
  exact og (fun _ q => XT.iushr X.here X.hx rfl (X.hd hd) rfl q) K
theorem og_idiv (X : OSt Z EL a0 n0 h0 ws own bytes mx p l e R s m args below meth c sv T h k n) (pc' : Nat) {x y : Int32} (hd : decode bytes pc = .ok (.idiv, 1)) (hy : y ≠ 0) (hq : pc' = pc + 1) (K : OGo p.tables e below P T (mkF m pc' Ls (.int (x / y) :: st))) : OGo p.tables e below P T (mkF m pc Ls (.int y :: .int x :: st)) := by
  subst hq
  exact og (fun _ q => XS.idiv X.here X.hx rfl (X.hd hd) rfl hy q) K
theorem og_irem (X : OSt Z EL a0 n0 h0 ws own bytes mx p l e R s m args below meth c sv T h k n) (pc' : Nat) {x y : Int32} (hd : decode bytes pc = .ok (.irem, 1)) (hy : y ≠ 0) (hq : pc' = pc + 1) (K : OGo p.tables e below P T (mkF m pc' Ls (.int (x % y) :: st))) : OGo p.tables e below P T (mkF m pc Ls (.int y :: .int x :: st)) := by
  subst hq
  have q0 : x - x / y * y = x % y := irem_eq_mod x y
  exact og (fun _ q => XS.irem X.here X.hx rfl (X.hd hd) rfl hy (by rw [q0]; exact q)) K
theorem og_ineg (X : OSt Z EL a0 n0 h0 ws own bytes mx p l e R s m args below meth c sv T h k n) (pc' : Nat) {x : Int32} (hd : decode bytes pc = .ok (.ineg, 1))  (hq : pc' = pc + 1) (K : OGo p.tables e below P T (mkF m pc' Ls (.int (-x) :: st))) : OGo p.tables e below P T (mkF m pc Ls (.int x :: st)) := by
  subst hq
  exact og (fun _ q => XS.ineg X.here X.hx rfl (X.hd hd) rfl q) K
theorem og_ladd (X : OSt Z EL a0 n0 h0 ws own bytes mx p l e R s m args below meth c sv T h k n) (pc' : Nat) {x y : Int64} (hd : decode bytes pc = .ok (.ladd, 1))  (hq : pc' = pc + 1) (K : OGo p.tables e below P T (mkF m pc' Ls (.long (x + y) :: st))) : OGo p.tables e below P T (mkF m pc Ls (.long y :: .long x :: st)) := by
  subst hq
  exact og (fun _ q => XT.ladd X.here X.hx rfl (X.hd hd) rfl q) K
theorem og_lsub (X : OSt Z EL a0 n0 h0 ws own bytes mx p l e R s m args below meth c sv T h k n) (pc' : Nat) {x y : Int64} (hd : decode bytes pc = .ok (.lsub, 1))  (hq : pc' = pc + 1) (K : OGo p.tables e below P T (mkF m pc' Ls (.long (x - y) :: st))) : OGo p.tables e below P T (mkF m pc Ls (.long y :: .long x :: st)) := by
  subst hq
  exact og (fun _ q => XT.lsub X.here X.hx rfl (X.hd hd) rfl q) K
theorem og_lmul (X : OSt Z EL a0 n0 h0 ws own bytes mx p l e R s m args below meth c sv T h k n) (pc' : Nat) {x y : Int64} (hd : decode bytes pc = .ok (.lmul, 1))  (hq : pc' = pc + 1) (K : OGo p.tables e below P T (mkF m pc' Ls (.long (x * y) :: st))) : OGo p.tables e below P T (mkF m pc Ls (.long y :: .long x :: st)) := by
  subst hq
  exact og (fun _ q => XT.lmul X.here X.hx rfl (X.hd hd) rfl q) K
theorem og_land (X : OSt Z EL a0 n0 h0 ws own bytes mx p l e R s m args below meth c sv T h k n) (pc' : Nat) {x y : Int64} (hd : decode bytes pc = .ok (.land, 1))  (hq : pc' = pc + 1) (K : OGo p.tables e below P T (mkF m pc' Ls (.long (x &&& y) :: st))) : OGo p.tables e below P T (mkF m pc Ls (.long y :: .long x :: st)) := by
  subst hq
  exact og (fun _ q => XT.land X.here X.hx rfl (X.hd hd) rfl q) K
theorem og_lor (X : OSt Z EL a0 n0 h0 ws own bytes mx p l e R s m args below meth c sv T h k n) (pc' : Nat) {x y : Int64} (hd : decode bytes pc = .ok (.lor, 1))  (hq : pc' = pc + 1) (K : OGo p.tables e below P T (mkF m pc' Ls (.long (x ||| y) :: st))) : OGo p.tables e below P T (mkF m pc Ls (.long y :: .long x :: st)) := by
  subst hq
  exact og (fun _ q => XT.lor X.here X.hx rfl (X.hd hd) rfl q) K
theorem og_lxor (X : OSt Z EL a0 n0 h0 ws own bytes mx p l e R s m args below meth c sv T h k n) (pc' : Nat) {x y : Int64} (hd : decode bytes pc = .ok (.lxor, 1))  (hq : pc' = pc + 1) (K : OGo p.tables e below P T (mkF m pc' Ls (.long (x ^^^ y) :: st))) : OGo p.tables e below P T (mkF m pc Ls (.long y :: .long x :: st)) := by
  subst hq
  exact og (fun _ q => XT.lxor X.here X.hx rfl (X.hd hd) rfl q) K
theorem og_lcmp (X : OSt Z EL a0 n0 h0 ws own bytes mx p l e R s m args below meth c sv T h k n) (pc' : Nat) {x y : Int64} (hd : decode bytes pc = .ok (.lcmp, 1))  (hq : pc' = pc + 1) (K : OGo p.tables e below P T (mkF m pc' Ls (.int (Jvm.Free.XT.cmpL x y) :: st))) : OGo p.tables e below P T (mkF m pc Ls (.long y :: .long x :: st)) := by
  subst hq
  exact og (fun _ q => XT.lcmp X.here X.hx rfl (X.hd hd) rfl q) K
theorem og_i2l (X : OSt Z EL a0 n0 h0 ws own bytes mx p l e R s m args below meth c sv T h k n) (pc' : Nat) {x : Int32} (hd : decode bytes pc = .ok (.i2l, 1))  (hq : pc' = pc + 1) (K : OGo p.tables e below P T (mkF m pc' Ls (.long x.toInt64 :: st))) : OGo p.tables e below P T (mkF m pc Ls (.int x :: st)) := by
  subst hq
  exact og (fun _ q => XT.i2l X.here X.hx rfl (X.hd hd) rfl q) K
theorem og_i2b (X : OSt Z EL a0 n0 h0 ws own bytes mx p l e R s m args below meth c sv T h k n) (pc' : Nat) {x : Int32} (hd : decode bytes pc = .ok (.i2b, 1))  (hq : pc' = pc + 1) (K : OGo p.tables e below P T (mkF m pc' Ls (.int x.toInt8.toInt32 :: st))) : OGo p.tables e below P T (mkF m pc Ls (.int x :: st)) := by
  subst hq
  exact og (fun _ q => XT.i2b X.here X.hx rfl (X.hd hd) rfl q) K
theorem og_i2c (X : OSt Z EL a0 n0 h0 ws own bytes mx p l e R s m args below meth c sv T h k n) (pc' : Nat) {x : Int32} (hd : decode bytes pc = .ok (.i2c, 1))  (hq : pc' = pc + 1) (K : OGo p.tables e below P T (mkF m pc' Ls (.int x.toUInt32.toUInt16.toUInt32.toInt32 :: st))) : OGo p.tables e below P T (mkF m pc Ls (.int x :: st)) := by
  subst hq
  exact og (fun _ q => XT.i2c X.here X.hx rfl (X.hd hd) rfl q) K
theorem og_i2s (X : OSt Z EL a0 n0 h0 ws own bytes mx p l e R s m args below meth c sv T h k n) (pc' : Nat) {x : Int32} (hd : decode bytes pc = .ok (.i2s, 1))  (hq : pc' = pc + 1) (K : OGo p.tables e below P T (mkF m pc' Ls (.int x.toInt16.toInt32 :: st))) : OGo p.tables e below P T (mkF m pc Ls (.int x :: st)) := by
  subst hq
  exact og (fun _ q => XT.i2s X.here X.hx rfl (X.hd hd) rfl q) K
theorem og_l2i (X : OSt Z EL a0 n0 h0 ws own bytes mx p l e R s m args below meth c sv T h k n) (pc' : Nat) {x : Int64} (hd : decode bytes pc = .ok (.l2i, 1))  (hq : pc' = pc + 1) (K : OGo p.tables e below P T (mkF m pc' Ls (.int x.toInt32 :: st))) : OGo p.tables e below P T (mkF m pc Ls (.long x :: st)) := by
  subst hq
  exact og (fun _ q => XT.l2i X.here X.hx rfl (X.hd hd) rfl q) K
theorem og_i2c8 (X : OSt Z EL a0 n0 h0 ws own bytes mx p l e R s m args below meth c sv T h k n) (pc' : Nat) {x : Int32} (hd : decode bytes pc = .ok (.i2c, 1)) (hq : pc' = pc + 1) (K : OGo p.tables e below P T (mkF m pc' Ls (.int (x &&& 255) :: st))) : OGo p.tables e below P T (mkF m pc Ls (.int (x &&& 255) :: st)) := by
  subst hq
  exact og (fun _ q => XT.i2c X.here X.hx rfl (X.hd hd) rfl (by rw [i2c_mask]; exact q)) K
theorem og_dup (X : OSt Z EL a0 n0 h0 ws own bytes mx p l e R s m args below meth c sv T h k n) (pc' : Nat) {x : Value} (hd : decode bytes pc = .ok (.dup, 1)) (hc : x.category = 1) (hq : pc' = pc + 1) (K : OGo p.tables e below P T (mkF m pc' Ls (x :: x :: st))) : OGo p.tables e below P T (mkF m pc Ls (x :: st)) := by
  subst hq
  exact og (fun _ q => XS.dup X.here X.hx rfl (X.hd hd) rfl hc q) K
theorem og_pop (X : OSt Z EL a0 n0 h0 ws own bytes mx p l e R s m args below meth c sv T h k n) (pc' : Nat) {x : Value} (hd : decode bytes pc = .ok (.pop, 1)) (hc : x.category = 1) (hq : pc' = pc + 1) (K : OGo p.tables e below P T (mkF m pc' Ls st)) : OGo p.tables e below P T (mkF m pc Ls (x :: st)) := by
  subst hq
  exact og (fun _ q => XT.pop X.here X.hx rfl (X.hd hd) rfl hc q) K
theorem og_dupX1 (X : OSt Z EL a0 n0 h0 ws own bytes mx p l e R s m args below meth c sv T h k n) (pc' : Nat) {x y : Value} (hd : decode bytes pc = .ok (.dup_x1, 1)) (hc : x.category = 1) (hc' : y.category = 1) (hq : pc' = pc + 1) (K : OGo p.tables e below P T (mkF m pc' Ls (x :: y :: x :: st))) : OGo p.tables e below P T (mkF m pc Ls (x :: y :: st)) := by
  subst hq
  exact og (fun _ q => XT.dupX1 X.here X.hx rfl (X.hd hd) rfl hc hc' q) K
theorem og_dup2 (X : OSt Z EL a0 n0 h0 ws own bytes mx p l e R s m args below meth c sv T h k n) (pc' : Nat) {x y : Value} (hd : decode bytes pc = .ok (.dup2, 1)) (hc : x.category = 1) (hc' : y.category = 1) (hq : pc' = pc + 1) (K : OGo p.tables e below P T (mkF m pc' Ls (x :: y :: x :: y :: st))) : OGo p.tables e below P T (mkF m pc Ls (x :: y :: st)) := by
  subst hq
  exact og (fun _ q => XT.dup2 X.here X.hx rfl (X.hd hd) rfl hc hc' q) K
theorem og_istore (X : OSt Z EL a0 n0 h0 ws own bytes mx p l e R s m args below meth c sv T h k n) (pc' : Nat) (l' : Array Slot) {j : Nat} {x : Int32} (hd : decode bytes pc = .ok (.istore j, 2)) (hl : storeLocals Ls j (.int x) = some l') (hq : pc' = pc + 2) (K : OGo p.tables e below P T (mkF m pc' l' st)) : OGo p.tables e below P T (mkF m pc Ls (.int x :: st)) := by
  subst hq
  exact og (fun _ q => XS.istore X.here X.hx rfl (X.hd hd) rfl hl q) K
theorem og_istoreN (X : OSt Z EL a0 n0 h0 ws own bytes mx p l e R s m args below meth c sv T h k n) (pc' : Nat) (l' : Array Slot) {j : Fin 4} {x : Int32} (hd : decode bytes pc = .ok (.istore_n j, 1)) (hl : storeLocals Ls j.val (.int x) = some l') (hq : pc' = pc + 1) (K : OGo p.tables e below P T (mkF m pc' l' st)) : OGo p.tables e below P T (mkF m pc Ls (.int x :: st)) := by
  subst hq
  exact og (fun _ q => XS.istoreN X.here X.hx rfl (X.hd hd) rfl hl q) K
theorem og_lstore (X : OSt Z EL a0 n0 h0 ws own bytes mx p l e R s m args below meth c sv T h k n) (pc' : Nat) (l' : Array Slot) {j : Nat} {x : Int64} (hd : decode bytes pc = .ok (.lstore j, 2)) (hl : storeLocals Ls j (.long x) = some l') (hq : pc' = pc + 2) (K : OGo p.tables e below P T (mkF m pc' l' st)) : OGo p.tables e below P T (mkF m pc Ls (.long x :: st)) := by
  subst hq
  exact og (fun _ q => XT.lstore X.here X.hx rfl (X.hd hd) rfl hl q) K
theorem og_lstoreN (X : OSt Z EL a0 n0 h0 ws own bytes mx p l e R s m args below meth c sv T h k n) (pc' : Nat) (l' : Array Slot) {j : Fin 4} {x : Int64} (hd : decode bytes pc = .ok (.lstore_n j, 1)) (hl : storeLocals Ls j.val (.long x) = some l') (hq : pc' = pc + 1) (K : OGo p.tables e below P T (mkF m pc' l' st)) : OGo p.tables e below P T (mkF m pc Ls (.long x :: st)) := by
  subst hq
  exact og (fun _ q => XT.lstoreN X.here X.hx rfl (X.hd hd) rfl hl q) K
theorem og_astore (X : OSt Z EL a0 n0 h0 ws own bytes mx p l e R s m args below meth c sv T h k n) (pc' : Nat) (l' : Array Slot) {j : Nat} {x : Value} (hd : decode bytes pc = .ok (.astore j, 2)) (hv : x.isRef = true) (hl : storeLocals Ls j x = some l') (hq : pc' = pc + 2) (K : OGo p.tables e below P T (mkF m pc' l' st)) : OGo p.tables e below P T (mkF m pc Ls (x :: st)) := by
  subst hq
  exact og (fun _ q => XS.astore X.here X.hx rfl (X.hd hd) rfl hv hl q) K
theorem og_astoreN (X : OSt Z EL a0 n0 h0 ws own bytes mx p l e R s m args below meth c sv T h k n) (pc' : Nat) (l' : Array Slot) {j : Fin 4} {x : Value} (hd : decode bytes pc = .ok (.astore_n j, 1)) (hv : x.isRef = true) (hl : storeLocals Ls j.val x = some l') (hq : pc' = pc + 1) (K : OGo p.tables e below P T (mkF m pc' l' st)) : OGo p.tables e below P T (mkF m pc Ls (x :: st)) := by
  subst hq
  exact og (fun _ q => XS.astoreN X.here X.hx rfl (X.hd hd) rfl hv hl q) K
theorem og_iinc (X : OSt Z EL a0 n0 h0 ws own bytes mx p l e R s m args below meth c sv T h k n) (pc' : Nat) (l' : Array Slot) {j : Nat} {i : Int} {x : Int32} (hd : decode bytes pc = .ok (.iinc j i, 3)) (hl : Ls[j]? = some (.val (.int x))) (hl' : storeLocals Ls j (.int (x + Int32.ofInt i)) = some l') (hq : pc' = pc + 3) (K : OGo p.tables e below P T (mkF m pc' l' st)) : OGo p.tables e below P T (mkF m pc Ls st) := by
  subst hq
  exact og (fun _ q => XS.iinc X.here X.hx rfl (X.hd hd) hl hl' q) K
theorem og_goto (X : OSt Z EL a0 n0 h0 ws own bytes mx p l e R s m args below meth c sv T h k n) (pc' : Nat)  {o : Int} (hd : decode bytes pc = .ok (.goto o, 3))  (ho : 0 ≤ (pc : Int) + o) (hp : ((pc : Int) + o).toNat = pc') (K : OGo p.tables e below P T (mkF m pc' Ls st)) : OGo p.tables e below P T (mkF m pc Ls st) := og (fun _ q => XS.goto X.here X.hx rfl rfl (X.hd hd) ho hp q) K
theorem og_ifY (X : OSt Z EL a0 n0 h0 ws own bytes mx p l e R s m args below meth c sv T h k n) (pc' : Nat) {cd : ClassFile.Cond} {x : Int32} {o : Int} (hd : decode bytes pc = .ok (.ifCond cd o, 3)) (hc : ifCond.holds cd x = true) (ho : 0 ≤ (pc : Int) + o) (hp : ((pc : Int) + o).toNat = pc') (K : OGo p.tables e below P T (mkF m pc' Ls st)) : OGo p.tables e below P T (mkF m pc Ls (.int x :: st)) := og (fun _ q => XS.ifYes X.here X.hx rfl rfl (X.hd hd) rfl hc ho hp q) K
theorem og_icmpY (X : OSt Z EL a0 n0 h0 ws own bytes mx p l e R s m args below meth c sv T h k n) (pc' : Nat) {cd : ClassFile.Cond} {x y : Int32} {o : Int} (hd : decode bytes pc = .ok (.if_icmp cd o, 3)) (hc : if_icmp.holds cd x y = true) (ho : 0 ≤ (pc : Int) + o) (hp : ((pc : Int) + o).toNat = pc') (K : OGo p.tables e below P T (mkF m pc' Ls st)) : OGo p.tables e below P T (mkF m pc Ls (.int y :: .int x :: st)) := og (fun _ q => XS.icmpYes X.here X.hx rfl rfl (X.hd hd) rfl hc ho hp q) K
theorem og_nullY (X : OSt Z EL a0 n0 h0 ws own bytes mx p l e R s m args below meth c sv T h k n) (pc' : Nat)  {o : Int} (hd : decode bytes pc = .ok (.ifnull o, 3))  (ho : 0 ≤ (pc : Int) + o) (hp : ((pc : Int) + o).toNat = pc') (K : OGo p.tables e below P T (mkF m pc' Ls st)) : OGo p.tables e below P T (mkF m pc Ls (.null :: st)) := og (fun _ q => XS.ifnullYes X.here X.hx rfl rfl (X.hd hd) rfl ho hp q) K
theorem og_nonnullY (X : OSt Z EL a0 n0 h0 ws own bytes mx p l e R s m args below meth c sv T h k n) (pc' : Nat) {b : Addr} {o : Int} (hd : decode bytes pc = .ok (.ifnonnull o, 3))  (ho : 0 ≤ (pc : Int) + o) (hp : ((pc : Int) + o).toNat = pc') (K : OGo p.tables e below P T (mkF m pc' Ls st)) : OGo p.tables e below P T (mkF m pc Ls (.ref b :: st)) := og (fun _ q => XT.ifnonnullYes X.here X.hx rfl rfl (X.hd hd) rfl ho hp q) K
theorem og_acmpY (X : OSt Z EL a0 n0 h0 ws own bytes mx p l e R s m args below meth c sv T h k n) (pc' : Nat) {cd : ClassFile.ACond} {x y : Value} {o : Int} (hd : decode bytes pc = .ok (.if_acmp cd o, 3)) (hx' : x.isRef = true) (hy' : y.isRef = true) (hc : Jvm.Free.XT.acmp cd x y = true) (ho : 0 ≤ (pc : Int) + o) (hp : ((pc : Int) + o).toNat = pc') (K : OGo p.tables e below P T (mkF m pc' Ls st)) : OGo p.tables e below P T (mkF m pc Ls (y :: x :: st)) := og (fun _ q => XT.acmpYes X.here X.hx rfl rfl (X.hd hd) rfl hx' hy' hc ho hp q) K
theorem og_ifN (X : OSt Z EL a0 n0 h0 ws own bytes mx p l e R s m args below meth c sv T h k n) (pc' : Nat) {cd : ClassFile.Cond} {o : Int} {x : Int32} (hd : decode bytes pc = .ok (.ifCond cd o, 3)) (hc : ifCond.holds cd x = false) (hq : pc' = pc + 3) (K : OGo p.tables e below P T (mkF m pc' Ls st)) : OGo p.tables e below P T (mkF m pc Ls (.int x :: st)) := by
  subst hq
  exact og (fun _ q => XS.ifNo X.here X.hx rfl (X.hd hd) rfl hc q) K
theorem og_icmpN (X : OSt Z EL a0 n0 h0 ws own bytes mx p l e R s m args below meth c sv T h k n) (pc' : Nat) {cd : ClassFile.Cond} {o : Int} {x y : Int32} (hd : decode bytes pc = .ok (.if_icmp cd o, 3)) (hc : if_icmp.holds cd x y = false) (hq : pc' = pc + 3) (K : OGo p.tables e below P T (mkF m pc' Ls st)) : OGo p.tables e below P T (mkF m pc Ls (.int y :: .int x :: st)) := by
  subst hq
  exact og (fun _ q => XS.icmpNo X.here X.hx rfl (X.hd hd) rfl hc q) K
theorem og_nullN (X : OSt Z EL a0 n0 h0 ws own bytes mx p l e R s m args below meth c sv T h k n) (pc' : Nat) {o : Int} {b : Addr} (hd : decode bytes pc = .ok (.ifnull o, 3))  (hq : pc' = pc + 3) (K : OGo p.tables e below P T (mkF m pc' Ls st)) : OGo p.tables e below P T (mkF m pc Ls (.ref b :: st)) := by
  subst hq
  exact og (fun _ q => XS.ifnullNo X.here X.hx rfl (X.hd hd) rfl q) K
theorem og_nonnullN (X : OSt Z EL a0 n0 h0 ws own bytes mx p l e R s m args below meth c sv T h k n) (pc' : Nat) {o : Int} (hd : decode bytes pc = .ok (.ifnonnull o, 3))  (hq : pc' = pc + 3) (K : OGo p.tables e below P T (mkF m pc' Ls st)) : OGo p.tables e below P T (mkF m pc Ls (.null :: st)) := by
  subst hq
  exact og (fun _ q => XT.ifnonnullNo X.here X.hx rfl (X.hd hd) rfl q) K
theorem og_acmpN (X : OSt Z EL a0 n0 h0 ws own bytes mx p l e R s m args below meth c sv T h k n) (pc' : Nat) {cd : ClassFile.ACond} {o : Int} {x y : Value} (hd : decode bytes pc = .ok (.if_acmp cd o, 3)) (hx' : x.isRef = true) (hy' : y.isRef = true) (hc : Jvm.Free.XT.acmp cd x y = false) (hq : pc' = pc + 3) (K : OGo p.tables e below P T (mkF m pc' Ls st)) : OGo p.tables e below P T (mkF m pc Ls (y :: x :: st)) := by
  subst hq
  exact og (fun _ q => XT.acmpNo X.here X.hx rfl (X.hd hd) rfl hx' hy' hc q) K
theorem own_nc8 (y : Int32) : nar .char (y &&& 255) = y &&& 255 := i2c_mask y
theorem own_u16 (u : UInt16) : (u.toUInt32.toInt32).toInt = u.toNat := by
  have hu := u.toNat_lt
  show ((u.toUInt32).toBitVec).toInt = _
  have hm : (u.toUInt32).toBitVec.toNat = u.toNat := by
    show (u.toUInt32).toNat = _
    simp
  rw [BitVec.toInt_eq_toNat_cond, hm, if_pos (by omega)]
theorem own_ncc (y : Int32) : nar .char (y.toUInt32.toUInt16.toUInt32.toInt32) = y.toUInt32.toUInt16.toUInt32.toInt32 := by
  have e : (y.toUInt32.toUInt16.toUInt32.toInt32).toUInt32.toUInt16 = y.toUInt32.toUInt16 := UInt16.toUInt16_toUInt32 _
  show ((y.toUInt32.toUInt16.toUInt32.toInt32).toUInt32.toUInt16).toUInt32.toInt32 = _
  rw [e]
theorem own_lat16 (y : Int32) : ¬ y.toUInt32.toUInt16.toUInt32.toInt32 < 0 ∧ ¬ (65535 : Int32) < y.toUInt32.toUInt16.toUInt32.toInt32 := by
  have h2 := (y.toUInt32.toUInt16).toNat_lt
  have e1 : (0 : Int32).toInt = 0 := (by decide)
  have e2 : (65535 : Int32).toInt = 65535 := (by decide)
  rw [Int32.lt_iff_toInt_lt, Int32.lt_iff_toInt_lt, own_u16, e1, e2]
  omega
theorem own_lat8 (x : Int32) : ¬ (x &&& 255) < 0 ∧ ¬ (255 : Int32) < (x &&& 255) := by
  have t : ∀ k : Fin 256, ¬ (Int32.ofNat k.val) < 0 ∧ ¬ (255 : Int32) < (Int32.ofNat k.val) := by decide +kernel
  have h : (x &&& 255).toBitVec.toNat < 256 := by
    simp only [Int32.toBitVec_and, BitVec.toNat_and]
    exact Nat.lt_succ_of_le Nat.and_le_right
  have e : (x &&& 255) = Int32.ofNat (x &&& 255).toBitVec.toNat := by
    apply Int32.toBitVec_inj.mp
    show _ = BitVec.ofNat 32 _
    rw [BitVec.ofNat_toNat]; simp
  rw [e]
  exact t ⟨_, h⟩
theorem own_up8 {c : Int32} (h : ¬ (255 : Int32) < c) : ¬ (65535 : Int32) < c := fun q => h (by rw [Int32.lt_iff_toInt_lt] at q ⊢; have e1 : (65535 : Int32).toInt = 65535 := rfl; have e2 : (255 : Int32).toInt = 255 := rfl; omega)
def own_stv (Z : State) (C n d : String) : Value := ((Term.static C n d).eval #[] Z none [] Z).getD .null
def own_sti (Z : State) (C n d : String) : Int32 := match (Term.static C n d).eval #[] Z none [] Z with | some (.int z) => z | _ => 0
theorem own_stv_of {Z : State} {C n d : String} {v : Value} {a : Array Value} (h : (Term.static C n d).eval a Z none [] Z = some v) : own_stv Z C n d = v := by
  have q : (Term.static C n d).eval #[] Z none [] Z = some v := h
  simp [own_stv, q]
theorem own_sti_of {Z : State} {C n d : String} {v : Int32} {a : Array Value} (h : (Term.static C n d).eval a Z none [] Z = some (.int v)) : own_sti Z C n d = v := by
  have q : (Term.static C n d).eval #[] Z none [] Z = some (.int v) := h
  simp [own_sti, q]
theorem own_l0 {P : Int32 → Prop} : ∀ c ∈ ([] : List Int32), P c := fun _ q => nomatch q
theorem own_lS {P : Int32 → Prop} {y : Int32} {M : List Int32} (q : P y) (r : ∀ x ∈ M, P x) : ∀ x ∈ y :: M, P x := fun x z => (List.mem_cons.mp z).elim (fun u => u ▸ q) (r x)
def own_N (x : Int32) : Nat := x.toBitVec.toNat
theorem own_N_lt (x : Int32) : own_N x < 4294967296 := x.toBitVec.isLt
theorem own_N_inj {x y : Int32} : own_N x = own_N y ↔ x = y := ⟨fun h => Int32.toBitVec_inj.mp (BitVec.eq_of_toNat_eq h), fun h => by rw [h]⟩
theorem own_N_and {x m : Int32} (k : Nat) (hm : m.toBitVec.toNat = 2 ^ k - 1) : own_N (x &&& m) = own_N x % 2 ^ k := by
  unfold own_N; rw [Int32.toBitVec_and, BitVec.toNat_and, hm, Nat.and_two_pow_sub_one_eq_mod]
theorem own_N_ushr {x j : Int32} (k : Nat) (hj : (j &&& 31).toUInt32.toNat = k) (hk : k < 32) : own_N (XT.ushr x j) = own_N x / 2 ^ k := by
  show (x.toUInt32 >>> (j &&& 31).toUInt32).toNat = x.toUInt32.toNat / 2 ^ k
  rw [UInt32.toNat_shiftRight, hj, Nat.mod_eq_of_lt hk, Nat.shiftRight_eq_div_pow]
theorem own_N3 (x : Int32) : own_N (x &&& 3) = own_N x % 4 := own_N_and 2 rfl
theorem own_N255 (x : Int32) : own_N (x &&& 255) = own_N x % 256 := own_N_and 8 rfl
theorem own_nbb (y : Int32) : (y.toInt8.toInt32).toInt8.toInt32 = y.toInt8.toInt32 := by simp
theorem own_zb {z : Int32} (h : z = 0 ∨ z = 1) : narrow .boolean (.int z) = .int z ∧ fits .boolean (.int z) = true := by rcases h with rfl | rfl <;> exact ⟨rfl, rfl⟩
theorem own_xor0 {a b : Int32} : a ^^^ b = 0 ↔ a = b := by
  rw [← Int32.toBitVec_inj, ← Int32.toBitVec_inj, Int32.toBitVec_xor]
  exact BitVec.xor_eq_zero_iff
theorem own_xor_ushr_and (x y j k : Int32) : XT.ushr (x ^^^ y) j &&& k = (XT.ushr x j &&& k) ^^^ (XT.ushr y j &&& k) := by
  apply Int32.toBitVec_inj.mp
  show ((x ^^^ y).toUInt32 >>> (j &&& 31).toUInt32).toBitVec &&& k.toBitVec = ((x.toUInt32 >>> (j &&& 31).toUInt32).toBitVec &&& k.toBitVec) ^^^ ((y.toUInt32 >>> (j &&& 31).toUInt32).toBitVec &&& k.toBitVec)
  have e : (x ^^^ y).toUInt32 = x.toUInt32 ^^^ y.toUInt32 := rfl
  rw [e, UInt32.toBitVec_shiftRight, UInt32.toBitVec_shiftRight, UInt32.toBitVec_shiftRight, UInt32.toBitVec_xor]
  ext i hi
  simp [Bool.and_xor_distrib_right]
theorem own_nch {c : Int32} (h0 : ¬ c < 0) (h1 : ¬ (65535 : Int32) < c) : nar .char c = c := by
  rw [Int32.lt_iff_toInt_lt] at h0 h1
  have e0 : (0 : Int32).toInt = 0 := rfl
  have e1 : (65535 : Int32).toInt = 65535 := rfl
  rw [e0] at h0; rw [e1] at h1
  have hn : c.toUInt32.toNat = c.toInt.toNat := by
    have : c.toInt = (c.toBitVec).toInt := rfl
    have h2 : (c.toBitVec).toInt = if 2 * c.toBitVec.toNat < 2 ^ 32 then (c.toBitVec.toNat : Int) else (c.toBitVec.toNat : Int) - 2 ^ 32 := BitVec.toInt_eq_toNat_cond _
    have h3 : c.toUInt32.toNat = c.toBitVec.toNat := rfl
    have := c.toBitVec.isLt
    split at h2 <;> omega
  apply Int32.toInt_inj.mp
  show (c.toUInt32.toUInt16.toUInt32.toInt32).toInt = _
  rw [own_u16]
  show ((c.toUInt32.toUInt16.toNat : Nat) : Int) = _
  have h4 : c.toUInt32.toUInt16.toNat = c.toUInt32.toNat % 65536 := by simp
  rw [h4, hn]; omega
theorem own_fitC {c : Int32} (h0 : ¬ c < 0) (h1 : ¬ (65535 : Int32) < c) : narrow .char (.int c) = .int c := by
  show Value.int (nar .char c) = _
  rw [own_nch h0 h1]
theorem own_lc {x : Int64} (h1 : ¬ x < -128) (h2 : ¬ 127 < x) : ¬ (x.toInt32 + 128) < 0 ∧ (x.toInt32 + 128) < 256 ∧ ((x.toInt32 + 128) - 128).toInt64 = x := by
  rw [Int64.lt_iff_toInt_lt] at h1 h2
  have e1 : (-128 : Int64).toInt = -128 := rfl
  have e2 : (127 : Int64).toInt = 127 := rfl
  rw [e1] at h1; rw [e2] at h2
  have hx : x.toInt32.toInt = x.toInt := by rw [Int64.toInt_toInt32]; exact Int.bmod_eq_of_le (by omega) (by omega)
  have hs : (x.toInt32 + 128).toInt = x.toInt + 128 := by
    rw [Int32.toInt_add, hx]; show (x.toInt + 128).bmod _ = _; exact Int.bmod_eq_of_le (by omega) (by omega)
  refine ⟨?_, ?_, ?_⟩
  · rw [Int32.lt_iff_toInt_lt, hs]; show ¬ _ < (0 : Int); omega
  · rw [Int32.lt_iff_toInt_lt, hs]; show _ < (256 : Int); omega
  · apply Int64.toInt_inj.mp
    rw [Int32.toInt_toInt64, Int32.toInt_sub, hs]
    show (x.toInt + 128 - 128).bmod _ = _
    rw [show x.toInt + 128 - 128 = x.toInt by omega]
    exact Int.bmod_eq_of_le (by omega) (by omega)
theorem own_and3 (y : Int32) : y &&& 3 = 0 ∨ y &&& 3 = 1 ∨ y &&& 3 = 2 ∨ y &&& 3 = 3 := by
  have c0 : own_N 0 = 0 := rfl
  have c1 : own_N 1 = 1 := rfl
  have c2 : own_N 2 = 2 := rfl
  have c3 : own_N 3 = 3 := rfl
  simp only [← own_N_inj, own_N3, c0, c1, c2, c3]
  omega
def own_sta (Z : State) (C n d : String) : Addr := match own_stv Z C n d with | .ref a => a | _ => 0
theorem own_sta_of {Z : State} {C n d : String} {v : Addr} {a : Array Value} (h : (Term.static C n d).eval a Z none [] Z = some (.ref v)) : own_sta Z C n d = v := by
  unfold own_sta; rw [own_stv_of h]
theorem own_new (X : OSt Z EL a0 n0 h0 ws own bytes mx p l e R s m args below meth c sv T h k n) (pc' : Nat) {C : String} {index z : Nat} (hd : decode bytes pc = .ok (.new index, 3)) (w : (Cond.classLink own index C).before a0 Z = true) (wi : (Cond.instantiable C z).before a0 Z = true) (wz : (Cond.initialized C).before a0 Z = true) (hc : k + 1 ≤ R.cells) (hl : n + z ≤ R.slots) (hq : pc' = pc + 3)
    (K : ∀ (T' : State) (h' : Heap) (b : Addr), OSt Z EL a0 n0 h0 ws own bytes mx p l e R s m args below meth c (b :: sv) T' h' (k + 1) (n + z) → Keep h h' [] → h.size ≤ b → b < h'.size → Exa Z h' b C → (∀ {O nm d : String} {ty : FieldType}, Laid Z a0 C O nm d → parseFieldDescriptor d = some ty → Fld Z h' b O nm d (defaultValue ty)) → OGo p.tables e below P T' (mkF m pc' Ls (.ref b :: st))) : OGo p.tables e below P T (mkF m pc Ls st) := by
  subst hq
  obtain ⟨hx, hby, hml, eT, hlk, vm0, locs, Y, I⟩ := X
  obtain ⟨T', h', Y', e', E, A, D, -, stp⟩ := newO Y hx (show Z.Warmed39 (s.setVm vm0).vm from I.2.2.2.2.1) (show (s.setVm vm0).vm.findClass own = _ from I.2.2.2.2.2.1) w wi wz eT (g := mkF m pc Ls st) rfl (hb hby hd) hc hl
  exact og stp (K T' h' h.size ⟨hx, hby, hml, e', hlk, vm0, locs, Y', I.new E (Nat.le_refl _) A.lt⟩ ((Keep.refl _ _).ext E) (Nat.le_refl _) A.lt A D)
theorem own_arr (X : OSt Z EL a0 n0 h0 ws own bytes mx p l e R s m args below meth c sv T h k n) (pc' : Nat) {aty : ArrayType} {z : Int32} (hd : decode bytes pc = .ok (.newarray aty, 2)) (w : (Cond.arrayClass (newarray.typeOf aty)).before a0 Z = true) (hz : ¬ z < 0) {cap : Nat} (hcap : z.toNatClampNeg = cap) (hbig : cap * 8 ≤ 536870912) (hc : k + 1 ≤ R.cells) (hl : n + cap ≤ R.slots) (hq : pc' = pc + 2)
    (K : ∀ (T' : State) (h' : Heap) (b : Addr) (kb : ClassId), OSt Z EL a0 n0 h0 ws own bytes mx p l e R s m args below meth c (b :: sv) T' h' (k + 1) (n + cap) → Keep h h' [] → h.size ≤ b → b < h'.size → Arv Z h' b kb (newarray.typeOf aty) z (List.replicate cap (defaultValue (newarray.typeOf aty))) (defaultValue (newarray.typeOf aty)) → OGo p.tables e below P T' (mkF m pc' Ls (.ref b :: st))) : OGo p.tables e below P T (mkF m pc Ls (.int z :: st)) := by
  subst hq
  obtain ⟨hx, hby, hml, eT, hlk, vm0, locs, Y, I⟩ := X
  obtain ⟨T', h', kb, Y', e', E, A, stp⟩ := newP Y hx (show Z.Warmed39 (s.setVm vm0).vm from I.2.2.2.2.1) w eT (g := mkF m pc Ls (.int z :: st)) rfl (hb hby hd) rfl hz (cap := cap) (Nat.le_of_eq hcap) hbig hc hl
  have V := (Arv.new A hz).pad (pad_rep [] (defaultValue (newarray.typeOf aty)) cap)
  rw [List.nil_append] at V
  exact og stp (K T' h' h.size kb ⟨hx, hby, hml, e', hlk, vm0, locs, Y', I.new E (Nat.le_refl _) A.lt⟩ ((Keep.refl _ _).ext E) (Nat.le_refl _) A.lt V)
theorem own_anew (X : OSt Z EL a0 n0 h0 ws own bytes mx p l e R s m args below meth c sv T h k n) (pc' : Nat) {C : String} {index : Nat} {z : Int32} (hd : decode bytes pc = .ok (.anewarray index, 3)) (w : (Cond.classLink own index C).before a0 Z = true) (w2 : (Cond.arrayOver (.object C)).before a0 Z = true) (hz : ¬ z < 0) {cap : Nat} (hcap : z.toNatClampNeg = cap) (hbig : cap * 8 ≤ 536870912) (hc : k + 1 ≤ R.cells) (hl : n + cap ≤ R.slots) (hq : pc' = pc + 3)
    (K : ∀ (T' : State) (h' : Heap) (b : Addr) (kb : ClassId), OSt Z EL a0 n0 h0 ws own bytes mx p l e R s m args below meth c (b :: sv) T' h' (k + 1) (n + cap) → Keep h h' [] → h.size ≤ b → b < h'.size → Arv Z h' b kb (.object C) z (List.replicate cap .null) .null → Ovr Z kb C → OGo p.tables e below P T' (mkF m pc' Ls (.ref b :: st))) : OGo p.tables e below P T (mkF m pc Ls (.int z :: st)) := by
  subst hq
  obtain ⟨hx, hby, hml, eT, hlk, vm0, locs, Y, I⟩ := X
  obtain ⟨T', h', kb, Y', e', E, A, O, stp⟩ := newR Y hx (show Z.Warmed39 (s.setVm vm0).vm from I.2.2.2.2.1) (show (s.setVm vm0).vm.findClass own = _ from I.2.2.2.2.2.1) w w2 eT (g := mkF m pc Ls (.int z :: st)) rfl (hb hby hd) rfl hz (cap := cap) (Nat.le_of_eq hcap) hbig hc hl
  have V := (Arv.new A hz).pad (pad_rep [] (defaultValue (.object C)) cap)
  rw [List.nil_append] at V
  exact og stp (K T' h' h.size kb ⟨hx, hby, hml, e', hlk, vm0, locs, Y', I.new E (Nat.le_refl _) A.lt⟩ ((Keep.refl _ _).ext E) (Nat.le_refl _) A.lt V O)
theorem own_put (X : OSt Z EL a0 n0 h0 ws own bytes mx p l e R s m args below meth c sv T h k n) (pc' : Nat) {R0 O nm d host C : String} {index kk : Nat} {ty : FieldType} {a : Addr} {v old : Value} (hd : decode bytes pc = .ok (.putfield index, 3)) (w : (Cond.fieldLink own index R0 nm d).before a0 Z = true ∨ (Cond.fieldLinkNest own index R0 nm d host).before a0 Z = true) (via : Via Z R0 O nm d)
    (F : Fld Z h a O nm d old) (E : Exa Z h a C) (L : (Cond.lays C O nm d).before a0 Z = true ∨ ((Cond.laysFinal C O nm d).before a0 Z = true ∧ own = O ∧ meth.name = "<init>")) (wi : (Cond.instantiable C kk).before a0 Z = true) (hty : parseFieldDescriptor d = some ty) (hn : narrow ty v = v) (hf : fits ty v = true) (ha : a ∈ sv) (hq : pc' = pc + 3)
    (K : ∀ (T' : State) (h' : Heap), OSt Z EL a0 n0 h0 ws own bytes mx p l e R s m args below meth c sv T' h' k n → Wr h h' a (RoadKit.slotOf Z O nm d) v → Keep h h' [a] → Fld Z h' a O nm d v → OGo p.tables e below P T' (mkF m pc' Ls st)) : OGo p.tables e below P T (mkF m pc Ls (v :: .ref a :: st)) := by
  subst hq
  obtain ⟨hx, hby, hml, eT, hlk, vm0, locs, Y, I⟩ := X
  obtain ⟨T', h', Y', e', W, stp⟩ := putF Y hx (show Z.Warmed39 (s.setVm vm0).vm from I.2.2.2.2.1) (show (s.setVm vm0).vm.findClass own = _ from I.2.2.2.2.2.1) w via eT F E L wi hty hn hf (g := mkF m pc Ls (v :: .ref a :: st)) rfl rfl (hb hby hd)
  exact og stp (K T' h' ⟨hx, hby, hml, e', hlk, vm0, _, Y', I.wr ha W⟩ W (Keep.of_wr W) (F.same W))
theorem own_get (X : OSt Z EL a0 n0 h0 ws own bytes mx p l e R s m args below meth c sv T h k n) (pc' : Nat) {R0 O nm d host : String} {index : Nat} {a : Addr} {v : Value} (hd : decode bytes pc = .ok (.getfield index, 3)) (w : (Cond.fieldLink own index R0 nm d).before a0 Z = true ∨ (Cond.fieldLinkNest own index R0 nm d host).before a0 Z = true) (via : Via Z R0 O nm d) (F : Fld Z h a O nm d v) (hq : pc' = pc + 3)
    (K : ∀ (T' : State), OSt Z EL a0 n0 h0 ws own bytes mx p l e R s m args below meth c sv T' h k n → OGo p.tables e below P T' (mkF m pc' Ls (v :: st))) : OGo p.tables e below P T (mkF m pc Ls (.ref a :: st)) := by
  subst hq
  obtain ⟨hx, hby, hml, eT, hlk, vm0, locs, Y, I⟩ := X
  obtain ⟨T', Y', e', stp⟩ := getF Y hx (show Z.Warmed39 (s.setVm vm0).vm from I.2.2.2.2.1) (show (s.setVm vm0).vm.findClass own = _ from I.2.2.2.2.2.1) w via eT F (g := mkF m pc Ls (.ref a :: st)) rfl rfl (hb hby hd)
  exact og stp (K T' ⟨hx, hby, hml, e', hlk, vm0, _, Y', I⟩)
theorem own_getS (X : OSt Z EL a0 n0 h0 ws own bytes mx p l e R s m args below meth c sv T h k n) (pc' : Nat) {R0 O nm d host : String} {index : Nat} {v : Value} (hd : decode bytes pc = .ok (.getstatic index, 3)) (w : (Cond.fieldLink own index R0 nm d).before a0 Z = true ∨ (Cond.fieldLinkNest own index R0 nm d host).before a0 Z = true) (via : Via Z R0 O nm d) (F : Sta Z Z.heap O nm d v) (hq : pc' = pc + 3)
    (K : ∀ (T' : State), OSt Z EL a0 n0 h0 ws own bytes mx p l e R s m args below meth c sv T' h k n → OGo p.tables e below P T' (mkF m pc' Ls (v :: st))) : OGo p.tables e below P T (mkF m pc Ls st) := by
  subst hq
  have O1 := X.old
  obtain ⟨hx, hby, hml, eT, hlk, vm0, locs, Y, I⟩ := X
  obtain ⟨T', Y', e', stp⟩ := getS2 Y hx (show Z.Warmed39 (s.setVm vm0).vm from I.2.2.2.2.1) (show (s.setVm vm0).vm.findClass own = _ from I.2.2.2.2.2.1) w via eT (F.ext O1.2) (g := mkF m pc Ls st) rfl (hb hby hd)
  exact og stp (K T' ⟨hx, hby, hml, e', hlk, vm0, _, Y', I⟩)
theorem own_cast (X : OSt Z EL a0 n0 h0 ws own bytes mx p l e R s m args below meth c sv T h k n) (pc' : Nat) {C : String} {index : Nat} {a : Addr} (hd : decode bytes pc = .ok (.checkcast index, 3)) (w : (Cond.classLink own index C).before a0 Z = true) (F : Ins Z h a C true) (hq : pc' = pc + 3)
    (K : ∀ (T' : State), OSt Z EL a0 n0 h0 ws own bytes mx p l e R s m args below meth c sv T' h k n → OGo p.tables e below P T' (mkF m pc' Ls (.ref a :: st))) : OGo p.tables e below P T (mkF m pc Ls (.ref a :: st)) := by
  subst hq
  obtain ⟨hx, hby, hml, eT, hlk, vm0, locs, Y, I⟩ := X
  obtain ⟨T', Y', e', stp⟩ := castY Y hx (show Z.Warmed39 (s.setVm vm0).vm from I.2.2.2.2.1) (show (s.setVm vm0).vm.findClass own = _ from I.2.2.2.2.2.1) w eT F (g := mkF m pc Ls (.ref a :: st)) rfl rfl (hb hby hd)
  exact og stp (K T' ⟨hx, hby, hml, e', hlk, vm0, _, Y', I⟩)
theorem own_instY (X : OSt Z EL a0 n0 h0 ws own bytes mx p l e R s m args below meth c sv T h k n) (pc' : Nat) {C : String} {index : Nat} {a : Addr} (hd : decode bytes pc = .ok (.instanceof index, 3)) (w : (Cond.classLink own index C).before a0 Z = true) (F : Ins Z h a C true) (hq : pc' = pc + 3)
    (K : ∀ (T' : State), OSt Z EL a0 n0 h0 ws own bytes mx p l e R s m args below meth c sv T' h k n → OGo p.tables e below P T' (mkF m pc' Ls (.int 1 :: st))) : OGo p.tables e below P T (mkF m pc Ls (.ref a :: st)) := by
  subst hq
  obtain ⟨hx, hby, hml, eT, hlk, vm0, locs, Y, I⟩ := X
  obtain ⟨T', Y', e', stp⟩ := instY Y hx (show Z.Warmed39 (s.setVm vm0).vm from I.2.2.2.2.1) (show (s.setVm vm0).vm.findClass own = _ from I.2.2.2.2.2.1) w eT F (g := mkF m pc Ls (.ref a :: st)) rfl rfl (hb hby hd)
  exact og stp (K T' ⟨hx, hby, hml, e', hlk, vm0, _, Y', I⟩)
theorem own_instN (X : OSt Z EL a0 n0 h0 ws own bytes mx p l e R s m args below meth c sv T h k n) (pc' : Nat) {C C' : String} {index : Nat} {a : Addr} (hd : decode bytes pc = .ok (.instanceof index, 3)) (w : (Cond.classLink own index C).before a0 Z = true) (F : Ins Z h0 a C false) (E : Exa Z h0 a C') (hq : pc' = pc + 3)
    (K : ∀ (T' : State), OSt Z EL a0 n0 h0 ws own bytes mx p l e R s m args below meth c sv T' h k n → OGo p.tables e below P T' (mkF m pc' Ls (.int 0 :: st))) : OGo p.tables e below P T (mkF m pc Ls (.ref a :: st)) := by
  subst hq
  obtain ⟨hx, hby, hml, eT, hlk, vm0, locs, Y, I⟩ := X
  have e0 : (s.setVm vm0).heap = h0 := I.1
  obtain ⟨T', Y', e', stp⟩ := instN Y hx (show Z.Warmed39 (s.setVm vm0).vm from I.2.2.2.2.1) (show (s.setVm vm0).vm.findClass own = _ from I.2.2.2.2.2.1) w eT (by rw [e0]; exact F) (by rw [e0]; exact E) (g := mkF m pc Ls (.ref a :: st)) rfl rfl (hb hby hd)
  exact og stp (K T' ⟨hx, hby, hml, e', hlk, vm0, _, Y', I⟩)
theorem own_obj0 (X : OSt Z EL a0 n0 h0 ws own bytes mx p l e R s m args below meth c sv T h k n) (pc' : Nat) {index : Nat} {a : Addr} (hd : decode bytes pc = .ok (.invokespecial index, 3)) (w1 : (Cond.methodLink own index Lib.objectInit).before a0 Z = true) (w2 : (Cond.instanceMethod Lib.objectInit).before a0 Z = true) (w3 : (Cond.code Lib.objectInit ⟨#[0xb1]⟩ 1 none).before a0 Z = true) (hsz : Ls.size = mx) {W : Nat} (hW : (st.map fun v => v.category).sum = W) (hf : 1 ≤ R.frames) (hl : W + 12 ≤ R.locals) (hq : pc' = pc + 3)
    (K : ∀ (T' : State), OSt Z EL a0 n0 h0 ws own bytes mx p l e R s m args below meth c sv T' h k n → OGo p.tables e below P T' (mkF m pc' Ls st)) : OGo p.tables e below P T (mkF m pc Ls (.ref a :: st)) := by
  subst hq
  obtain ⟨hx, hby, hml, eT, hlk, vm0, locs, Y, I⟩ := X
  obtain ⟨T', Y', e', stp⟩ := initO Y hx (show Z.Warmed39 (s.setVm vm0).vm from I.2.2.2.2.1) (show (s.setVm vm0).vm.findClass own = _ from I.2.2.2.2.2.1) w1 w2 w3 eT (g := mkF m pc Ls (.ref a :: st)) rfl (by rw [hml]; exact hsz) rfl (hb hby hd) hf (W := W) (by show 2 * 0 + _ ≤ _; rw [hW]; omega) hl
  exact og stp (K T' ⟨hx, hby, hml, e', hlk, vm0, _, Y', I⟩)
theorem own_inb {cl : Cell} {z j : Int32} (S : cl.slots.size = z.toNatClampNeg) (h1 : ¬ j < 0) (h2 : j < z) : ¬ (j < 0 ∨ cl.slots.size ≤ j.toNatClampNeg) := inb_of S ⟨h1, h2⟩
theorem own_stC (X : OSt Z EL a0 n0 h0 ws own bytes mx p l e R s m args below meth c sv T h k n) (pc' : Nat) {a : Addr} {kb : ClassId} {z j x x' : Int32} {vs : List Value} {dv : Value} (hd : decode bytes pc = .ok (.castore, 1)) (A : Arv Z h a kb .char z vs dv) (hx' : nar .char x = x') (h1 : ¬ j < 0) (h2 : j < z) {i : Nat} (hi : j.toNatClampNeg = i) (hl : i < vs.length) (ha : a ∈ sv) (hq : pc' = pc + 1)
    (K : ∀ (T' : State) (h' : Heap), OSt Z EL a0 n0 h0 ws own bytes mx p l e R s m args below meth c sv T' h' k n → Wr h h' a j.toNatClampNeg (.int x') → Keep h h' [a] → Arv Z h' a kb .char z (vs.set i (.int x')) dv → OGo p.tables e below P T' (mkF m pc' Ls st)) : OGo p.tables e below P T (mkF m pc Ls (.int x :: .int j :: .ref a :: st)) := by
  subst hq hx'
  obtain ⟨hx, hby, hml, eT, hlk, vm0, locs, Y, I⟩ := X
  obtain ⟨cl, Ar, q, S, N, Hs, G⟩ := A
  obtain ⟨T', h', Y', e', W, stp⟩ := stC Y hx (show Z.Warmed39 (s.setVm vm0).vm from I.2.2.2.2.1) eT Ar (j := j) (x := x) (own_inb S h1 h2) (g := mkF m pc Ls (.int x :: .int j :: .ref a :: st)) rfl rfl (hb hby hd)
  exact og stp (K T' h' ⟨hx, hby, hml, e', hlk, vm0, _, Y', I.wr ha W⟩ W (Keep.of_wr W) (Arv.set Ar q S N Hs G (fits_nar_char _) W i hi hl))
theorem own_stB (X : OSt Z EL a0 n0 h0 ws own bytes mx p l e R s m args below meth c sv T h k n) (pc' : Nat) {a : Addr} {kb : ClassId} {z j x x' : Int32} {vs : List Value} {dv : Value} (hd : decode bytes pc = .ok (.bastore, 1)) (A : Arv Z h a kb .byte z vs dv) (hx' : x.toInt8.toInt32 = x') (h1 : ¬ j < 0) (h2 : j < z) {i : Nat} (hi : j.toNatClampNeg = i) (hl : i < vs.length) (ha : a ∈ sv) (hq : pc' = pc + 1)
    (K : ∀ (T' : State) (h' : Heap), OSt Z EL a0 n0 h0 ws own bytes mx p l e R s m args below meth c sv T' h' k n → Wr h h' a j.toNatClampNeg (.int x') → Keep h h' [a] → Arv Z h' a kb .byte z (vs.set i (.int x')) dv → OGo p.tables e below P T' (mkF m pc' Ls st)) : OGo p.tables e below P T (mkF m pc Ls (.int x :: .int j :: .ref a :: st)) := by
  subst hq hx'
  obtain ⟨hx, hby, hml, eT, hlk, vm0, locs, Y, I⟩ := X
  obtain ⟨cl, Ar, q, S, N, Hs, G⟩ := A
  obtain ⟨T', h', Y', e', W, stp⟩ := stB Y hx (show Z.Warmed39 (s.setVm vm0).vm from I.2.2.2.2.1) eT Ar (j := j) (x := x) (own_inb S h1 h2) (g := mkF m pc Ls (.int x :: .int j :: .ref a :: st)) rfl rfl (hb hby hd)
  exact og stp (K T' h' ⟨hx, hby, hml, e', hlk, vm0, _, Y', I.wr ha W⟩ W (Keep.of_wr W) (Arv.set Ar q S N Hs G (fits_nar_byte _) W i hi hl))
theorem own_stR (X : OSt Z EL a0 n0 h0 ws own bytes mx p l e R s m args below meth c sv T h k n) (pc' : Nat) {a : Addr} {kb : ClassId} {ty : FieldType} {z j : Int32} {v : Value} {vs : List Value} {dv : Value} (hd : decode bytes pc = .ok (.aastore, 1)) (A : Arv Z h a kb ty z vs dv) (hty : ty.isReference = true) (hf : fits ty v = true) (F : Sto Z h a v) (h1 : ¬ j < 0) (h2 : j < z) {i : Nat} (hi : j.toNatClampNeg = i) (hl : i < vs.length) (ha : a ∈ sv) (hq : pc' = pc + 1)
    (K : ∀ (T' : State) (h' : Heap), OSt Z EL a0 n0 h0 ws own bytes mx p l e R s m args below meth c sv T' h' k n → Wr h h' a j.toNatClampNeg v → Keep h h' [a] → Arv Z h' a kb ty z (vs.set i v) dv → OGo p.tables e below P T' (mkF m pc' Ls st)) : OGo p.tables e below P T (mkF m pc Ls (v :: .int j :: .ref a :: st)) := by
  subst hq
  obtain ⟨hx, hby, hml, eT, hlk, vm0, locs, Y, I⟩ := X
  obtain ⟨cl, Ar, q, S, N, Hs, G⟩ := A
  obtain ⟨T', h', Y', e', W, stp⟩ := stR Y hx (show Z.Warmed39 (s.setVm vm0).vm from I.2.2.2.2.1) eT Ar (j := j) (v := v) (own_inb S h1 h2) hty F (g := mkF m pc Ls (v :: .int j :: .ref a :: st)) rfl rfl (hb hby hd)
  exact og stp (K T' h' ⟨hx, hby, hml, e', hlk, vm0, _, Y', I.wr ha W⟩ W (Keep.of_wr W) (Arv.set Ar q S N Hs G hf W i hi hl))
theorem own_len (X : OSt Z EL a0 n0 h0 ws own bytes mx p l e R s m args below meth c sv T h k n) (pc' : Nat) {a : Addr} {kb : ClassId} {ty : FieldType} {z : Int32} {vs : List Value} {dv : Value} (hd : decode bytes pc = .ok (.arraylength, 1)) (A : Arv Z h a kb ty z vs dv) (hq : pc' = pc + 1) (K : OGo p.tables e below P T (mkF m pc' Ls (.int z :: st))) : OGo p.tables e below P T (mkF m pc Ls (.ref a :: st)) := by
  subst hq
  obtain ⟨hx, hby, hml, eT, hlk, vm0, locs, Y, I⟩ := X
  obtain ⟨cl, Ar, q, S, N, Hs, G⟩ := A
  refine og (fun _ r => Y.arraylength hx (by rw [eT]; exact Ar.1) (State.isArrayOf_alike (show Z.Warmed39 (s.setVm vm0).vm from I.2.2.2.2.1).alike Ar.2.1) (g := mkF m pc Ls (.ref a :: st)) rfl rfl (hb hby hd) _ r) ?_
  rw [len_of S N]; exact K
theorem own_ldC (X : OSt Z EL a0 n0 h0 ws own bytes mx p l e R s m args below meth c sv T h k n) (pc' : Nat) {a : Addr} {kb : ClassId} {z j : Int32} {v : Value} {vs : List Value} {dv : Value} (hd : decode bytes pc = .ok (.caload, 1)) (A : Arv Z h a kb .char z vs dv) (h1 : ¬ j < 0) (h2 : j < z) (hv : vs.getD j.toNatClampNeg dv = v) (hq : pc' = pc + 1) (K : OGo p.tables e below P T (mkF m pc' Ls (v :: st))) : OGo p.tables e below P T (mkF m pc Ls (.int j :: .ref a :: st)) := by
  subst hq
  obtain ⟨hx, hby, hml, eT, hlk, vm0, locs, Y, I⟩ := X
  obtain ⟨cl, Ar, q, S, N, Hs, G⟩ := A
  exact og (fun _ r => Y.caload hx (j := j) (v := v) (by rw [eT]; exact Ar.1) (State.isArrayOf_alike (show Z.Warmed39 (s.setVm vm0).vm from I.2.2.2.2.1).alike Ar.2.1) Ar.2.2 (own_inb S h1 h2) (Hs.at (own_inb S h1 h2) hv) (g := mkF m pc Ls (.int j :: .ref a :: st)) rfl rfl (hb hby hd) _ r) K
theorem own_ldB (X : OSt Z EL a0 n0 h0 ws own bytes mx p l e R s m args below meth c sv T h k n) (pc' : Nat) {a : Addr} {kb : ClassId} {z j : Int32} {v : Value} {vs : List Value} {dv : Value} (hd : decode bytes pc = .ok (.baload, 1)) (A : Arv Z h a kb .byte z vs dv) (h1 : ¬ j < 0) (h2 : j < z) (hv : vs.getD j.toNatClampNeg dv = v) (hq : pc' = pc + 1) (K : OGo p.tables e below P T (mkF m pc' Ls (v :: st))) : OGo p.tables e below P T (mkF m pc Ls (.int j :: .ref a :: st)) := by
  subst hq
  obtain ⟨hx, hby, hml, eT, hlk, vm0, locs, Y, I⟩ := X
  obtain ⟨cl, Ar, q, S, N, Hs, G⟩ := A
  exact og (fun _ r => Y.baloadBytes hx (j := j) (v := v) (by rw [eT]; exact Ar.1) (State.isArrayOf_alike (show Z.Warmed39 (s.setVm vm0).vm from I.2.2.2.2.1).alike Ar.2.1) Ar.2.2 (own_inb S h1 h2) (Hs.at (own_inb S h1 h2) hv) (g := mkF m pc Ls (.int j :: .ref a :: st)) rfl rfl (hb hby hd) _ r) K
theorem own_ldR (X : OSt Z EL a0 n0 h0 ws own bytes mx p l e R s m args below meth c sv T h k n) (pc' : Nat) {a : Addr} {kb : ClassId} {ty : FieldType} {z j : Int32} {v : Value} {vs : List Value} {dv : Value} (hd : decode bytes pc = .ok (.aaload, 1)) (A : Arv Z h a kb ty z vs dv) (hty : ty.isReference = true) (h1 : ¬ j < 0) (h2 : j < z) (hv : vs.getD j.toNatClampNeg dv = v) (hq : pc' = pc + 1) (K : OGo p.tables e below P T (mkF m pc' Ls (v :: st))) : OGo p.tables e below P T (mkF m pc Ls (.int j :: .ref a :: st)) := by
  subst hq
  obtain ⟨hx, hby, hml, eT, hlk, vm0, locs, Y, I⟩ := X
  obtain ⟨cl, Ar, q, S, N, Hs, G⟩ := A
  exact og (fun _ r => Y.aaload hx (j := j) (v := v) (by rw [eT]; exact Ar.1) (State.isArrayOf_alike (show Z.Warmed39 (s.setVm vm0).vm from I.2.2.2.2.1).alike Ar.2.1) hty Ar.2.2 (own_inb S h1 h2) (Hs.at (own_inb S h1 h2) hv) (g := mkF m pc Ls (.int j :: .ref a :: st)) rfl rfl (hb hby hd) _ r) K
theorem own_ldcI (X : OSt Z EL a0 n0 h0 ws own bytes mx p l e R s m args below meth c sv T h k n) (pc' : Nat) {index : Nat} {v : Int32} (hd : decode bytes pc = .ok (.ldc index, 2)) (w : (Cond.constant own index v).before a0 Z = true) (hq : pc' = pc + 2) (K : OGo p.tables e below P T (mkF m pc' Ls (.int v :: st))) : OGo p.tables e below P T (mkF m pc Ls st) := by
  subst hq
  obtain ⟨hx, hby, hml, eT, hlk, vm0, locs, Y, I⟩ := X
  exact og (fun _ r => Y.ldcInt hx (show (s.setVm vm0).vm.findClass own = _ from I.2.2.2.2.2.1) (mvT (show Z.Warmed39 (s.setVm vm0).vm from I.2.2.2.2.1) w) (g := mkF m pc Ls st) rfl (hb hby hd) _ r) K
theorem own_instNull (X : OSt Z EL a0 n0 h0 ws own bytes mx p l e R s m args below meth c sv T h k n) (pc' : Nat) {index : Nat} (hd : decode bytes pc = .ok (.instanceof index, 3)) (hq : pc' = pc + 3) (K : OGo p.tables e below P T (mkF m pc' Ls (.int 0 :: st))) : OGo p.tables e below P T (mkF m pc Ls (.null :: st)) := by
  subst hq
  obtain ⟨hx, hby, hml, eT, hlk, vm0, locs, Y, I⟩ := X
  exact og (fun _ r => Y.instanceofNull hx (g := mkF m pc Ls (.null :: st)) rfl rfl (hb hby hd) _ r) K
theorem own_castNull (X : OSt Z EL a0 n0 h0 ws own bytes mx p l e R s m args below meth c sv T h k n) (pc' : Nat) {index : Nat} (hd : decode bytes pc = .ok (.checkcast index, 3)) (hq : pc' = pc + 3) (K : OGo p.tables e below P T (mkF m pc' Ls (.null :: st))) : OGo p.tables e below P T (mkF m pc Ls (.null :: st)) := by
  subst hq
  obtain ⟨hx, hby, hml, eT, hlk, vm0, locs, Y, I⟩ := X
  exact og (fun _ r => Y.checkcastNull hx (g := mkF m pc Ls (.null :: st)) rfl rfl (hb hby hd) _ r) K
theorem own_instNo (X : OSt Z EL a0 n0 h0 ws own bytes mx p l e R s m args below meth c sv T h k n) (pc' : Nat) {C C' : String} {index : Nat} {a : Addr} (hd : decode bytes pc = .ok (.instanceof index, 3)) (w : (Cond.classLink own index C).before a0 Z = true) (E : Exa Z h a C') (F : ∃ c t, Z.vm.findClass C' = some c ∧ Z.vm.findClass C = some t ∧ Z.vm.assignable c t = false) (hq : pc' = pc + 3)
    (K : ∀ (T' : State), OSt Z EL a0 n0 h0 ws own bytes mx p l e R s m args below meth c sv T' h k n → OGo p.tables e below P T' (mkF m pc' Ls (.int 0 :: st))) : OGo p.tables e below P T (mkF m pc Ls (.ref a :: st)) := by
  subst hq
  obtain ⟨hx, hby, hml, eT, hlk, vm0, locs, Y, I⟩ := X
  obtain ⟨T', Y', e', stp⟩ := instNo Y hx (show Z.Warmed39 (s.setVm vm0).vm from I.2.2.2.2.1) (show (s.setVm vm0).vm.findClass own = _ from I.2.2.2.2.2.1) w eT E F (g := mkF m pc Ls (.ref a :: st)) rfl rfl (hb hby hd)
  exact og stp (K T' ⟨hx, hby, hml, e', hlk, vm0, _, Y', I⟩)
theorem own_nsRoot {O C : String} {kk : Nat} (w : (Cond.noSuperclass O).before a0 Z = true) (wk : (Cond.instantiable C kk).before a0 Z = true) (hn : O ≠ C) : NS Z O C := by
  obtain ⟨c, k, h1, h2, h3, -, -⟩ := Cond.noSuperclass_spec w
  obtain ⟨t, k2, g1, -⟩ := Cond.instantiable_spec wk
  have ne := ids_ne h1 g1 hn
  refine ⟨c, t, h1, g1, fun fuel => ?_⟩
  cases fuel with
  | zero => rfl
  | succ f => simp [Vm.isSubclassAux, ne, h2, h3]
theorem own_nsNo {C S K' : String} {kk : Nat} (w : (Cond.superclass C S).before a0 Z = true) (wk : (Cond.instantiable K' kk).before a0 Z = true) (N : NS Z C K') (hn : C ≠ K') : ∃ c t, Z.vm.findClass C = some c ∧ Z.vm.findClass K' = some t ∧ Z.vm.assignable c t = false := by
  obtain ⟨c, t, h0, g0, n3⟩ := N
  obtain ⟨p, k, kp, h1, h2, h3, h4, h5, -, h7⟩ := Cond.superclass_spec h0 w
  obtain ⟨t', k2, g1, g2, g3, g4, -⟩ := Cond.instantiable_spec wk
  cases g0.symm.trans g1
  have ne := ids_ne h0 g0 hn
  have g5 : k2.isInterface = false := by
    cases hi : k2.isInterface with
    | false => rfl
    | true => rw [hi] at g4; simp at g4
  refine ⟨c, t, h0, g0, ?_⟩
  show Z.vm.assignableAux (255 + 1) c t = false
  simp [Vm.assignableAux, ne, h2, g2, h5, g3, g5, Vm.isSubclass, n3]
theorem own_ldc2L (X : OSt Z EL a0 n0 h0 ws own bytes mx p l e R s m args below meth c sv T h k n) (pc' : Nat) {index : Nat} {v : Int64} (hd : decode bytes pc = .ok (.ldc2_w index, 3)) (w : (Cond.constantLong own index v).before a0 Z = true) (hq : pc' = pc + 3) (K : OGo p.tables e below P T (mkF m pc' Ls (.long v :: st))) : OGo p.tables e below P T (mkF m pc Ls st) := by
  subst hq
  obtain ⟨hx, hby, hml, eT, hlk, vm0, locs, Y, I⟩ := X
  exact og (fun _ r => Y.ldc2Long hx (show (s.setVm vm0).vm.findClass own = _ from I.2.2.2.2.2.1) (mvT (show Z.Warmed39 (s.setVm vm0).vm from I.2.2.2.2.1) w) (g := mkF m pc Ls st) rfl (hb hby hd) _ r) K
theorem own_ldBox (X : OSt Z EL a0 n0 h0 ws own bytes mx p l e R s m args below meth c sv T h k n) (pc' : Nat) {a : Addr} {cl : Cell} {C d : String} {z j : Int32} {val : Int32 → Value} (hd : decode bytes pc = .ok (.aaload, 1)) (B : Bxs Z a cl C d z val) (h1 : ¬ j < 0) (h2 : j < z) (hq : pc' = pc + 1) (K : ∀ b : Addr, Exa Z h b C → Fld Z h b C "value" d (val j) → OGo p.tables e below P T (mkF m pc' Ls (.ref b :: st))) : OGo p.tables e below P T (mkF m pc Ls (.int j :: .ref a :: st)) := by
  subst hq
  have O1 := X.old
  obtain ⟨hx, hby, hml, eT, hlk, vm0, locs, Y, I⟩ := X
  obtain ⟨A, S, N, F⟩ := B
  obtain ⟨b, q1, q2, q3⟩ := F j (own_inb S h1 h2)
  exact og (fun _ r => Y.aaload hx (j := j) (v := .ref b) (by rw [eT]; exact (A.ext O1.2).1) (State.isArrayOf_alike (show Z.Warmed39 (s.setVm vm0).vm from I.2.2.2.2.1).alike A.2.1) rfl A.2.2 (own_inb S h1 h2) q1 (g := mkF m pc Ls (.int j :: .ref a :: st)) rfl rfl (hb hby hd) _ r) (K b (q2.ext O1.2) (q3.ext O1.2))
def OMet (l : Launch) (Z : State) (EL : List (String × Nat)) (n0 : Nat) (y : MethodName) (wc : List Jvm.Cond) (rm : Room) (as' : Array Value) (h0 : Heap) (ws : List Addr) (Q : Option Value → Heap → Prop) : Prop :=
  MetFree l y (head1 wc rm) (fun a U => a = as' ∧ Z.Warmed39 U.vm ∧ U.heap = h0 ∧ CHv Z EL U.vm h0 ∧ ∀ x ∈ ws, Safe Z EL U.vm h0 x) (fun _ _ _ _ _ => True) (fun _ U o U' => OEnd Z EL n0 h0 ws U Q rm.cells rm.slots o U')
theorem own_enter {y : MethodName} {ret : Option FieldType} {wc : List Jvm.Cond} {rm : Room} {as' : Array Value} {Q : Option Value → Heap → Prop} (Ls : Array Slot) (hn : plainFor y = true) (ef : ∀ m, entryFrame m as' mx = mkF m 0 Ls []) (hEL : EW Z a0 EL) (O : Old Z n0 h0) (hlt : ∀ x ∈ ws, n0 ≤ x ∧ x < h0.size)
    (K : ∀ (p : Program) (e : Env) (s : State) (m : MethodId) (below : List Frame) (meth : Method) (c : Code) (T : State), OSt Z EL a0 n0 h0 ws y.cls bytes mx p l e rm s m as' below meth c ws T h0 0 0 → meth.name = y.name → meth.sig.returnType = ret → OGo p.tables e below (OEnd Z EL n0 h0 ws s Q rm.cells rm.slots) T (mkF m 0 Ls [])) :
    OMet l Z EL n0 y (Jvm.Cond.code y bytes mx ret :: wc) rm as' h0 ws Q := by
  refine MetFree.of_bodySF hn hisR ?_
  intro p e s m args below meth c s₁ Bd hml hP _
  obtain ⟨rfl, hZ, hh, hC, hS⟩ := hP
  have Y : Stand p l e rm (s.setVm s.vm) m args below meth c s₁ [] 0 0 := Stand.of_body Bd
  have hown := findClass_of_methodNamed Bd.named
  have e0 : s₁.heap = h0 := by rw [← hh, Bd.state]; rfl
  obtain ⟨t, o, g1, g2⟩ := K p e s m below meth c s₁ ⟨Bd.exec, Bd.bytes, hml, e0, Bd.notSynchronized, s.vm, [], Y, hh, O, Keep.refl _ _, ⟨_, (State.WarmedH.refl s).since _, Nat.le_refl _⟩, hZ, hown, hEL, by rw [hh]; exact CHr.refl hC, fun _ => rfl, Fr.nil _, fun x hx => ⟨(hlt x hx).1, (hlt x hx).2, Or.inl hx, hS x hx⟩⟩ (name_of_methodNamed Bd.named Bd.method).1 Bd.returns
  exact ⟨t, o, castTop (ef m) g1, g2⟩
theorem own_leave (X : OSt Z EL a0 n0 h0 ws own bytes mx p l e R s m args below meth c sv T h k n) {v : Option Value} {Q : Option Value → Heap → Prop} {k' n' : Nat} (hv : meth.sig.returnType = none → v = none) (hk : k ≤ k') (hn : n ≤ n') (hQ : Q v h) :
    ∃ fs, (∀ (f : JFrame) (acts : List Action), f.method = m → f.locked = none → f.entered = [] → (doReturn e (T.setTop f) acts v).1 = T.setFrames fs) ∧ (T.setFrames fs).status = .running ∧ Ended (T.setFrames fs) below (.returned v) ∧ OEnd Z EL n0 h0 ws s Q k' n' (.returned v) (T.setFrames fs) := by
  obtain ⟨hx, hby, hml, eT, hlk, vm0, locs, Y, b1, b2, b3, ⟨k0, b4, b4'⟩, b5, b6, b7, b8, b9, b10, b11⟩ := X.more hk hn
  obtain ⟨fs, h1, h2, h3, hW, hs⟩ := Y.leave hv hlk
  have C := CHv.at Y b5 b7 b8.1
  obtain ⟨q1, q2, q3⟩ := b4.ended (U := T.setFrames fs) hW (by show k0 ≤ T.heap.size; rw [eT]; exact b4') hs
  refine ⟨fs, h1, h2, h3, v, locs, rfl, ⟨b10, by show Keep h0 T.heap ws; rw [eT]; exact b3, by show Q v T.heap; rw [eT]; exact hQ⟩, by show CHr Z EL s.vm s.heap T.vm T.heap; rw [eT]; exact b8.trans C, ⟨⟨v, rfl⟩, q1, q2, q3⟩, fun hnil => ?_⟩
  have := b9 hnil
  subst this
  exact ⟨⟨v, rfl⟩, hW, hs⟩
theorem own_retV (X : OSt Z EL a0 n0 h0 ws own bytes mx p l e R s m args below meth c sv T h k n) {Q : Option Value → Heap → Prop} {k' n' : Nat} (hd : decode bytes pc = .ok (.return_, 1)) (hret : meth.sig.returnType = none) (hk : k ≤ k') (hn : n ≤ n') (hQ : Q none h) : OGo p.tables e below (OEnd Z EL n0 h0 ws s Q k' n') T (mkF m pc Ls []) := by
  obtain ⟨fs, h1, h2, h3, h4⟩ := own_leave X (fun _ => rfl) hk hn hQ
  have X' := X
  obtain ⟨hx, hby, hml, eT, hlk, vm0, locs, Y, -⟩ := X'
  exact ⟨_, _, Y.returnOut hx hret (hb hby hd) h1, h2, h3, h4⟩
theorem own_ret (X : OSt Z EL a0 n0 h0 ws own bytes mx p l e R s m args below meth c sv T h k n) {Q : Option Value → Heap → Prop} {k' n' : Nat} {t : FieldType} {w : Value} {i : Instr} (hd : decode bytes pc = .ok (i, 1)) (hret : meth.sig.returnType = some t) (hnw : narrow t w = w)
    (hi : (i = .ireturn ∧ (t = .int ∨ t = .boolean ∨ t = .byte ∨ t = .char ∨ t = .short) ∧ ∃ z, w = .int z) ∨ (i = .lreturn ∧ t = .long ∧ ∃ z, w = .long z) ∨ (i = .dreturn ∧ t = .double ∧ ∃ z, w = .double z) ∨ (i = .freturn ∧ t = .float ∧ ∃ z, w = .float z) ∨ (i = .areturn ∧ t.isReference = true ∧ w.isRef = true))
    (hk : k ≤ k') (hn : n ≤ n') (hQ : Q (some w) h) : OGo p.tables e below (OEnd Z EL n0 h0 ws s Q k' n') T (mkF m pc Ls (w :: st)) := by
  obtain ⟨fs, h1, h2, h3, h4⟩ := own_leave X (fun q => by rw [hret] at q; cases q) hk hn hQ
  have X' := X
  obtain ⟨hx, hby, hml, eT, hlk, vm0, locs, Y, -⟩ := X'
  exact ⟨_, _, retOut Y hx hret hnw hi (hb hby hd) h1, h2, h3, h4⟩
theorem own_retI (X : OSt Z EL a0 n0 h0 ws own bytes mx p l e R s m args below meth c sv T h k n) {Q : Option Value → Heap → Prop} {k' n' : Nat} {z : Int32} (hd : decode bytes pc = .ok (.ireturn, 1)) (hret : meth.sig.returnType = some .int) (hk : k ≤ k') (hn : n ≤ n') (hQ : Q (some (.int z)) h) : OGo p.tables e below (OEnd Z EL n0 h0 ws s Q k' n') T (mkF m pc Ls (.int z :: st)) :=
  own_ret X hd hret rfl (Or.inl ⟨rfl, Or.inl rfl, z, rfl⟩) hk hn hQ
theorem own_retZ (X : OSt Z EL a0 n0 h0 ws own bytes mx p l e R s m args below meth c sv T h k n) {Q : Option Value → Heap → Prop} {k' n' : Nat} {z : Int32} (hd : decode bytes pc = .ok (.ireturn, 1)) (hret : meth.sig.returnType = some .boolean) (hz : narrow .boolean (.int z) = .int z) (hk : k ≤ k') (hn : n ≤ n') (hQ : Q (some (.int z)) h) : OGo p.tables e below (OEnd Z EL n0 h0 ws s Q k' n') T (mkF m pc Ls (.int z :: st)) :=
  own_ret X hd hret hz (Or.inl ⟨rfl, Or.inr (Or.inl rfl), z, rfl⟩) hk hn hQ
theorem own_retC (X : OSt Z EL a0 n0 h0 ws own bytes mx p l e R s m args below meth c sv T h k n) {Q : Option Value → Heap → Prop} {k' n' : Nat} {z : Int32} (hd : decode bytes pc = .ok (.ireturn, 1)) (hret : meth.sig.returnType = some .char) (hz : narrow .char (.int z) = .int z) (hk : k ≤ k') (hn : n ≤ n') (hQ : Q (some (.int z)) h) : OGo p.tables e below (OEnd Z EL n0 h0 ws s Q k' n') T (mkF m pc Ls (.int z :: st)) :=
  own_ret X hd hret hz (Or.inl ⟨rfl, Or.inr (Or.inr (Or.inr (Or.inl rfl))), z, rfl⟩) hk hn hQ
theorem own_retY (X : OSt Z EL a0 n0 h0 ws own bytes mx p l e R s m args below meth c sv T h k n) {Q : Option Value → Heap → Prop} {k' n' : Nat} {z : Int32} (hd : decode bytes pc = .ok (.ireturn, 1)) (hret : meth.sig.returnType = some .byte) (hz : narrow .byte (.int z) = .int z) (hk : k ≤ k') (hn : n ≤ n') (hQ : Q (some (.int z)) h) : OGo p.tables e below (OEnd Z EL n0 h0 ws s Q k' n') T (mkF m pc Ls (.int z :: st)) :=
  own_ret X hd hret hz (Or.inl ⟨rfl, Or.inr (Or.inr (Or.inl rfl)), z, rfl⟩) hk hn hQ
theorem own_retL (X : OSt Z EL a0 n0 h0 ws own bytes mx p l e R s m args below meth c sv T h k n) {Q : Option Value → Heap → Prop} {k' n' : Nat} {z : Int64} (hd : decode bytes pc = .ok (.lreturn, 1)) (hret : meth.sig.returnType = some .long) (hk : k ≤ k') (hn : n ≤ n') (hQ : Q (some (.long z)) h) : OGo p.tables e below (OEnd Z EL n0 h0 ws s Q k' n') T (mkF m pc Ls (.long z :: st)) :=
  own_ret X hd hret rfl (Or.inr (Or.inl ⟨rfl, rfl, z, rfl⟩)) hk hn hQ
theorem own_narR {t : FieldType} {w : Value} (ht : t.isReference = true) (hw : w.isRef = true) : narrow t w = w := by
  rcases ref_cases hw with rfl | ⟨a, rfl⟩ <;> cases t <;> first | rfl | cases ht
theorem own_retA (X : OSt Z EL a0 n0 h0 ws own bytes mx p l e R s m args below meth c sv T h k n) {Q : Option Value → Heap → Prop} {k' n' : Nat} {t : FieldType} {w : Value} (hd : decode bytes pc = .ok (.areturn, 1)) (hret : meth.sig.returnType = some t) (ht : t.isReference = true) (hw : w.isRef = true) (hk : k ≤ k') (hn : n ≤ n') (hQ : Q (some w) h) : OGo p.tables e below (OEnd Z EL n0 h0 ws s Q k' n') T (mkF m pc Ls (w :: st)) :=
  own_ret X hd hret (own_narR ht hw) (Or.inr (Or.inr (Or.inr (Or.inr ⟨rfl, ht, hw⟩)))) hk hn hQ
theorem own_payN {vm0 : Vm} {y : MethodName} {maxL : Nat} {ret : Option FieldType} {rm : Room} {len W : Nat} {as' : Array Value} {ws' : List Addr} {Q : Option Value → Heap → Prop} {bc : ByteArray} (hnil : EL = []) (hM : OMet l Z EL n0 y [Jvm.Cond.code y bc maxL ret] rm as' h ws' Q) (hZ : Z.Warmed39 vm0) (wc : (Cond.code y bc maxL ret).before a0 Z = true) (wz : (Cond.initialized y.cls).before a0 Z = true) (hf : rm.frames + 1 ≤ R.frames) (hl : W + (maxL + 11) + rm.locals ≤ R.locals) (hEL : EW Z a0 EL) (H : CHv Z EL vm0 h) (hS : ∀ x ∈ ws', x < h.size ∧ Safe Z EL vm0 h x) :
    Back l R p e below (s.setVm vm0) args y len W (fun A a => a = as' ∧ A.U.heap = h ∧ A.cells + rm.cells ≤ R.cells ∧ A.slots + rm.slots ≤ R.slots)
      (fun A _ v B => ∃ L, (Fr n0 L ∧ Keep h B.U.heap ws' ∧ Q v B.U.heap) ∧ B.locs = A.locs ++ L ∧ B.cells = A.cells + rm.cells ∧ B.slots = A.slots + rm.slots) :=
  Back.of_free (bytes := bc) (maxL := maxL) (ret := ret) (E := fun _ _ o t L k n => k = rm.cells ∧ n = rm.slots ∧ ∃ v, o = .returned v ∧ (Fr n0 L ∧ Keep h t.heap ws' ∧ Q v t.heap)) hM hf hl
    (fun m meth c A a Y hp => have hU : Z.Warmed39 A.U.vm := wtrans (s := s.setVm vm0) hZ Y.warmed
      ⟨by show (Cond.and _ .tt).before a A.U = true; rw [Cond.before_and, mv hU wc]; rfl, mv hU wc, mv hU wz, hp.2.2.1, hp.2.2.2⟩)
    (fun m meth c A a g mk Y hp => ⟨hp.1, wtrans (s := s.setVm vm0) hZ Y.warmed, hp.2.1, (CHv.at Y hZ hEL H).1, fun x hx => (CHv.at Y hZ hEL H).safe (hS x hx).1 (hS x hx).2⟩) (fun _ _ _ _ _ _ _ _ _ => trivial)
    (fun _ _ _ _ ⟨v, L, h1, h2, _, _, h3⟩ => ⟨L, _, _, h3 hnil, rfl, rfl, v, h1, h2⟩)
    (fun m meth c A a g mk v t L k n Y hp _ _ ⟨e1, e2, v', e3, e4⟩ => by cases e3; subst e1 e2; exact ⟨L, e4, rfl, rfl, rfl⟩)
theorem own_payW {vm0 : Vm} {y : MethodName} {maxL : Nat} {ret : Option FieldType} {rm : Room} {len W : Nat} {as' : Array Value} {ws' : List Addr} {Q : Option Value → Heap → Prop} {bc : ByteArray} (hM : OMet l Z EL n0 y [Jvm.Cond.code y bc maxL ret] rm as' h ws' Q) (hZ : Z.Warmed39 vm0) (wc : (Cond.code y bc maxL ret).before a0 Z = true) (wz : (Cond.initialized y.cls).before a0 Z = true) (hf : rm.frames + 1 ≤ R.frames) (hl : W + (maxL + 11) + rm.locals ≤ R.locals) (hEL : EW Z a0 EL) (H : CHv Z EL vm0 h) (hS : ∀ x ∈ ws', x < h.size ∧ Safe Z EL vm0 h x) :
    BackS l R p e below (s.setVm vm0) args y len W (fun A a => a = as' ∧ A.U.heap = h ∧ A.cells + rm.cells ≤ R.cells ∧ A.slots + rm.slots ≤ R.slots)
      (fun A _ v B => ∃ L, (Fr n0 L ∧ Keep h B.U.heap ws' ∧ Q v B.U.heap) ∧ B.locs = A.locs ++ L ∧ B.cells = A.cells + rm.cells ∧ B.slots = A.slots + rm.slots ∧ CHr Z EL vm0 h B.U.vm B.U.heap) :=
  BackS.of_freeW (bytes := bc) (maxL := maxL) (ret := ret) (E := fun _ first o t L k n => k = rm.cells ∧ n = rm.slots ∧ (∃ v, o = .returned v ∧ (Fr n0 L ∧ Keep h t.heap ws' ∧ Q v t.heap)) ∧ CHr Z EL first.vm first.heap t.vm t.heap) hM hf hl
    (fun m meth c A a Y hp => have hU : Z.Warmed39 A.U.vm := wtrans (s := s.setVm vm0) hZ Y.warmed
      ⟨by show (Cond.and _ .tt).before a A.U = true; rw [Cond.before_and, mv hU wc]; rfl, mv hU wc, mv hU wz, hp.2.2.1, hp.2.2.2⟩)
    (fun m meth c A a g mk Y hp => ⟨hp.1, wtrans (s := s.setVm vm0) hZ Y.warmed, hp.2.1, (CHv.at Y hZ hEL H).1, fun x hx => (CHv.at Y hZ hEL H).safe (hS x hx).1 (hS x hx).2⟩) (fun _ _ _ _ _ _ _ _ _ => trivial)
    (fun _ _ _ _ ⟨v, L, h1, h2, h3, h4, _⟩ => ⟨L, _, _, h4, rfl, rfl, ⟨v, h1, h2⟩, h3⟩)
    (fun m meth c A a g mk v t L k n Y hp _ _ ⟨e1, e2, ⟨v', e3, e4⟩, e5⟩ => by
      cases e3; subst e1 e2
      refine ⟨L, e4, rfl, rfl, rfl, (CHv.at Y hZ hEL H).trans ?_⟩
      rw [← hp.2.1]; exact e5)
theorem own_stat (X : OSt Z EL a0 n0 h0 ws own bytes mx p l e R s m args below meth c sv T h k n) (pc' : Nat) {y : MethodName} {index maxL W : Nat} {ret : Option FieldType} {rm : Room} {as' : Array Value} {ws' : List Addr} {Q : Option Value → Heap → Prop} {bc : ByteArray} {argsL rest : List Value} (hd : decode bytes pc = .ok (.invokestatic index, 3)) (hM : OMet l Z EL n0 y [Jvm.Cond.code y bc maxL ret] rm as' h ws' Q) (w1 : (Cond.methodLink own index y).before a0 Z = true) (w2 : (Cond.static y).before a0 Z = true) (wz : (Cond.initialized y.cls).before a0 Z = true) (wc : (Cond.code y bc maxL ret).before a0 Z = true) (hy : y.cls ≠ "java/lang/invoke/MethodHandle" ∧ y.cls ≠ "java/lang/invoke/VarHandle")
    (hlen : ∀ sig, parseMethodDescriptor y.desc = some sig → argsL.length = sig.parameters.length) (hst : st = argsL.reverse ++ rest) (has : argsL.toArray = as') (hsz : Ls.size = mx) (hW : (rest.map fun v => v.category).sum = W) (hf : rm.frames + 1 ≤ R.frames) (hl : W + (maxL + 11) + rm.locals ≤ R.locals) (hc : k + rm.cells ≤ R.cells) (hs : n + rm.slots ≤ R.slots) (hsv : ∀ x ∈ ws', x ∈ sv) (hq : pc' = pc + 3)
    (K : ∀ (T' : State) (h' : Heap) (v : Option Value), OSt Z EL a0 n0 h0 ws own bytes mx p l e R s m args below meth c sv T' h' (k + rm.cells) (n + rm.slots) → Keep h h' ws' → Q v h' → OGo p.tables e below P T' (mkF m pc' Ls (v.toList ++ rest))) : OGo p.tables e below P T (mkF m pc Ls st) := by
  subst hq
  obtain ⟨hx, hby, hml, eT, hlk, vm0, locs, Y, I⟩ := X
  have I0 := I
  obtain ⟨b1, b2, b3, b4, b5, b6, b7, b8, b9, b10, b11⟩ := I0
  have hS : ∀ x ∈ ws', x < h.size ∧ Safe Z EL vm0 h x := fun x hx => ⟨(b11 x (hsv x hx)).2.1, (b11 x (hsv x hx)).2.2.2⟩
  have hZ : Z.Warmed39 (s.setVm vm0).vm := b5
  have hW' : 2 * (mkF m pc Ls st).monitorRoom + (rest.map fun v => v.category).sum ≤ W := by show 2 * 0 + _ ≤ _; rw [hW]; omega
  by_cases hnil : EL = []
  · obtain ⟨v, vm₁, ⟨U, L', k', n'⟩, -, Y', ⟨L, ⟨q1, q2, q3⟩, l1, l2, l3⟩, stp⟩ := Jvm.LawKit.callS Y hx (y := y) (show (s.setVm vm0).vm.findClass own = _ from b6) (mvT hZ w1) (mvT hZ w2) (mvT hZ wz) (mvT hZ wc) hy (own_payN hnil hM b5 wc wz hf hl b7 b8.1 hS) (g := mkF m pc Ls st) rfl (by rw [hml]; exact hsz) (argsL := argsL) (rest := rest) hlen hst hW' (hb hby hd) (fun _ _ => ⟨has, eT, hc, hs⟩)
    dsimp only [Pt.U, Pt.locs, Pt.cells, Pt.slots] at Y' l1 l2 l3 q1 q2 q3 stp
    subst l1 l2 l3
    exact og stp (K U U.heap v ⟨hx, hby, hml, rfl, hlk, vm0, _, Y', I.keep q2 hsv q1⟩ q2 q3)
  · obtain ⟨v, vm₁, ⟨U, L', k', n'⟩, -, Y', S', g', ⟨L, ⟨q1, q2, q3⟩, l1, l2, l3, C⟩, stp⟩ := callSS Y hx (y := y) (show (s.setVm vm0).vm.findClass own = _ from b6) (mvT hZ w1) (mvT hZ w2) (mvT hZ wz) (mvT hZ wc) hy (own_payW hM b5 wc wz hf hl b7 b8.1 hS) (g := mkF m pc Ls st) rfl (by rw [hml]; exact hsz) (argsL := argsL) (rest := rest) hlen hst hW' (hb hby hd) (fun _ _ => ⟨has, eT, hc, hs⟩)
    dsimp only [Pt.U, Pt.locs, Pt.cells, Pt.slots] at Y' l1 l2 l3 q1 q2 q3 stp S' g' C
    subst l1 l2 l3
    exact og (fun _ q => stp.trans q) (K U U.heap v ⟨hx, hby, hml, rfl, hlk, U.vm, _, Y', I.call q2 hsv q1 C S' (fun q => absurd q hnil)⟩ q2 q3)
theorem own_spec (X : OSt Z EL a0 n0 h0 ws own bytes mx p l e R s m args below meth c sv T h k n) (pc' : Nat) {y : MethodName} {index maxL W : Nat} {rm : Room} {as' : Array Value} {ws' : List Addr} {Q : Option Value → Heap → Prop} {bc : ByteArray} {a : Addr} {argsL rest : List Value} (hd : decode bytes pc = .ok (.invokespecial index, 3)) (hy1 : y.name = "<init>") (hM : OMet l Z EL n0 y [Jvm.Cond.code y bc maxL none] rm as' h ws' Q) (w1 : (Cond.methodLink own index y).before a0 Z = true) (w2 : (Cond.instanceMethod y).before a0 Z = true) (wz : (Cond.initialized y.cls).before a0 Z = true) (wc : (Cond.code y bc maxL none).before a0 Z = true) (hy : y.cls ≠ "java/lang/invoke/MethodHandle" ∧ y.cls ≠ "java/lang/invoke/VarHandle")
    (hlen : ∀ sig, parseMethodDescriptor y.desc = some sig → argsL.length = sig.parameters.length) (hst : st = argsL.reverse ++ .ref a :: rest) (has : (.ref a :: argsL).toArray = as') (hsz : Ls.size = mx) (hW : (rest.map fun v => v.category).sum = W) (hf : rm.frames + 1 ≤ R.frames) (hl : W + (maxL + 11) + rm.locals ≤ R.locals) (hc : k + rm.cells ≤ R.cells) (hs : n + rm.slots ≤ R.slots) (hsv : ∀ x ∈ ws', x ∈ sv) (hq : pc' = pc + 3)
    (K : ∀ (T' : State) (h' : Heap) (v : Option Value), OSt Z EL a0 n0 h0 ws own bytes mx p l e R s m args below meth c sv T' h' (k + rm.cells) (n + rm.slots) → Keep h h' ws' → Q v h' → OGo p.tables e below P T' (mkF m pc' Ls (v.toList ++ rest))) : OGo p.tables e below P T (mkF m pc Ls st) := by
  subst hq
  obtain ⟨hx, hby, hml, eT, hlk, vm0, locs, Y, I⟩ := X
  have I0 := I
  obtain ⟨b1, b2, b3, b4, b5, b6, b7, b8, b9, b10, b11⟩ := I0
  have hS : ∀ x ∈ ws', x < h.size ∧ Safe Z EL vm0 h x := fun x hx => ⟨(b11 x (hsv x hx)).2.1, (b11 x (hsv x hx)).2.2.2⟩
  have hZ : Z.Warmed39 (s.setVm vm0).vm := b5
  have hW' : 2 * (mkF m pc Ls st).monitorRoom + (rest.map fun v => v.category).sum ≤ W := by show 2 * 0 + _ ≤ _; rw [hW]; omega
  by_cases hnil : EL = []
  · obtain ⟨v, vm₁, ⟨U, L', k', n'⟩, -, Y', ⟨L, ⟨q1, q2, q3⟩, l1, l2, l3⟩, stp⟩ := Y.specialBack hx (y := y) hy1 (show (s.setVm vm0).vm.findClass own = _ from b6) (mvT hZ w1) (mvT hZ w2) (mvT hZ wc) hy (own_payN hnil hM b5 wc wz hf hl b7 b8.1 hS) (g := mkF m pc Ls st) rfl (by rw [hml]; exact hsz) (Steps.refl _) (a := a) (argsL := argsL) (rest := rest) hlen hst hW' (hb hby hd) (fun _ _ => ⟨has, eT, hc, hs⟩)
    dsimp only [Pt.U, Pt.locs, Pt.cells, Pt.slots] at Y' l1 l2 l3 q1 q2 q3 stp
    subst l1 l2 l3
    exact og (fun _ q => stp.trans q) (K U U.heap v ⟨hx, hby, hml, rfl, hlk, vm0, _, Y', I.keep q2 hsv q1⟩ q2 q3)
  · obtain ⟨v, vm₁, ⟨U, L', k', n'⟩, -, Y', S', g', ⟨L, ⟨q1, q2, q3⟩, l1, l2, l3, C⟩, stp⟩ := Y.specialBackS hx (y := y) hy1 (show (s.setVm vm0).vm.findClass own = _ from b6) (mvT hZ w1) (mvT hZ w2) (mvT hZ wc) hy (own_payW hM b5 wc wz hf hl b7 b8.1 hS) (g := mkF m pc Ls st) rfl (by rw [hml]; exact hsz) (Steps.refl _) (a := a) (argsL := argsL) (rest := rest) hlen hst hW' (hb hby hd) (fun _ _ => ⟨has, eT, hc, hs⟩)
    dsimp only [Pt.U, Pt.locs, Pt.cells, Pt.slots] at Y' l1 l2 l3 q1 q2 q3 stp S' g' C
    subst l1 l2 l3
    exact og (fun _ q => stp.trans q) (K U U.heap v ⟨hx, hby, hml, rfl, hlk, U.vm, _, Y', I.call q2 hsv q1 C S' (fun q => absurd q hnil)⟩ q2 q3)
theorem own_virt (X : OSt Z EL a0 n0 h0 ws own bytes mx p l e R s m args below meth c sv T h k n) (pc' : Nat) {y z : MethodName} {C : String} {index maxL W : Nat} {ret : Option FieldType} {rm : Room} {as' : Array Value} {ws' : List Addr} {Q : Option Value → Heap → Prop} {bc : ByteArray} {a : Addr} {argsL rest : List Value} (hd : decode bytes pc = .ok (.invokevirtual index, 3)) (E : Exa Z h a C) (hnf : ∀ vm0, Z.Warmed39 (s.setVm vm0).vm → NotFace (s.setVm vm0) y) (hM : OMet l Z EL n0 z [Jvm.Cond.code z bc maxL ret] rm as' h ws' Q) (w1 : (Cond.methodLink own index y).before a0 Z = true) (w2 : (Cond.declares y).before a0 Z = true) (w3 : (Cond.selects C y z).before a0 Z = true) (w4 : (Cond.instanceMethod z).before a0 Z = true) (wz : (Cond.initialized z.cls).before a0 Z = true) (wc : (Cond.code z bc maxL ret).before a0 Z = true) (hy : y.cls ≠ "java/lang/invoke/MethodHandle" ∧ y.cls ≠ "java/lang/invoke/VarHandle")
    (hlen : ∀ sig, parseMethodDescriptor y.desc = some sig → argsL.length = sig.parameters.length) (hst : st = argsL.reverse ++ .ref a :: rest) (has : (.ref a :: argsL).toArray = as') (hsz : Ls.size = mx) (hW : (rest.map fun v => v.category).sum = W) (hf : rm.frames + 1 ≤ R.frames) (hl : W + (maxL + 11) + rm.locals ≤ R.locals) (hc : k + rm.cells ≤ R.cells) (hs : n + rm.slots ≤ R.slots) (hsv : ∀ x ∈ ws', x ∈ sv) (hq : pc' = pc + 3)
    (K : ∀ (T' : State) (h' : Heap) (v : Option Value), OSt Z EL a0 n0 h0 ws own bytes mx p l e R s m args below meth c sv T' h' (k + rm.cells) (n + rm.slots) → Keep h h' ws' → Q v h' → OGo p.tables e below P T' (mkF m pc' Ls (v.toList ++ rest))) : OGo p.tables e below P T (mkF m pc Ls st) := by
  subst hq
  obtain ⟨hx, hby, hml, eT, hlk, vm0, locs, Y, I⟩ := X
  have I0 := I
  obtain ⟨b1, b2, b3, b4, b5, b6, b7, b8, b9, b10, b11⟩ := I0
  have hS : ∀ x ∈ ws', x < h.size ∧ Safe Z EL vm0 h x := fun x hx => ⟨(b11 x (hsv x hx)).2.1, (b11 x (hsv x hx)).2.2.2⟩
  have hZ : Z.Warmed39 (s.setVm vm0).vm := b5
  have hW' : 2 * (mkF m pc Ls st).monitorRoom + (rest.map fun v => v.category).sum ≤ W := by show 2 * 0 + _ ≤ _; rw [hW]; omega
  obtain ⟨cq, kq, qa, qb, qc⟩ := isOf (s := s.setVm vm0) hZ eT E
  by_cases hnil : EL = []
  · obtain ⟨v, vm₁, ⟨U, L', k', n'⟩, -, Y', ⟨L, ⟨q1, q2, q3⟩, l1, l2, l3⟩, stp⟩ := Y.virtualBack hx (y := y) (z := z) (show (s.setVm vm0).vm.findClass own = _ from b6) (mvT hZ w1) (mvT hZ w2) (hnf vm0 hZ) (mvT hZ w3) (mvT hZ w4) hy (own_payN hnil hM b5 wc wz hf hl b7 b8.1 hS) qa qc (g := mkF m pc Ls st) rfl (by rw [hml]; exact hsz) (Steps.refl _) (argsL := argsL) (rest := rest) hlen hst hW' (hb hby hd) (fun _ _ => ⟨has, eT, hc, hs⟩)
    dsimp only [Pt.U, Pt.locs, Pt.cells, Pt.slots] at Y' l1 l2 l3 q1 q2 q3 stp
    subst l1 l2 l3
    exact og (fun _ q => stp.trans q) (K U U.heap v ⟨hx, hby, hml, rfl, hlk, vm0, _, Y', I.keep q2 hsv q1⟩ q2 q3)
  · obtain ⟨v, vm₁, ⟨U, L', k', n'⟩, -, Y', S', g', ⟨L, ⟨q1, q2, q3⟩, l1, l2, l3, C⟩, stp⟩ := Y.virtualBackS hx (y := y) (z := z) (show (s.setVm vm0).vm.findClass own = _ from b6) (mvT hZ w1) (mvT hZ w2) (hnf vm0 hZ) (mvT hZ w3) (mvT hZ w4) hy (own_payW hM b5 wc wz hf hl b7 b8.1 hS) qa qc (g := mkF m pc Ls st) rfl (by rw [hml]; exact hsz) (Steps.refl _) (argsL := argsL) (rest := rest) hlen hst hW' (hb hby hd) (fun _ _ => ⟨has, eT, hc, hs⟩)
    dsimp only [Pt.U, Pt.locs, Pt.cells, Pt.slots] at Y' l1 l2 l3 q1 q2 q3 stp S' g' C
    subst l1 l2 l3
    exact og (fun _ q => stp.trans q) (K U U.heap v ⟨hx, hby, hml, rfl, hlk, U.vm, _, Y', I.call q2 hsv q1 C S' (fun q => absurd q hnil)⟩ q2 q3)
theorem own_priv (X : OSt Z EL a0 n0 h0 ws own bytes mx p l e R s m args below meth c sv T h k n) (pc' : Nat) {y : MethodName} {C : String} {index maxL W : Nat} {ret : Option FieldType} {rm : Room} {as' : Array Value} {ws' : List Addr} {Q : Option Value → Heap → Prop} {bc : ByteArray} {a : Addr} {argsL rest : List Value} (hd : decode bytes pc = .ok (.invokevirtual index, 3)) (E : Exa Z h a C) (hM : OMet l Z EL n0 y [Jvm.Cond.code y bc maxL ret] rm as' h ws' Q) (w1 : (Cond.methodLink own index y).before a0 Z = true) (w2 : (Cond.instanceMethod y).before a0 Z = true) (w3 : (Cond.selects y.cls y y).before a0 Z = true) (w4 : (Cond.privateMethod y).before a0 Z = true) (wz : (Cond.initialized y.cls).before a0 Z = true) (wc : (Cond.code y bc maxL ret).before a0 Z = true) (hy : y.cls ≠ "java/lang/invoke/MethodHandle" ∧ y.cls ≠ "java/lang/invoke/VarHandle")
    (hlen : ∀ sig, parseMethodDescriptor y.desc = some sig → argsL.length = sig.parameters.length) (hst : st = argsL.reverse ++ .ref a :: rest) (has : (.ref a :: argsL).toArray = as') (hsz : Ls.size = mx) (hW : (rest.map fun v => v.category).sum = W) (hf : rm.frames + 1 ≤ R.frames) (hl : W + (maxL + 11) + rm.locals ≤ R.locals) (hc : k + rm.cells ≤ R.cells) (hs : n + rm.slots ≤ R.slots) (hsv : ∀ x ∈ ws', x ∈ sv) (hq : pc' = pc + 3)
    (K : ∀ (T' : State) (h' : Heap) (v : Option Value), OSt Z EL a0 n0 h0 ws own bytes mx p l e R s m args below meth c sv T' h' (k + rm.cells) (n + rm.slots) → Keep h h' ws' → Q v h' → OGo p.tables e below P T' (mkF m pc' Ls (v.toList ++ rest))) : OGo p.tables e below P T (mkF m pc Ls st) := by
  subst hq
  obtain ⟨hx, hby, hml, eT, hlk, vm0, locs, Y, I⟩ := X
  have I0 := I
  obtain ⟨b1, b2, b3, b4, b5, b6, b7, b8, b9, b10, b11⟩ := I0
  have hS : ∀ x ∈ ws', x < h.size ∧ Safe Z EL vm0 h x := fun x hx => ⟨(b11 x (hsv x hx)).2.1, (b11 x (hsv x hx)).2.2.2⟩
  have hZ : Z.Warmed39 (s.setVm vm0).vm := b5
  have hW' : 2 * (mkF m pc Ls st).monitorRoom + (rest.map fun v => v.category).sum ≤ W := by show 2 * 0 + _ ≤ _; rw [hW]; omega
  obtain ⟨cq, q0, q0'⟩ := E.cell
  by_cases hnil : EL = []
  · obtain ⟨v, vm₁, ⟨U, L', k', n'⟩, -, Y', ⟨L, ⟨q1, q2, q3⟩, l1, l2, l3⟩, stp⟩ := Y.privateBack hx (y := y) (show (s.setVm vm0).vm.findClass own = _ from b6) (mvT hZ w1) (mvT hZ w2) (mvT hZ w3) (Cond.privateMethod_at (mvP hZ w4 (args := #[]))) (mvT hZ wc) hy (own_payN hnil hM b5 wc wz hf hl b7 b8.1 hS) (g := mkF m pc Ls st) rfl (by rw [hml]; exact hsz) (Steps.refl _) (a := a) (by rw [eT]; exact q0) q0' (argsL := argsL) (rest := rest) hlen hst hW' (hb hby hd) (fun _ _ => ⟨has, eT, hc, hs⟩)
    dsimp only [Pt.U, Pt.locs, Pt.cells, Pt.slots] at Y' l1 l2 l3 q1 q2 q3 stp
    subst l1 l2 l3
    exact og (fun _ q => stp.trans q) (K U U.heap v ⟨hx, hby, hml, rfl, hlk, vm0, _, Y', I.keep q2 hsv q1⟩ q2 q3)
  · obtain ⟨v, vm₁, ⟨U, L', k', n'⟩, -, Y', S', g', ⟨L, ⟨q1, q2, q3⟩, l1, l2, l3, C⟩, stp⟩ := Y.privateBackS hx (y := y) (show (s.setVm vm0).vm.findClass own = _ from b6) (mvT hZ w1) (mvT hZ w2) (mvT hZ w3) (Cond.privateMethod_at (mvP hZ w4 (args := #[]))) (mvT hZ wc) hy (own_payW hM b5 wc wz hf hl b7 b8.1 hS) (g := mkF m pc Ls st) rfl (by rw [hml]; exact hsz) (Steps.refl _) (a := a) (by rw [eT]; exact q0) q0' (argsL := argsL) (rest := rest) hlen hst hW' (hb hby hd) (fun _ _ => ⟨has, eT, hc, hs⟩)
    dsimp only [Pt.U, Pt.locs, Pt.cells, Pt.slots] at Y' l1 l2 l3 q1 q2 q3 stp S' g' C
    subst l1 l2 l3
    exact og (fun _ q => stp.trans q) (K U U.heap v ⟨hx, hby, hml, rfl, hlk, U.vm, _, Y', I.call q2 hsv q1 C S' (fun q => absurd q hnil)⟩ q2 q3)
theorem own_specB (X : OSt Z EL a0 n0 h0 ws own bytes mx p l e R s m args below meth c sv T h k n) (pc' : Nat) {y : MethodName} {index maxL W rc rs : Nat} {as' : Array Value} {ws' : List Addr} {Q : Option Value → Heap → List Loc → Prop} {bc : ByteArray} {a : Addr} {argsL rest : List Value} (hd : decode bytes pc = .ok (.invokespecial index, 3)) (hy1 : y.name = "<init>")
    (hK : ∀ vm0, Z.Warmed39 (s.setVm vm0).vm → Back l R p e below (s.setVm vm0) args y 3 W (fun A a => a = as' ∧ A.U.heap = h ∧ A.cells + rc ≤ R.cells ∧ A.slots + rs ≤ R.slots) (fun A _ v B => ∃ L, Q v B.U.heap L ∧ B.locs = A.locs ++ L ∧ B.cells = A.cells + rc ∧ B.slots = A.slots + rs)) (hQ : ∀ v h' L, Q v h' L → Fr n0 L ∧ Keep h h' ws')
    (w1 : (Cond.methodLink own index y).before a0 Z = true) (w2 : (Cond.instanceMethod y).before a0 Z = true) (wc : (Cond.code y bc maxL none).before a0 Z = true) (hy : y.cls ≠ "java/lang/invoke/MethodHandle" ∧ y.cls ≠ "java/lang/invoke/VarHandle")
    (hlen : ∀ sig, parseMethodDescriptor y.desc = some sig → argsL.length = sig.parameters.length) (hst : st = argsL.reverse ++ .ref a :: rest) (has : (.ref a :: argsL).toArray = as') (hsz : Ls.size = mx) (hW : (rest.map fun v => v.category).sum = W) (hc : k + rc ≤ R.cells) (hs : n + rs ≤ R.slots) (hsv : ∀ x ∈ ws', x ∈ sv) (hq : pc' = pc + 3)
    (K : ∀ (T' : State) (h' : Heap) (v : Option Value) (L : List Loc), OSt Z EL a0 n0 h0 ws own bytes mx p l e R s m args below meth c sv T' h' (k + rc) (n + rs) → Keep h h' ws' → Q v h' L → OGo p.tables e below P T' (mkF m pc' Ls (v.toList ++ rest))) : OGo p.tables e below P T (mkF m pc Ls st) := by
  subst hq
  obtain ⟨hx, hby, hml, eT, hlk, vm0, locs, Y, I⟩ := X
  have hZ : Z.Warmed39 (s.setVm vm0).vm := I.2.2.2.2.1
  have hW' : 2 * (mkF m pc Ls st).monitorRoom + (rest.map fun v => v.category).sum ≤ W := by show 2 * 0 + _ ≤ _; rw [hW]; omega
  obtain ⟨v, vm₁, ⟨U, L', k', n'⟩, -, Y', ⟨L, q, l1, l2, l3⟩, stp⟩ := Y.specialBack hx (y := y) hy1 (show (s.setVm vm0).vm.findClass own = _ from I.2.2.2.2.2.1) (mvT hZ w1) (mvT hZ w2) (mvT hZ wc) hy (hK vm0 hZ) (g := mkF m pc Ls st) rfl (by rw [hml]; exact hsz) (Steps.refl _) (a := a) (argsL := argsL) (rest := rest) hlen hst hW' (hb hby hd) (fun _ _ => ⟨has, eT, hc, hs⟩)
  dsimp only [Pt.U, Pt.locs, Pt.cells, Pt.slots] at Y' l1 l2 l3 q stp
  subst l1 l2 l3
  exact og (fun _ q => stp.trans q) (K U U.heap v L ⟨hx, hby, hml, rfl, hlk, vm0, _, Y', I.keep (hQ _ _ _ q).2 hsv (hQ _ _ _ q).1⟩ (hQ _ _ _ q).2 q)
theorem own_virtB (X : OSt Z EL a0 n0 h0 ws own bytes mx p l e R s m args below meth c sv T h k n) (pc' : Nat) {y z : MethodName} {C : String} {index W rc rs : Nat} {as' : Array Value} {ws' : List Addr} {Q : Option Value → Heap → List Loc → Prop} {a : Addr} {argsL rest : List Value} (hd : decode bytes pc = .ok (.invokevirtual index, 3)) (E : Exa Z h a C) (hnf : ∀ vm0, Z.Warmed39 (s.setVm vm0).vm → NotFace (s.setVm vm0) y)
    (hK : ∀ vm0, Z.Warmed39 (s.setVm vm0).vm → Back l R p e below (s.setVm vm0) args z 3 W (fun A a => a = as' ∧ A.U.heap = h ∧ A.cells + rc ≤ R.cells ∧ A.slots + rs ≤ R.slots) (fun A _ v B => ∃ L, Q v B.U.heap L ∧ B.locs = A.locs ++ L ∧ B.cells = A.cells + rc ∧ B.slots = A.slots + rs)) (hQ : ∀ v h' L, Q v h' L → Fr n0 L ∧ Keep h h' ws')
    (w1 : (Cond.methodLink own index y).before a0 Z = true) (w2 : (Cond.declares y).before a0 Z = true) (w3 : (Cond.selects C y z).before a0 Z = true) (w4 : (Cond.instanceMethod z).before a0 Z = true) (hy : y.cls ≠ "java/lang/invoke/MethodHandle" ∧ y.cls ≠ "java/lang/invoke/VarHandle")
    (hlen : ∀ sig, parseMethodDescriptor y.desc = some sig → argsL.length = sig.parameters.length) (hst : st = argsL.reverse ++ .ref a :: rest) (has : (.ref a :: argsL).toArray = as') (hsz : Ls.size = mx) (hW : (rest.map fun v => v.category).sum = W) (hc : k + rc ≤ R.cells) (hs : n + rs ≤ R.slots) (hsv : ∀ x ∈ ws', x ∈ sv) (hq : pc' = pc + 3)
    (K : ∀ (T' : State) (h' : Heap) (v : Option Value) (L : List Loc), OSt Z EL a0 n0 h0 ws own bytes mx p l e R s m args below meth c sv T' h' (k + rc) (n + rs) → Keep h h' ws' → Q v h' L → OGo p.tables e below P T' (mkF m pc' Ls (v.toList ++ rest))) : OGo p.tables e below P T (mkF m pc Ls st) := by
  subst hq
  obtain ⟨hx, hby, hml, eT, hlk, vm0, locs, Y, I⟩ := X
  have hZ : Z.Warmed39 (s.setVm vm0).vm := I.2.2.2.2.1
  have hW' : 2 * (mkF m pc Ls st).monitorRoom + (rest.map fun v => v.category).sum ≤ W := by show 2 * 0 + _ ≤ _; rw [hW]; omega
  obtain ⟨cq, kq, qa, qb, qc⟩ := isOf (s := s.setVm vm0) hZ eT E
  obtain ⟨v, vm₁, ⟨U, L', k', n'⟩, -, Y', ⟨L, q, l1, l2, l3⟩, stp⟩ := Y.virtualBack hx (y := y) (z := z) (show (s.setVm vm0).vm.findClass own = _ from I.2.2.2.2.2.1) (mvT hZ w1) (mvT hZ w2) (hnf vm0 hZ) (mvT hZ w3) (mvT hZ w4) hy (hK vm0 hZ) qa qc (g := mkF m pc Ls st) rfl (by rw [hml]; exact hsz) (Steps.refl _) (argsL := argsL) (rest := rest) hlen hst hW' (hb hby hd) (fun _ _ => ⟨has, eT, hc, hs⟩)
  dsimp only [Pt.U, Pt.locs, Pt.cells, Pt.slots] at Y' l1 l2 l3 q stp
  subst l1 l2 l3
  exact og (fun _ q => stp.trans q) (K U U.heap v L ⟨hx, hby, hml, rfl, hlk, vm0, _, Y', I.keep (hQ _ _ _ q).2 hsv (hQ _ _ _ q).1⟩ (hQ _ _ _ q).2 q)
theorem own_svb (X : OSt Z EL a0 n0 h0 ws own bytes mx p l e R s m args below meth c sv T h k n) {a : Addr} (ha : a ∈ sv) : n0 ≤ a ∧ a < h.size := by
  obtain ⟨-, -, -, -, -, _, _, -, -, -, -, -, -, -, -, -, -, -, q⟩ := X
  exact ⟨(q a ha).1, (q a ha).2.1⟩
theorem own_fitR {t : FieldType} {w : Value} (ht : t.isReference = true) (hw : w.isRef = true) : fits t w = true := by
  rcases ref_cases hw with rfl | ⟨a, rfl⟩ <;> cases t <;> first | rfl | cases ht
theorem own_sto {a y : Addr} {kb : ClassId} {ty : FieldType} {z : Int32} {vs : List Value} {dv : Value} {C : String} (A : Arv Z h a kb ty z vs dv) (O : Ovr Z kb C) (i : Ins Z h y C true) : Sto Z h a (.ref y) := by
  obtain ⟨cl, Ar, q, -⟩ := A
  exact Sto.ofV Ar q O i
theorem own_face (X : OSt Z EL a0 n0 h0 ws own bytes mx p l e R s m args below meth c sv T h k n) (pc' : Nat) {y z : MethodName} {C : String} {index count maxL W : Nat} {ret : Option FieldType} {rm : Room} {as' : Array Value} {ws' : List Addr} {Q : Option Value → Heap → Prop} {bc : ByteArray} {a : Addr} {argsL rest : List Value} (hd : decode bytes pc = .ok (.invokeinterface index count, 5)) (E : Exa Z h a C) (hM : OMet l Z EL n0 z [Jvm.Cond.code z bc maxL ret] rm as' h ws' Q) (w1 : (Cond.methodLink own index y).before a0 Z = true) (w2 : (Cond.declares y).before a0 Z = true) (w3 : (Cond.interfaceMethod y.cls y.cls y.name y.desc).before a0 Z = true) (w4 : (Cond.selects C y z).before a0 Z = true) (w5 : (Cond.instanceMethod z).before a0 Z = true) (w6 : (Cond.publicMethod z).before a0 Z = true) (w7 : (Cond.unhidden C y.name y.desc).before a0 Z = true) (w8 : (Cond.castable C y.cls).before a0 Z = true) (wz : (Cond.initialized z.cls).before a0 Z = true) (wc : (Cond.code z bc maxL ret).before a0 Z = true) (hy : y.cls ≠ "java/lang/invoke/MethodHandle" ∧ y.cls ≠ "java/lang/invoke/VarHandle")
    (hlen : ∀ sig, parseMethodDescriptor y.desc = some sig → argsL.length = sig.parameters.length) (hst : st = argsL.reverse ++ .ref a :: rest) (has : (.ref a :: argsL).toArray = as') (hsz : Ls.size = mx) (hW : (rest.map fun v => v.category).sum = W) (hf : rm.frames + 1 ≤ R.frames) (hl : W + (maxL + 11) + rm.locals ≤ R.locals) (hc : k + rm.cells ≤ R.cells) (hs : n + rm.slots ≤ R.slots) (hsv : ∀ x ∈ ws', x ∈ sv) (hq : pc' = pc + 5)
    (K : ∀ (T' : State) (h' : Heap) (v : Option Value), OSt Z EL a0 n0 h0 ws own bytes mx p l e R s m args below meth c sv T' h' (k + rm.cells) (n + rm.slots) → Keep h h' ws' → Q v h' → OGo p.tables e below P T' (mkF m pc' Ls (v.toList ++ rest))) : OGo p.tables e below P T (mkF m pc Ls st) := by
  subst hq
  obtain ⟨hx, hby, hml, eT, hlk, vm0, locs, Y, I⟩ := X
  have I0 := I
  obtain ⟨b1, b2, b3, b4, b5, b6, b7, b8, b9, b10, b11⟩ := I0
  have hS : ∀ x ∈ ws', x < h.size ∧ Safe Z EL vm0 h x := fun x hx => ⟨(b11 x (hsv x hx)).2.1, (b11 x (hsv x hx)).2.2.2⟩
  have hZ : Z.Warmed39 (s.setVm vm0).vm := b5
  have hW' : 2 * (mkF m pc Ls st).monitorRoom + (rest.map fun v => v.category).sum ≤ W := by show 2 * 0 + _ ≤ _; rw [hW]; omega
  obtain ⟨cq, kq, qa, qb, qc⟩ := isOf (s := s.setVm vm0) hZ eT E
  by_cases hnil : EL = []
  · obtain ⟨v, vm₁, ⟨U, L', k', n'⟩, -, Y', ⟨L, ⟨q1, q2, q3⟩, l1, l2, l3⟩, stp⟩ := Y.interfaceBack hx (xi := y) (y := z) (show (s.setVm vm0).vm.findClass own = _ from b6) (mvT hZ w1 (by first | rfl | decide | simp [Cond.onTables, Cond.keepsFace, Cond.keeps, Cond.steady, Cond.faceAtom, hy.1, hy.2])) (mvT hZ w2 (by first | rfl | decide | simp [Cond.onTables, Cond.keepsFace, Cond.keeps, Cond.steady, Cond.faceAtom, hy.1, hy.2])) (mvT hZ w3 (by first | rfl | decide | simp [Cond.onTables, Cond.keepsFace, Cond.keeps, Cond.steady, Cond.faceAtom, hy.1, hy.2])) (mvT hZ w4 (by first | rfl | decide | simp [Cond.onTables, Cond.keepsFace, Cond.keeps, Cond.steady, Cond.faceAtom, hy.1, hy.2])) (mvT hZ w5 (by first | rfl | decide | simp [Cond.onTables, Cond.keepsFace, Cond.keeps, Cond.steady, Cond.faceAtom, hy.1, hy.2])) (mvT hZ w6 (by first | rfl | decide | simp [Cond.onTables, Cond.keepsFace, Cond.keeps, Cond.steady, Cond.faceAtom, hy.1, hy.2])) (mvT hZ w7 (by first | rfl | decide | simp [Cond.onTables, Cond.keepsFace, Cond.keeps, Cond.steady, Cond.faceAtom, hy.1, hy.2])) (mvT hZ w8 (by first | rfl | decide | simp [Cond.onTables, Cond.keepsFace, Cond.keeps, Cond.steady, Cond.faceAtom, hy.1, hy.2])) hy (own_payN hnil hM b5 wc wz hf hl b7 b8.1 hS) qa qb qc (g := mkF m pc Ls st) rfl (by rw [hml]; exact hsz) (Steps.refl _) (argsL := argsL) (rest := rest) hlen hst hW' (hb hby hd) (fun _ _ => ⟨has, eT, hc, hs⟩)
    dsimp only [Pt.U, Pt.locs, Pt.cells, Pt.slots] at Y' l1 l2 l3 q1 q2 q3 stp
    subst l1 l2 l3
    exact og (fun _ q => stp.trans q) (K U U.heap v ⟨hx, hby, hml, rfl, hlk, vm0, _, Y', I.keep q2 hsv q1⟩ q2 q3)
  · obtain ⟨v, vm₁, ⟨U, L', k', n'⟩, -, Y', S', g', ⟨L, ⟨q1, q2, q3⟩, l1, l2, l3, C⟩, stp⟩ := Y.interfaceBackS hx (xi := y) (y := z) (show (s.setVm vm0).vm.findClass own = _ from b6) (mvT hZ w1 (by first | rfl | decide | simp [Cond.onTables, Cond.keepsFace, Cond.keeps, Cond.steady, Cond.faceAtom, hy.1, hy.2])) (mvT hZ w2 (by first | rfl | decide | simp [Cond.onTables, Cond.keepsFace, Cond.keeps, Cond.steady, Cond.faceAtom, hy.1, hy.2])) (mvT hZ w3 (by first | rfl | decide | simp [Cond.onTables, Cond.keepsFace, Cond.keeps, Cond.steady, Cond.faceAtom, hy.1, hy.2])) (mvT hZ w4 (by first | rfl | decide | simp [Cond.onTables, Cond.keepsFace, Cond.keeps, Cond.steady, Cond.faceAtom, hy.1, hy.2])) (mvT hZ w5 (by first | rfl | decide | simp [Cond.onTables, Cond.keepsFace, Cond.keeps, Cond.steady, Cond.faceAtom, hy.1, hy.2])) (mvT hZ w6 (by first | rfl | decide | simp [Cond.onTables, Cond.keepsFace, Cond.keeps, Cond.steady, Cond.faceAtom, hy.1, hy.2])) (mvT hZ w7 (by first | rfl | decide | simp [Cond.onTables, Cond.keepsFace, Cond.keeps, Cond.steady, Cond.faceAtom, hy.1, hy.2])) (mvT hZ w8 (by first | rfl | decide | simp [Cond.onTables, Cond.keepsFace, Cond.keeps, Cond.steady, Cond.faceAtom, hy.1, hy.2])) hy (own_payW hM b5 wc wz hf hl b7 b8.1 hS) qa qb qc (g := mkF m pc Ls st) rfl (by rw [hml]; exact hsz) (Steps.refl _) (argsL := argsL) (rest := rest) hlen hst hW' (hb hby hd) (fun _ _ => ⟨has, eT, hc, hs⟩)
    dsimp only [Pt.U, Pt.locs, Pt.cells, Pt.slots] at Y' l1 l2 l3 q1 q2 q3 stp S' g' C
    subst l1 l2 l3
    exact og (fun _ q => stp.trans q) (K U U.heap v ⟨hx, hby, hml, rfl, hlk, U.vm, _, Y', I.call q2 hsv q1 C S' (fun q => absurd q hnil)⟩ q2 q3)
theorem own_ldcO (X : OSt Z EL a0 n0 h0 ws own bytes mx p l e R s m args below meth c sv T h k n) (pc' : Nat) {index cap : Nat} {text : String} (hd : decode bytes pc = .ok (.ldc index, 2)) (hne : EL ≠ []) (w : (Cond.stringLink own index text).before a0 Z = true) (wS : ∀ a ∈ Bundle.stringAtoms, a.before a0 Z = true) (hcap : 4 * text.toList.length ≤ cap) (hbig : cap ≤ 536870912) (hc : k + 2 ≤ R.cells) (hl : n + (cap + 4) ≤ R.slots) (hq : pc' = pc + 2)
    (K : ∀ (T' : State) (h' : Heap) (a : Addr), OSt Z EL a0 n0 h0 ws own bytes mx p l e R s m args below meth c sv T' h' (k + 2) (n + (cap + 4)) → Keep h h' [] → OGo p.tables e below P T' (mkF m pc' Ls (.ref a :: st))) : OGo p.tables e below P T (mkF m pc Ls st) := by
  subst hq
  obtain ⟨hx, hby, hml, eT, hlk, vm0, locs, Y, I⟩ := X
  have I0 := I
  obtain ⟨b1, b2, b3, ⟨k0, b4, b4'⟩, b5, b6, b7, b8, b9, b10, b11⟩ := I0
  obtain ⟨a, T', h', k1, Y', e', E, S', hk', hZ', hown', C, -, stp⟩ := ldcOH Y hx b5 b6 w wS eT b4 b4' b7 b8.1 (g := mkF m pc Ls st) rfl (hb hby hd) hcap hbig hc hl
  have hZ' : Z.Warmed39 T'.vm := hZ'
  refine og stp (K T' h' a ⟨hx, hby, hml, e', hlk, T'.vm, locs, Y', b1, b2.ext E, b3.ext E, ⟨k1, S', hk'⟩, hZ', hown', b7, b8.trans C, fun q => absurd q hne, b10, fun x hx => ?_⟩ ((Keep.refl _ _).ext E))
  exact ⟨(b11 x hx).1, Nat.lt_of_lt_of_le (b11 x hx).2.1 E.1, (b11 x hx).2.2.1, C.safe (b11 x hx).2.1 (b11 x hx).2.2.2⟩
theorem own_ldcR (X : OSt Z EL a0 n0 h0 ws own bytes mx p l e R s m args below meth c sv T h k n) (pc' : Nat) {index cap : Nat} {text : String} {vs : List Value} {z : Int32} (hd : decode bytes pc = .ok (.ldc index, 2)) (hmem : (own, index) ∈ EL) (w : (Cond.stringLink own index text).before a0 Z = true) (wS : ∀ a ∈ Bundle.stringAtoms, a.before a0 Z = true) (ht : (∀ c ∈ text.toList, c.toNat < 256) ∧ text.toList.map (fun c => Value.int (Jvm.Lit.byteI c.toNat.toUInt16)) = vs) (hz : ¬ z < 0) (hlz : z.toNatClampNeg = vs.length) (hcap : 4 * text.toList.length ≤ cap) (hbig : cap ≤ 536870912) (hc : k + 2 ≤ R.cells) (hl : n + (cap + 4) ≤ R.slots) (hq : pc' = pc + 2)
    (K : ∀ (T' : State) (h' : Heap) (a b : Addr) (kb : ClassId), OSt Z EL a0 n0 h0 ws own bytes mx p l e R s m args below meth c sv T' h' (k + 2) (n + (cap + 4)) → Keep h h' [] → Exa Z h' a "java/lang/String" → Fld Z h' a "java/lang/String" "coder" "B" (.int 0) → Fld Z h' a "java/lang/String" "value" "[B" (.ref b) → Arv Z h' b kb .byte z vs (.int 0) → (∀ x ∈ sv, x ≠ a ∧ x ≠ b) → OGo p.tables e below P T' (mkF m pc' Ls (.ref a :: st))) : OGo p.tables e below P T (mkF m pc Ls st) := by
  subst hq
  obtain ⟨hx, hby, hml, eT, hlk, vm0, locs, Y, I⟩ := X
  have I0 := I
  obtain ⟨b1, b2, b3, ⟨k0, b4, b4'⟩, b5, b6, b7, b8, b9, b10, b11⟩ := I0
  obtain ⟨a, T', h', k1, b, kb, Y', e', E, S', hk', hZ', hown', r1, r2, r3, r4, r5, r6, C, -, far, stp⟩ := ldcCH Y hx b5 b6 w wS eT b4 b4' b7 hmem b8.1 ht hz hlz (g := mkF m pc Ls st) rfl (hb hby hd) hcap hbig hc hl
  have hZ' : Z.Warmed39 T'.vm := hZ'
  have sf : ∀ x ∈ sv, Safe Z EL T'.vm h' x := fun x hx => C.safe (b11 x hx).2.1 (b11 x hx).2.2.2
  refine og stp (K T' h' a b kb ⟨hx, hby, hml, e', hlk, T'.vm, locs, Y', b1, b2.ext E, b3.ext E, ⟨k1, S', hk'⟩, hZ', hown', b7, b8.trans C, fun q => ?_, b10, fun x hx => ?_⟩ ((Keep.refl _ _).ext E) r1 r2 r3 r4 fun x hx => far x (sf x hx))
  · rw [q] at hmem; cases hmem
  · exact ⟨(b11 x hx).1, Nat.lt_of_lt_of_le (b11 x hx).2.1 E.1, (b11 x hx).2.2.1, sf x hx⟩
theorem own_n0 (X : OSt Z EL a0 n0 h0 ws own bytes mx p l e R s m args below meth c sv T h k n) : n0 ≤ h.size := X.old.1 ▸ X.old.2.1
theorem own_svE (X : OSt Z EL a0 n0 h0 ws own bytes mx p l e R s m args below meth c sv T h k n) {r : Addr} {C : String} (E : Exa Z h r C) (h1 : C ≠ "java/lang/String") (h2 : C ≠ "[B") (hn : n0 ≤ r) (hg : h0.size ≤ r) : OSt Z EL a0 n0 h0 ws own bytes mx p l e R s m args below meth c (r :: sv) T h k n := by
  obtain ⟨a1, a2, a3, a4, a5, vm0, locs, Y, b1, b2, b3, b4, b5, b6, b7, b8, b9, b10, b11⟩ := X
  refine ⟨a1, a2, a3, a4, a5, vm0, locs, Y, b1, b2, b3, b4, b5, b6, b7, b8, b9, b10, fun x hx => ?_⟩
  rcases List.mem_cons.mp hx with rfl | hx
  · exact ⟨hn, E.lt, Or.inr hg, Safe.exa b5.alike E h1 h2⟩
  · exact b11 x hx
theorem own_svA (X : OSt Z EL a0 n0 h0 ws own bytes mx p l e R s m args below meth c sv T h k n) {r : Addr} {kb : ClassId} {ty : FieldType} {z : Int32} {vs : List Value} {dv : Value} (A : Arv Z h r kb ty z vs dv) (h1 : ty ≠ .byte) (hn : n0 ≤ r) (hg : h0.size ≤ r) : OSt Z EL a0 n0 h0 ws own bytes mx p l e R s m args below meth c (r :: sv) T h k n := by
  obtain ⟨a1, a2, a3, a4, a5, vm0, locs, Y, b1, b2, b3, b4, b5, b6, b7, b8, b9, b10, b11⟩ := X
  refine ⟨a1, a2, a3, a4, a5, vm0, locs, Y, b1, b2, b3, b4, b5, b6, b7, b8, b9, b10, fun x hx => ?_⟩
  rcases List.mem_cons.mp hx with rfl | hx
  · exact ⟨hn, A.lt, Or.inr hg, Safe.arv b5.alike A h1⟩
  · exact b11 x hx
def OFar (Z : State) (h : Heap) (B : Nat) (y : Addr) : Prop := B ≤ y ∨ ∃ (C : String) (kk : Nat) (a0 : Array Value), Exa Z h y C ∧ C ≠ "java/lang/String" ∧ (Jvm.Cond.instantiable C kk).before a0 Z = true
def OStr (Z : State) (h : Heap) (x : Addr) (cs : List Int32) (B : Nat) : Prop := ∃ (t : Addr) (kb : ClassId) (cd N : Int32) (vs : List Value), Exa Z h x "java/lang/String" ∧ Fld Z h x "java/lang/String" "coder" "B" (.int cd) ∧ Fld Z h x "java/lang/String" "value" "[B" (.ref t) ∧ Arv Z h t kb .byte N vs (.int 0) ∧ StrChars.Road.CodA cs cd N vs ∧ (∀ c ∈ cs, ¬ c < 0 ∧ ¬ (65535 : Int32) < c) ∧ cs.length ≤ 4000 ∧ x < B ∧ t < B
theorem OStr.exa {Z : State} {h : Heap} {x : Addr} {cs : List Int32} {B : Nat} (F : OStr Z h x cs B) : Exa Z h x "java/lang/String" := by obtain ⟨t, kb, cd, N, vs, r, -⟩ := F; exact r
theorem OStr.lt {Z : State} {h : Heap} {x : Addr} {cs : List Int32} {B : Nat} (F : OStr Z h x cs B) : x < h.size := F.exa.lt
theorem OStr.ltB {Z : State} {h : Heap} {x : Addr} {cs : List Int32} {B : Nat} (F : OStr Z h x cs B) : x < B := by obtain ⟨t, kb, cd, N, vs, -, -, -, -, -, -, -, r, -⟩ := F; exact r
theorem OStr.len {Z : State} {h : Heap} {x : Addr} {cs : List Int32} {B : Nat} (F : OStr Z h x cs B) : cs.length ≤ 4000 := by obtain ⟨t, kb, cd, N, vs, -, -, -, -, -, -, r, -, -⟩ := F; exact r
theorem OStr.top {Z : State} {h : Heap} {x : Addr} {cs : List Int32} {B : Nat} (F : OStr Z h x cs B) : OStr Z h x cs h.size := by
  obtain ⟨t, kb, cd, N, vs, r1, r2, r3, r4, r5, r6, r7, -, -⟩ := F
  exact ⟨t, kb, cd, N, vs, r1, r2, r3, r4, r5, r6, r7, r1.lt, r4.lt⟩
theorem OStr.keep {Z : State} {h h' : Heap} {x : Addr} {cs : List Int32} {B : Nat} {ws : List Addr} (F : OStr Z h x cs B) (K : Keep h h' ws) (q : ∀ y ∈ ws, OFar Z h B y) : OStr Z h' x cs B := by
  obtain ⟨t, kb, cd, N, vs, r1, r2, r3, r4, r5, r6, r7, r8, r9⟩ := F
  have nx : x ∉ ws := fun hx => by
    rcases q x hx with u | ⟨C, kk, a0, E, hC, -⟩
    · exact absurd r8 (Nat.not_lt.mpr u)
    · exact ne_exa r1 E (Ne.symm hC) rfl
  have nt : t ∉ ws := fun hx => by
    rcases q t hx with u | ⟨C, kk, a0, E, hC, wi⟩
    · exact absurd r9 (Nat.not_lt.mpr u)
    · obtain ⟨c, A, -⟩ := r4
      exact ne_arr E wi A rfl
  exact ⟨t, kb, cd, N, vs, r1.keep K, r2.keep K nx, r3.keep K nx, r4.keep K nt, r5, r6, r7, r8, r9⟩
theorem own_mkStr {Z : State} {h : Heap} {x t : Addr} {kb : ClassId} {cs bs : List Int32} {N : Int32} {n : Nat} (E : Exa Z h x "java/lang/String") (C : Fld Z h x "java/lang/String" "coder" "B" (.int 0)) (V : Fld Z h x "java/lang/String" "value" "[B" (.ref t)) (A : Arv Z h t kb .byte N (bs.map Value.int) (.int 0)) (hb : bs = cs.map (fun c => c.toInt8.toInt32)) (hp : ∀ c ∈ cs, ¬ c < 0 ∧ ¬ (255 : Int32) < c) (hn : cs.length = n) (hN : N = Int32.ofNat n) (hl : n ≤ 4000) : OStr Z h x cs h.size := by
  subst hn hN hb
  exact ⟨t, kb, 0, _, _, E, C, V, A, StrChars.Road.codOf rfl (fun c hc => (hp c hc).2), fun c hc => ⟨(hp c hc).1, own_up8 (hp c hc).2⟩, hl, E.lt, A.lt⟩
theorem own_strLen  (X : OSt Z EL a0 n0 h0 ws own bytes mx p l e R s m args below meth c sv T h k n) (pc' : Nat) {index W : Nat} {x : Addr} {cs : List Int32} {B1 : Nat} {z0 : Int32} {rest : List Value} (hd : decode bytes pc = .ok (.invokevirtual index, 3)) (S1 : OStr Z h x cs B1) (hwq : ∀ d ∈ StrChars.Road.wordsLen, d.before a0 Z = true) (wi : (Jvm.Cond.instantiable "java/lang/String" 4).before a0 Z = true) (hcs : Sta Z Z.heap "java/lang/String" "COMPACT_STRINGS" "Z" (.int z0)) (hz : ¬ z0 = 0)
    (w1 : (Jvm.Cond.methodLink own index (⟨"java/lang/String", "length", "()I"⟩ : MethodName)).before a0 Z = true) (w2 : (Jvm.Cond.declares (⟨"java/lang/String", "length", "()I"⟩ : MethodName)).before a0 Z = true) (w3 : (Jvm.Cond.selects "java/lang/String" (⟨"java/lang/String", "length", "()I"⟩ : MethodName) (⟨"java/lang/String", "length", "()I"⟩ : MethodName)).before a0 Z = true) (w4 : (Jvm.Cond.instanceMethod (⟨"java/lang/String", "length", "()I"⟩ : MethodName)).before a0 Z = true)
    (hsz : Ls.size = mx) (hW : (rest.map fun v => v.category).sum = W) (hfr : 2 ≤ R.frames) (hlo : W + 25 ≤ R.locals) (hc : k ≤ R.cells) (hs : n ≤ R.slots) (hq : pc' = pc + 3)
    (K : ∀ (T' : State), OSt Z EL a0 n0 h0 ws own bytes mx p l e R s m args below meth c sv T' h k n → OGo p.tables e below P T' (mkF m pc' Ls (.int (Int32.ofNat cs.length) :: rest))) : OGo p.tables e below P T (mkF m pc Ls (.ref x :: rest)) := by
  obtain ⟨t1, k1, cd1, N1, vs1, E1, C1, V1, A1, c1, b1, l1, -, -⟩ := S1
  have O1 := X.old
  have hpd : parseMethodDescriptor "()I" = some ⟨[], some .int⟩ := by decide +kernel
  refine own_virtB X pc' (a := x) (argsL := []) (rest := rest) (Q := fun v h' L => (v = some (.int (Int32.ofNat cs.length)) ∧ L = [] ∧ h' = h)) hd E1 (fun _ hZ => notFace_of_selects (args := #[]) (mvT hZ w3)) (fun vm0 hZ => StrChars.Road.lenW (W := W) hZ hwq (kI := 4) wi E1 V1 C1 A1 c1 b1 (hcs.ext O1.2) hz l1 hfr hlo) (ws' := []) (fun v h' L q => ⟨by obtain ⟨-, rfl, -⟩ := q; exact Fr.nil _, by obtain ⟨-, -, rfl⟩ := q; exact Keep.refl _ _⟩) w1 w2 w3 w4 (by decide) (lenOf hpd rfl) rfl rfl hsz hW hc hs all0 hq ?_
  rintro T' h' v L X' K' ⟨rfl, -, rfl⟩
  exact K T' X'
theorem own_svB (X : OSt Z EL a0 n0 h0 ws own bytes mx p l e R s m args below meth c sv T h k n) {r : Addr} {kb : ClassId} {z : Int32} {vs : List Value} {dv : Value} (A : Arv Z h r kb .byte z vs dv) (hT : ∀ q ∈ EL, ∃ text : String, (Cond.stringLink q.1 q.2 text).before a0 Z = true ∧ (∀ c ∈ text.toList, c.toNat < 256) ∧ text.toList.length ≠ z.toNatClampNeg) (hn : n0 ≤ r) (hg : h0.size ≤ r) : OSt Z EL a0 n0 h0 ws own bytes mx p l e R s m args below meth c (r :: sv) T h k n := by
  obtain ⟨a1, a2, a3, a4, a5, vm0, locs, Y, b1, b2, b3, b4, b5, b6, b7, b8, b9, b10, b11⟩ := X
  refine ⟨a1, a2, a3, a4, a5, vm0, locs, Y, b1, b2, b3, b4, b5, b6, b7, b8, b9, b10, fun x hx => ?_⟩
  rcases List.mem_cons.mp hx with rfl | hx
  · refine ⟨hn, A.lt, Or.inr hg, fun B => ?_⟩
    obtain ⟨cl, A1, -, S, -⟩ := A
    obtain ⟨A1, ⟨-, kA, hkA, compA, hkindA⟩, -⟩ := A1
    obtain ⟨kA', hkA', ekA⟩ := b5.alike.2.2 _ _ hkA
    obtain ⟨pr, hp, u, a, hbk, q, -, F, e1 | e1⟩ := B
    · subst e1
      cases (show h[q.sa]? = some q.sC from F.ha).symm.trans A1
      obtain ⟨cS, ⟨-, -, e2⟩, ⟨kS, g1, g2, -⟩, -⟩ := F
      subst e2
      cases (show vm0.classes[q.sC.cls]? = some kS from g1).symm.trans hkA'
      rw [ekA] at g2
      have := hkindA.symm.trans g2
      cases this
    · subst e1
      cases (show h[q.sd]? = some q.SA from F.hd).symm.trans A1
      obtain ⟨cS, -, -, -, hbyt⟩ := F
      obtain ⟨text, wl, ht, hne⟩ := hT pr hp
      obtain ⟨c', k', cf, i, hc', hk', hcf', hpool, hu, -⟩ := hbk
      have wl' : (Cond.stringLink pr.1 pr.2 text).before a0 (Wst Z vm0 h) = true := mvS (s := { Z with heap := h }) b5 wl
      obtain ⟨k2, cf0, i0, units0, hk, hcf, hp0, hu0, -, htext, -⟩ := Cond.stringLink_spec (s := Wst Z vm0 h) hc' wl'
      cases hk'.symm.trans hk
      cases hcf'.symm.trans hcf
      cases hpool.symm.trans hp0
      cases hu.symm.trans hu0
      have hlat := Jvm.ClassFile.lat_of_text htext ht
      have e3 := congrArg List.length (Jvm.ClassFile.units_of_text htext ht)
      have hsz : q.SA.slots.size = u.size := by rw [hbyt, Jvm.Free.SBG.stringBytes_lat hlat]; simp
      refine hne ?_
      rw [← S, hsz]
      simpa using e3.symm
  · exact b11 x hx
theorem own_txc {Z : State} {a0 : Array Value} {EL : List (String × Nat)} {own text : String} {index n : Nat} (w : (Cond.stringLink own index text).before a0 Z = true) (ht : ∀ c ∈ text.toList, c.toNat < 256) (hl : text.toList.length ≠ n) (E : ∀ q ∈ EL, ∃ text : String, (Cond.stringLink q.1 q.2 text).before a0 Z = true ∧ (∀ c ∈ text.toList, c.toNat < 256) ∧ text.toList.length ≠ n) : ∀ q ∈ (own, index) :: EL, ∃ text : String, (Cond.stringLink q.1 q.2 text).before a0 Z = true ∧ (∀ c ∈ text.toList, c.toNat < 256) ∧ text.toList.length ≠ n := fun q hq => by
  rcases List.mem_cons.mp hq with rfl | hq
  · exact ⟨text, w, ht, hl⟩
  · exact E q hq
theorem own_mkStrW {Z : State} {h : Heap} {x t : Addr} {kb : ClassId} {cs : List Int32} {N : Int32} {n : Nat} (E : Exa Z h x "java/lang/String") (C : Fld Z h x "java/lang/String" "coder" "B" (.int 1)) (V : Fld Z h x "java/lang/String" "value" "[B" (.ref t)) (A : Arv Z h t kb .byte N (StrChars.Road.wideBytes cs) (.int 0)) (hw : ∃ c ∈ cs, (255 : Int32) < c) (hp : ∀ c ∈ cs, ¬ c < 0 ∧ ¬ (65535 : Int32) < c) (hn : cs.length = n) (hN : N = Int32.ofNat (2 * n)) (hl : n ≤ 4000) : OStr Z h x cs h.size := by
  subst hn hN
  exact ⟨t, kb, 1, _, _, E, C, V, A, Or.inr ⟨rfl, rfl, rfl, hw⟩, hp, hl, E.lt, A.lt⟩
theorem own_l16 {cs : List Int32} {c : Int32} (h : ¬ c < 0 ∧ ¬ (65535 : Int32) < c) (q : ∀ c ∈ cs, ¬ c < 0 ∧ ¬ (65535 : Int32) < c) : ∀ d ∈ c :: cs, ¬ d < 0 ∧ ¬ (65535 : Int32) < d := fun d hd => by
  rcases List.mem_cons.mp hd with rfl | u
  · exact h
  · exact q d u
theorem own_oi {i : Nat} (h : i ≤ 8001) : (Int32.ofNat i).toInt = i := by
  exact Int32.toInt_ofNat_of_lt (by omega)
theorem own_onn {i : Nat} (h : i ≤ 8001) : ¬ Int32.ofNat i < 0 := by
  rw [Int32.lt_iff_toInt_lt, own_oi h, show (0 : Int32).toInt = 0 from rfl]; omega
theorem own_olt {i m : Nat} (h : i < m) (q : m ≤ 8001) : Int32.ofNat i < Int32.ofNat m := by
  rw [Int32.lt_iff_toInt_lt, own_oi q, own_oi (by omega)]; omega
theorem own_onl {i m : Nat} (h : m ≤ i) (q : i ≤ 8001) : ¬ Int32.ofNat i < Int32.ofNat m := by
  rw [Int32.lt_iff_toInt_lt, own_oi q, own_oi (by omega)]; omega
theorem own_oc {i : Nat} (h : i ≤ 8001) : (Int32.ofNat i).toNatClampNeg = i := by
  rw [Int32.toNatClampNeg, own_oi h]; rfl
theorem own_o1 (i : Nat) : Int32.ofNat i + 1 = Int32.ofNat (i + 1) := by
  rw [Int32.ofNat_add]; rfl
theorem own_shl1 {i : Nat} (h : i ≤ 4000) : Int32.ofNat i <<< ((1 : Int32) &&& 31) = Int32.ofNat (2 * i) := by
  have e : ((1 : Int32) &&& 31) = 1 := by decide
  rw [e]
  apply Int32.toBitVec_inj.mp
  rw [Int32.toBitVec_shiftLeft]
  have e1 : ((1 : Int32).toBitVec.smod 32) = 1#32 := by decide
  rw [e1]
  apply BitVec.eq_of_toNat_eq
  rw [BitVec.shiftLeft_eq', BitVec.toNat_shiftLeft]
  simp [Nat.shiftLeft_eq]
  omega
theorem own_shr1 {i : Nat} (h : i ≤ 4000) : Int32.ofNat (2 * i) >>> ((1 : Int32) &&& 31) = Int32.ofNat i := by
  have e : ((1 : Int32) &&& 31) = 1 := by decide
  rw [e]
  apply Int32.toBitVec_inj.mp
  rw [Int32.toBitVec_shiftRight]
  have e1 : ((1 : Int32).toBitVec.smod 32) = 1#32 := by decide
  rw [e1, BitVec.sshiftRight_eq']
  have hb : (Int32.ofNat (2 * i)).toBitVec.toNat = 2 * i := by simp; omega
  apply BitVec.eq_of_toNat_eq
  rw [BitVec.toNat_sshiftRight_of_msb_false (by rw [BitVec.msb_eq_false_iff_two_mul_lt, hb]; omega), hb]
  show (2 * i) >>> 1 = _
  simp [Nat.shiftRight_eq_div_pow]
  omega
theorem own_gm {cs : List Int32} {i : Nat} (h : i < cs.length) : cs.getD i 0 ∈ cs := by
  simp [List.getD_eq_getElem?_getD, h]
theorem own_loop {α : Type} (μ : α → Nat) (pc2 : Nat) (Ls2 : α → Array Slot) (ok : α → Heap → Prop) (wsL : List Addr) (X : OSt Z EL a0 n0 h0 ws own bytes mx p l e R s m args below meth c sv T h k n) (w0 : α) (q0 : ok w0 h) (J : ∀ w : α, (∀ w' : α, μ w' < μ w → ∀ (T' : State) (h' : Heap), OSt Z EL a0 n0 h0 ws own bytes mx p l e R s m args below meth c sv T' h' k n → Keep h h' wsL → ok w' h' → OGo p.tables e below P T' (mkF m pc2 (Ls2 w') [])) → ∀ (T' : State) (h' : Heap), OSt Z EL a0 n0 h0 ws own bytes mx p l e R s m args below meth c sv T' h' k n → Keep h h' wsL → ok w h' → OGo p.tables e below P T' (mkF m pc2 (Ls2 w) [])) : OGo p.tables e below P T (mkF m pc2 (Ls2 w0) []) := by
  have key : ∀ N : Nat, ∀ w : α, μ w < N → ∀ (T' : State) (h' : Heap), OSt Z EL a0 n0 h0 ws own bytes mx p l e R s m args below meth c sv T' h' k n → Keep h h' wsL → ok w h' → OGo p.tables e below P T' (mkF m pc2 (Ls2 w) []) := fun N => by
    induction N with
    | zero => intro w hw; exact absurd hw (Nat.not_lt_zero _)
    | succ N ih => intro w hw; exact J w fun w' hw' => ih w' (by omega)
  exact key (μ w0 + 1) w0 (Nat.lt_succ_self _) T h X (Keep.refl _ _) q0
theorem own_cut {α : Type} (X : OSt Z EL a0 n0 h0 ws own bytes mx p l e R s m args below meth c sv T h k n) (pc2 : Nat) (Ls2 : α → Array Slot) (st2 : α → List Value) (ok : α → Prop) (J : ∀ (T' : State) (h' : Heap), OSt Z EL a0 n0 h0 ws own bytes mx p l e R s m args below meth c sv T' h' k n → Keep h h' [] → ∀ w : α, ok w → OGo p.tables e below P T' (mkF m pc2 (Ls2 w) ((st2 w)))) (K : (∀ (T' : State) (h' : Heap), OSt Z EL a0 n0 h0 ws own bytes mx p l e R s m args below meth c sv T' h' k n → Keep h h' [] → ∀ w : α, ok w → OGo p.tables e below P T' (mkF m pc2 (Ls2 w) ((st2 w)))) → OGo p.tables e below P T (mkF m pc Ls st)) : OGo p.tables e below P T (mkF m pc Ls st) := K J
end OwnKit
theorem ow {Z : State} {a0 : Array Value} (hw : ∀ d ∈ tables_1, d.before a0 Z = true) (i : Nat) {d : Jvm.Cond} (h : tables_1[i]? = some d) : d.before a0 Z = true := hw d (List.mem_of_getElem? h)
theorem om {α : Type} {L : List α} {a : α} (i : Nat) (h : L[i]? = some a) : a ∈ L := List.mem_of_getElem? h
def own_EL : List (String × Nat) := consts_1
def OWorld (Z : State) (a0 : Array Value) : Prop := EW Z a0 own_EL ∧ (Sta Z Z.heap "java/lang/String" "COMPACT_STRINGS" "Z" (.int (own_sti Z "java/lang/String" "COMPACT_STRINGS" "Z")) ∧ ¬ (own_sti Z "java/lang/String" "COMPACT_STRINGS" "Z") = 0) ∧ (Sta Z Z.heap "jdk/internal/util/Preconditions" "SIOOBE_FORMATTER" "Ljava/util/function/BiFunction;" (own_stv Z "jdk/internal/util/Preconditions" "SIOOBE_FORMATTER" "Ljava/util/function/BiFunction;") ∧ (own_stv Z "jdk/internal/util/Preconditions" "SIOOBE_FORMATTER" "Ljava/util/function/BiFunction;").isRef = true) ∧ (Sta Z Z.heap "java/lang/StringUTF16" "$assertionsDisabled" "Z" (.int 1)) ∧ (Sta Z Z.heap "java/lang/StringUTF16" "HI_BYTE_SHIFT" "I" (.int 0)) ∧ (Sta Z Z.heap "java/lang/StringUTF16" "LO_BYTE_SHIFT" "I" (.int 8))
def own_eq1 (x y : Int32) : Int32 := if x = y then 1 else 0
def own_ws (x : Int32) : Int32 := if x = 32 then 1 else if x = 9 then 1 else 0
def own_wsb (x : Int32) : Bool := decide (x = 32) || decide (x = 9)
def own_skip (cs : List Int32) (i : Nat) : Nat := i + ((cs.drop i).takeWhile own_wsb).length
theorem own_w0 {x : Int32} (h : own_ws x = 0) : own_wsb x = false := by
  unfold own_ws at h; unfold own_wsb
  by_cases a : x = 32
  · rw [if_pos a] at h; exact absurd h (by decide)
  · by_cases b : x = 9
    · rw [if_neg a, if_pos b] at h; exact absurd h (by decide)
    · simp [a, b]
theorem own_w1 {x : Int32} (h : ¬ own_ws x = 0) : own_wsb x = true := by
  unfold own_ws at h; unfold own_wsb
  by_cases a : x = 32
  · simp [a]
  · by_cases b : x = 9
    · simp [b]
    · rw [if_neg a, if_neg b] at h; exact absurd rfl h
theorem own_drop {cs : List Int32} {i : Nat} (h : i < cs.length) : cs.drop i = cs.getD i 0 :: cs.drop (i + 1) := by
  rw [List.drop_eq_getElem_cons h]; simp [List.getD_eq_getElem?_getD, h]
theorem own_skip_end {cs : List Int32} {i : Nat} (h : ¬ i < cs.length) : own_skip cs i = i := by
  rw [own_skip, List.drop_eq_nil_of_le (by omega)]; rfl
theorem own_skip_stop {cs : List Int32} {i : Nat} (h : i < cs.length) (a : ¬ cs.getD i 0 = 32) (b : ¬ cs.getD i 0 = 9) : own_skip cs i = i := by
  rw [own_skip, own_drop h, List.takeWhile_cons_of_neg (by unfold own_wsb; rw [decide_eq_false a, decide_eq_false b]; decide)]; rfl
theorem own_skip_step {cs : List Int32} {i : Nat} (h : i < cs.length) (a : cs.getD i 0 = 32 ∨ cs.getD i 0 = 9) : own_skip cs i = own_skip cs (i + 1) := by
  rw [own_skip, own_drop h, List.takeWhile_cons_of_pos (by rcases a with a | a <;> simp only [own_wsb, a] <;> decide), own_skip, List.length_cons]; omega
theorem own_mod5 (x : Int32) : XT.ushr x 1 % 5 = 0 ∨ XT.ushr x 1 % 5 = 1 ∨ XT.ushr x 1 % 5 = 2 ∨ XT.ushr x 1 % 5 = 3 ∨ XT.ushr x 1 % 5 = 4 := by
  have a := own_N_lt x
  have b : own_N (XT.ushr x 1) = own_N x / 2 := own_N_ushr 1 rfl (by decide)
  have c : (XT.ushr x 1).toInt = own_N (XT.ushr x 1) := by
    have e : (XT.ushr x 1).toInt = (XT.ushr x 1).toBitVec.toInt := rfl
    rw [e, BitVec.toInt_eq_toNat_cond, if_pos (by show 2 * own_N (XT.ushr x 1) < _; omega)]; rfl
  have d : (XT.ushr x 1 % 5).toInt = (XT.ushr x 1).toInt.tmod 5 := by rw [Int32.toInt_mod]; rfl
  have e : (XT.ushr x 1 % 5).toInt = ((own_N (XT.ushr x 1) % 5 : Nat) : Int) := by rw [d, c]; rfl
  have f : own_N (XT.ushr x 1) % 5 = 0 ∨ own_N (XT.ushr x 1) % 5 = 1 ∨ own_N (XT.ushr x 1) % 5 = 2 ∨ own_N (XT.ushr x 1) % 5 = 3 ∨ own_N (XT.ushr x 1) % 5 = 4 := by omega
  simp only [← Int32.toInt_inj]
  rcases f with f | f | f | f | f <;> rw [e, f] <;> simp
theorem ef_rm_emp4 (a : Addr) (b : Addr) (y : Value) (z : Int32) (m : MethodId) : entryFrame m #[(.ref a), (.ref b), (.int 0), (.int 0), .null] 6 = mkF m 0 #[.val (.ref a), .val (.ref b), .val (.int 0), .val (.int 0), .val .null, .unset] [] := by first | (simp [entryFrame, mkF, argsToLocals, Value.category, maxLocals]; done) | rfl
theorem pn_java_lang_String__init____CIILjava_lang_Void__V : plainFor (⟨"java/lang/String", "<init>", "([CIILjava/lang/Void;)V"⟩ : MethodName) = true := by first | exact plainFor_of_name (by first | (simp [plainName, overriddenIn]; done) | decide +kernel) | decide +kernel
theorem d3_0 : decode jdk_42_method_149_code 0 = .ok (.aload_n 0, 1) := by decide +kernel
theorem d3_1 : decode jdk_42_method_149_code 1 = .ok (.invokespecial 1, 3) := by decide +kernel
theorem d3_4 : decode jdk_42_method_149_code 4 = .ok (.iload_n 3, 1) := by decide +kernel
theorem d3_5 : decode jdk_42_method_149_code 5 = .ok (.ifCond .ne 22, 3) := by decide +kernel
theorem d3_8 : decode jdk_42_method_149_code 8 = .ok (.aload_n 0, 1) := by decide +kernel
theorem d3_9 : decode jdk_42_method_149_code 9 = .ok (.ldc 7, 2) := by decide +kernel
theorem own_wS {Z : State} {a0 : Array Value} (hw : ∀ d ∈ tables_1, d.before a0 Z = true) : ∀ d ∈ Bundle.stringAtoms, d.before a0 Z = true := fun d hd => hw d ((by decide +kernel : ∀ d ∈ Bundle.stringAtoms, d ∈ tables_1) d hd)
theorem d3_11 : decode jdk_42_method_149_code 11 = .ok (.getfield 9, 3) := by decide +kernel
theorem d3_14 : decode jdk_42_method_149_code 14 = .ok (.putfield 9, 3) := by decide +kernel
theorem d3_17 : decode jdk_42_method_149_code 17 = .ok (.aload_n 0, 1) := by decide +kernel
theorem d3_18 : decode jdk_42_method_149_code 18 = .ok (.ldc 7, 2) := by decide +kernel
theorem d3_20 : decode jdk_42_method_149_code 20 = .ok (.getfield 15, 3) := by decide +kernel
theorem d3_23 : decode jdk_42_method_149_code 23 = .ok (.putfield 15, 3) := by decide +kernel
theorem d3_26 : decode jdk_42_method_149_code 26 = .ok (.return_, 1) := by decide +kernel
theorem ef_rm_emp1 (a : Addr) (b : Addr) (y : Value) (z : Int32) (kb : ClassId) (m : MethodId) : entryFrame m #[(.ref a), (.ref b)] 2 = mkF m 0 #[.val (.ref a), .val (.ref b)] [] := by first | (simp [entryFrame, mkF, argsToLocals, Value.category, maxLocals]; done) | rfl
theorem pn_java_lang_String__init____C_V : plainFor (⟨"java/lang/String", "<init>", "([C)V"⟩ : MethodName) = true := by first | exact plainFor_of_name (by first | (simp [plainName, overriddenIn]; done) | decide +kernel) | decide +kernel
theorem d2_0 : decode jdk_42_method_3_code 0 = .ok (.aload_n 0, 1) := by decide +kernel
theorem d2_1 : decode jdk_42_method_3_code 1 = .ok (.aload_n 1, 1) := by decide +kernel
theorem d2_2 : decode jdk_42_method_3_code 2 = .ok (.iconst 0, 1) := by decide +kernel
theorem d2_3 : decode jdk_42_method_3_code 3 = .ok (.aload_n 1, 1) := by decide +kernel
theorem d2_4 : decode jdk_42_method_3_code 4 = .ok (.arraylength, 1) := by decide +kernel
theorem d2_5 : decode jdk_42_method_3_code 5 = .ok (.aconst_null, 1) := by decide +kernel
theorem d2_6 : decode jdk_42_method_3_code 6 = .ok (.invokespecial 27, 3) := by decide +kernel
theorem pd__28_5bCIILjava_2flang_2fVoid_3b_29V : parseMethodDescriptor "([CIILjava/lang/Void;)V" = some ⟨[(.array .char), .int, .int, (.object "java/lang/Void")], none⟩ := by decide +kernel
theorem d2_9 : decode jdk_42_method_3_code 9 = .ok (.return_, 1) := by decide +kernel
theorem ef_ru_pci (x : Int32) (y : Int32) (fm : Value) (h_fm : fm.isRef = true) (m : MethodId) : entryFrame m #[(.int x), (.int y), fm] 3 = mkF m 0 #[.val (.int x), .val (.int y), .val fm] [] := by simp [entryFrame, mkF, argsToLocals, XT.cat1 h_fm, show (Value.int x).category = 1 from rfl, show (Value.int y).category = 1 from rfl]
theorem pn_jdk_internal_util_Preconditions_checkIndex__IILjava_util_function_BiFunction__I : plainFor (⟨"jdk/internal/util/Preconditions", "checkIndex", "(IILjava/util/function/BiFunction;)I"⟩ : MethodName) = true := by first | exact plainFor_of_name (by first | (simp [plainName, overriddenIn]; done) | decide +kernel) | decide +kernel
theorem d18_0 : decode jdk_41_method_11_code 0 = .ok (.iload_n 0, 1) := by decide +kernel
theorem d18_1 : decode jdk_41_method_11_code 1 = .ok (.ifCond .lt 8, 3) := by decide +kernel
theorem d18_4 : decode jdk_41_method_11_code 4 = .ok (.iload_n 0, 1) := by decide +kernel
theorem d18_5 : decode jdk_41_method_11_code 5 = .ok (.iload_n 1, 1) := by decide +kernel
theorem d18_6 : decode jdk_41_method_11_code 6 = .ok (.if_icmp .lt 10, 3) := by decide +kernel
theorem d18_16 : decode jdk_41_method_11_code 16 = .ok (.iload_n 0, 1) := by decide +kernel
theorem d18_17 : decode jdk_41_method_11_code 17 = .ok (.ireturn, 1) := by decide +kernel
theorem ef_ru_sci (x : Int32) (y : Int32) (m : MethodId) : entryFrame m #[(.int x), (.int y)] 2 = mkF m 0 #[.val (.int x), .val (.int y)] [] := by first | (simp [entryFrame, mkF, argsToLocals, Value.category, maxLocals]; done) | rfl
theorem pn_java_lang_String_checkIndex__II_V : plainFor (⟨"java/lang/String", "checkIndex", "(II)V"⟩ : MethodName) = true := by first | exact plainFor_of_name (by first | (simp [plainName, overriddenIn]; done) | decide +kernel) | decide +kernel
theorem d17_0 : decode jdk_42_method_155_code 0 = .ok (.iload_n 0, 1) := by decide +kernel
theorem d17_1 : decode jdk_42_method_155_code 1 = .ok (.iload_n 1, 1) := by decide +kernel
theorem d17_2 : decode jdk_42_method_155_code 2 = .ok (.getstatic 1053, 3) := by decide +kernel
theorem d17_5 : decode jdk_42_method_155_code 5 = .ok (.invokestatic 1059, 3) := by decide +kernel
theorem pd__28IILjava_2futil_2ffunction_2fBiFunction_3b_29I : parseMethodDescriptor "(IILjava/util/function/BiFunction;)I" = some ⟨[.int, .int, (.object "java/util/function/BiFunction")], some .int⟩ := by decide +kernel
theorem d17_8 : decode jdk_42_method_155_code 8 = .ok (.pop, 1) := by decide +kernel
theorem d17_9 : decode jdk_42_method_155_code 9 = .ok (.return_, 1) := by decide +kernel
theorem ef_ru_isl0 (a : Addr) (m : MethodId) : entryFrame m #[(.ref a)] 1 = mkF m 0 #[.val (.ref a)] [] := by first | (simp [entryFrame, mkF, argsToLocals, Value.category, maxLocals]; done) | rfl
theorem pn_java_lang_String_isLatin1___Z : plainFor (⟨"java/lang/String", "isLatin1", "()Z"⟩ : MethodName) = true := by first | exact plainFor_of_name (by first | (simp [plainName, overriddenIn]; done) | decide +kernel) | decide +kernel
theorem d15_0 : decode jdk_42_method_154_code 0 = .ok (.getstatic 38, 3) := by decide +kernel
theorem d15_3 : decode jdk_42_method_154_code 3 = .ok (.ifCond .eq 14, 3) := by decide +kernel
theorem d15_6 : decode jdk_42_method_154_code 6 = .ok (.aload_n 0, 1) := by decide +kernel
theorem d15_7 : decode jdk_42_method_154_code 7 = .ok (.getfield 15, 3) := by decide +kernel
theorem d15_10 : decode jdk_42_method_154_code 10 = .ok (.ifCond .ne 7, 3) := by decide +kernel
theorem d15_13 : decode jdk_42_method_154_code 13 = .ok (.iconst 1, 1) := by decide +kernel
theorem d15_14 : decode jdk_42_method_154_code 14 = .ok (.goto 4, 3) := by decide +kernel
theorem d15_18 : decode jdk_42_method_154_code 18 = .ok (.ireturn, 1) := by decide +kernel
theorem ef_ru_isl1 (a : Addr) (m : MethodId) : entryFrame m #[(.ref a)] 1 = mkF m 0 #[.val (.ref a)] [] := by first | (simp [entryFrame, mkF, argsToLocals, Value.category, maxLocals]; done) | rfl
theorem d15_17 : decode jdk_42_method_154_code 17 = .ok (.iconst 0, 1) := by decide +kernel
theorem ef_rg_len (b : Addr) (kb : ClassId) (cs : List Int32) (m : MethodId) : entryFrame m #[(.ref b)] 1 = mkF m 0 #[.val (.ref b)] [] := by first | (simp [entryFrame, mkF, argsToLocals, Value.category, maxLocals]; done) | rfl
theorem pn_java_lang_StringUTF16_length___B_I : plainFor (⟨"java/lang/StringUTF16", "length", "([B)I"⟩ : MethodName) = true := by first | exact plainFor_of_name (by first | (simp [plainName, overriddenIn]; done) | decide +kernel) | decide +kernel
theorem d27_0 : decode jdk_52_method_6_code 0 = .ok (.aload_n 0, 1) := by decide +kernel
theorem d27_1 : decode jdk_52_method_6_code 1 = .ok (.arraylength, 1) := by decide +kernel
theorem d27_2 : decode jdk_52_method_6_code 2 = .ok (.iconst 1, 1) := by decide +kernel
theorem d27_3 : decode jdk_52_method_6_code 3 = .ok (.ishr, 1) := by decide +kernel
theorem d27_4 : decode jdk_52_method_6_code 4 = .ok (.ireturn, 1) := by decide +kernel
theorem ef_rg_uci (b : Addr) (kb : ClassId) (cs : List Int32) (i : Nat) (m : MethodId) : entryFrame m #[(.int (Int32.ofNat i)), (.ref b)] 2 = mkF m 0 #[.val (.int (Int32.ofNat i)), .val (.ref b)] [] := by first | (simp [entryFrame, mkF, argsToLocals, Value.category, maxLocals]; done) | rfl
theorem pn_java_lang_StringUTF16_checkIndex__I_B_V : plainFor (⟨"java/lang/StringUTF16", "checkIndex", "(I[B)V"⟩ : MethodName) = true := by first | exact plainFor_of_name (by first | (simp [plainName, overriddenIn]; done) | decide +kernel) | decide +kernel
theorem d26_0 : decode jdk_52_method_91_code 0 = .ok (.iload_n 0, 1) := by decide +kernel
theorem d26_1 : decode jdk_52_method_91_code 1 = .ok (.aload_n 1, 1) := by decide +kernel
theorem d26_2 : decode jdk_52_method_91_code 2 = .ok (.invokestatic 48, 3) := by decide +kernel
theorem pd__28_5bB_29I : parseMethodDescriptor "([B)I" = some ⟨[(.array .byte)], some .int⟩ := by decide +kernel
theorem d26_5 : decode jdk_52_method_91_code 5 = .ok (.invokestatic 414, 3) := by decide +kernel
theorem pd__28II_29V : parseMethodDescriptor "(II)V" = some ⟨[.int, .int], none⟩ := by decide +kernel
theorem d26_8 : decode jdk_52_method_91_code 8 = .ok (.return_, 1) := by decide +kernel
theorem ef_rg_get (b : Addr) (kb : ClassId) (cs : List Int32) (i : Nat) (m : MethodId) : entryFrame m #[(.ref b), (.int (Int32.ofNat i))] 2 = mkF m 0 #[.val (.ref b), .val (.int (Int32.ofNat i))] [] := by first | (simp [entryFrame, mkF, argsToLocals, Value.category, maxLocals]; done) | rfl
theorem pn_java_lang_StringUTF16_getChar___BI_C : plainFor (⟨"java/lang/StringUTF16", "getChar", "([BI)C"⟩ : MethodName) = true := by first | exact plainFor_of_name (by first | (simp [plainName, overriddenIn]; done) | decide +kernel) | decide +kernel
theorem d24_0 : decode jdk_52_method_5_code 0 = .ok (.getstatic 44, 3) := by decide +kernel
theorem d24_3 : decode jdk_52_method_5_code 3 = .ok (.ifCond .ne 25, 3) := by decide +kernel
theorem d24_28 : decode jdk_52_method_5_code 28 = .ok (.iload_n 1, 1) := by decide +kernel
theorem d24_29 : decode jdk_52_method_5_code 29 = .ok (.iconst 1, 1) := by decide +kernel
theorem d24_30 : decode jdk_52_method_5_code 30 = .ok (.ishl, 1) := by decide +kernel
theorem d24_31 : decode jdk_52_method_5_code 31 = .ok (.istore_n 1, 1) := by decide +kernel
theorem d24_32 : decode jdk_52_method_5_code 32 = .ok (.aload_n 0, 1) := by decide +kernel
theorem d24_33 : decode jdk_52_method_5_code 33 = .ok (.iload_n 1, 1) := by decide +kernel
theorem d24_34 : decode jdk_52_method_5_code 34 = .ok (.iinc 1 1, 3) := by decide +kernel
theorem d24_37 : decode jdk_52_method_5_code 37 = .ok (.baload, 1) := by decide +kernel
theorem d24_38 : decode jdk_52_method_5_code 38 = .ok (.sipush 255, 3) := by decide +kernel
theorem d24_41 : decode jdk_52_method_5_code 41 = .ok (.iand, 1) := by decide +kernel
theorem d24_42 : decode jdk_52_method_5_code 42 = .ok (.getstatic 59, 3) := by decide +kernel
theorem d24_45 : decode jdk_52_method_5_code 45 = .ok (.ishl, 1) := by decide +kernel
theorem d24_46 : decode jdk_52_method_5_code 46 = .ok (.aload_n 0, 1) := by decide +kernel
theorem d24_47 : decode jdk_52_method_5_code 47 = .ok (.iload_n 1, 1) := by decide +kernel
theorem d24_48 : decode jdk_52_method_5_code 48 = .ok (.baload, 1) := by decide +kernel
theorem d24_49 : decode jdk_52_method_5_code 49 = .ok (.sipush 255, 3) := by decide +kernel
theorem d24_52 : decode jdk_52_method_5_code 52 = .ok (.iand, 1) := by decide +kernel
theorem d24_53 : decode jdk_52_method_5_code 53 = .ok (.getstatic 63, 3) := by decide +kernel
theorem d24_56 : decode jdk_52_method_5_code 56 = .ok (.ishl, 1) := by decide +kernel
theorem d24_57 : decode jdk_52_method_5_code 57 = .ok (.ior, 1) := by decide +kernel
theorem d24_58 : decode jdk_52_method_5_code 58 = .ok (.i2c, 1) := by decide +kernel
theorem d24_59 : decode jdk_52_method_5_code 59 = .ok (.ireturn, 1) := by decide +kernel
theorem ef_rg_uca (b : Addr) (kb : ClassId) (cs : List Int32) (i : Nat) (m : MethodId) : entryFrame m #[(.ref b), (.int (Int32.ofNat i))] 2 = mkF m 0 #[.val (.ref b), .val (.int (Int32.ofNat i))] [] := by first | (simp [entryFrame, mkF, argsToLocals, Value.category, maxLocals]; done) | rfl
theorem pn_java_lang_StringUTF16_charAt___BI_C : plainFor (⟨"java/lang/StringUTF16", "charAt", "([BI)C"⟩ : MethodName) = true := by first | exact plainFor_of_name (by first | (simp [plainName, overriddenIn]; done) | decide +kernel) | decide +kernel
theorem d25_0 : decode jdk_52_method_83_code 0 = .ok (.iload_n 1, 1) := by decide +kernel
theorem d25_1 : decode jdk_52_method_83_code 1 = .ok (.aload_n 0, 1) := by decide +kernel
theorem d25_2 : decode jdk_52_method_83_code 2 = .ok (.invokestatic 67, 3) := by decide +kernel
theorem pd__28I_5bB_29V : parseMethodDescriptor "(I[B)V" = some ⟨[.int, (.array .byte)], none⟩ := by decide +kernel
theorem d25_5 : decode jdk_52_method_83_code 5 = .ok (.aload_n 0, 1) := by decide +kernel
theorem d25_6 : decode jdk_52_method_83_code 6 = .ok (.iload_n 1, 1) := by decide +kernel
theorem d25_7 : decode jdk_52_method_83_code 7 = .ok (.invokestatic 71, 3) := by decide +kernel
theorem pd__28_5bBI_29C : parseMethodDescriptor "([BI)C" = some ⟨[(.array .byte), .int], some .char⟩ := by decide +kernel
theorem d25_10 : decode jdk_52_method_83_code 10 = .ok (.ireturn, 1) := by decide +kernel
theorem ef_rg_lca (b : Addr) (kb : ClassId) (cs : List Int32) (i : Nat) (m : MethodId) : entryFrame m #[(.ref b), (.int (Int32.ofNat i))] 2 = mkF m 0 #[.val (.ref b), .val (.int (Int32.ofNat i))] [] := by first | (simp [entryFrame, mkF, argsToLocals, Value.category, maxLocals]; done) | rfl
theorem pn_java_lang_StringLatin1_charAt___BI_C : plainFor (⟨"java/lang/StringLatin1", "charAt", "([BI)C"⟩ : MethodName) = true := by first | exact plainFor_of_name (by first | (simp [plainName, overriddenIn]; done) | decide +kernel) | decide +kernel
theorem d16_0 : decode jdk_43_method_2_code 0 = .ok (.iload_n 1, 1) := by decide +kernel
theorem d16_1 : decode jdk_43_method_2_code 1 = .ok (.aload_n 0, 1) := by decide +kernel
theorem d16_2 : decode jdk_43_method_2_code 2 = .ok (.arraylength, 1) := by decide +kernel
theorem d16_3 : decode jdk_43_method_2_code 3 = .ok (.invokestatic 9, 3) := by decide +kernel
theorem d16_6 : decode jdk_43_method_2_code 6 = .ok (.aload_n 0, 1) := by decide +kernel
theorem d16_7 : decode jdk_43_method_2_code 7 = .ok (.iload_n 1, 1) := by decide +kernel
theorem d16_8 : decode jdk_43_method_2_code 8 = .ok (.baload, 1) := by decide +kernel
theorem d16_9 : decode jdk_43_method_2_code 9 = .ok (.sipush 255, 3) := by decide +kernel
theorem d16_12 : decode jdk_43_method_2_code 12 = .ok (.iand, 1) := by decide +kernel
theorem d16_13 : decode jdk_43_method_2_code 13 = .ok (.i2c, 1) := by decide +kernel
theorem d16_14 : decode jdk_43_method_2_code 14 = .ok (.ireturn, 1) := by decide +kernel
theorem ef_rg_ch (a : Addr) (cs : List Int32) (i : Nat) (m : MethodId) : entryFrame m #[(.ref a), (.int (Int32.ofNat i))] 2 = mkF m 0 #[.val (.ref a), .val (.int (Int32.ofNat i))] [] := by first | (simp [entryFrame, mkF, argsToLocals, Value.category, maxLocals]; done) | rfl
theorem pn_java_lang_String_charAt__I_C : plainFor (⟨"java/lang/String", "charAt", "(I)C"⟩ : MethodName) = true := by first | exact plainFor_of_name (by first | (simp [plainName, overriddenIn]; done) | decide +kernel) | decide +kernel
theorem d14_0 : decode jdk_42_method_56_code 0 = .ok (.aload_n 0, 1) := by decide +kernel
theorem d14_1 : decode jdk_42_method_56_code 1 = .ok (.invokevirtual 492, 3) := by decide +kernel
theorem pd__28_29Z : parseMethodDescriptor "()Z" = some ⟨[], some .boolean⟩ := by decide +kernel
theorem d14_4 : decode jdk_42_method_56_code 4 = .ok (.ifCond .eq 12, 3) := by decide +kernel
theorem d14_7 : decode jdk_42_method_56_code 7 = .ok (.aload_n 0, 1) := by decide +kernel
theorem d14_8 : decode jdk_42_method_56_code 8 = .ok (.getfield 9, 3) := by decide +kernel
theorem d14_11 : decode jdk_42_method_56_code 11 = .ok (.iload_n 1, 1) := by decide +kernel
theorem d14_12 : decode jdk_42_method_56_code 12 = .ok (.invokestatic 495, 3) := by decide +kernel
theorem d14_15 : decode jdk_42_method_56_code 15 = .ok (.ireturn, 1) := by decide +kernel
theorem d14_16 : decode jdk_42_method_56_code 16 = .ok (.aload_n 0, 1) := by decide +kernel
theorem d14_17 : decode jdk_42_method_56_code 17 = .ok (.getfield 9, 3) := by decide +kernel
theorem d14_20 : decode jdk_42_method_56_code 20 = .ok (.iload_n 1, 1) := by decide +kernel
theorem d14_21 : decode jdk_42_method_56_code 21 = .ok (.invokestatic 498, 3) := by decide +kernel
theorem d14_24 : decode jdk_42_method_56_code 24 = .ok (.ireturn, 1) := by decide +kernel
theorem ef_ru_nbl1 (m : MethodId) : entryFrame m #[(.int 1)] 1 = mkF m 0 #[.val (.int 1)] [] := by first | (simp [entryFrame, mkF, argsToLocals, Value.category, maxLocals]; done) | rfl
theorem pn_java_lang_StringUTF16_newBytesLength__I_I : plainFor (⟨"java/lang/StringUTF16", "newBytesLength", "(I)I"⟩ : MethodName) = true := by first | exact plainFor_of_name (by first | (simp [plainName, overriddenIn]; done) | decide +kernel) | decide +kernel
theorem d22_0 : decode jdk_52_method_3_code 0 = .ok (.iload_n 0, 1) := by decide +kernel
theorem d22_1 : decode jdk_52_method_3_code 1 = .ok (.ifCond .ge 11, 3) := by decide +kernel
theorem d22_12 : decode jdk_52_method_3_code 12 = .ok (.iload_n 0, 1) := by decide +kernel
theorem d22_13 : decode jdk_52_method_3_code 13 = .ok (.ldc 20, 2) := by decide +kernel
theorem d22_15 : decode jdk_52_method_3_code 15 = .ok (.if_icmp .lt 40, 3) := by decide +kernel
theorem d22_55 : decode jdk_52_method_3_code 55 = .ok (.iload_n 0, 1) := by decide +kernel
theorem d22_56 : decode jdk_52_method_3_code 56 = .ok (.iconst 1, 1) := by decide +kernel
theorem d22_57 : decode jdk_52_method_3_code 57 = .ok (.ishl, 1) := by decide +kernel
theorem d22_58 : decode jdk_52_method_3_code 58 = .ok (.ireturn, 1) := by decide +kernel
theorem ef_ru_nbf1 (m : MethodId) : entryFrame m #[(.int 1)] 1 = mkF m 0 #[.val (.int 1)] [] := by first | (simp [entryFrame, mkF, argsToLocals, Value.category, maxLocals]; done) | rfl
theorem pn_java_lang_StringUTF16_newBytesFor__I__B : plainFor (⟨"java/lang/StringUTF16", "newBytesFor", "(I)[B"⟩ : MethodName) = true := by first | exact plainFor_of_name (by first | (simp [plainName, overriddenIn]; done) | decide +kernel) | decide +kernel
theorem d21_0 : decode jdk_52_method_2_code 0 = .ok (.iload_n 0, 1) := by decide +kernel
theorem d21_1 : decode jdk_52_method_2_code 1 = .ok (.invokestatic 11, 3) := by decide +kernel
theorem pd__28I_29I : parseMethodDescriptor "(I)I" = some ⟨[.int], some .int⟩ := by decide +kernel
theorem d21_4 : decode jdk_52_method_2_code 4 = .ok (.newarray .byte, 2) := by decide +kernel
theorem d21_6 : decode jdk_52_method_2_code 6 = .ok (.areturn, 1) := by decide +kernel
theorem ef_ru_put1_0 (b : Addr) (kb : ClassId) (x : Int32) (dv : Value) (e0 : Value) (e1 : Value) (m : MethodId) : entryFrame m #[(.ref b), (.int 0), (.int x)] 3 = mkF m 0 #[.val (.ref b), .val (.int 0), .val (.int x)] [] := by first | (simp [entryFrame, mkF, argsToLocals, Value.category, maxLocals]; done) | rfl
theorem pn_java_lang_StringUTF16_putChar___BII_V : plainFor (⟨"java/lang/StringUTF16", "putChar", "([BII)V"⟩ : MethodName) = true := by first | exact plainFor_of_name (by first | (simp [plainName, overriddenIn]; done) | decide +kernel) | decide +kernel
theorem d23_0 : decode jdk_52_method_4_code 0 = .ok (.getstatic 44, 3) := by decide +kernel
theorem d23_3 : decode jdk_52_method_4_code 3 = .ok (.ifCond .ne 25, 3) := by decide +kernel
theorem d23_28 : decode jdk_52_method_4_code 28 = .ok (.iload_n 1, 1) := by decide +kernel
theorem d23_29 : decode jdk_52_method_4_code 29 = .ok (.iconst 1, 1) := by decide +kernel
theorem d23_30 : decode jdk_52_method_4_code 30 = .ok (.ishl, 1) := by decide +kernel
theorem d23_31 : decode jdk_52_method_4_code 31 = .ok (.istore_n 1, 1) := by decide +kernel
theorem d23_32 : decode jdk_52_method_4_code 32 = .ok (.aload_n 0, 1) := by decide +kernel
theorem d23_33 : decode jdk_52_method_4_code 33 = .ok (.iload_n 1, 1) := by decide +kernel
theorem d23_34 : decode jdk_52_method_4_code 34 = .ok (.iinc 1 1, 3) := by decide +kernel
theorem d23_37 : decode jdk_52_method_4_code 37 = .ok (.iload_n 2, 1) := by decide +kernel
theorem d23_38 : decode jdk_52_method_4_code 38 = .ok (.getstatic 59, 3) := by decide +kernel
theorem d23_41 : decode jdk_52_method_4_code 41 = .ok (.ishr, 1) := by decide +kernel
theorem d23_42 : decode jdk_52_method_4_code 42 = .ok (.i2b, 1) := by decide +kernel
theorem d23_43 : decode jdk_52_method_4_code 43 = .ok (.bastore, 1) := by decide +kernel
theorem d23_44 : decode jdk_52_method_4_code 44 = .ok (.aload_n 0, 1) := by decide +kernel
theorem d23_45 : decode jdk_52_method_4_code 45 = .ok (.iload_n 1, 1) := by decide +kernel
theorem d23_46 : decode jdk_52_method_4_code 46 = .ok (.iload_n 2, 1) := by decide +kernel
theorem d23_47 : decode jdk_52_method_4_code 47 = .ok (.getstatic 63, 3) := by decide +kernel
theorem d23_50 : decode jdk_52_method_4_code 50 = .ok (.ishr, 1) := by decide +kernel
theorem d23_51 : decode jdk_52_method_4_code 51 = .ok (.i2b, 1) := by decide +kernel
theorem d23_52 : decode jdk_52_method_4_code 52 = .ok (.bastore, 1) := by decide +kernel
theorem d23_53 : decode jdk_52_method_4_code 53 = .ok (.return_, 1) := by decide +kernel
theorem ef_ru_tob1 (b : Addr) (kb : ClassId) (dv : Value) (x0 : Int32) (m : MethodId) : entryFrame m #[(.ref b), (.int 0), (.int 1)] 5 = mkF m 0 #[.val (.ref b), .val (.int 0), .val (.int 1), .unset, .unset] [] := by first | (simp [entryFrame, mkF, argsToLocals, Value.category, maxLocals]; done) | rfl
theorem pn_java_lang_StringUTF16_toBytes___CII__B : plainFor (⟨"java/lang/StringUTF16", "toBytes", "([CII)[B"⟩ : MethodName) = true := by first | exact plainFor_of_name (by first | (simp [plainName, overriddenIn]; done) | decide +kernel) | decide +kernel
theorem d20_0 : decode jdk_52_method_14_code 0 = .ok (.iload_n 2, 1) := by decide +kernel
theorem d20_1 : decode jdk_52_method_14_code 1 = .ok (.invokestatic 107, 3) := by decide +kernel
theorem pd__28I_29_5bB : parseMethodDescriptor "(I)[B" = some ⟨[.int], some (.array .byte)⟩ := by decide +kernel
theorem d20_4 : decode jdk_52_method_14_code 4 = .ok (.astore_n 3, 1) := by decide +kernel
theorem d20_5 : decode jdk_52_method_14_code 5 = .ok (.iconst 0, 1) := by decide +kernel
theorem d20_6 : decode jdk_52_method_14_code 6 = .ok (.istore 4, 2) := by decide +kernel
theorem d20_8 : decode jdk_52_method_14_code 8 = .ok (.iload 4, 2) := by decide +kernel
theorem d20_10 : decode jdk_52_method_14_code 10 = .ok (.iload_n 2, 1) := by decide +kernel
theorem d20_11 : decode jdk_52_method_14_code 11 = .ok (.if_icmp .ge 21, 3) := by decide +kernel
theorem d20_14 : decode jdk_52_method_14_code 14 = .ok (.aload_n 3, 1) := by decide +kernel
theorem d20_15 : decode jdk_52_method_14_code 15 = .ok (.iload 4, 2) := by decide +kernel
theorem d20_17 : decode jdk_52_method_14_code 17 = .ok (.aload_n 0, 1) := by decide +kernel
theorem d20_18 : decode jdk_52_method_14_code 18 = .ok (.iload_n 1, 1) := by decide +kernel
theorem d20_19 : decode jdk_52_method_14_code 19 = .ok (.caload, 1) := by decide +kernel
theorem d20_20 : decode jdk_52_method_14_code 20 = .ok (.invokestatic 111, 3) := by decide +kernel
theorem own_tx2 {Z : State} {a0 : Array Value} (hw : ∀ d ∈ tables_1, d.before a0 Z = true) : ∀ q ∈ own_EL, ∃ text : String, (Jvm.Cond.stringLink q.1 q.2 text).before a0 Z = true ∧ (∀ c ∈ text.toList, c.toNat < 256) ∧ text.toList.length ≠ (2 : Int32).toNatClampNeg := (own_txc (ow hw 30 rfl) (by decide) (by decide) (own_txc (ow hw 22 rfl) (by decide) (by decide) (fun _ q => nomatch q)))
theorem pd__28_5bBII_29V : parseMethodDescriptor "([BII)V" = some ⟨[(.array .byte), .int, .int], none⟩ := by decide +kernel
theorem d20_23 : decode jdk_52_method_14_code 23 = .ok (.iinc 1 1, 3) := by decide +kernel
theorem d20_26 : decode jdk_52_method_14_code 26 = .ok (.iinc 4 1, 3) := by decide +kernel
theorem d20_29 : decode jdk_52_method_14_code 29 = .ok (.goto (-21), 3) := by decide +kernel
theorem d20_32 : decode jdk_52_method_14_code 32 = .ok (.aload_n 3, 1) := by decide +kernel
theorem d20_33 : decode jdk_52_method_14_code 33 = .ok (.areturn, 1) := by decide +kernel
theorem ef_ru_cmi1_0 (b : Addr) (kb : ClassId) (dv : Value) (d : Addr) (kd : ClassId) (x0 : Int32) (m : MethodId) : entryFrame m #[(.ref b), (.int 0), (.ref d), (.int 0), (.int 1)] 7 = mkF m 0 #[.val (.ref b), .val (.int 0), .val (.ref d), .val (.int 0), .val (.int 1), .unset, .unset] [] := by first | (simp [entryFrame, mkF, argsToLocals, Value.category, maxLocals]; done) | rfl
theorem pn_java_lang_StringUTF16_compress___CI_BII_I : plainFor (⟨"java/lang/StringUTF16", "compress", "([CI[BII)I"⟩ : MethodName) = true := by first | exact plainFor_of_name (by first | (simp [plainName, overriddenIn]; done) | decide +kernel) | decide +kernel
theorem d10_0 : decode jdk_52_method_21_code 0 = .ok (.iconst 0, 1) := by decide +kernel
theorem d10_1 : decode jdk_52_method_21_code 1 = .ok (.istore 5, 2) := by decide +kernel
theorem d10_3 : decode jdk_52_method_21_code 3 = .ok (.iload 5, 2) := by decide +kernel
theorem d10_5 : decode jdk_52_method_21_code 5 = .ok (.iload 4, 2) := by decide +kernel
theorem d10_7 : decode jdk_52_method_21_code 7 = .ok (.if_icmp .ge 37, 3) := by decide +kernel
theorem d10_10 : decode jdk_52_method_21_code 10 = .ok (.aload_n 0, 1) := by decide +kernel
theorem d10_11 : decode jdk_52_method_21_code 11 = .ok (.iload_n 1, 1) := by decide +kernel
theorem d10_12 : decode jdk_52_method_21_code 12 = .ok (.caload, 1) := by decide +kernel
theorem d10_13 : decode jdk_52_method_21_code 13 = .ok (.istore 6, 2) := by decide +kernel
theorem d10_15 : decode jdk_52_method_21_code 15 = .ok (.iload 6, 2) := by decide +kernel
theorem d10_17 : decode jdk_52_method_21_code 17 = .ok (.sipush 255, 3) := by decide +kernel
theorem d10_20 : decode jdk_52_method_21_code 20 = .ok (.if_icmp .le 6, 3) := by decide +kernel
theorem d10_23 : decode jdk_52_method_21_code 23 = .ok (.iload 5, 2) := by decide +kernel
theorem d10_25 : decode jdk_52_method_21_code 25 = .ok (.ireturn, 1) := by decide +kernel
theorem ef_ru_cmp1_0 (b : Addr) (kb : ClassId) (dv : Value) (x0 : Int32) (m : MethodId) : entryFrame m #[(.ref b), (.int 0), (.int 1)] 6 = mkF m 0 #[.val (.ref b), .val (.int 0), .val (.int 1), .unset, .unset, .unset] [] := by first | (simp [entryFrame, mkF, argsToLocals, Value.category, maxLocals]; done) | rfl
theorem pn_java_lang_StringUTF16_compress___CII__B : plainFor (⟨"java/lang/StringUTF16", "compress", "([CII)[B"⟩ : MethodName) = true := by first | exact plainFor_of_name (by first | (simp [plainName, overriddenIn]; done) | decide +kernel) | decide +kernel
theorem d9_0 : decode jdk_52_method_16_code 0 = .ok (.iload_n 2, 1) := by decide +kernel
theorem d9_1 : decode jdk_52_method_16_code 1 = .ok (.newarray .byte, 2) := by decide +kernel
theorem d9_3 : decode jdk_52_method_16_code 3 = .ok (.astore_n 3, 1) := by decide +kernel
theorem d9_4 : decode jdk_52_method_16_code 4 = .ok (.aload_n 0, 1) := by decide +kernel
theorem d9_5 : decode jdk_52_method_16_code 5 = .ok (.iload_n 1, 1) := by decide +kernel
theorem d9_6 : decode jdk_52_method_16_code 6 = .ok (.aload_n 3, 1) := by decide +kernel
theorem d9_7 : decode jdk_52_method_16_code 7 = .ok (.iconst 0, 1) := by decide +kernel
theorem d9_8 : decode jdk_52_method_16_code 8 = .ok (.iload_n 2, 1) := by decide +kernel
theorem d9_9 : decode jdk_52_method_16_code 9 = .ok (.invokestatic 115, 3) := by decide +kernel
theorem pd__28_5bCI_5bBII_29I : parseMethodDescriptor "([CI[BII)I" = some ⟨[(.array .char), .int, (.array .byte), .int, .int], some .int⟩ := by decide +kernel
theorem d9_12 : decode jdk_52_method_16_code 12 = .ok (.istore 4, 2) := by decide +kernel
theorem d9_14 : decode jdk_52_method_16_code 14 = .ok (.iload 4, 2) := by decide +kernel
theorem d9_16 : decode jdk_52_method_16_code 16 = .ok (.iload_n 2, 1) := by decide +kernel
theorem d9_17 : decode jdk_52_method_16_code 17 = .ok (.if_icmp .eq 40, 3) := by decide +kernel
theorem d9_20 : decode jdk_52_method_16_code 20 = .ok (.aload_n 0, 1) := by decide +kernel
theorem d9_21 : decode jdk_52_method_16_code 21 = .ok (.iload_n 1, 1) := by decide +kernel
theorem d9_22 : decode jdk_52_method_16_code 22 = .ok (.iload_n 2, 1) := by decide +kernel
theorem d9_23 : decode jdk_52_method_16_code 23 = .ok (.invokestatic 119, 3) := by decide +kernel
theorem pd__28_5bCII_29_5bB : parseMethodDescriptor "([CII)[B" = some ⟨[(.array .char), .int, .int], some (.array .byte)⟩ := by decide +kernel
theorem d9_26 : decode jdk_52_method_16_code 26 = .ok (.astore 5, 2) := by decide +kernel
theorem d9_28 : decode jdk_52_method_16_code 28 = .ok (.aload 5, 2) := by decide +kernel
theorem d9_30 : decode jdk_52_method_16_code 30 = .ok (.iload 4, 2) := by decide +kernel
theorem d9_32 : decode jdk_52_method_16_code 32 = .ok (.invokestatic 71, 3) := by decide +kernel
theorem d9_35 : decode jdk_52_method_16_code 35 = .ok (.sipush 255, 3) := by decide +kernel
theorem d9_38 : decode jdk_52_method_16_code 38 = .ok (.if_icmp .gt 16, 3) := by decide +kernel
theorem d9_54 : decode jdk_52_method_16_code 54 = .ok (.aload 5, 2) := by decide +kernel
theorem d9_56 : decode jdk_52_method_16_code 56 = .ok (.areturn, 1) := by decide +kernel
theorem ef_ru_cmi1_1 (b : Addr) (kb : ClassId) (dv : Value) (d : Addr) (kd : ClassId) (x0 : Int32) (m : MethodId) : entryFrame m #[(.ref b), (.int 0), (.ref d), (.int 0), (.int 1)] 7 = mkF m 0 #[.val (.ref b), .val (.int 0), .val (.ref d), .val (.int 0), .val (.int 1), .unset, .unset] [] := by first | (simp [entryFrame, mkF, argsToLocals, Value.category, maxLocals]; done) | rfl
theorem d10_26 : decode jdk_52_method_21_code 26 = .ok (.aload_n 2, 1) := by decide +kernel
theorem d10_27 : decode jdk_52_method_21_code 27 = .ok (.iload_n 3, 1) := by decide +kernel
theorem d10_28 : decode jdk_52_method_21_code 28 = .ok (.iload 6, 2) := by decide +kernel
theorem d10_30 : decode jdk_52_method_21_code 30 = .ok (.i2b, 1) := by decide +kernel
theorem d10_31 : decode jdk_52_method_21_code 31 = .ok (.bastore, 1) := by decide +kernel
theorem d10_32 : decode jdk_52_method_21_code 32 = .ok (.iinc 1 1, 3) := by decide +kernel
theorem d10_35 : decode jdk_52_method_21_code 35 = .ok (.iinc 3 1, 3) := by decide +kernel
theorem d10_38 : decode jdk_52_method_21_code 38 = .ok (.iinc 5 1, 3) := by decide +kernel
theorem d10_41 : decode jdk_52_method_21_code 41 = .ok (.goto (-38), 3) := by decide +kernel
theorem d10_44 : decode jdk_52_method_21_code 44 = .ok (.iload 4, 2) := by decide +kernel
theorem d10_46 : decode jdk_52_method_21_code 46 = .ok (.ireturn, 1) := by decide +kernel
theorem ef_ru_cmp1_1 (b : Addr) (kb : ClassId) (dv : Value) (x0 : Int32) (m : MethodId) : entryFrame m #[(.ref b), (.int 0), (.int 1)] 6 = mkF m 0 #[.val (.ref b), .val (.int 0), .val (.int 1), .unset, .unset, .unset] [] := by first | (simp [entryFrame, mkF, argsToLocals, Value.category, maxLocals]; done) | rfl
theorem d9_57 : decode jdk_52_method_16_code 57 = .ok (.aload_n 3, 1) := by decide +kernel
theorem d9_58 : decode jdk_52_method_16_code 58 = .ok (.areturn, 1) := by decide +kernel
theorem ef_ru_cod1_1 (b : Addr) (kb : ClassId) (vs : List Value) (dv : Value) (m : MethodId) : entryFrame m #[(.ref b), (.int 1)] 2 = mkF m 0 #[.val (.ref b), .val (.int 1)] [] := by first | (simp [entryFrame, mkF, argsToLocals, Value.category, maxLocals]; done) | rfl
theorem pn_java_lang_StringUTF16_coderFromArrayLen___BI_B : plainFor (⟨"java/lang/StringUTF16", "coderFromArrayLen", "([BI)B"⟩ : MethodName) = true := by first | exact plainFor_of_name (by first | (simp [plainName, overriddenIn]; done) | decide +kernel) | decide +kernel
theorem d11_0 : decode jdk_52_method_15_code 0 = .ok (.iload_n 1, 1) := by decide +kernel
theorem d11_1 : decode jdk_52_method_15_code 1 = .ok (.aload_n 0, 1) := by decide +kernel
theorem d11_2 : decode jdk_52_method_15_code 2 = .ok (.arraylength, 1) := by decide +kernel
theorem d11_3 : decode jdk_52_method_15_code 3 = .ok (.isub, 1) := by decide +kernel
theorem d11_4 : decode jdk_52_method_15_code 4 = .ok (.bipush 31, 2) := by decide +kernel
theorem d11_6 : decode jdk_52_method_15_code 6 = .ok (.iushr, 1) := by decide +kernel
theorem d11_7 : decode jdk_52_method_15_code 7 = .ok (.i2b, 1) := by decide +kernel
theorem d11_8 : decode jdk_52_method_15_code 8 = .ok (.ireturn, 1) := by decide +kernel
theorem ef_ru_cod1_2 (b : Addr) (kb : ClassId) (vs : List Value) (dv : Value) (m : MethodId) : entryFrame m #[(.ref b), (.int 1)] 2 = mkF m 0 #[.val (.ref b), .val (.int 1)] [] := by first | (simp [entryFrame, mkF, argsToLocals, Value.category, maxLocals]; done) | rfl
theorem ef_ru_inv1 (a : Addr) (b : Addr) (y : Value) (z : Int32) (kb : ClassId) (dv : Value) (x0 : Int32) (m : MethodId) : entryFrame m #[(.ref a), (.ref b), (.int 0), (.int 1), .null] 6 = mkF m 0 #[.val (.ref a), .val (.ref b), .val (.int 0), .val (.int 1), .val .null, .unset] [] := by first | (simp [entryFrame, mkF, argsToLocals, Value.category, maxLocals]; done) | rfl
theorem d3_27 : decode jdk_42_method_149_code 27 = .ok (.getstatic 38, 3) := by decide +kernel
theorem d3_30 : decode jdk_42_method_149_code 30 = .ok (.ifCond .eq 28, 3) := by decide +kernel
theorem d3_33 : decode jdk_42_method_149_code 33 = .ok (.aload_n 1, 1) := by decide +kernel
theorem d3_34 : decode jdk_42_method_149_code 34 = .ok (.iload_n 2, 1) := by decide +kernel
theorem d3_35 : decode jdk_42_method_149_code 35 = .ok (.iload_n 3, 1) := by decide +kernel
theorem d3_36 : decode jdk_42_method_149_code 36 = .ok (.invokestatic 177, 3) := by decide +kernel
theorem d3_39 : decode jdk_42_method_149_code 39 = .ok (.astore 5, 2) := by decide +kernel
theorem d3_41 : decode jdk_42_method_149_code 41 = .ok (.aload_n 0, 1) := by decide +kernel
theorem d3_42 : decode jdk_42_method_149_code 42 = .ok (.aload 5, 2) := by decide +kernel
theorem d3_44 : decode jdk_42_method_149_code 44 = .ok (.iload_n 3, 1) := by decide +kernel
theorem d3_45 : decode jdk_42_method_149_code 45 = .ok (.invokestatic 47, 3) := by decide +kernel
theorem pd__28_5bBI_29B : parseMethodDescriptor "([BI)B" = some ⟨[(.array .byte), .int], some .byte⟩ := by decide +kernel
theorem d3_48 : decode jdk_42_method_149_code 48 = .ok (.putfield 15, 3) := by decide +kernel
theorem d3_51 : decode jdk_42_method_149_code 51 = .ok (.aload_n 0, 1) := by decide +kernel
theorem d3_52 : decode jdk_42_method_149_code 52 = .ok (.aload 5, 2) := by decide +kernel
theorem d3_54 : decode jdk_42_method_149_code 54 = .ok (.putfield 9, 3) := by decide +kernel
theorem d3_57 : decode jdk_42_method_149_code 57 = .ok (.return_, 1) := by decide +kernel
theorem ef_ru_ini1 (a : Addr) (b : Addr) (y : Value) (z : Int32) (kb : ClassId) (dv : Value) (x0 : Int32) (m : MethodId) : entryFrame m #[(.ref a), (.ref b)] 2 = mkF m 0 #[.val (.ref a), .val (.ref b)] [] := by first | (simp [entryFrame, mkF, argsToLocals, Value.category, maxLocals]; done) | rfl
theorem ef_ru_nbl2 (m : MethodId) : entryFrame m #[(.int 2)] 1 = mkF m 0 #[.val (.int 2)] [] := by first | (simp [entryFrame, mkF, argsToLocals, Value.category, maxLocals]; done) | rfl
theorem ef_ru_nbf2 (m : MethodId) : entryFrame m #[(.int 2)] 1 = mkF m 0 #[.val (.int 2)] [] := by first | (simp [entryFrame, mkF, argsToLocals, Value.category, maxLocals]; done) | rfl
theorem ef_ru_put2_0 (b : Addr) (kb : ClassId) (x : Int32) (dv : Value) (e0 : Value) (e1 : Value) (e2 : Value) (e3 : Value) (m : MethodId) : entryFrame m #[(.ref b), (.int 0), (.int x)] 3 = mkF m 0 #[.val (.ref b), .val (.int 0), .val (.int x)] [] := by first | (simp [entryFrame, mkF, argsToLocals, Value.category, maxLocals]; done) | rfl
theorem ef_ru_put2_1 (b : Addr) (kb : ClassId) (x : Int32) (dv : Value) (e0 : Value) (e1 : Value) (e2 : Value) (e3 : Value) (m : MethodId) : entryFrame m #[(.ref b), (.int 1), (.int x)] 3 = mkF m 0 #[.val (.ref b), .val (.int 1), .val (.int x)] [] := by first | (simp [entryFrame, mkF, argsToLocals, Value.category, maxLocals]; done) | rfl
theorem ef_ru_tob2 (b : Addr) (kb : ClassId) (dv : Value) (x0 : Int32) (x1 : Int32) (m : MethodId) : entryFrame m #[(.ref b), (.int 0), (.int 2)] 5 = mkF m 0 #[.val (.ref b), .val (.int 0), .val (.int 2), .unset, .unset] [] := by first | (simp [entryFrame, mkF, argsToLocals, Value.category, maxLocals]; done) | rfl
theorem own_tx4 {Z : State} {a0 : Array Value} (hw : ∀ d ∈ tables_1, d.before a0 Z = true) : ∀ q ∈ own_EL, ∃ text : String, (Jvm.Cond.stringLink q.1 q.2 text).before a0 Z = true ∧ (∀ c ∈ text.toList, c.toNat < 256) ∧ text.toList.length ≠ (4 : Int32).toNatClampNeg := (own_txc (ow hw 30 rfl) (by decide) (by decide) (own_txc (ow hw 22 rfl) (by decide) (by decide) (fun _ q => nomatch q)))
theorem ef_ru_cmi2_0 (b : Addr) (kb : ClassId) (dv : Value) (d : Addr) (kd : ClassId) (x0 : Int32) (x1 : Int32) (m : MethodId) : entryFrame m #[(.ref b), (.int 0), (.ref d), (.int 0), (.int 2)] 7 = mkF m 0 #[.val (.ref b), .val (.int 0), .val (.ref d), .val (.int 0), .val (.int 2), .unset, .unset] [] := by first | (simp [entryFrame, mkF, argsToLocals, Value.category, maxLocals]; done) | rfl
theorem ef_ru_cmp2_0 (b : Addr) (kb : ClassId) (dv : Value) (x0 : Int32) (x1 : Int32) (m : MethodId) : entryFrame m #[(.ref b), (.int 0), (.int 2)] 6 = mkF m 0 #[.val (.ref b), .val (.int 0), .val (.int 2), .unset, .unset, .unset] [] := by first | (simp [entryFrame, mkF, argsToLocals, Value.category, maxLocals]; done) | rfl
theorem ef_ru_cmi2_1 (b : Addr) (kb : ClassId) (dv : Value) (d : Addr) (kd : ClassId) (x0 : Int32) (x1 : Int32) (m : MethodId) : entryFrame m #[(.ref b), (.int 0), (.ref d), (.int 0), (.int 2)] 7 = mkF m 0 #[.val (.ref b), .val (.int 0), .val (.ref d), .val (.int 0), .val (.int 2), .unset, .unset] [] := by first | (simp [entryFrame, mkF, argsToLocals, Value.category, maxLocals]; done) | rfl
theorem ef_ru_cmp2_1 (b : Addr) (kb : ClassId) (dv : Value) (x0 : Int32) (x1 : Int32) (m : MethodId) : entryFrame m #[(.ref b), (.int 0), (.int 2)] 6 = mkF m 0 #[.val (.ref b), .val (.int 0), .val (.int 2), .unset, .unset, .unset] [] := by first | (simp [entryFrame, mkF, argsToLocals, Value.category, maxLocals]; done) | rfl
theorem ef_ru_cmi2_2 (b : Addr) (kb : ClassId) (dv : Value) (d : Addr) (kd : ClassId) (x0 : Int32) (x1 : Int32) (m : MethodId) : entryFrame m #[(.ref b), (.int 0), (.ref d), (.int 0), (.int 2)] 7 = mkF m 0 #[.val (.ref b), .val (.int 0), .val (.ref d), .val (.int 0), .val (.int 2), .unset, .unset] [] := by first | (simp [entryFrame, mkF, argsToLocals, Value.category, maxLocals]; done) | rfl
theorem ef_ru_cmp2_2 (b : Addr) (kb : ClassId) (dv : Value) (x0 : Int32) (x1 : Int32) (m : MethodId) : entryFrame m #[(.ref b), (.int 0), (.int 2)] 6 = mkF m 0 #[.val (.ref b), .val (.int 0), .val (.int 2), .unset, .unset, .unset] [] := by first | (simp [entryFrame, mkF, argsToLocals, Value.category, maxLocals]; done) | rfl
theorem ef_ru_cod2_2 (b : Addr) (kb : ClassId) (vs : List Value) (dv : Value) (m : MethodId) : entryFrame m #[(.ref b), (.int 2)] 2 = mkF m 0 #[.val (.ref b), .val (.int 2)] [] := by first | (simp [entryFrame, mkF, argsToLocals, Value.category, maxLocals]; done) | rfl
theorem ef_ru_cod2_4 (b : Addr) (kb : ClassId) (vs : List Value) (dv : Value) (m : MethodId) : entryFrame m #[(.ref b), (.int 2)] 2 = mkF m 0 #[.val (.ref b), .val (.int 2)] [] := by first | (simp [entryFrame, mkF, argsToLocals, Value.category, maxLocals]; done) | rfl
theorem ef_ru_inv2 (a : Addr) (b : Addr) (y : Value) (z : Int32) (kb : ClassId) (dv : Value) (x0 : Int32) (x1 : Int32) (m : MethodId) : entryFrame m #[(.ref a), (.ref b), (.int 0), (.int 2), .null] 6 = mkF m 0 #[.val (.ref a), .val (.ref b), .val (.int 0), .val (.int 2), .val .null, .unset] [] := by first | (simp [entryFrame, mkF, argsToLocals, Value.category, maxLocals]; done) | rfl
theorem ef_ru_ini2 (a : Addr) (b : Addr) (y : Value) (z : Int32) (kb : ClassId) (dv : Value) (x0 : Int32) (x1 : Int32) (m : MethodId) : entryFrame m #[(.ref a), (.ref b)] 2 = mkF m 0 #[.val (.ref a), .val (.ref b)] [] := by first | (simp [entryFrame, mkF, argsToLocals, Value.category, maxLocals]; done) | rfl
theorem ef_ru_nbl3 (m : MethodId) : entryFrame m #[(.int 3)] 1 = mkF m 0 #[.val (.int 3)] [] := by first | (simp [entryFrame, mkF, argsToLocals, Value.category, maxLocals]; done) | rfl
theorem ef_ru_nbf3 (m : MethodId) : entryFrame m #[(.int 3)] 1 = mkF m 0 #[.val (.int 3)] [] := by first | (simp [entryFrame, mkF, argsToLocals, Value.category, maxLocals]; done) | rfl
theorem ef_ru_put3_0 (b : Addr) (kb : ClassId) (x : Int32) (dv : Value) (e0 : Value) (e1 : Value) (e2 : Value) (e3 : Value) (e4 : Value) (e5 : Value) (m : MethodId) : entryFrame m #[(.ref b), (.int 0), (.int x)] 3 = mkF m 0 #[.val (.ref b), .val (.int 0), .val (.int x)] [] := by first | (simp [entryFrame, mkF, argsToLocals, Value.category, maxLocals]; done) | rfl
theorem ef_ru_put3_1 (b : Addr) (kb : ClassId) (x : Int32) (dv : Value) (e0 : Value) (e1 : Value) (e2 : Value) (e3 : Value) (e4 : Value) (e5 : Value) (m : MethodId) : entryFrame m #[(.ref b), (.int 1), (.int x)] 3 = mkF m 0 #[.val (.ref b), .val (.int 1), .val (.int x)] [] := by first | (simp [entryFrame, mkF, argsToLocals, Value.category, maxLocals]; done) | rfl
theorem ef_ru_put3_2 (b : Addr) (kb : ClassId) (x : Int32) (dv : Value) (e0 : Value) (e1 : Value) (e2 : Value) (e3 : Value) (e4 : Value) (e5 : Value) (m : MethodId) : entryFrame m #[(.ref b), (.int 2), (.int x)] 3 = mkF m 0 #[.val (.ref b), .val (.int 2), .val (.int x)] [] := by first | (simp [entryFrame, mkF, argsToLocals, Value.category, maxLocals]; done) | rfl
theorem ef_ru_tob3 (b : Addr) (kb : ClassId) (dv : Value) (x0 : Int32) (x1 : Int32) (x2 : Int32) (m : MethodId) : entryFrame m #[(.ref b), (.int 0), (.int 3)] 5 = mkF m 0 #[.val (.ref b), .val (.int 0), .val (.int 3), .unset, .unset] [] := by first | (simp [entryFrame, mkF, argsToLocals, Value.category, maxLocals]; done) | rfl
theorem own_tx6 {Z : State} {a0 : Array Value} (hw : ∀ d ∈ tables_1, d.before a0 Z = true) : ∀ q ∈ own_EL, ∃ text : String, (Jvm.Cond.stringLink q.1 q.2 text).before a0 Z = true ∧ (∀ c ∈ text.toList, c.toNat < 256) ∧ text.toList.length ≠ (6 : Int32).toNatClampNeg := (own_txc (ow hw 30 rfl) (by decide) (by decide) (own_txc (ow hw 22 rfl) (by decide) (by decide) (fun _ q => nomatch q)))
theorem ef_ru_cmi3_0 (b : Addr) (kb : ClassId) (dv : Value) (d : Addr) (kd : ClassId) (x0 : Int32) (x1 : Int32) (x2 : Int32) (m : MethodId) : entryFrame m #[(.ref b), (.int 0), (.ref d), (.int 0), (.int 3)] 7 = mkF m 0 #[.val (.ref b), .val (.int 0), .val (.ref d), .val (.int 0), .val (.int 3), .unset, .unset] [] := by first | (simp [entryFrame, mkF, argsToLocals, Value.category, maxLocals]; done) | rfl
theorem ef_ru_cmp3_0 (b : Addr) (kb : ClassId) (dv : Value) (x0 : Int32) (x1 : Int32) (x2 : Int32) (m : MethodId) : entryFrame m #[(.ref b), (.int 0), (.int 3)] 6 = mkF m 0 #[.val (.ref b), .val (.int 0), .val (.int 3), .unset, .unset, .unset] [] := by first | (simp [entryFrame, mkF, argsToLocals, Value.category, maxLocals]; done) | rfl
theorem ef_ru_cmi3_1 (b : Addr) (kb : ClassId) (dv : Value) (d : Addr) (kd : ClassId) (x0 : Int32) (x1 : Int32) (x2 : Int32) (m : MethodId) : entryFrame m #[(.ref b), (.int 0), (.ref d), (.int 0), (.int 3)] 7 = mkF m 0 #[.val (.ref b), .val (.int 0), .val (.ref d), .val (.int 0), .val (.int 3), .unset, .unset] [] := by first | (simp [entryFrame, mkF, argsToLocals, Value.category, maxLocals]; done) | rfl
theorem ef_ru_cmp3_1 (b : Addr) (kb : ClassId) (dv : Value) (x0 : Int32) (x1 : Int32) (x2 : Int32) (m : MethodId) : entryFrame m #[(.ref b), (.int 0), (.int 3)] 6 = mkF m 0 #[.val (.ref b), .val (.int 0), .val (.int 3), .unset, .unset, .unset] [] := by first | (simp [entryFrame, mkF, argsToLocals, Value.category, maxLocals]; done) | rfl
theorem ef_ru_cmi3_2 (b : Addr) (kb : ClassId) (dv : Value) (d : Addr) (kd : ClassId) (x0 : Int32) (x1 : Int32) (x2 : Int32) (m : MethodId) : entryFrame m #[(.ref b), (.int 0), (.ref d), (.int 0), (.int 3)] 7 = mkF m 0 #[.val (.ref b), .val (.int 0), .val (.ref d), .val (.int 0), .val (.int 3), .unset, .unset] [] := by first | (simp [entryFrame, mkF, argsToLocals, Value.category, maxLocals]; done) | rfl
theorem ef_ru_cmp3_2 (b : Addr) (kb : ClassId) (dv : Value) (x0 : Int32) (x1 : Int32) (x2 : Int32) (m : MethodId) : entryFrame m #[(.ref b), (.int 0), (.int 3)] 6 = mkF m 0 #[.val (.ref b), .val (.int 0), .val (.int 3), .unset, .unset, .unset] [] := by first | (simp [entryFrame, mkF, argsToLocals, Value.category, maxLocals]; done) | rfl
theorem ef_ru_cmi3_3 (b : Addr) (kb : ClassId) (dv : Value) (d : Addr) (kd : ClassId) (x0 : Int32) (x1 : Int32) (x2 : Int32) (m : MethodId) : entryFrame m #[(.ref b), (.int 0), (.ref d), (.int 0), (.int 3)] 7 = mkF m 0 #[.val (.ref b), .val (.int 0), .val (.ref d), .val (.int 0), .val (.int 3), .unset, .unset] [] := by first | (simp [entryFrame, mkF, argsToLocals, Value.category, maxLocals]; done) | rfl
theorem ef_ru_cmp3_3 (b : Addr) (kb : ClassId) (dv : Value) (x0 : Int32) (x1 : Int32) (x2 : Int32) (m : MethodId) : entryFrame m #[(.ref b), (.int 0), (.int 3)] 6 = mkF m 0 #[.val (.ref b), .val (.int 0), .val (.int 3), .unset, .unset, .unset] [] := by first | (simp [entryFrame, mkF, argsToLocals, Value.category, maxLocals]; done) | rfl
theorem ef_ru_cod3_3 (b : Addr) (kb : ClassId) (vs : List Value) (dv : Value) (m : MethodId) : entryFrame m #[(.ref b), (.int 3)] 2 = mkF m 0 #[.val (.ref b), .val (.int 3)] [] := by first | (simp [entryFrame, mkF, argsToLocals, Value.category, maxLocals]; done) | rfl
theorem ef_ru_cod3_6 (b : Addr) (kb : ClassId) (vs : List Value) (dv : Value) (m : MethodId) : entryFrame m #[(.ref b), (.int 3)] 2 = mkF m 0 #[.val (.ref b), .val (.int 3)] [] := by first | (simp [entryFrame, mkF, argsToLocals, Value.category, maxLocals]; done) | rfl
theorem ef_ru_inv3 (a : Addr) (b : Addr) (y : Value) (z : Int32) (kb : ClassId) (dv : Value) (x0 : Int32) (x1 : Int32) (x2 : Int32) (m : MethodId) : entryFrame m #[(.ref a), (.ref b), (.int 0), (.int 3), .null] 6 = mkF m 0 #[.val (.ref a), .val (.ref b), .val (.int 0), .val (.int 3), .val .null, .unset] [] := by first | (simp [entryFrame, mkF, argsToLocals, Value.category, maxLocals]; done) | rfl
theorem ef_ru_ini3 (a : Addr) (b : Addr) (y : Value) (z : Int32) (kb : ClassId) (dv : Value) (x0 : Int32) (x1 : Int32) (x2 : Int32) (m : MethodId) : entryFrame m #[(.ref a), (.ref b)] 2 = mkF m 0 #[.val (.ref a), .val (.ref b)] [] := by first | (simp [entryFrame, mkF, argsToLocals, Value.category, maxLocals]; done) | rfl
theorem ef_ru_nbl4 (m : MethodId) : entryFrame m #[(.int 4)] 1 = mkF m 0 #[.val (.int 4)] [] := by first | (simp [entryFrame, mkF, argsToLocals, Value.category, maxLocals]; done) | rfl
theorem ef_ru_nbf4 (m : MethodId) : entryFrame m #[(.int 4)] 1 = mkF m 0 #[.val (.int 4)] [] := by first | (simp [entryFrame, mkF, argsToLocals, Value.category, maxLocals]; done) | rfl
theorem ef_ru_put4_0 (b : Addr) (kb : ClassId) (x : Int32) (dv : Value) (e0 : Value) (e1 : Value) (e2 : Value) (e3 : Value) (e4 : Value) (e5 : Value) (e6 : Value) (e7 : Value) (m : MethodId) : entryFrame m #[(.ref b), (.int 0), (.int x)] 3 = mkF m 0 #[.val (.ref b), .val (.int 0), .val (.int x)] [] := by first | (simp [entryFrame, mkF, argsToLocals, Value.category, maxLocals]; done) | rfl
theorem ef_ru_put4_1 (b : Addr) (kb : ClassId) (x : Int32) (dv : Value) (e0 : Value) (e1 : Value) (e2 : Value) (e3 : Value) (e4 : Value) (e5 : Value) (e6 : Value) (e7 : Value) (m : MethodId) : entryFrame m #[(.ref b), (.int 1), (.int x)] 3 = mkF m 0 #[.val (.ref b), .val (.int 1), .val (.int x)] [] := by first | (simp [entryFrame, mkF, argsToLocals, Value.category, maxLocals]; done) | rfl
theorem ef_ru_put4_2 (b : Addr) (kb : ClassId) (x : Int32) (dv : Value) (e0 : Value) (e1 : Value) (e2 : Value) (e3 : Value) (e4 : Value) (e5 : Value) (e6 : Value) (e7 : Value) (m : MethodId) : entryFrame m #[(.ref b), (.int 2), (.int x)] 3 = mkF m 0 #[.val (.ref b), .val (.int 2), .val (.int x)] [] := by first | (simp [entryFrame, mkF, argsToLocals, Value.category, maxLocals]; done) | rfl
theorem ef_ru_put4_3 (b : Addr) (kb : ClassId) (x : Int32) (dv : Value) (e0 : Value) (e1 : Value) (e2 : Value) (e3 : Value) (e4 : Value) (e5 : Value) (e6 : Value) (e7 : Value) (m : MethodId) : entryFrame m #[(.ref b), (.int 3), (.int x)] 3 = mkF m 0 #[.val (.ref b), .val (.int 3), .val (.int x)] [] := by first | (simp [entryFrame, mkF, argsToLocals, Value.category, maxLocals]; done) | rfl
theorem ef_ru_tob4 (b : Addr) (kb : ClassId) (dv : Value) (x0 : Int32) (x1 : Int32) (x2 : Int32) (x3 : Int32) (m : MethodId) : entryFrame m #[(.ref b), (.int 0), (.int 4)] 5 = mkF m 0 #[.val (.ref b), .val (.int 0), .val (.int 4), .unset, .unset] [] := by first | (simp [entryFrame, mkF, argsToLocals, Value.category, maxLocals]; done) | rfl
theorem own_tx8 {Z : State} {a0 : Array Value} (hw : ∀ d ∈ tables_1, d.before a0 Z = true) : ∀ q ∈ own_EL, ∃ text : String, (Jvm.Cond.stringLink q.1 q.2 text).before a0 Z = true ∧ (∀ c ∈ text.toList, c.toNat < 256) ∧ text.toList.length ≠ (8 : Int32).toNatClampNeg := (own_txc (ow hw 30 rfl) (by decide) (by decide) (own_txc (ow hw 22 rfl) (by decide) (by decide) (fun _ q => nomatch q)))
theorem ef_ru_cmi4_0 (b : Addr) (kb : ClassId) (dv : Value) (d : Addr) (kd : ClassId) (x0 : Int32) (x1 : Int32) (x2 : Int32) (x3 : Int32) (m : MethodId) : entryFrame m #[(.ref b), (.int 0), (.ref d), (.int 0), (.int 4)] 7 = mkF m 0 #[.val (.ref b), .val (.int 0), .val (.ref d), .val (.int 0), .val (.int 4), .unset, .unset] [] := by first | (simp [entryFrame, mkF, argsToLocals, Value.category, maxLocals]; done) | rfl
theorem ef_ru_cmp4_0 (b : Addr) (kb : ClassId) (dv : Value) (x0 : Int32) (x1 : Int32) (x2 : Int32) (x3 : Int32) (m : MethodId) : entryFrame m #[(.ref b), (.int 0), (.int 4)] 6 = mkF m 0 #[.val (.ref b), .val (.int 0), .val (.int 4), .unset, .unset, .unset] [] := by first | (simp [entryFrame, mkF, argsToLocals, Value.category, maxLocals]; done) | rfl
theorem ef_ru_cmi4_1 (b : Addr) (kb : ClassId) (dv : Value) (d : Addr) (kd : ClassId) (x0 : Int32) (x1 : Int32) (x2 : Int32) (x3 : Int32) (m : MethodId) : entryFrame m #[(.ref b), (.int 0), (.ref d), (.int 0), (.int 4)] 7 = mkF m 0 #[.val (.ref b), .val (.int 0), .val (.ref d), .val (.int 0), .val (.int 4), .unset, .unset] [] := by first | (simp [entryFrame, mkF, argsToLocals, Value.category, maxLocals]; done) | rfl
theorem ef_ru_cmp4_1 (b : Addr) (kb : ClassId) (dv : Value) (x0 : Int32) (x1 : Int32) (x2 : Int32) (x3 : Int32) (m : MethodId) : entryFrame m #[(.ref b), (.int 0), (.int 4)] 6 = mkF m 0 #[.val (.ref b), .val (.int 0), .val (.int 4), .unset, .unset, .unset] [] := by first | (simp [entryFrame, mkF, argsToLocals, Value.category, maxLocals]; done) | rfl
theorem ef_ru_cmi4_2 (b : Addr) (kb : ClassId) (dv : Value) (d : Addr) (kd : ClassId) (x0 : Int32) (x1 : Int32) (x2 : Int32) (x3 : Int32) (m : MethodId) : entryFrame m #[(.ref b), (.int 0), (.ref d), (.int 0), (.int 4)] 7 = mkF m 0 #[.val (.ref b), .val (.int 0), .val (.ref d), .val (.int 0), .val (.int 4), .unset, .unset] [] := by first | (simp [entryFrame, mkF, argsToLocals, Value.category, maxLocals]; done) | rfl
theorem ef_ru_cmp4_2 (b : Addr) (kb : ClassId) (dv : Value) (x0 : Int32) (x1 : Int32) (x2 : Int32) (x3 : Int32) (m : MethodId) : entryFrame m #[(.ref b), (.int 0), (.int 4)] 6 = mkF m 0 #[.val (.ref b), .val (.int 0), .val (.int 4), .unset, .unset, .unset] [] := by first | (simp [entryFrame, mkF, argsToLocals, Value.category, maxLocals]; done) | rfl
theorem ef_ru_cmi4_3 (b : Addr) (kb : ClassId) (dv : Value) (d : Addr) (kd : ClassId) (x0 : Int32) (x1 : Int32) (x2 : Int32) (x3 : Int32) (m : MethodId) : entryFrame m #[(.ref b), (.int 0), (.ref d), (.int 0), (.int 4)] 7 = mkF m 0 #[.val (.ref b), .val (.int 0), .val (.ref d), .val (.int 0), .val (.int 4), .unset, .unset] [] := by first | (simp [entryFrame, mkF, argsToLocals, Value.category, maxLocals]; done) | rfl
theorem ef_ru_cmp4_3 (b : Addr) (kb : ClassId) (dv : Value) (x0 : Int32) (x1 : Int32) (x2 : Int32) (x3 : Int32) (m : MethodId) : entryFrame m #[(.ref b), (.int 0), (.int 4)] 6 = mkF m 0 #[.val (.ref b), .val (.int 0), .val (.int 4), .unset, .unset, .unset] [] := by first | (simp [entryFrame, mkF, argsToLocals, Value.category, maxLocals]; done) | rfl
theorem ef_ru_cmi4_4 (b : Addr) (kb : ClassId) (dv : Value) (d : Addr) (kd : ClassId) (x0 : Int32) (x1 : Int32) (x2 : Int32) (x3 : Int32) (m : MethodId) : entryFrame m #[(.ref b), (.int 0), (.ref d), (.int 0), (.int 4)] 7 = mkF m 0 #[.val (.ref b), .val (.int 0), .val (.ref d), .val (.int 0), .val (.int 4), .unset, .unset] [] := by first | (simp [entryFrame, mkF, argsToLocals, Value.category, maxLocals]; done) | rfl
theorem ef_ru_cmp4_4 (b : Addr) (kb : ClassId) (dv : Value) (x0 : Int32) (x1 : Int32) (x2 : Int32) (x3 : Int32) (m : MethodId) : entryFrame m #[(.ref b), (.int 0), (.int 4)] 6 = mkF m 0 #[.val (.ref b), .val (.int 0), .val (.int 4), .unset, .unset, .unset] [] := by first | (simp [entryFrame, mkF, argsToLocals, Value.category, maxLocals]; done) | rfl
theorem ef_ru_cod4_4 (b : Addr) (kb : ClassId) (vs : List Value) (dv : Value) (m : MethodId) : entryFrame m #[(.ref b), (.int 4)] 2 = mkF m 0 #[.val (.ref b), .val (.int 4)] [] := by first | (simp [entryFrame, mkF, argsToLocals, Value.category, maxLocals]; done) | rfl
theorem ef_ru_cod4_8 (b : Addr) (kb : ClassId) (vs : List Value) (dv : Value) (m : MethodId) : entryFrame m #[(.ref b), (.int 4)] 2 = mkF m 0 #[.val (.ref b), .val (.int 4)] [] := by first | (simp [entryFrame, mkF, argsToLocals, Value.category, maxLocals]; done) | rfl
theorem ef_ru_inv4 (a : Addr) (b : Addr) (y : Value) (z : Int32) (kb : ClassId) (dv : Value) (x0 : Int32) (x1 : Int32) (x2 : Int32) (x3 : Int32) (m : MethodId) : entryFrame m #[(.ref a), (.ref b), (.int 0), (.int 4), .null] 6 = mkF m 0 #[.val (.ref a), .val (.ref b), .val (.int 0), .val (.int 4), .val .null, .unset] [] := by first | (simp [entryFrame, mkF, argsToLocals, Value.category, maxLocals]; done) | rfl
theorem ef_ru_ini4 (a : Addr) (b : Addr) (y : Value) (z : Int32) (kb : ClassId) (dv : Value) (x0 : Int32) (x1 : Int32) (x2 : Int32) (x3 : Int32) (m : MethodId) : entryFrame m #[(.ref a), (.ref b)] 2 = mkF m 0 #[.val (.ref a), .val (.ref b)] [] := by first | (simp [entryFrame, mkF, argsToLocals, Value.category, maxLocals]; done) | rfl
theorem ef_rm1 (x : Int32) (m : MethodId) : entryFrame m #[(.int x)] 2 = mkF m 0 #[.val (.int x), .unset] [] := by first | (simp [entryFrame, mkF, argsToLocals, Value.category, maxLocals]; done) | rfl
theorem pn_com_example_bote_bote_fields_FieldCursorSkipWhitespacePinLaw_draw__I_C : plainFor (⟨"com/example/bote/bote/fields/FieldCursorSkipWhitespacePinLaw", "draw", "(I)C"⟩ : MethodName) = true := by first | exact plainFor_of_name (by first | (simp [plainName, overriddenIn]; done) | decide +kernel) | decide +kernel
theorem d1_0 : decode method_3_code 0 = .ok (.iload_n 0, 1) := by decide +kernel
theorem d1_1 : decode method_3_code 1 = .ok (.iconst 3, 1) := by decide +kernel
theorem d1_2 : decode method_3_code 2 = .ok (.iand, 1) := by decide +kernel
theorem d1_3 : decode method_3_code 3 = .ok (.istore_n 1, 1) := by decide +kernel
theorem d1_4 : decode method_3_code 4 = .ok (.iload_n 1, 1) := by decide +kernel
theorem d1_5 : decode method_3_code 5 = .ok (.ifCond .ne 6, 3) := by decide +kernel
theorem d1_8 : decode method_3_code 8 = .ok (.bipush 32, 2) := by decide +kernel
theorem d1_10 : decode method_3_code 10 = .ok (.ireturn, 1) := by decide +kernel
theorem d1_11 : decode method_3_code 11 = .ok (.iload_n 1, 1) := by decide +kernel
theorem d1_12 : decode method_3_code 12 = .ok (.iconst 1, 1) := by decide +kernel
theorem d1_13 : decode method_3_code 13 = .ok (.if_icmp .ne 6, 3) := by decide +kernel
theorem d1_16 : decode method_3_code 16 = .ok (.bipush 9, 2) := by decide +kernel
theorem d1_18 : decode method_3_code 18 = .ok (.ireturn, 1) := by decide +kernel
theorem d1_19 : decode method_3_code 19 = .ok (.iload_n 0, 1) := by decide +kernel
theorem d1_20 : decode method_3_code 20 = .ok (.iconst 2, 1) := by decide +kernel
theorem d1_21 : decode method_3_code 21 = .ok (.iushr, 1) := by decide +kernel
theorem d1_22 : decode method_3_code 22 = .ok (.ldc 7, 2) := by decide +kernel
theorem d1_24 : decode method_3_code 24 = .ok (.iand, 1) := by decide +kernel
theorem d1_25 : decode method_3_code 25 = .ok (.i2c, 1) := by decide +kernel
theorem d1_26 : decode method_3_code 26 = .ok (.ireturn, 1) := by decide +kernel
theorem ef_rm19 (x : Int32) (m : MethodId) : entryFrame m #[(.int x)] 1 = mkF m 0 #[.val (.int x)] [] := by first | (simp [entryFrame, mkF, argsToLocals, Value.category, maxLocals]; done) | rfl
theorem pn_com_example_bote_bote_fields_FieldCursorSkipWhitespacePinLaw_ws__C_Z : plainFor (⟨"com/example/bote/bote/fields/FieldCursorSkipWhitespacePinLaw", "ws", "(C)Z"⟩ : MethodName) = true := by first | exact plainFor_of_name (by first | (simp [plainName, overriddenIn]; done) | decide +kernel) | decide +kernel
theorem d19_0 : decode method_2_code 0 = .ok (.iload_n 0, 1) := by decide +kernel
theorem d19_1 : decode method_2_code 1 = .ok (.bipush 32, 2) := by decide +kernel
theorem d19_3 : decode method_2_code 3 = .ok (.if_icmp .eq 9, 3) := by decide +kernel
theorem d19_12 : decode method_2_code 12 = .ok (.iconst 1, 1) := by decide +kernel
theorem d19_13 : decode method_2_code 13 = .ok (.goto 4, 3) := by decide +kernel
theorem d19_17 : decode method_2_code 17 = .ok (.ireturn, 1) := by decide +kernel
theorem d19_6 : decode method_2_code 6 = .ok (.iload_n 0, 1) := by decide +kernel
theorem d19_7 : decode method_2_code 7 = .ok (.bipush 9, 2) := by decide +kernel
theorem d19_9 : decode method_2_code 9 = .ok (.if_icmp .ne 7, 3) := by decide +kernel
theorem d19_16 : decode method_2_code 16 = .ok (.iconst 0, 1) := by decide +kernel
theorem ef_rm5 (a : Addr) (u : Addr) (v : Addr) (m : MethodId) : entryFrame m #[(.ref a), (.ref u), (.ref v)] 3 = mkF m 0 #[.val (.ref a), .val (.ref u), .val (.ref v)] [] := by first | (simp [entryFrame, mkF, argsToLocals, Value.category, maxLocals]; done) | rfl
theorem pn_com_example_bote_bote_fields_FieldCursor__init___Ljava_lang_String_Ljava_lang_String__V : plainFor (⟨"com/example/bote/bote/fields/FieldCursor", "<init>", "(Ljava/lang/String;Ljava/lang/String;)V"⟩ : MethodName) = true := by first | exact plainFor_of_name (by first | (simp [plainName, overriddenIn]; done) | decide +kernel) | decide +kernel
theorem d5_0 : decode prog_2_method_1_code 0 = .ok (.aload_n 0, 1) := by decide +kernel
theorem d5_1 : decode prog_2_method_1_code 1 = .ok (.invokespecial 1, 3) := by decide +kernel
theorem d5_4 : decode prog_2_method_1_code 4 = .ok (.aload_n 0, 1) := by decide +kernel
theorem d5_5 : decode prog_2_method_1_code 5 = .ok (.aload_n 1, 1) := by decide +kernel
theorem d5_6 : decode prog_2_method_1_code 6 = .ok (.putfield 7, 3) := by decide +kernel
theorem d5_9 : decode prog_2_method_1_code 9 = .ok (.aload_n 0, 1) := by decide +kernel
theorem d5_10 : decode prog_2_method_1_code 10 = .ok (.aload_n 2, 1) := by decide +kernel
theorem d5_11 : decode prog_2_method_1_code 11 = .ok (.putfield 13, 3) := by decide +kernel
theorem d5_14 : decode prog_2_method_1_code 14 = .ok (.return_, 1) := by decide +kernel
theorem ef_rm_nxI (a : Addr) (u : Addr) (i : Nat) (cs : List Int32) (y : Int32) (m : MethodId) : entryFrame m #[(.ref a), (.int y)] 2 = mkF m 0 #[.val (.ref a), .val (.int y)] [] := by first | (simp [entryFrame, mkF, argsToLocals, Value.category, maxLocals]; done) | rfl
theorem pn_com_example_bote_bote_fields_FieldCursor_isNext__C_Z : plainFor (⟨"com/example/bote/bote/fields/FieldCursor", "isNext", "(C)Z"⟩ : MethodName) = true := by first | exact plainFor_of_name (by first | (simp [plainName, overriddenIn]; done) | decide +kernel) | decide +kernel
theorem d13_0 : decode prog_2_method_5_code 0 = .ok (.aload_n 0, 1) := by decide +kernel
theorem d13_1 : decode prog_2_method_5_code 1 = .ok (.getfield 16, 3) := by decide +kernel
theorem d13_4 : decode prog_2_method_5_code 4 = .ok (.aload_n 0, 1) := by decide +kernel
theorem d13_5 : decode prog_2_method_5_code 5 = .ok (.getfield 7, 3) := by decide +kernel
theorem d13_8 : decode prog_2_method_5_code 8 = .ok (.invokevirtual 20, 3) := by decide +kernel
theorem own_wL {Z : State} {a0 : Array Value} (hw : ∀ d ∈ tables_1, d.before a0 Z = true) : ∀ d ∈ StrChars.Road.wordsLen, d.before a0 Z = true := fun d hd => hw d ((by decide +kernel : ∀ d ∈ StrChars.Road.wordsLen, d ∈ tables_1) d hd)
theorem d13_11 : decode prog_2_method_5_code 11 = .ok (.if_icmp .ge 22, 3) := by decide +kernel
theorem d13_14 : decode prog_2_method_5_code 14 = .ok (.aload_n 0, 1) := by decide +kernel
theorem d13_15 : decode prog_2_method_5_code 15 = .ok (.getfield 7, 3) := by decide +kernel
theorem d13_18 : decode prog_2_method_5_code 18 = .ok (.aload_n 0, 1) := by decide +kernel
theorem d13_19 : decode prog_2_method_5_code 19 = .ok (.getfield 16, 3) := by decide +kernel
theorem d13_22 : decode prog_2_method_5_code 22 = .ok (.invokevirtual 26, 3) := by decide +kernel
theorem pd__28I_29C : parseMethodDescriptor "(I)C" = some ⟨[.int], some .char⟩ := by decide +kernel
theorem d13_25 : decode prog_2_method_5_code 25 = .ok (.iload_n 1, 1) := by decide +kernel
theorem d13_26 : decode prog_2_method_5_code 26 = .ok (.if_icmp .ne 7, 3) := by decide +kernel
theorem d13_29 : decode prog_2_method_5_code 29 = .ok (.iconst 1, 1) := by decide +kernel
theorem d13_30 : decode prog_2_method_5_code 30 = .ok (.goto 4, 3) := by decide +kernel
theorem d13_34 : decode prog_2_method_5_code 34 = .ok (.ireturn, 1) := by decide +kernel
theorem d13_33 : decode prog_2_method_5_code 33 = .ok (.iconst 0, 1) := by decide +kernel
theorem ef_rm_nxE (a : Addr) (u : Addr) (i : Nat) (cs : List Int32) (y : Int32) (m : MethodId) : entryFrame m #[(.ref a), (.int y)] 2 = mkF m 0 #[.val (.ref a), .val (.int y)] [] := by first | (simp [entryFrame, mkF, argsToLocals, Value.category, maxLocals]; done) | rfl
theorem ef_rm_tkI (a : Addr) (u : Addr) (i : Nat) (cs : List Int32) (y : Int32) (m : MethodId) : entryFrame m #[(.ref a), (.int y)] 3 = mkF m 0 #[.val (.ref a), .val (.int y), .unset] [] := by first | (simp [entryFrame, mkF, argsToLocals, Value.category, maxLocals]; done) | rfl
theorem pn_com_example_bote_bote_fields_FieldCursor_take__C_Z : plainFor (⟨"com/example/bote/bote/fields/FieldCursor", "take", "(C)Z"⟩ : MethodName) = true := by first | exact plainFor_of_name (by first | (simp [plainName, overriddenIn]; done) | decide +kernel) | decide +kernel
theorem d12_0 : decode prog_2_method_6_code 0 = .ok (.aload_n 0, 1) := by decide +kernel
theorem d12_1 : decode prog_2_method_6_code 1 = .ok (.iload_n 1, 1) := by decide +kernel
theorem d12_2 : decode prog_2_method_6_code 2 = .ok (.invokevirtual 38, 3) := by decide +kernel
theorem pd__28C_29Z : parseMethodDescriptor "(C)Z" = some ⟨[.char], some .boolean⟩ := by decide +kernel
theorem d12_5 : decode prog_2_method_6_code 5 = .ok (.istore_n 2, 1) := by decide +kernel
theorem d12_6 : decode prog_2_method_6_code 6 = .ok (.iload_n 2, 1) := by decide +kernel
theorem d12_7 : decode prog_2_method_6_code 7 = .ok (.ifCond .eq 13, 3) := by decide +kernel
theorem d12_10 : decode prog_2_method_6_code 10 = .ok (.aload_n 0, 1) := by decide +kernel
theorem d12_11 : decode prog_2_method_6_code 11 = .ok (.dup, 1) := by decide +kernel
theorem d12_12 : decode prog_2_method_6_code 12 = .ok (.getfield 16, 3) := by decide +kernel
theorem d12_15 : decode prog_2_method_6_code 15 = .ok (.iconst 1, 1) := by decide +kernel
theorem d12_16 : decode prog_2_method_6_code 16 = .ok (.iadd, 1) := by decide +kernel
theorem d12_17 : decode prog_2_method_6_code 17 = .ok (.putfield 16, 3) := by decide +kernel
theorem d12_20 : decode prog_2_method_6_code 20 = .ok (.iload_n 2, 1) := by decide +kernel
theorem d12_21 : decode prog_2_method_6_code 21 = .ok (.ireturn, 1) := by decide +kernel
theorem ef_rm_tkE (a : Addr) (u : Addr) (i : Nat) (cs : List Int32) (y : Int32) (m : MethodId) : entryFrame m #[(.ref a), (.int y)] 3 = mkF m 0 #[.val (.ref a), .val (.int y), .unset] [] := by first | (simp [entryFrame, mkF, argsToLocals, Value.category, maxLocals]; done) | rfl
theorem ef_rm_skI (a : Addr) (u : Addr) (i0 : Nat) (kk : Nat) (cs : List Int32) (m : MethodId) : entryFrame m #[(.ref a)] 1 = mkF m 0 #[.val (.ref a)] [] := by first | (simp [entryFrame, mkF, argsToLocals, Value.category, maxLocals]; done) | rfl
theorem pn_com_example_bote_bote_fields_FieldCursor_skipWhitespace___Z : plainFor (⟨"com/example/bote/bote/fields/FieldCursor", "skipWhitespace", "()Z"⟩ : MethodName) = true := by first | exact plainFor_of_name (by first | (simp [plainName, overriddenIn]; done) | decide +kernel) | decide +kernel
theorem d6_0 : decode prog_2_method_2_code 0 = .ok (.aload_n 0, 1) := by decide +kernel
theorem d6_1 : decode prog_2_method_2_code 1 = .ok (.getfield 16, 3) := by decide +kernel
theorem d6_4 : decode prog_2_method_2_code 4 = .ok (.aload_n 0, 1) := by decide +kernel
theorem d6_5 : decode prog_2_method_2_code 5 = .ok (.getfield 7, 3) := by decide +kernel
theorem d6_8 : decode prog_2_method_2_code 8 = .ok (.invokevirtual 20, 3) := by decide +kernel
theorem d6_11 : decode prog_2_method_2_code 11 = .ok (.if_icmp .ge 48, 3) := by decide +kernel
theorem d6_14 : decode prog_2_method_2_code 14 = .ok (.aload_n 0, 1) := by decide +kernel
theorem d6_15 : decode prog_2_method_2_code 15 = .ok (.getfield 7, 3) := by decide +kernel
theorem d6_18 : decode prog_2_method_2_code 18 = .ok (.aload_n 0, 1) := by decide +kernel
theorem d6_19 : decode prog_2_method_2_code 19 = .ok (.getfield 16, 3) := by decide +kernel
theorem d6_22 : decode prog_2_method_2_code 22 = .ok (.invokevirtual 26, 3) := by decide +kernel
theorem d6_25 : decode prog_2_method_2_code 25 = .ok (.bipush 32, 2) := by decide +kernel
theorem d6_27 : decode prog_2_method_2_code 27 = .ok (.if_icmp .eq 19, 3) := by decide +kernel
theorem d6_46 : decode prog_2_method_2_code 46 = .ok (.aload_n 0, 1) := by decide +kernel
theorem d6_47 : decode prog_2_method_2_code 47 = .ok (.dup, 1) := by decide +kernel
theorem d6_48 : decode prog_2_method_2_code 48 = .ok (.getfield 16, 3) := by decide +kernel
theorem d6_51 : decode prog_2_method_2_code 51 = .ok (.iconst 1, 1) := by decide +kernel
theorem d6_52 : decode prog_2_method_2_code 52 = .ok (.iadd, 1) := by decide +kernel
theorem d6_53 : decode prog_2_method_2_code 53 = .ok (.putfield 16, 3) := by decide +kernel
theorem d6_56 : decode prog_2_method_2_code 56 = .ok (.goto (-56), 3) := by decide +kernel
theorem d6_30 : decode prog_2_method_2_code 30 = .ok (.aload_n 0, 1) := by decide +kernel
theorem d6_31 : decode prog_2_method_2_code 31 = .ok (.getfield 7, 3) := by decide +kernel
theorem d6_34 : decode prog_2_method_2_code 34 = .ok (.aload_n 0, 1) := by decide +kernel
theorem d6_35 : decode prog_2_method_2_code 35 = .ok (.getfield 16, 3) := by decide +kernel
theorem d6_38 : decode prog_2_method_2_code 38 = .ok (.invokevirtual 26, 3) := by decide +kernel
theorem d6_41 : decode prog_2_method_2_code 41 = .ok (.bipush 9, 2) := by decide +kernel
theorem d6_43 : decode prog_2_method_2_code 43 = .ok (.if_icmp .ne 16, 3) := by decide +kernel
theorem d6_59 : decode prog_2_method_2_code 59 = .ok (.aload_n 0, 1) := by decide +kernel
theorem d6_60 : decode prog_2_method_2_code 60 = .ok (.getfield 16, 3) := by decide +kernel
theorem d6_63 : decode prog_2_method_2_code 63 = .ok (.aload_n 0, 1) := by decide +kernel
theorem d6_64 : decode prog_2_method_2_code 64 = .ok (.getfield 7, 3) := by decide +kernel
theorem d6_67 : decode prog_2_method_2_code 67 = .ok (.invokevirtual 20, 3) := by decide +kernel
theorem d6_70 : decode prog_2_method_2_code 70 = .ok (.if_icmp .ge 7, 3) := by decide +kernel
theorem d6_73 : decode prog_2_method_2_code 73 = .ok (.iconst 1, 1) := by decide +kernel
theorem d6_74 : decode prog_2_method_2_code 74 = .ok (.goto 4, 3) := by decide +kernel
theorem d6_78 : decode prog_2_method_2_code 78 = .ok (.ireturn, 1) := by decide +kernel
theorem d6_77 : decode prog_2_method_2_code 77 = .ok (.iconst 0, 1) := by decide +kernel
theorem ef_rm_skE (a : Addr) (u : Addr) (i0 : Nat) (kk : Nat) (cs : List Int32) (m : MethodId) : entryFrame m #[(.ref a)] 1 = mkF m 0 #[.val (.ref a)] [] := by first | (simp [entryFrame, mkF, argsToLocals, Value.category, maxLocals]; done) | rfl
theorem ef_rm0 (pa : Int32) (pb : Int32) (pc_ : Int32) (pd : Int32) (ps : Int32) (m : MethodId) : entryFrame m #[(.int pa), (.int pb), (.int pc_), (.int pd), (.int ps)] maxLocals = mkF m 0 #[.val (.int pa), .val (.int pb), .val (.int pc_), .val (.int pd), .val (.int ps), .unset, .unset, .unset, .unset, .unset, .unset, .unset, .unset, .unset, .unset, .unset, .unset, .unset] [] := by first | (simp [entryFrame, mkF, argsToLocals, Value.category, maxLocals]; done) | rfl
theorem pn_com_example_bote_bote_fields_FieldCursorSkipWhitespacePinLaw_law__IIIII_Z : plainFor (⟨"com/example/bote/bote/fields/FieldCursorSkipWhitespacePinLaw", "law", "(IIIII)Z"⟩ : MethodName) = true := by first | exact plainFor_of_name (by first | (simp [plainName, overriddenIn]; done) | decide +kernel) | decide +kernel
theorem pd__28_5bC_29V : parseMethodDescriptor "([C)V" = some ⟨[(.array .char)], none⟩ := by decide +kernel
theorem own_ELne : own_EL ≠ [] := by unfold own_EL consts_1; exact List.cons_ne_nil _ _
theorem pd__28Ljava_2flang_2fString_3bLjava_2flang_2fString_3b_29V : parseMethodDescriptor "(Ljava/lang/String;Ljava/lang/String;)V" = some ⟨[(.object "java/lang/String"), (.object "java/lang/String")], none⟩ := by decide +kernel
set_option maxRecDepth 65536
set_option maxHeartbeats 40000000
theorem rm_emp4 (l : Launch) (Z : State) (a0 : Array Value) (hw : ∀ d ∈ tables_1, d.before a0 Z = true) (n0 : Nat) (h0 : Heap) (hWd : OWorld Z a0) (wc : List Jvm.Cond) (O0 : Old Z n0 h0) (a : Addr) (b : Addr) (y : Value) (z : Int32) (q0 : Exa Z h0 a "java/lang/String") (q1 : Fld Z h0 a "java/lang/String" "value" "[B" y) (q2 : Fld Z h0 a "java/lang/String" "coder" "B" (.int z)) (g0 : n0 ≤ a ∧ a < h0.size) :
    OMet l Z own_EL n0 (⟨"java/lang/String", "<init>", "([CIILjava/lang/Void;)V"⟩ : MethodName) (Jvm.Cond.code (⟨"java/lang/String", "<init>", "([CIILjava/lang/Void;)V"⟩ : MethodName) jdk_42_method_149_code 6 none :: wc) ({ frames := 1, cells := 4, slots := 8, locals := 12 } : Room) #[(.ref a), (.ref b), (.int 0), (.int 0), .null] h0 [a] (fun vq hq => vq = none ∧ OStr Z hq a [] hq.size) := by
  refine own_enter #[.val (.ref a), .val (.ref b), .val (.int 0), .val (.int 0), .val .null, .unset] pn_java_lang_String__init____CIILjava_lang_Void__V (ef_rm_emp4 a b y z) hWd.1 O0 (allS g0 all0) ?_
  intro p e s m below meth c T0 X0 hnm hret
  refine og_aloadN X0 1 d3_0 rfl rfl rfl ?_
  refine own_obj0 X0 4 (a := a) d3_1 (ow hw 19 rfl) (ow hw 20 rfl) (ow hw 21 rfl) rfl (W := 0) rfl (by decide) (by decide) rfl ?_
  intro T1 X2
  refine og_iloadN X2 5 d3_4 rfl rfl ?_
  refine og_ifN X2 8 d3_5 (XT.i0_ne_f (by decide)) rfl ?_
  refine og_aloadN X2 9 d3_8 rfl rfl rfl ?_
  refine own_ldcR X2 11 (cap := 0) (vs := []) (z := (0 : Int32)) d3_9 (om 1 rfl) (ow hw 22 rfl) (own_wS hw) ⟨by decide, rfl⟩ (by decide) rfl (by decide) (by decide) (by decide) (by decide) rfl ?_
  intro T3 h3 a3 b3 kb3 X3 K3 E3 C3 V3 A3 far3
  have f4 := own_mkStr (cs := []) (bs := []) (n := 0) E3 C3 V3 A3 rfl own_l0 rfl rfl (by decide)
  refine own_get X3 14 d3_11 (host := "") (Or.inl (ow hw 28 rfl)) Via.refl V3 rfl ?_
  intro T5 X6
  have f7 := q1.keep K3 nin0
  have f8 := q0.keep K3
  have f9 := q2.keep K3 nin0
  refine own_put X6 17 d3_14 (host := "") (Or.inl (ow hw 28 rfl)) Via.refl f7 f8 (Or.inr ⟨(ow hw 24 rfl), rfl, hnm⟩) (ow hw 10 rfl) (ty := (.array .byte)) (by decide) rfl rfl (om 0 rfl) rfl ?_
  intro T10 h10 X10 W10 K10 F10
  have f11 := Fld.other W10 f9 (Or.inr (slot_ne (Or.inr (ow hw 25 rfl)) (Or.inr (ow hw 24 rfl)) (by decide) (t := .byte) (t' := (.array .byte)) (by decide) (by decide)))
  refine og_aloadN X10 18 d3_17 rfl rfl rfl ?_
  refine own_ldcR X10 20 (cap := 0) (vs := []) (z := (0 : Int32)) d3_18 (om 1 rfl) (ow hw 22 rfl) (own_wS hw) ⟨by decide, rfl⟩ (by decide) rfl (by decide) (by decide) (by decide) (by decide) rfl ?_
  intro T12 h12 a12 b12 kb12 X12 K12 E12 C12 V12 A12 far12
  have f13 := own_mkStr (cs := []) (bs := []) (n := 0) E12 C12 V12 A12 rfl own_l0 rfl rfl (by decide)
  refine own_get X12 23 d3_20 (host := "") (Or.inl (ow hw 29 rfl)) Via.refl C12 rfl ?_
  intro T14 X15
  have f16 := f11.keep K12 nin0
  have f17 := f8.keep K10
  have f18 := f17.keep K12
  have f19 := F10.keep K12 nin0
  refine own_put X15 26 d3_23 (host := "") (Or.inl (ow hw 29 rfl)) Via.refl f16 f18 (Or.inr ⟨(ow hw 25 rfl), rfl, hnm⟩) (ow hw 10 rfl) (ty := .byte) (by decide) rfl rfl (om 0 rfl) rfl ?_
  intro T20 h20 X20 W20 K20 F20
  have f21 := Fld.other W20 f19 (Or.inr (slot_ne (Or.inr (ow hw 24 rfl)) (Or.inr (ow hw 25 rfl)) (by decide) (t := (.array .byte)) (t' := .byte) (by decide) (by decide)))
  have f22 := f18.keep K20
  have f23 := A3.keep K10 (ninS (Ne.symm (far3 _ (om 0 rfl)).2) nin0)
  have f24 := f23.keep K12 nin0
  have f25 := f24.keep K20 (ninS (Ne.symm (far3 _ (om 0 rfl)).2) nin0)
  refine own_retV X20 d3_26 hret (by decide) (by decide) ?_
  exact ⟨rfl, own_mkStr (cs := []) (bs := []) (n := 0) f22 F20 f21 f25 rfl own_l0 rfl rfl (by decide)⟩
theorem rm_emp1 (l : Launch) (Z : State) (a0 : Array Value) (hw : ∀ d ∈ tables_1, d.before a0 Z = true) (n0 : Nat) (h0 : Heap) (hWd : OWorld Z a0) (wc : List Jvm.Cond) (O0 : Old Z n0 h0) (a : Addr) (b : Addr) (y : Value) (z : Int32) (kb : ClassId) (q0 : Exa Z h0 a "java/lang/String") (q1 : Fld Z h0 a "java/lang/String" "value" "[B" y) (q2 : Fld Z h0 a "java/lang/String" "coder" "B" (.int z)) (q3 : Arv Z h0 b kb .char (0 : Int32) [] (.int 0)) (g0 : n0 ≤ a ∧ a < h0.size) :
    OMet l Z own_EL n0 (⟨"java/lang/String", "<init>", "([C)V"⟩ : MethodName) (Jvm.Cond.code (⟨"java/lang/String", "<init>", "([C)V"⟩ : MethodName) jdk_42_method_3_code 2 none :: wc) ({ frames := 2, cells := 4, slots := 8, locals := 29 } : Room) #[(.ref a), (.ref b)] h0 [a] (fun vq hq => vq = none ∧ OStr Z hq a [] hq.size) := by
  refine own_enter #[.val (.ref a), .val (.ref b)] pn_java_lang_String__init____C_V (ef_rm_emp1 a b y z kb) hWd.1 O0 (allS g0 all0) ?_
  intro p e s m below meth c T0 X0 hnm hret
  refine og_aloadN X0 1 d2_0 rfl rfl rfl ?_
  refine og_aloadN X0 2 d2_1 rfl rfl rfl ?_
  refine og_iconst X0 3 (0 : Int32) d2_2 rfl rfl ?_
  refine og_aloadN X0 4 d2_3 rfl rfl rfl ?_
  refine own_len X0 5 d2_4 q3 rfl ?_
  refine og_aconstNull X0 6 d2_5 rfl ?_
  refine own_spec X0 9 (a := a) (argsL := [(.ref b), (.int 0), (.int 0), .null]) (rest := []) d2_6 rfl (rm_emp4 l Z a0 hw n0 h0 hWd [] X0.old a b y z q0 q1 q2 (own_svb X0 (om 0 rfl))) (ow hw 15 rfl) (ow hw 16 rfl) (ow hw 11 rfl) (ow hw 18 rfl) (by decide) (lenOf pd__28_5bCIILjava_2flang_2fVoid_3b_29V rfl) rfl rfl rfl (W := 0) rfl (by decide) (by decide) (by decide) (by decide) (allS (om 0 rfl) all0) rfl ?_
  intro T1 h1 v1 X1 K1 hQ1
  obtain ⟨rfl, f2⟩ := hQ1
  show OGo _ _ _ _ T1 (mkF m 9 #[.val (.ref a), .val (.ref b)] [])
  refine own_retV X1 d2_9 hret (by decide) (by decide) ?_
  exact ⟨rfl, f2.top⟩
theorem ru_pci (l : Launch) (Z : State) (a0 : Array Value) (hw : ∀ d ∈ tables_1, d.before a0 Z = true) (n0 : Nat) (h0 : Heap) (hWd : OWorld Z a0) (wc : List Jvm.Cond) (O0 : Old Z n0 h0) (x : Int32) (y : Int32) (fm : Value) (q0 : (fm).isRef = true) (q1 : ¬ x < 0) (q2 : x < y) :
    OMet l Z own_EL n0 (⟨"jdk/internal/util/Preconditions", "checkIndex", "(IILjava/util/function/BiFunction;)I"⟩ : MethodName) (Jvm.Cond.code (⟨"jdk/internal/util/Preconditions", "checkIndex", "(IILjava/util/function/BiFunction;)I"⟩ : MethodName) jdk_41_method_11_code 3 (some .int) :: wc) ({ frames := 0, cells := 0, slots := 0, locals := 0 } : Room) #[(.int x), (.int y), fm] h0 [] (fun vq hq => vq = some (.int x)) := by
  refine own_enter #[.val (.int x), .val (.int y), .val fm] pn_jdk_internal_util_Preconditions_checkIndex__IILjava_util_function_BiFunction__I (ef_ru_pci x y fm q0) hWd.1 O0 all0 ?_
  intro p e s m below meth c T0 X0 hnm hret
  refine og_iloadN X0 1 d18_0 rfl rfl ?_
  refine og_ifN X0 4 d18_1 (XT.i0_lt_f q1) rfl ?_
  refine og_iloadN X0 5 d18_4 rfl rfl ?_
  refine og_iloadN X0 6 d18_5 rfl rfl ?_
  refine og_icmpY X0 16 d18_6 (XT.ii_lt_t q2) (by decide) (by decide) ?_
  refine og_iloadN X0 17 d18_16 rfl rfl ?_
  refine own_retI X0 d18_17 hret (by decide) (by decide) ?_
  exact rfl
theorem ru_sci (l : Launch) (Z : State) (a0 : Array Value) (hw : ∀ d ∈ tables_1, d.before a0 Z = true) (n0 : Nat) (h0 : Heap) (hWd : OWorld Z a0) (wc : List Jvm.Cond) (O0 : Old Z n0 h0) (x : Int32) (y : Int32) (q0 : ¬ x < 0) (q1 : x < y) :
    OMet l Z own_EL n0 (⟨"java/lang/String", "checkIndex", "(II)V"⟩ : MethodName) (Jvm.Cond.code (⟨"java/lang/String", "checkIndex", "(II)V"⟩ : MethodName) jdk_42_method_155_code 2 none :: wc) ({ frames := 1, cells := 0, slots := 0, locals := 14 } : Room) #[(.int x), (.int y)] h0 [] (fun vq hq => vq = none) := by
  refine own_enter #[.val (.int x), .val (.int y)] pn_java_lang_String_checkIndex__II_V (ef_ru_sci x y) hWd.1 O0 all0 ?_
  intro p e s m below meth c T0 X0 hnm hret
  refine og_iloadN X0 1 d17_0 rfl rfl ?_
  refine og_iloadN X0 2 d17_1 rfl rfl ?_
  refine own_getS X0 5 d17_2 (host := "") (Or.inl (ow hw 94 rfl)) Via.refl hWd.2.2.1.1 rfl ?_
  intro T1 X2
  refine own_stat X2 8 (argsL := [(.int x), (.int y), (own_stv Z "jdk/internal/util/Preconditions" "SIOOBE_FORMATTER" "Ljava/util/function/BiFunction;")]) (rest := []) d17_5 (ru_pci l Z a0 hw n0 h0 hWd [] X2.old x y (own_stv Z "jdk/internal/util/Preconditions" "SIOOBE_FORMATTER" "Ljava/util/function/BiFunction;") hWd.2.2.1.2 q0 q1 ) (ow hw 96 rfl) (ow hw 97 rfl) (ow hw 95 rfl) (ow hw 98 rfl) (by decide) (lenOf pd__28IILjava_2futil_2ffunction_2fBiFunction_3b_29I rfl) rfl rfl rfl (W := 0) rfl (by decide) (by decide) (by decide) (by decide) all0 rfl ?_
  intro T3 h3 v3 X3 K3 hQ3
  obtain rfl := hQ3
  show OGo _ _ _ _ T3 (mkF m 8 #[.val (.int x), .val (.int y)] [(.int x)])
  refine og_pop X3 9 d17_8 rfl rfl ?_
  refine own_retV X3 d17_9 hret (by decide) (by decide) ?_
  exact rfl
theorem ru_isl0 (l : Launch) (Z : State) (a0 : Array Value) (hw : ∀ d ∈ tables_1, d.before a0 Z = true) (n0 : Nat) (h0 : Heap) (hWd : OWorld Z a0) (wc : List Jvm.Cond) (O0 : Old Z n0 h0) (a : Addr) (q0 : Fld Z h0 a "java/lang/String" "coder" "B" (.int 0)) :
    OMet l Z own_EL n0 (⟨"java/lang/String", "isLatin1", "()Z"⟩ : MethodName) (Jvm.Cond.code (⟨"java/lang/String", "isLatin1", "()Z"⟩ : MethodName) jdk_42_method_154_code 1 (some .boolean) :: wc) ({ frames := 0, cells := 0, slots := 0, locals := 0 } : Room) #[(.ref a)] h0 [] (fun vq hq => vq = some (.int 1)) := by
  refine own_enter #[.val (.ref a)] pn_java_lang_String_isLatin1___Z (ef_ru_isl0 a) hWd.1 O0 all0 ?_
  intro p e s m below meth c T0 X0 hnm hret
  refine own_getS X0 3 d15_0 (host := "") (Or.inl (ow hw 56 rfl)) Via.refl hWd.2.1.1 rfl ?_
  intro T1 X2
  refine og_ifN X2 6 d15_3 (XT.i0_eq_f hWd.2.1.2) rfl ?_
  refine og_aloadN X2 7 d15_6 rfl rfl rfl ?_
  refine own_get X2 10 d15_7 (host := "") (Or.inl (ow hw 29 rfl)) Via.refl q0 rfl ?_
  intro T3 X4
  refine og_ifN X4 13 d15_10 (XT.i0_ne_f (by decide)) rfl ?_
  refine og_iconst X4 14 (1 : Int32) d15_13 rfl rfl ?_
  refine og_goto X4 18 d15_14 (by decide) (by decide) ?_
  refine own_retZ X4 d15_18 hret rfl (by decide) (by decide) ?_
  exact rfl
theorem ru_isl1 (l : Launch) (Z : State) (a0 : Array Value) (hw : ∀ d ∈ tables_1, d.before a0 Z = true) (n0 : Nat) (h0 : Heap) (hWd : OWorld Z a0) (wc : List Jvm.Cond) (O0 : Old Z n0 h0) (a : Addr) (q0 : Fld Z h0 a "java/lang/String" "coder" "B" (.int 1)) :
    OMet l Z own_EL n0 (⟨"java/lang/String", "isLatin1", "()Z"⟩ : MethodName) (Jvm.Cond.code (⟨"java/lang/String", "isLatin1", "()Z"⟩ : MethodName) jdk_42_method_154_code 1 (some .boolean) :: wc) ({ frames := 0, cells := 0, slots := 0, locals := 0 } : Room) #[(.ref a)] h0 [] (fun vq hq => vq = some (.int 0)) := by
  refine own_enter #[.val (.ref a)] pn_java_lang_String_isLatin1___Z (ef_ru_isl1 a) hWd.1 O0 all0 ?_
  intro p e s m below meth c T0 X0 hnm hret
  refine own_getS X0 3 d15_0 (host := "") (Or.inl (ow hw 56 rfl)) Via.refl hWd.2.1.1 rfl ?_
  intro T1 X2
  refine og_ifN X2 6 d15_3 (XT.i0_eq_f hWd.2.1.2) rfl ?_
  refine og_aloadN X2 7 d15_6 rfl rfl rfl ?_
  refine own_get X2 10 d15_7 (host := "") (Or.inl (ow hw 29 rfl)) Via.refl q0 rfl ?_
  intro T3 X4
  refine og_ifY X4 17 d15_10 (XT.i0_ne_t (by decide)) (by decide) (by decide) ?_
  refine og_iconst X4 18 (0 : Int32) d15_17 rfl rfl ?_
  refine own_retZ X4 d15_18 hret rfl (by decide) (by decide) ?_
  exact rfl
theorem rg_len (l : Launch) (Z : State) (a0 : Array Value) (hw : ∀ d ∈ tables_1, d.before a0 Z = true) (n0 : Nat) (h0 : Heap) (hWd : OWorld Z a0) (wc : List Jvm.Cond) (O0 : Old Z n0 h0) (b : Addr) (kb : ClassId) (cs : List Int32) (q0 : Arv Z h0 b kb .byte (Int32.ofNat (2 * (cs).length)) (StrChars.Road.wideBytes cs) (.int 0)) (q1 : (cs).length ≤ 4000) :
    OMet l Z own_EL n0 (⟨"java/lang/StringUTF16", "length", "([B)I"⟩ : MethodName) (Jvm.Cond.code (⟨"java/lang/StringUTF16", "length", "([B)I"⟩ : MethodName) jdk_52_method_6_code 1 (some .int) :: wc) ({ frames := 0, cells := 0, slots := 0, locals := 0 } : Room) #[(.ref b)] h0 [] (fun vq hq => vq = some (.int (Int32.ofNat (cs).length))) := by
  refine own_enter #[.val (.ref b)] pn_java_lang_StringUTF16_length___B_I (ef_rg_len b kb cs) hWd.1 O0 all0 ?_
  intro p e s m below meth c T0 X0 hnm hret
  refine og_aloadN X0 1 d27_0 rfl rfl rfl ?_
  refine own_len X0 2 d27_1 q0 rfl ?_
  refine og_iconst X0 3 (1 : Int32) d27_2 rfl rfl ?_
  refine og_ishr X0 4 d27_3 rfl ?_
  refine own_retI X0 d27_4 hret (by decide) (by decide) ?_
  rw [own_shr1 q1]
theorem rg_uci (l : Launch) (Z : State) (a0 : Array Value) (hw : ∀ d ∈ tables_1, d.before a0 Z = true) (n0 : Nat) (h0 : Heap) (hWd : OWorld Z a0) (wc : List Jvm.Cond) (O0 : Old Z n0 h0) (b : Addr) (kb : ClassId) (cs : List Int32) (i : Nat) (q0 : Arv Z h0 b kb .byte (Int32.ofNat (2 * (cs).length)) (StrChars.Road.wideBytes cs) (.int 0)) (q1 : (cs).length ≤ 4000) (q2 : i < (cs).length) :
    OMet l Z own_EL n0 (⟨"java/lang/StringUTF16", "checkIndex", "(I[B)V"⟩ : MethodName) (Jvm.Cond.code (⟨"java/lang/StringUTF16", "checkIndex", "(I[B)V"⟩ : MethodName) jdk_52_method_91_code 2 none :: wc) ({ frames := 2, cells := 0, slots := 0, locals := 27 } : Room) #[(.int (Int32.ofNat i)), (.ref b)] h0 [] (fun vq hq => vq = none) := by
  refine own_enter #[.val (.int (Int32.ofNat i)), .val (.ref b)] pn_java_lang_StringUTF16_checkIndex__I_B_V (ef_rg_uci b kb cs i) hWd.1 O0 all0 ?_
  intro p e s m below meth c T0 X0 hnm hret
  refine og_iloadN X0 1 d26_0 rfl rfl ?_
  refine og_aloadN X0 2 d26_1 rfl rfl rfl ?_
  refine own_stat X0 5 (argsL := [(.ref b)]) (rest := [(.int (Int32.ofNat i))]) d26_2 (rg_len l Z a0 hw n0 h0 hWd [] X0.old b kb cs q0 q1 ) (ow hw 128 rfl) (ow hw 129 rfl) (ow hw 59 rfl) (ow hw 130 rfl) (by decide) (lenOf pd__28_5bB_29I rfl) rfl rfl rfl (W := 1) rfl (by decide) (by decide) (by decide) (by decide) all0 rfl ?_
  intro T1 h1 v1 X1 K1 hQ1
  obtain rfl := hQ1
  show OGo _ _ _ _ T1 (mkF m 5 #[.val (.int (Int32.ofNat i)), .val (.ref b)] [(.int (Int32.ofNat (cs).length)), (.int (Int32.ofNat i))])
  refine own_stat X1 8 (argsL := [(.int (Int32.ofNat i)), (.int (Int32.ofNat (cs).length))]) (rest := []) d26_5 (ru_sci l Z a0 hw n0 h1 hWd [] X1.old (Int32.ofNat i) (Int32.ofNat (cs).length) (own_onn (by omega)) (own_olt (by omega) (by omega)) ) (ow hw 131 rfl) (ow hw 92 rfl) (ow hw 11 rfl) (ow hw 93 rfl) (by decide) (lenOf pd__28II_29V rfl) rfl rfl rfl (W := 0) rfl (by decide) (by decide) (by decide) (by decide) all0 rfl ?_
  intro T2 h2 v2 X2 K2 hQ2
  obtain rfl := hQ2
  show OGo _ _ _ _ T2 (mkF m 8 #[.val (.int (Int32.ofNat i)), .val (.ref b)] [])
  refine own_retV X2 d26_8 hret (by decide) (by decide) ?_
  exact rfl
theorem rg_get (l : Launch) (Z : State) (a0 : Array Value) (hw : ∀ d ∈ tables_1, d.before a0 Z = true) (n0 : Nat) (h0 : Heap) (hWd : OWorld Z a0) (wc : List Jvm.Cond) (O0 : Old Z n0 h0) (b : Addr) (kb : ClassId) (cs : List Int32) (i : Nat) (q0 : Arv Z h0 b kb .byte (Int32.ofNat (2 * (cs).length)) (StrChars.Road.wideBytes cs) (.int 0)) (q1 : (cs).length ≤ 4000) (q2 : i < (cs).length) :
    OMet l Z own_EL n0 (⟨"java/lang/StringUTF16", "getChar", "([BI)C"⟩ : MethodName) (Jvm.Cond.code (⟨"java/lang/StringUTF16", "getChar", "([BI)C"⟩ : MethodName) jdk_52_method_5_code 2 (some .char) :: wc) ({ frames := 0, cells := 0, slots := 0, locals := 0 } : Room) #[(.ref b), (.int (Int32.ofNat i))] h0 [] (fun vq hq => vq = some (.int (StrChars.pairCh (StrChars.lo8 ((cs).getD i 0)) (StrChars.hi8 ((cs).getD i 0))))) := by
  refine own_enter #[.val (.ref b), .val (.int (Int32.ofNat i))] pn_java_lang_StringUTF16_getChar___BI_C (ef_rg_get b kb cs i) hWd.1 O0 all0 ?_
  intro p e s m below meth c T0 X0 hnm hret
  refine own_getS X0 3 d24_0 (host := "") (Or.inl (ow hw 116 rfl)) Via.refl hWd.2.2.2.1 rfl ?_
  intro T1 X2
  refine og_ifY X2 28 d24_3 (XT.i0_ne_t (by decide)) (by decide) (by decide) ?_
  refine og_iloadN X2 29 d24_28 rfl rfl ?_
  refine og_iconst X2 30 (1 : Int32) d24_29 rfl rfl ?_
  refine og_ishl X2 31 d24_30 rfl ?_
  rw [own_shl1 (i := i) (by omega)]
  refine og_istoreN X2 32 #[.val (.ref b), .val (.int (Int32.ofNat (2 * i)))] d24_31 rfl rfl ?_
  refine og_aloadN X2 33 d24_32 rfl rfl rfl ?_
  refine og_iloadN X2 34 d24_33 rfl rfl ?_
  refine og_iinc X2 37 #[.val (.ref b), .val (.int ((Int32.ofNat (2 * i)) + (1 : Int32)))] d24_34 rfl rfl rfl ?_
  rw [own_o1]
  refine own_ldB X2 38 d24_37 q0 (v := .int (StrChars.lo8 ((cs).getD i 0))) (own_onn (by omega)) (own_olt (by omega) (by omega)) (by rw [own_oc (by omega)]; exact StrChars.Road.wide_lo _ cs i q2) rfl ?_
  refine og_sipush X2 41 (255 : Int32) d24_38 rfl rfl ?_
  refine og_iand X2 42 d24_41 rfl ?_
  refine own_getS X2 45 d24_42 (host := "") (Or.inl (ow hw 117 rfl)) Via.refl hWd.2.2.2.2.1 rfl ?_
  intro T3 X4
  refine og_ishl X4 46 d24_45 rfl ?_
  refine og_aloadN X4 47 d24_46 rfl rfl rfl ?_
  refine og_iloadN X4 48 d24_47 rfl rfl ?_
  refine own_ldB X4 49 d24_48 q0 (v := .int (StrChars.hi8 ((cs).getD i 0))) (own_onn (by omega)) (own_olt (by omega) (by omega)) (by rw [own_oc (by omega)]; exact StrChars.Road.wide_hi _ cs i q2) rfl ?_
  refine og_sipush X4 52 (255 : Int32) d24_49 rfl rfl ?_
  refine og_iand X4 53 d24_52 rfl ?_
  refine own_getS X4 56 d24_53 (host := "") (Or.inl (ow hw 118 rfl)) Via.refl hWd.2.2.2.2.2 rfl ?_
  intro T5 X6
  refine og_ishl X6 57 d24_56 rfl ?_
  refine og_ior X6 58 d24_57 rfl ?_
  refine og_i2c X6 59 d24_58 rfl ?_
  refine own_retC X6 d24_59 hret (own_fitC (own_lat16 _).1 (own_lat16 _).2) (by decide) (by decide) ?_
  exact rfl
theorem rg_uca (l : Launch) (Z : State) (a0 : Array Value) (hw : ∀ d ∈ tables_1, d.before a0 Z = true) (n0 : Nat) (h0 : Heap) (hWd : OWorld Z a0) (wc : List Jvm.Cond) (O0 : Old Z n0 h0) (b : Addr) (kb : ClassId) (cs : List Int32) (i : Nat) (q0 : Arv Z h0 b kb .byte (Int32.ofNat (2 * (cs).length)) (StrChars.Road.wideBytes cs) (.int 0)) (q1 : (cs).length ≤ 4000) (q2 : i < (cs).length) :
    OMet l Z own_EL n0 (⟨"java/lang/StringUTF16", "charAt", "([BI)C"⟩ : MethodName) (Jvm.Cond.code (⟨"java/lang/StringUTF16", "charAt", "([BI)C"⟩ : MethodName) jdk_52_method_83_code 2 (some .char) :: wc) ({ frames := 3, cells := 0, slots := 0, locals := 40 } : Room) #[(.ref b), (.int (Int32.ofNat i))] h0 [] (fun vq hq => vq = some (.int (StrChars.pairCh (StrChars.lo8 ((cs).getD i 0)) (StrChars.hi8 ((cs).getD i 0))))) := by
  refine own_enter #[.val (.ref b), .val (.int (Int32.ofNat i))] pn_java_lang_StringUTF16_charAt___BI_C (ef_rg_uca b kb cs i) hWd.1 O0 all0 ?_
  intro p e s m below meth c T0 X0 hnm hret
  refine og_iloadN X0 1 d25_0 rfl rfl ?_
  refine og_aloadN X0 2 d25_1 rfl rfl rfl ?_
  refine own_stat X0 5 (argsL := [(.int (Int32.ofNat i)), (.ref b)]) (rest := []) d25_2 (rg_uci l Z a0 hw n0 h0 hWd [] X0.old b kb cs i q0 q1 q2 ) (ow hw 125 rfl) (ow hw 126 rfl) (ow hw 59 rfl) (ow hw 127 rfl) (by decide) (lenOf pd__28I_5bB_29V rfl) rfl rfl rfl (W := 0) rfl (by decide) (by decide) (by decide) (by decide) all0 rfl ?_
  intro T1 h1 v1 X1 K1 hQ1
  obtain rfl := hQ1
  show OGo _ _ _ _ T1 (mkF m 5 #[.val (.ref b), .val (.int (Int32.ofNat i))] [])
  refine og_aloadN X1 6 d25_5 rfl rfl rfl ?_
  refine og_iloadN X1 7 d25_6 rfl rfl ?_
  have f2 := q0.keep K1 nin0
  refine own_stat X1 10 (argsL := [(.ref b), (.int (Int32.ofNat i))]) (rest := []) d25_7 (rg_get l Z a0 hw n0 h1 hWd [] X1.old b kb cs i f2 q1 q2 ) (ow hw 119 rfl) (ow hw 120 rfl) (ow hw 59 rfl) (ow hw 121 rfl) (by decide) (lenOf pd__28_5bBI_29C rfl) rfl rfl rfl (W := 0) rfl (by decide) (by decide) (by decide) (by decide) all0 rfl ?_
  intro T3 h3 v3 X3 K3 hQ3
  obtain rfl := hQ3
  show OGo _ _ _ _ T3 (mkF m 10 #[.val (.ref b), .val (.int (Int32.ofNat i))] [(.int (StrChars.pairCh (StrChars.lo8 ((cs).getD i 0)) (StrChars.hi8 ((cs).getD i 0))))])
  refine own_retC X3 d25_10 hret (own_fitC (own_lat16 _).1 (own_lat16 _).2) (by decide) (by decide) ?_
  exact rfl
theorem rg_lca (l : Launch) (Z : State) (a0 : Array Value) (hw : ∀ d ∈ tables_1, d.before a0 Z = true) (n0 : Nat) (h0 : Heap) (hWd : OWorld Z a0) (wc : List Jvm.Cond) (O0 : Old Z n0 h0) (b : Addr) (kb : ClassId) (cs : List Int32) (i : Nat) (q0 : Arv Z h0 b kb .byte (Int32.ofNat (cs).length) ((cs).map fun c => Value.int (StrChars.lo8 c)) (.int 0)) (q1 : (cs).length ≤ 4000) (q2 : i < (cs).length) :
    OMet l Z own_EL n0 (⟨"java/lang/StringLatin1", "charAt", "([BI)C"⟩ : MethodName) (Jvm.Cond.code (⟨"java/lang/StringLatin1", "charAt", "([BI)C"⟩ : MethodName) jdk_43_method_2_code 2 (some .char) :: wc) ({ frames := 2, cells := 0, slots := 0, locals := 27 } : Room) #[(.ref b), (.int (Int32.ofNat i))] h0 [] (fun vq hq => vq = some (.int ((StrChars.lo8 ((cs).getD i 0)) &&& (255 : Int32)))) := by
  refine own_enter #[.val (.ref b), .val (.int (Int32.ofNat i))] pn_java_lang_StringLatin1_charAt___BI_C (ef_rg_lca b kb cs i) hWd.1 O0 all0 ?_
  intro p e s m below meth c T0 X0 hnm hret
  refine og_iloadN X0 1 d16_0 rfl rfl ?_
  refine og_aloadN X0 2 d16_1 rfl rfl rfl ?_
  refine own_len X0 3 d16_2 q0 rfl ?_
  refine own_stat X0 6 (argsL := [(.int (Int32.ofNat i)), (.int (Int32.ofNat (cs).length))]) (rest := []) d16_3 (ru_sci l Z a0 hw n0 h0 hWd [] X0.old (Int32.ofNat i) (Int32.ofNat (cs).length) (own_onn (by omega)) (own_olt (by omega) (by omega)) ) (ow hw 91 rfl) (ow hw 92 rfl) (ow hw 11 rfl) (ow hw 93 rfl) (by decide) (lenOf pd__28II_29V rfl) rfl rfl rfl (W := 0) rfl (by decide) (by decide) (by decide) (by decide) all0 rfl ?_
  intro T1 h1 v1 X1 K1 hQ1
  obtain rfl := hQ1
  show OGo _ _ _ _ T1 (mkF m 6 #[.val (.ref b), .val (.int (Int32.ofNat i))] [])
  refine og_aloadN X1 7 d16_6 rfl rfl rfl ?_
  refine og_iloadN X1 8 d16_7 rfl rfl ?_
  have f2 := q0.keep K1 nin0
  refine own_ldB X1 9 d16_8 f2 (v := .int (StrChars.lo8 ((cs).getD i 0))) (own_onn (by omega)) (own_olt (by omega) (by omega)) (by rw [own_oc (by omega)]; exact StrChars.Road.low_at _ cs i q2) rfl ?_
  refine og_sipush X1 12 (255 : Int32) d16_9 rfl rfl ?_
  refine og_iand X1 13 d16_12 rfl ?_
  refine og_i2c8 X1 14 d16_13 rfl ?_
  refine own_retC X1 d16_14 hret (own_fitC (own_lat8 _).1 (own_up8 (own_lat8 _).2)) (by decide) (by decide) ?_
  exact rfl
theorem rg_ch (l : Launch) (Z : State) (a0 : Array Value) (hw : ∀ d ∈ tables_1, d.before a0 Z = true) (n0 : Nat) (h0 : Heap) (hWd : OWorld Z a0) (wc : List Jvm.Cond) (O0 : Old Z n0 h0) (a : Addr) (cs : List Int32) (i : Nat) (q0 : OStr Z h0 a cs h0.size) (q1 : i < (cs).length) :
    OMet l Z own_EL n0 (⟨"java/lang/String", "charAt", "(I)C"⟩ : MethodName) (Jvm.Cond.code (⟨"java/lang/String", "charAt", "(I)C"⟩ : MethodName) jdk_42_method_56_code 2 (some .char) :: wc) ({ frames := 4, cells := 0, slots := 0, locals := 53 } : Room) #[(.ref a), (.int (Int32.ofNat i))] h0 [] (fun vq hq => vq = some (.int ((cs).getD i 0))) := by
  refine own_enter #[.val (.ref a), .val (.int (Int32.ofNat i))] pn_java_lang_String_charAt__I_C (ef_rg_ch a cs i) hWd.1 O0 all0 ?_
  intro p e s m below meth c T0 X0 hnm hret
  obtain ⟨t, kt, cd, NN, vv, eE, eC, eV, eA, cod, bd, l4, -⟩ := q0
  rcases cod with ⟨rfl, rfl, rfl, lat⟩ | ⟨rfl, rfl, rfl, wid⟩
  · -- coder 0
    refine og_aloadN X0 1 d14_0 rfl rfl rfl ?_
    refine own_virt X0 4 (a := a) (argsL := []) (rest := []) d14_1 eE (fun _ hZ => notFace_of_selects (args := #[]) (mvT hZ (ow hw 85 rfl))) (ru_isl0 l Z a0 hw n0 h0 hWd [] X0.old a eC ) (ow hw 82 rfl) (ow hw 83 rfl) (ow hw 85 rfl) (ow hw 84 rfl) (ow hw 11 rfl) (ow hw 86 rfl) (by decide) (lenOf pd__28_29Z rfl) rfl rfl rfl (W := 0) rfl (by decide) (by decide) (by decide) (by decide) all0 rfl ?_
    intro T1 h1 v1 X1 K1 hQ1
    obtain rfl := hQ1
    show OGo _ _ _ _ T1 (mkF m 4 #[.val (.ref a), .val (.int (Int32.ofNat i))] [(.int 1)])
    refine og_ifN X1 7 d14_4 (XT.i0_eq_f (by decide)) rfl ?_
    refine og_aloadN X1 8 d14_7 rfl rfl rfl ?_
    have f2 := eV.keep K1 nin0
    refine own_get X1 11 d14_8 (host := "") (Or.inl (ow hw 28 rfl)) Via.refl f2 rfl ?_
    intro T3 X4
    refine og_iloadN X4 12 d14_11 rfl rfl ?_
    have f5 := eA.keep K1 nin0
    refine own_stat X4 15 (argsL := [(.ref t), (.int (Int32.ofNat i))]) (rest := []) d14_12 (rg_lca l Z a0 hw n0 h1 hWd [] X4.old t kt cs i f5 l4 q1 ) (ow hw 87 rfl) (ow hw 88 rfl) (ow hw 89 rfl) (ow hw 90 rfl) (by decide) (lenOf pd__28_5bBI_29C rfl) rfl rfl rfl (W := 0) rfl (by decide) (by decide) (by decide) (by decide) all0 rfl ?_
    intro T6 h6 v6 X6 K6 hQ6
    obtain rfl := hQ6
    show OGo _ _ _ _ T6 (mkF m 15 #[.val (.ref a), .val (.int (Int32.ofNat i))] [(.int ((StrChars.lo8 ((cs).getD i 0)) &&& (255 : Int32)))])
    refine own_retC X6 d14_15 hret (own_fitC (own_lat8 _).1 (own_up8 (own_lat8 _).2)) (by decide) (by decide) ?_
    rw [StrChars.lo8_mask (bd _ (own_gm q1)).1 (lat _ (own_gm q1))]
  · -- coder 1
    refine og_aloadN X0 1 d14_0 rfl rfl rfl ?_
    refine own_virt X0 4 (a := a) (argsL := []) (rest := []) d14_1 eE (fun _ hZ => notFace_of_selects (args := #[]) (mvT hZ (ow hw 85 rfl))) (ru_isl1 l Z a0 hw n0 h0 hWd [] X0.old a eC ) (ow hw 82 rfl) (ow hw 83 rfl) (ow hw 85 rfl) (ow hw 84 rfl) (ow hw 11 rfl) (ow hw 86 rfl) (by decide) (lenOf pd__28_29Z rfl) rfl rfl rfl (W := 0) rfl (by decide) (by decide) (by decide) (by decide) all0 rfl ?_
    intro T7 h7 v7 X7 K7 hQ7
    obtain rfl := hQ7
    show OGo _ _ _ _ T7 (mkF m 4 #[.val (.ref a), .val (.int (Int32.ofNat i))] [(.int 0)])
    refine og_ifY X7 16 d14_4 (XT.i0_eq_t (by decide)) (by decide) (by decide) ?_
    refine og_aloadN X7 17 d14_16 rfl rfl rfl ?_
    have f8 := eV.keep K7 nin0
    refine own_get X7 20 d14_17 (host := "") (Or.inl (ow hw 28 rfl)) Via.refl f8 rfl ?_
    intro T9 X10
    refine og_iloadN X10 21 d14_20 rfl rfl ?_
    have f11 := eA.keep K7 nin0
    refine own_stat X10 24 (argsL := [(.ref t), (.int (Int32.ofNat i))]) (rest := []) d14_21 (rg_uca l Z a0 hw n0 h7 hWd [] X10.old t kt cs i f11 l4 q1 ) (ow hw 122 rfl) (ow hw 123 rfl) (ow hw 59 rfl) (ow hw 124 rfl) (by decide) (lenOf pd__28_5bBI_29C rfl) rfl rfl rfl (W := 0) rfl (by decide) (by decide) (by decide) (by decide) all0 rfl ?_
    intro T12 h12 v12 X12 K12 hQ12
    obtain rfl := hQ12
    show OGo _ _ _ _ T12 (mkF m 24 #[.val (.ref a), .val (.int (Int32.ofNat i))] [(.int (StrChars.pairCh (StrChars.lo8 ((cs).getD i 0)) (StrChars.hi8 ((cs).getD i 0))))])
    refine own_retC X12 d14_24 hret (own_fitC (own_lat16 _).1 (own_lat16 _).2) (by decide) (by decide) ?_
    rw [StrChars.pair_says (bd _ (own_gm q1)).1 (bd _ (own_gm q1)).2]
theorem ru_nbl1 (l : Launch) (Z : State) (a0 : Array Value) (hw : ∀ d ∈ tables_1, d.before a0 Z = true) (n0 : Nat) (h0 : Heap) (hWd : OWorld Z a0) (wc : List Jvm.Cond) (O0 : Old Z n0 h0)   :
    OMet l Z own_EL n0 (⟨"java/lang/StringUTF16", "newBytesLength", "(I)I"⟩ : MethodName) (Jvm.Cond.code (⟨"java/lang/StringUTF16", "newBytesLength", "(I)I"⟩ : MethodName) jdk_52_method_3_code 1 (some .int) :: wc) ({ frames := 0, cells := 0, slots := 0, locals := 0 } : Room) #[(.int 1)] h0 [] (fun vq hq => vq = some (.int 2)) := by
  refine own_enter #[.val (.int 1)] pn_java_lang_StringUTF16_newBytesLength__I_I (ef_ru_nbl1) hWd.1 O0 all0 ?_
  intro p e s m below meth c T0 X0 hnm hret
  refine og_iloadN X0 1 d22_0 rfl rfl ?_
  refine og_ifY X0 12 d22_1 (XT.i0_ge_t (by decide)) (by decide) (by decide) ?_
  refine og_iloadN X0 13 d22_12 rfl rfl ?_
  refine own_ldcI X0 15 (v := (1073741823 : Int32)) d22_13 (ow hw 112 rfl) rfl ?_
  refine og_icmpY X0 55 d22_15 (XT.ii_lt_t (by decide)) (by decide) (by decide) ?_
  refine og_iloadN X0 56 d22_55 rfl rfl ?_
  refine og_iconst X0 57 (1 : Int32) d22_56 rfl rfl ?_
  refine og_ishl X0 58 d22_57 rfl ?_
  show OGo _ _ _ _ T0 (mkF m 58 #[.val (.int 1)] [(.int 2)])
  refine own_retI X0 d22_58 hret (by decide) (by decide) ?_
  exact rfl
theorem ru_nbf1 (l : Launch) (Z : State) (a0 : Array Value) (hw : ∀ d ∈ tables_1, d.before a0 Z = true) (n0 : Nat) (h0 : Heap) (hWd : OWorld Z a0) (wc : List Jvm.Cond) (O0 : Old Z n0 h0)   :
    OMet l Z own_EL n0 (⟨"java/lang/StringUTF16", "newBytesFor", "(I)[B"⟩ : MethodName) (Jvm.Cond.code (⟨"java/lang/StringUTF16", "newBytesFor", "(I)[B"⟩ : MethodName) jdk_52_method_2_code 1 (some (.array .byte)) :: wc) ({ frames := 1, cells := 1, slots := 2, locals := 12 } : Room) #[(.int 1)] h0 [] (fun vq hq => ∃ (r : Addr) (kb : ClassId), vq = some (.ref r) ∧ h0.size ≤ r ∧ Arv Z hq r kb .byte (2 : Int32) [(.int 0), (.int 0)] (.int 0)) := by
  refine own_enter #[.val (.int 1)] pn_java_lang_StringUTF16_newBytesFor__I__B (ef_ru_nbf1) hWd.1 O0 all0 ?_
  intro p e s m below meth c T0 X0 hnm hret
  refine og_iloadN X0 1 d21_0 rfl rfl ?_
  refine own_stat X0 4 (argsL := [(.int 1)]) (rest := []) d21_1 (ru_nbl1 l Z a0 hw n0 h0 hWd [] X0.old   ) (ow hw 109 rfl) (ow hw 110 rfl) (ow hw 59 rfl) (ow hw 111 rfl) (by decide) (lenOf pd__28I_29I rfl) rfl rfl rfl (W := 0) rfl (by decide) (by decide) (by decide) (by decide) all0 rfl ?_
  intro T1 h1 v1 X1 K1 hQ1
  obtain rfl := hQ1
  show OGo _ _ _ _ T1 (mkF m 4 #[.val (.int 1)] [(.int 2)])
  refine own_arr X1 6 d21_4 (ow hw 23 rfl) (by decide) (cap := 2) (by decide) (by decide) (by decide) (by decide) rfl ?_
  intro T2 h2 b2 kb2 X2 K2 G2 U2 A2
  have f3 : Arv Z h2 b2 kb2 .byte (2 : Int32) [(.int 0), (.int 0)] (.int 0) := A2
  refine own_retA X2 d21_6 hret rfl rfl (by decide) (by decide) ?_
  exact ⟨b2, kb2, rfl, (Nat.le_trans K1.1 G2), f3⟩
theorem ru_put1_0 (l : Launch) (Z : State) (a0 : Array Value) (hw : ∀ d ∈ tables_1, d.before a0 Z = true) (n0 : Nat) (h0 : Heap) (hWd : OWorld Z a0) (wc : List Jvm.Cond) (O0 : Old Z n0 h0) (b : Addr) (kb : ClassId) (x : Int32) (dv : Value) (e0 : Value) (e1 : Value) (q0 : Arv Z h0 b kb .byte (2 : Int32) [e0, e1] dv) (g0 : n0 ≤ b ∧ b < h0.size) :
    OMet l Z own_EL n0 (⟨"java/lang/StringUTF16", "putChar", "([BII)V"⟩ : MethodName) (Jvm.Cond.code (⟨"java/lang/StringUTF16", "putChar", "([BII)V"⟩ : MethodName) jdk_52_method_4_code 3 none :: wc) ({ frames := 0, cells := 0, slots := 0, locals := 0 } : Room) #[(.ref b), (.int 0), (.int x)] h0 [b] (fun vq hq => vq = none ∧ Arv Z hq b kb .byte (2 : Int32) [(.int (StrChars.lo8 x)), (.int (StrChars.hi8 x))] dv) := by
  refine own_enter #[.val (.ref b), .val (.int 0), .val (.int x)] pn_java_lang_StringUTF16_putChar___BII_V (ef_ru_put1_0 b kb x dv e0 e1) hWd.1 O0 (allS g0 all0) ?_
  intro p e s m below meth c T0 X0 hnm hret
  refine own_getS X0 3 d23_0 (host := "") (Or.inl (ow hw 116 rfl)) Via.refl hWd.2.2.2.1 rfl ?_
  intro T1 X2
  refine og_ifY X2 28 d23_3 (XT.i0_ne_t (by decide)) (by decide) (by decide) ?_
  refine og_iloadN X2 29 d23_28 rfl rfl ?_
  refine og_iconst X2 30 (1 : Int32) d23_29 rfl rfl ?_
  refine og_ishl X2 31 d23_30 rfl ?_
  show OGo _ _ _ _ T1 (mkF m 31 #[.val (.ref b), .val (.int 0), .val (.int x)] [(.int 0)])
  refine og_istoreN X2 32 #[.val (.ref b), .val (.int 0), .val (.int x)] d23_31 rfl rfl ?_
  refine og_aloadN X2 33 d23_32 rfl rfl rfl ?_
  refine og_iloadN X2 34 d23_33 rfl rfl ?_
  refine og_iinc X2 37 #[.val (.ref b), .val (.int 1), .val (.int x)] d23_34 rfl rfl rfl ?_
  refine og_iloadN X2 38 d23_37 rfl rfl ?_
  refine own_getS X2 41 d23_38 (host := "") (Or.inl (ow hw 117 rfl)) Via.refl hWd.2.2.2.2.1 rfl ?_
  intro T3 X4
  refine og_ishr X4 42 d23_41 rfl ?_
  refine og_i2b X4 43 d23_42 rfl ?_
  refine own_stB X4 44 d23_43 q0 (own_nbb _) (by decide) (by decide) (i := 0) (by decide) (Nat.le_of_ble_eq_true rfl) (om 0 rfl) rfl ?_
  intro T5 h5 X5 W5 K5 A5
  have f6 : Arv Z h5 b kb .byte (2 : Int32) [(.int (((x >>> ((0 : Int32) &&& 31))).toInt8.toInt32)), e1] dv := A5
  refine og_aloadN X5 45 d23_44 rfl rfl rfl ?_
  refine og_iloadN X5 46 d23_45 rfl rfl ?_
  refine og_iloadN X5 47 d23_46 rfl rfl ?_
  refine own_getS X5 50 d23_47 (host := "") (Or.inl (ow hw 118 rfl)) Via.refl hWd.2.2.2.2.2 rfl ?_
  intro T7 X8
  refine og_ishr X8 51 d23_50 rfl ?_
  refine og_i2b X8 52 d23_51 rfl ?_
  refine own_stB X8 53 d23_52 f6 (own_nbb _) (by decide) (by decide) (i := 1) (by decide) (Nat.le_of_ble_eq_true rfl) (om 0 rfl) rfl ?_
  intro T9 h9 X9 W9 K9 A9
  have f10 : Arv Z h9 b kb .byte (2 : Int32) [(.int (((x >>> ((0 : Int32) &&& 31))).toInt8.toInt32)), (.int (((x >>> ((8 : Int32) &&& 31))).toInt8.toInt32))] dv := A9
  refine own_retV X9 d23_53 hret (by decide) (by decide) ?_
  exact ⟨rfl, by have q := f10; rw [StrChars.shr0] at q; exact q⟩
theorem ru_tob1 (l : Launch) (Z : State) (a0 : Array Value) (hw : ∀ d ∈ tables_1, d.before a0 Z = true) (n0 : Nat) (h0 : Heap) (hWd : OWorld Z a0) (wc : List Jvm.Cond) (O0 : Old Z n0 h0) (b : Addr) (kb : ClassId) (dv : Value) (x0 : Int32) (q0 : Arv Z h0 b kb .char (1 : Int32) [(.int x0)] dv) :
    OMet l Z own_EL n0 (⟨"java/lang/StringUTF16", "toBytes", "([CII)[B"⟩ : MethodName) (Jvm.Cond.code (⟨"java/lang/StringUTF16", "toBytes", "([CII)[B"⟩ : MethodName) jdk_52_method_14_code 5 (some (.array .byte)) :: wc) ({ frames := 2, cells := 1, slots := 2, locals := 24 } : Room) #[(.ref b), (.int 0), (.int 1)] h0 [] (fun vq hq => ∃ (r : Addr) (kr : ClassId), vq = some (.ref r) ∧ h0.size ≤ r ∧ Arv Z hq r kr .byte (2 : Int32) [(.int (StrChars.lo8 x0)), (.int (StrChars.hi8 x0))] (.int 0)) := by
  refine own_enter #[.val (.ref b), .val (.int 0), .val (.int 1), .unset, .unset] pn_java_lang_StringUTF16_toBytes___CII__B (ef_ru_tob1 b kb dv x0) hWd.1 O0 all0 ?_
  intro p e s m below meth c T0 X0 hnm hret
  refine og_iloadN X0 1 d20_0 rfl rfl ?_
  refine own_stat X0 4 (argsL := [(.int 1)]) (rest := []) d20_1 (ru_nbf1 l Z a0 hw n0 h0 hWd [] X0.old   ) (ow hw 106 rfl) (ow hw 107 rfl) (ow hw 59 rfl) (ow hw 108 rfl) (by decide) (lenOf pd__28I_29_5bB rfl) rfl rfl rfl (W := 0) rfl (by decide) (by decide) (by decide) (by decide) all0 rfl ?_
  intro T1 h1 v1 X1 K1 hQ1
  obtain ⟨r1, kb1, rfl, ge_r1, f2⟩ := hQ1
  show OGo _ _ _ _ T1 (mkF m 4 #[.val (.ref b), .val (.int 0), .val (.int 1), .unset, .unset] [(.ref r1)])
  refine og_astoreN X1 5 #[.val (.ref b), .val (.int 0), .val (.int 1), .val (.ref r1), .unset] d20_4 rfl rfl rfl ?_
  refine og_iconst X1 6 (0 : Int32) d20_5 rfl rfl ?_
  refine og_istore X1 8 #[.val (.ref b), .val (.int 0), .val (.int 1), .val (.ref r1), .val (.int 0)] d20_6 rfl rfl ?_
  refine og_iload X1 10 d20_8 rfl rfl ?_
  refine og_iloadN X1 11 d20_10 rfl rfl ?_
  refine og_icmpN X1 14 d20_11 (XT.ii_ge_f (by decide)) rfl ?_
  refine og_aloadN X1 15 d20_14 rfl rfl rfl ?_
  refine og_iload X1 17 d20_15 rfl rfl ?_
  refine og_aloadN X1 18 d20_17 rfl rfl rfl ?_
  refine og_iloadN X1 19 d20_18 rfl rfl ?_
  have f3 := q0.keep K1 nin0
  refine own_ldC X1 20 d20_19 f3 (by decide) (by decide) rfl rfl ?_
  have X4 := own_svB X1 f2 (own_tx2 hw) (Nat.le_trans (own_n0 X0) ge_r1) ge_r1
  refine own_stat X4 23 (argsL := [(.ref r1), (.int 0), (.int x0)]) (rest := []) d20_20 (ru_put1_0 l Z a0 hw n0 h1 hWd [] X4.old r1 kb1 x0 (.int 0) (.int 0) (.int 0) f2 (own_svb X4 (om 0 rfl))) (ow hw 113 rfl) (ow hw 114 rfl) (ow hw 59 rfl) (ow hw 115 rfl) (by decide) (lenOf pd__28_5bBII_29V rfl) rfl rfl rfl (W := 0) rfl (by decide) (by decide) (by decide) (by decide) (allS (om 0 rfl) all0) rfl ?_
  intro T5 h5 v5 X5 K5 hQ5
  obtain ⟨rfl, f6⟩ := hQ5
  show OGo _ _ _ _ T5 (mkF m 23 #[.val (.ref b), .val (.int 0), .val (.int 1), .val (.ref r1), .val (.int 0)] [])
  refine og_iinc X5 26 #[.val (.ref b), .val (.int 1), .val (.int 1), .val (.ref r1), .val (.int 0)] d20_23 rfl rfl rfl ?_
  refine og_iinc X5 29 #[.val (.ref b), .val (.int 1), .val (.int 1), .val (.ref r1), .val (.int 1)] d20_26 rfl rfl rfl ?_
  refine og_goto X5 8 d20_29 (by decide) (by decide) ?_
  refine og_iload X5 10 d20_8 rfl rfl ?_
  refine og_iloadN X5 11 d20_10 rfl rfl ?_
  refine og_icmpY X5 32 d20_11 (XT.ii_ge_t (by decide)) (by decide) (by decide) ?_
  refine og_aloadN X5 33 d20_32 rfl rfl rfl ?_
  refine own_retA X5 d20_33 hret rfl rfl (by decide) (by decide) ?_
  exact ⟨r1, kb1, rfl, ge_r1, f6⟩
theorem ru_cmi1_0 (l : Launch) (Z : State) (a0 : Array Value) (hw : ∀ d ∈ tables_1, d.before a0 Z = true) (n0 : Nat) (h0 : Heap) (hWd : OWorld Z a0) (wc : List Jvm.Cond) (O0 : Old Z n0 h0) (b : Addr) (kb : ClassId) (dv : Value) (d : Addr) (kd : ClassId) (x0 : Int32) (q0 : Arv Z h0 b kb .char (1 : Int32) [(.int x0)] dv) (q1 : Arv Z h0 d kd .byte (1 : Int32) [(.int 0)] (.int 0)) (q2 : (255 : Int32) < x0) (q3 : b ≠ d) (g0 : n0 ≤ d ∧ d < h0.size) :
    OMet l Z own_EL n0 (⟨"java/lang/StringUTF16", "compress", "([CI[BII)I"⟩ : MethodName) (Jvm.Cond.code (⟨"java/lang/StringUTF16", "compress", "([CI[BII)I"⟩ : MethodName) jdk_52_method_21_code 7 (some .int) :: wc) ({ frames := 0, cells := 0, slots := 0, locals := 0 } : Room) #[(.ref b), (.int 0), (.ref d), (.int 0), (.int 1)] h0 [d] (fun vq hq => vq = some (.int 0)) := by
  refine own_enter #[.val (.ref b), .val (.int 0), .val (.ref d), .val (.int 0), .val (.int 1), .unset, .unset] pn_java_lang_StringUTF16_compress___CI_BII_I (ef_ru_cmi1_0 b kb dv d kd x0) hWd.1 O0 (allS g0 all0) ?_
  intro p e s m below meth c T0 X0 hnm hret
  refine og_iconst X0 1 (0 : Int32) d10_0 rfl rfl ?_
  refine og_istore X0 3 #[.val (.ref b), .val (.int 0), .val (.ref d), .val (.int 0), .val (.int 1), .val (.int 0), .unset] d10_1 rfl rfl ?_
  refine og_iload X0 5 d10_3 rfl rfl ?_
  refine og_iload X0 7 d10_5 rfl rfl ?_
  refine og_icmpN X0 10 d10_7 (XT.ii_ge_f (by decide)) rfl ?_
  refine og_aloadN X0 11 d10_10 rfl rfl rfl ?_
  refine og_iloadN X0 12 d10_11 rfl rfl ?_
  refine own_ldC X0 13 d10_12 q0 (by decide) (by decide) rfl rfl ?_
  refine og_istore X0 15 #[.val (.ref b), .val (.int 0), .val (.ref d), .val (.int 0), .val (.int 1), .val (.int 0), .val (.int x0)] d10_13 rfl rfl ?_
  refine og_iload X0 17 d10_15 rfl rfl ?_
  refine og_sipush X0 20 (255 : Int32) d10_17 rfl rfl ?_
  refine og_icmpN X0 23 d10_20 (XT.ii_le_f q2) rfl ?_
  refine og_iload X0 25 d10_23 rfl rfl ?_
  refine own_retI X0 d10_25 hret (by decide) (by decide) ?_
  exact rfl
theorem ru_cmp1_0 (l : Launch) (Z : State) (a0 : Array Value) (hw : ∀ d ∈ tables_1, d.before a0 Z = true) (n0 : Nat) (h0 : Heap) (hWd : OWorld Z a0) (wc : List Jvm.Cond) (O0 : Old Z n0 h0) (b : Addr) (kb : ClassId) (dv : Value) (x0 : Int32) (q0 : Arv Z h0 b kb .char (1 : Int32) [(.int x0)] dv) (q1 : (255 : Int32) < x0) (q2 : ¬ x0 < 0) (q3 : ¬ (65535 : Int32) < x0) :
    OMet l Z own_EL n0 (⟨"java/lang/StringUTF16", "compress", "([CII)[B"⟩ : MethodName) (Jvm.Cond.code (⟨"java/lang/StringUTF16", "compress", "([CII)[B"⟩ : MethodName) jdk_52_method_16_code 6 (some (.array .byte)) :: wc) ({ frames := 3, cells := 2, slots := 3, locals := 40 } : Room) #[(.ref b), (.int 0), (.int 1)] h0 [] (fun vq hq => ∃ (r : Addr) (kr : ClassId), vq = some (.ref r) ∧ h0.size ≤ r ∧ Arv Z hq r kr .byte (2 : Int32) [(.int (StrChars.lo8 x0)), (.int (StrChars.hi8 x0))] (.int 0)) := by
  refine own_enter #[.val (.ref b), .val (.int 0), .val (.int 1), .unset, .unset, .unset] pn_java_lang_StringUTF16_compress___CII__B (ef_ru_cmp1_0 b kb dv x0) hWd.1 O0 all0 ?_
  intro p e s m below meth c T0 X0 hnm hret
  refine og_iloadN X0 1 d9_0 rfl rfl ?_
  refine own_arr X0 3 d9_1 (ow hw 23 rfl) (by decide) (cap := 1) (by decide) (by decide) (by decide) (by decide) rfl ?_
  intro T1 h1 b1 kb1 X1 K1 G1 U1 A1
  have f2 : Arv Z h1 b1 kb1 .byte (1 : Int32) [(.int 0)] (.int 0) := A1
  refine og_astoreN X1 4 #[.val (.ref b), .val (.int 0), .val (.int 1), .val (.ref b1), .unset, .unset] d9_3 rfl rfl rfl ?_
  refine og_aloadN X1 5 d9_4 rfl rfl rfl ?_
  refine og_iloadN X1 6 d9_5 rfl rfl ?_
  refine og_aloadN X1 7 d9_6 rfl rfl rfl ?_
  refine og_iconst X1 8 (0 : Int32) d9_7 rfl rfl ?_
  refine og_iloadN X1 9 d9_8 rfl rfl ?_
  have f3 := q0.keep K1 nin0
  refine own_stat X1 12 (argsL := [(.ref b), (.int 0), (.ref b1), (.int 0), (.int 1)]) (rest := []) d9_9 (ru_cmi1_0 l Z a0 hw n0 h1 hWd [] X1.old b kb dv b1 kb1 x0 f3 f2 q1 (Nat.ne_of_lt (Nat.lt_of_lt_of_le q0.lt G1)) (own_svb X1 (om 0 rfl))) (ow hw 61 rfl) (ow hw 62 rfl) (ow hw 59 rfl) (ow hw 63 rfl) (by decide) (lenOf pd__28_5bCI_5bBII_29I rfl) rfl rfl rfl (W := 0) rfl (by decide) (by decide) (by decide) (by decide) (allS (om 0 rfl) all0) rfl ?_
  intro T4 h4 v4 X4 K4 hQ4
  obtain rfl := hQ4
  show OGo _ _ _ _ T4 (mkF m 12 #[.val (.ref b), .val (.int 0), .val (.int 1), .val (.ref b1), .unset, .unset] [(.int 0)])
  refine og_istore X4 14 #[.val (.ref b), .val (.int 0), .val (.int 1), .val (.ref b1), .val (.int 0), .unset] d9_12 rfl rfl ?_
  refine og_iload X4 16 d9_14 rfl rfl ?_
  refine og_iloadN X4 17 d9_16 rfl rfl ?_
  refine og_icmpN X4 20 d9_17 (XT.ii_eq_f (by decide)) rfl ?_
  refine og_aloadN X4 21 d9_20 rfl rfl rfl ?_
  refine og_iloadN X4 22 d9_21 rfl rfl ?_
  refine og_iloadN X4 23 d9_22 rfl rfl ?_
  have f5 := f3.keep K4 (ninS (Nat.ne_of_lt (Nat.lt_of_lt_of_le q0.lt G1)) nin0)
  refine own_stat X4 26 (argsL := [(.ref b), (.int 0), (.int 1)]) (rest := []) d9_23 (ru_tob1 l Z a0 hw n0 h4 hWd [] X4.old b kb dv x0 f5 ) (ow hw 103 rfl) (ow hw 104 rfl) (ow hw 59 rfl) (ow hw 105 rfl) (by decide) (lenOf pd__28_5bCII_29_5bB rfl) rfl rfl rfl (W := 0) rfl (by decide) (by decide) (by decide) (by decide) all0 rfl ?_
  intro T6 h6 v6 X6 K6 hQ6
  obtain ⟨r6, kr6, rfl, ge_r6, f7⟩ := hQ6
  show OGo _ _ _ _ T6 (mkF m 26 #[.val (.ref b), .val (.int 0), .val (.int 1), .val (.ref b1), .val (.int 0), .unset] [(.ref r6)])
  refine og_astore X6 28 #[.val (.ref b), .val (.int 0), .val (.int 1), .val (.ref b1), .val (.int 0), .val (.ref r6)] d9_26 rfl rfl rfl ?_
  refine og_aload X6 30 d9_28 rfl rfl rfl ?_
  refine og_iload X6 32 d9_30 rfl rfl ?_
  refine own_stat X6 35 (argsL := [(.ref r6), (.int 0)]) (rest := []) d9_32 (rg_get l Z a0 hw n0 h6 hWd [] X6.old r6 kr6 [x0] 0 f7 (Nat.le_of_ble_eq_true rfl) (Nat.le_of_ble_eq_true rfl) ) (ow hw 119 rfl) (ow hw 120 rfl) (ow hw 59 rfl) (ow hw 121 rfl) (by decide) (lenOf pd__28_5bBI_29C rfl) rfl rfl rfl (W := 0) rfl (by decide) (by decide) (by decide) (by decide) all0 rfl ?_
  intro T8 h8 v8 X8 K8 hQ8
  obtain rfl := hQ8
  show OGo _ _ _ _ T8 (mkF m 35 #[.val (.ref b), .val (.int 0), .val (.int 1), .val (.ref b1), .val (.int 0), .val (.ref r6)] [(.int (StrChars.pairCh (StrChars.lo8 x0) (StrChars.hi8 x0)))])
  refine og_sipush X8 38 (255 : Int32) d9_35 rfl rfl ?_
  refine og_icmpY X8 54 d9_38 (XT.ii_gt_t (by rw [StrChars.pair_says q2 q3]; exact q1)) (by decide) (by decide) ?_
  refine og_aload X8 56 d9_54 rfl rfl rfl ?_
  have f9 := f7.keep K8 nin0
  refine own_retA X8 d9_56 hret rfl rfl (by decide) (by decide) ?_
  exact ⟨r6, kr6, rfl, (Nat.le_trans (Nat.le_trans K1.1 K4.1) ge_r6), f9⟩
theorem ru_cmi1_1 (l : Launch) (Z : State) (a0 : Array Value) (hw : ∀ d ∈ tables_1, d.before a0 Z = true) (n0 : Nat) (h0 : Heap) (hWd : OWorld Z a0) (wc : List Jvm.Cond) (O0 : Old Z n0 h0) (b : Addr) (kb : ClassId) (dv : Value) (d : Addr) (kd : ClassId) (x0 : Int32) (q0 : Arv Z h0 b kb .char (1 : Int32) [(.int x0)] dv) (q1 : Arv Z h0 d kd .byte (1 : Int32) [(.int 0)] (.int 0)) (q2 : ¬ (255 : Int32) < x0) (q3 : b ≠ d) (g0 : n0 ≤ d ∧ d < h0.size) :
    OMet l Z own_EL n0 (⟨"java/lang/StringUTF16", "compress", "([CI[BII)I"⟩ : MethodName) (Jvm.Cond.code (⟨"java/lang/StringUTF16", "compress", "([CI[BII)I"⟩ : MethodName) jdk_52_method_21_code 7 (some .int) :: wc) ({ frames := 0, cells := 0, slots := 0, locals := 0 } : Room) #[(.ref b), (.int 0), (.ref d), (.int 0), (.int 1)] h0 [d] (fun vq hq => vq = some (.int 1) ∧ Arv Z hq d kd .byte (1 : Int32) [(.int ((x0).toInt8.toInt32))] (.int 0)) := by
  refine own_enter #[.val (.ref b), .val (.int 0), .val (.ref d), .val (.int 0), .val (.int 1), .unset, .unset] pn_java_lang_StringUTF16_compress___CI_BII_I (ef_ru_cmi1_1 b kb dv d kd x0) hWd.1 O0 (allS g0 all0) ?_
  intro p e s m below meth c T0 X0 hnm hret
  refine og_iconst X0 1 (0 : Int32) d10_0 rfl rfl ?_
  refine og_istore X0 3 #[.val (.ref b), .val (.int 0), .val (.ref d), .val (.int 0), .val (.int 1), .val (.int 0), .unset] d10_1 rfl rfl ?_
  refine og_iload X0 5 d10_3 rfl rfl ?_
  refine og_iload X0 7 d10_5 rfl rfl ?_
  refine og_icmpN X0 10 d10_7 (XT.ii_ge_f (by decide)) rfl ?_
  refine og_aloadN X0 11 d10_10 rfl rfl rfl ?_
  refine og_iloadN X0 12 d10_11 rfl rfl ?_
  refine own_ldC X0 13 d10_12 q0 (by decide) (by decide) rfl rfl ?_
  refine og_istore X0 15 #[.val (.ref b), .val (.int 0), .val (.ref d), .val (.int 0), .val (.int 1), .val (.int 0), .val (.int x0)] d10_13 rfl rfl ?_
  refine og_iload X0 17 d10_15 rfl rfl ?_
  refine og_sipush X0 20 (255 : Int32) d10_17 rfl rfl ?_
  refine og_icmpY X0 26 d10_20 (XT.ii_le_t q2) (by decide) (by decide) ?_
  refine og_aloadN X0 27 d10_26 rfl rfl rfl ?_
  refine og_iloadN X0 28 d10_27 rfl rfl ?_
  refine og_iload X0 30 d10_28 rfl rfl ?_
  refine og_i2b X0 31 d10_30 rfl ?_
  refine own_stB X0 32 d10_31 q1 (own_nbb _) (by decide) (by decide) (i := 0) (by decide) (Nat.le_of_ble_eq_true rfl) (om 0 rfl) rfl ?_
  intro T1 h1 X1 W1 K1 A1
  have f2 : Arv Z h1 d kd .byte (1 : Int32) [(.int ((x0).toInt8.toInt32))] (.int 0) := A1
  refine og_iinc X1 35 #[.val (.ref b), .val (.int 1), .val (.ref d), .val (.int 0), .val (.int 1), .val (.int 0), .val (.int x0)] d10_32 rfl rfl rfl ?_
  refine og_iinc X1 38 #[.val (.ref b), .val (.int 1), .val (.ref d), .val (.int 1), .val (.int 1), .val (.int 0), .val (.int x0)] d10_35 rfl rfl rfl ?_
  refine og_iinc X1 41 #[.val (.ref b), .val (.int 1), .val (.ref d), .val (.int 1), .val (.int 1), .val (.int 1), .val (.int x0)] d10_38 rfl rfl rfl ?_
  refine og_goto X1 3 d10_41 (by decide) (by decide) ?_
  refine og_iload X1 5 d10_3 rfl rfl ?_
  refine og_iload X1 7 d10_5 rfl rfl ?_
  refine og_icmpY X1 44 d10_7 (XT.ii_ge_t (by decide)) (by decide) (by decide) ?_
  refine og_iload X1 46 d10_44 rfl rfl ?_
  refine own_retI X1 d10_46 hret (by decide) (by decide) ?_
  exact ⟨rfl, f2⟩
theorem ru_cmp1_1 (l : Launch) (Z : State) (a0 : Array Value) (hw : ∀ d ∈ tables_1, d.before a0 Z = true) (n0 : Nat) (h0 : Heap) (hWd : OWorld Z a0) (wc : List Jvm.Cond) (O0 : Old Z n0 h0) (b : Addr) (kb : ClassId) (dv : Value) (x0 : Int32) (q0 : Arv Z h0 b kb .char (1 : Int32) [(.int x0)] dv) (q1 : ¬ (255 : Int32) < x0) (q2 : ¬ x0 < 0) (q3 : ¬ (65535 : Int32) < x0) :
    OMet l Z own_EL n0 (⟨"java/lang/StringUTF16", "compress", "([CII)[B"⟩ : MethodName) (Jvm.Cond.code (⟨"java/lang/StringUTF16", "compress", "([CII)[B"⟩ : MethodName) jdk_52_method_16_code 6 (some (.array .byte)) :: wc) ({ frames := 1, cells := 1, slots := 1, locals := 18 } : Room) #[(.ref b), (.int 0), (.int 1)] h0 [] (fun vq hq => ∃ (r : Addr) (kr : ClassId), vq = some (.ref r) ∧ h0.size ≤ r ∧ Arv Z hq r kr .byte (1 : Int32) [(.int ((x0).toInt8.toInt32))] (.int 0)) := by
  refine own_enter #[.val (.ref b), .val (.int 0), .val (.int 1), .unset, .unset, .unset] pn_java_lang_StringUTF16_compress___CII__B (ef_ru_cmp1_1 b kb dv x0) hWd.1 O0 all0 ?_
  intro p e s m below meth c T0 X0 hnm hret
  refine og_iloadN X0 1 d9_0 rfl rfl ?_
  refine own_arr X0 3 d9_1 (ow hw 23 rfl) (by decide) (cap := 1) (by decide) (by decide) (by decide) (by decide) rfl ?_
  intro T1 h1 b1 kb1 X1 K1 G1 U1 A1
  have f2 : Arv Z h1 b1 kb1 .byte (1 : Int32) [(.int 0)] (.int 0) := A1
  refine og_astoreN X1 4 #[.val (.ref b), .val (.int 0), .val (.int 1), .val (.ref b1), .unset, .unset] d9_3 rfl rfl rfl ?_
  refine og_aloadN X1 5 d9_4 rfl rfl rfl ?_
  refine og_iloadN X1 6 d9_5 rfl rfl ?_
  refine og_aloadN X1 7 d9_6 rfl rfl rfl ?_
  refine og_iconst X1 8 (0 : Int32) d9_7 rfl rfl ?_
  refine og_iloadN X1 9 d9_8 rfl rfl ?_
  have f3 := q0.keep K1 nin0
  refine own_stat X1 12 (argsL := [(.ref b), (.int 0), (.ref b1), (.int 0), (.int 1)]) (rest := []) d9_9 (ru_cmi1_1 l Z a0 hw n0 h1 hWd [] X1.old b kb dv b1 kb1 x0 f3 f2 q1 (Nat.ne_of_lt (Nat.lt_of_lt_of_le q0.lt G1)) (own_svb X1 (om 0 rfl))) (ow hw 61 rfl) (ow hw 62 rfl) (ow hw 59 rfl) (ow hw 63 rfl) (by decide) (lenOf pd__28_5bCI_5bBII_29I rfl) rfl rfl rfl (W := 0) rfl (by decide) (by decide) (by decide) (by decide) (allS (om 0 rfl) all0) rfl ?_
  intro T4 h4 v4 X4 K4 hQ4
  obtain ⟨rfl, f5⟩ := hQ4
  show OGo _ _ _ _ T4 (mkF m 12 #[.val (.ref b), .val (.int 0), .val (.int 1), .val (.ref b1), .unset, .unset] [(.int 1)])
  refine og_istore X4 14 #[.val (.ref b), .val (.int 0), .val (.int 1), .val (.ref b1), .val (.int 1), .unset] d9_12 rfl rfl ?_
  refine og_iload X4 16 d9_14 rfl rfl ?_
  refine og_iloadN X4 17 d9_16 rfl rfl ?_
  refine og_icmpY X4 57 d9_17 (XT.ii_eq_t (by decide)) (by decide) (by decide) ?_
  refine og_aloadN X4 58 d9_57 rfl rfl rfl ?_
  refine own_retA X4 d9_58 hret rfl rfl (by decide) (by decide) ?_
  exact ⟨b1, kb1, rfl, G1, f5⟩
theorem ru_cod1_1 (l : Launch) (Z : State) (a0 : Array Value) (hw : ∀ d ∈ tables_1, d.before a0 Z = true) (n0 : Nat) (h0 : Heap) (hWd : OWorld Z a0) (wc : List Jvm.Cond) (O0 : Old Z n0 h0) (b : Addr) (kb : ClassId) (vs : List Value) (dv : Value) (q0 : Arv Z h0 b kb .byte (1 : Int32) vs dv) :
    OMet l Z own_EL n0 (⟨"java/lang/StringUTF16", "coderFromArrayLen", "([BI)B"⟩ : MethodName) (Jvm.Cond.code (⟨"java/lang/StringUTF16", "coderFromArrayLen", "([BI)B"⟩ : MethodName) jdk_52_method_15_code 2 (some .byte) :: wc) ({ frames := 0, cells := 0, slots := 0, locals := 0 } : Room) #[(.ref b), (.int 1)] h0 [] (fun vq hq => vq = some (.int 0)) := by
  refine own_enter #[.val (.ref b), .val (.int 1)] pn_java_lang_StringUTF16_coderFromArrayLen___BI_B (ef_ru_cod1_1 b kb vs dv) hWd.1 O0 all0 ?_
  intro p e s m below meth c T0 X0 hnm hret
  refine og_iloadN X0 1 d11_0 rfl rfl ?_
  refine og_aloadN X0 2 d11_1 rfl rfl rfl ?_
  refine own_len X0 3 d11_2 q0 rfl ?_
  refine og_isub X0 4 d11_3 rfl ?_
  show OGo _ _ _ _ T0 (mkF m 4 #[.val (.ref b), .val (.int 1)] [(.int 0)])
  refine og_bipush X0 6 (31 : Int32) d11_4 rfl rfl ?_
  refine og_iushr X0 7 d11_6 rfl ?_
  show OGo _ _ _ _ T0 (mkF m 7 #[.val (.ref b), .val (.int 1)] [(.int 0)])
  refine og_i2b X0 8 d11_7 rfl ?_
  show OGo _ _ _ _ T0 (mkF m 8 #[.val (.ref b), .val (.int 1)] [(.int 0)])
  refine own_retY X0 d11_8 hret rfl (by decide) (by decide) ?_
  exact rfl
theorem ru_cod1_2 (l : Launch) (Z : State) (a0 : Array Value) (hw : ∀ d ∈ tables_1, d.before a0 Z = true) (n0 : Nat) (h0 : Heap) (hWd : OWorld Z a0) (wc : List Jvm.Cond) (O0 : Old Z n0 h0) (b : Addr) (kb : ClassId) (vs : List Value) (dv : Value) (q0 : Arv Z h0 b kb .byte (2 : Int32) vs dv) :
    OMet l Z own_EL n0 (⟨"java/lang/StringUTF16", "coderFromArrayLen", "([BI)B"⟩ : MethodName) (Jvm.Cond.code (⟨"java/lang/StringUTF16", "coderFromArrayLen", "([BI)B"⟩ : MethodName) jdk_52_method_15_code 2 (some .byte) :: wc) ({ frames := 0, cells := 0, slots := 0, locals := 0 } : Room) #[(.ref b), (.int 1)] h0 [] (fun vq hq => vq = some (.int 1)) := by
  refine own_enter #[.val (.ref b), .val (.int 1)] pn_java_lang_StringUTF16_coderFromArrayLen___BI_B (ef_ru_cod1_2 b kb vs dv) hWd.1 O0 all0 ?_
  intro p e s m below meth c T0 X0 hnm hret
  refine og_iloadN X0 1 d11_0 rfl rfl ?_
  refine og_aloadN X0 2 d11_1 rfl rfl rfl ?_
  refine own_len X0 3 d11_2 q0 rfl ?_
  refine og_isub X0 4 d11_3 rfl ?_
  show OGo _ _ _ _ T0 (mkF m 4 #[.val (.ref b), .val (.int 1)] [(.int (-1 : Int32))])
  refine og_bipush X0 6 (31 : Int32) d11_4 rfl rfl ?_
  refine og_iushr X0 7 d11_6 rfl ?_
  show OGo _ _ _ _ T0 (mkF m 7 #[.val (.ref b), .val (.int 1)] [(.int 1)])
  refine og_i2b X0 8 d11_7 rfl ?_
  show OGo _ _ _ _ T0 (mkF m 8 #[.val (.ref b), .val (.int 1)] [(.int 1)])
  refine own_retY X0 d11_8 hret rfl (by decide) (by decide) ?_
  exact rfl
theorem ru_inv1 (l : Launch) (Z : State) (a0 : Array Value) (hw : ∀ d ∈ tables_1, d.before a0 Z = true) (n0 : Nat) (h0 : Heap) (hWd : OWorld Z a0) (wc : List Jvm.Cond) (O0 : Old Z n0 h0) (a : Addr) (b : Addr) (y : Value) (z : Int32) (kb : ClassId) (dv : Value) (x0 : Int32) (q0 : Exa Z h0 a "java/lang/String") (q1 : Fld Z h0 a "java/lang/String" "value" "[B" y) (q2 : Fld Z h0 a "java/lang/String" "coder" "B" (.int z)) (q3 : Arv Z h0 b kb .char (1 : Int32) [(.int x0)] dv) (q4 : ¬ x0 < 0) (q5 : ¬ (65535 : Int32) < x0) (g0 : n0 ≤ a ∧ a < h0.size) :
    OMet l Z own_EL n0 (⟨"java/lang/String", "<init>", "([CIILjava/lang/Void;)V"⟩ : MethodName) (Jvm.Cond.code (⟨"java/lang/String", "<init>", "([CIILjava/lang/Void;)V"⟩ : MethodName) jdk_42_method_149_code 6 none :: wc) ({ frames := 4, cells := 2, slots := 3, locals := 57 } : Room) #[(.ref a), (.ref b), (.int 0), (.int 1), .null] h0 [a] (fun vq hq => vq = none ∧ OStr Z hq a [x0] hq.size) := by
  refine own_enter #[.val (.ref a), .val (.ref b), .val (.int 0), .val (.int 1), .val .null, .unset] pn_java_lang_String__init____CIILjava_lang_Void__V (ef_ru_inv1 a b y z kb dv x0) hWd.1 O0 (allS g0 all0) ?_
  intro p e s m below meth c T0 X0 hnm hret
  refine og_aloadN X0 1 d3_0 rfl rfl rfl ?_
  refine own_obj0 X0 4 (a := a) d3_1 (ow hw 19 rfl) (ow hw 20 rfl) (ow hw 21 rfl) rfl (W := 0) rfl (by decide) (by decide) rfl ?_
  intro T1 X2
  refine og_iloadN X2 5 d3_4 rfl rfl ?_
  refine og_ifY X2 27 d3_5 (XT.i0_ne_t (by decide)) (by decide) (by decide) ?_
  refine own_getS X2 30 d3_27 (host := "") (Or.inl (ow hw 56 rfl)) Via.refl hWd.2.1.1 rfl ?_
  intro T3 X4
  refine og_ifN X4 33 d3_30 (XT.i0_eq_f hWd.2.1.2) rfl ?_
  refine og_aloadN X4 34 d3_33 rfl rfl rfl ?_
  refine og_iloadN X4 35 d3_34 rfl rfl ?_
  refine og_iloadN X4 36 d3_35 rfl rfl ?_
  by_cases hc5 : (255 : Int32) < x0
  · -- (255 : Int32) < x0
    refine own_stat X4 39 (argsL := [(.ref b), (.int 0), (.int 1)]) (rest := []) d3_36 (ru_cmp1_0 l Z a0 hw n0 h0 hWd [] X4.old b kb dv x0 q3 hc5 q4 q5 ) (ow hw 57 rfl) (ow hw 58 rfl) (ow hw 59 rfl) (ow hw 60 rfl) (by decide) (lenOf pd__28_5bCII_29_5bB rfl) rfl rfl rfl (W := 0) rfl (by decide) (by decide) (by decide) (by decide) all0 rfl ?_
    intro T6 h6 v6 X6 K6 hQ6
    obtain ⟨r6, kr6, rfl, ge_r6, f7⟩ := hQ6
    show OGo _ _ _ _ T6 (mkF m 39 #[.val (.ref a), .val (.ref b), .val (.int 0), .val (.int 1), .val .null, .unset] [(.ref r6)])
    refine og_astore X6 41 #[.val (.ref a), .val (.ref b), .val (.int 0), .val (.int 1), .val .null, .val (.ref r6)] d3_39 rfl rfl rfl ?_
    refine og_aloadN X6 42 d3_41 rfl rfl rfl ?_
    refine og_aload X6 44 d3_42 rfl rfl rfl ?_
    refine og_iloadN X6 45 d3_44 rfl rfl ?_
    refine own_stat X6 48 (argsL := [(.ref r6), (.int 1)]) (rest := [(.ref a)]) d3_45 (ru_cod1_2 l Z a0 hw n0 h6 hWd [] X6.old r6 kr6 [(.int (StrChars.lo8 x0)), (.int (StrChars.hi8 x0))] (.int 0) f7 ) (ow hw 64 rfl) (ow hw 65 rfl) (ow hw 59 rfl) (ow hw 66 rfl) (by decide) (lenOf pd__28_5bBI_29B rfl) rfl rfl rfl (W := 1) rfl (by decide) (by decide) (by decide) (by decide) all0 rfl ?_
    intro T8 h8 v8 X8 K8 hQ8
    obtain rfl := hQ8
    show OGo _ _ _ _ T8 (mkF m 48 #[.val (.ref a), .val (.ref b), .val (.int 0), .val (.int 1), .val .null, .val (.ref r6)] [(.int 1), (.ref a)])
    have f9 := q2.keep K6 nin0
    have f10 := f9.keep K8 nin0
    have f11 := q0.keep K6
    have f12 := f11.keep K8
    have f13 := q1.keep K6 nin0
    have f14 := f13.keep K8 nin0
    refine own_put X8 51 d3_48 (host := "") (Or.inl (ow hw 29 rfl)) Via.refl f10 f12 (Or.inr ⟨(ow hw 25 rfl), rfl, hnm⟩) (ow hw 10 rfl) (ty := .byte) (by decide) rfl rfl (om 0 rfl) rfl ?_
    intro T15 h15 X15 W15 K15 F15
    have f16 := Fld.other W15 f14 (Or.inr (slot_ne (Or.inr (ow hw 24 rfl)) (Or.inr (ow hw 25 rfl)) (by decide) (t := (.array .byte)) (t' := .byte) (by decide) (by decide)))
    refine og_aloadN X15 52 d3_51 rfl rfl rfl ?_
    refine og_aload X15 54 d3_52 rfl rfl rfl ?_
    have f17 := f12.keep K15
    refine own_put X15 57 d3_54 (host := "") (Or.inl (ow hw 28 rfl)) Via.refl f16 f17 (Or.inr ⟨(ow hw 24 rfl), rfl, hnm⟩) (ow hw 10 rfl) (ty := (.array .byte)) (by decide) rfl rfl (om 0 rfl) rfl ?_
    intro T18 h18 X18 W18 K18 F18
    have f19 := Fld.other W18 F15 (Or.inr (slot_ne (Or.inr (ow hw 25 rfl)) (Or.inr (ow hw 24 rfl)) (by decide) (t := .byte) (t' := (.array .byte)) (by decide) (by decide)))
    have f20 := f17.keep K18
    have f21 := f7.keep K8 nin0
    have f22 := f21.keep K15 (ninS (Nat.ne_of_gt (Nat.lt_of_lt_of_le q0.lt ge_r6)) nin0)
    have f23 := f22.keep K18 (ninS (Nat.ne_of_gt (Nat.lt_of_lt_of_le q0.lt ge_r6)) nin0)
    refine own_retV X18 d3_57 hret (by decide) (by decide) ?_
    exact ⟨rfl, own_mkStrW (cs := [x0]) (n := 1) f20 f19 F18 f23 ⟨x0, List.mem_of_getElem? (i := 0) rfl, hc5⟩ (own_l16 ⟨q4, q5⟩ (fun _ q => nomatch q)) rfl rfl (Nat.le_of_ble_eq_true rfl)⟩
  · -- not
    refine own_stat X4 39 (argsL := [(.ref b), (.int 0), (.int 1)]) (rest := []) d3_36 (ru_cmp1_1 l Z a0 hw n0 h0 hWd [] X4.old b kb dv x0 q3 hc5 q4 q5 ) (ow hw 57 rfl) (ow hw 58 rfl) (ow hw 59 rfl) (ow hw 60 rfl) (by decide) (lenOf pd__28_5bCII_29_5bB rfl) rfl rfl rfl (W := 0) rfl (by decide) (by decide) (by decide) (by decide) all0 rfl ?_
    intro T24 h24 v24 X24 K24 hQ24
    obtain ⟨r24, kr24, rfl, ge_r24, f25⟩ := hQ24
    show OGo _ _ _ _ T24 (mkF m 39 #[.val (.ref a), .val (.ref b), .val (.int 0), .val (.int 1), .val .null, .unset] [(.ref r24)])
    refine og_astore X24 41 #[.val (.ref a), .val (.ref b), .val (.int 0), .val (.int 1), .val .null, .val (.ref r24)] d3_39 rfl rfl rfl ?_
    refine og_aloadN X24 42 d3_41 rfl rfl rfl ?_
    refine og_aload X24 44 d3_42 rfl rfl rfl ?_
    refine og_iloadN X24 45 d3_44 rfl rfl ?_
    refine own_stat X24 48 (argsL := [(.ref r24), (.int 1)]) (rest := [(.ref a)]) d3_45 (ru_cod1_1 l Z a0 hw n0 h24 hWd [] X24.old r24 kr24 [(.int ((x0).toInt8.toInt32))] (.int 0) f25 ) (ow hw 64 rfl) (ow hw 65 rfl) (ow hw 59 rfl) (ow hw 66 rfl) (by decide) (lenOf pd__28_5bBI_29B rfl) rfl rfl rfl (W := 1) rfl (by decide) (by decide) (by decide) (by decide) all0 rfl ?_
    intro T26 h26 v26 X26 K26 hQ26
    obtain rfl := hQ26
    show OGo _ _ _ _ T26 (mkF m 48 #[.val (.ref a), .val (.ref b), .val (.int 0), .val (.int 1), .val .null, .val (.ref r24)] [(.int 0), (.ref a)])
    have f27 := q2.keep K24 nin0
    have f28 := f27.keep K26 nin0
    have f29 := q0.keep K24
    have f30 := f29.keep K26
    have f31 := q1.keep K24 nin0
    have f32 := f31.keep K26 nin0
    refine own_put X26 51 d3_48 (host := "") (Or.inl (ow hw 29 rfl)) Via.refl f28 f30 (Or.inr ⟨(ow hw 25 rfl), rfl, hnm⟩) (ow hw 10 rfl) (ty := .byte) (by decide) rfl rfl (om 0 rfl) rfl ?_
    intro T33 h33 X33 W33 K33 F33
    have f34 := Fld.other W33 f32 (Or.inr (slot_ne (Or.inr (ow hw 24 rfl)) (Or.inr (ow hw 25 rfl)) (by decide) (t := (.array .byte)) (t' := .byte) (by decide) (by decide)))
    refine og_aloadN X33 52 d3_51 rfl rfl rfl ?_
    refine og_aload X33 54 d3_52 rfl rfl rfl ?_
    have f35 := f30.keep K33
    refine own_put X33 57 d3_54 (host := "") (Or.inl (ow hw 28 rfl)) Via.refl f34 f35 (Or.inr ⟨(ow hw 24 rfl), rfl, hnm⟩) (ow hw 10 rfl) (ty := (.array .byte)) (by decide) rfl rfl (om 0 rfl) rfl ?_
    intro T36 h36 X36 W36 K36 F36
    have f37 := Fld.other W36 F33 (Or.inr (slot_ne (Or.inr (ow hw 25 rfl)) (Or.inr (ow hw 24 rfl)) (by decide) (t := .byte) (t' := (.array .byte)) (by decide) (by decide)))
    have f38 := f35.keep K36
    have f39 := f25.keep K26 nin0
    have f40 := f39.keep K33 (ninS (Nat.ne_of_gt (Nat.lt_of_lt_of_le q0.lt ge_r24)) nin0)
    have f41 := f40.keep K36 (ninS (Nat.ne_of_gt (Nat.lt_of_lt_of_le q0.lt ge_r24)) nin0)
    refine own_retV X36 d3_57 hret (by decide) (by decide) ?_
    exact ⟨rfl, own_mkStr (cs := [x0]) (bs := [x0.toInt8.toInt32]) (n := 1) f38 f37 F36 f41 rfl (own_lS ⟨q4, hc5⟩ own_l0) rfl rfl (Nat.le_of_ble_eq_true rfl)⟩
theorem ru_ini1 (l : Launch) (Z : State) (a0 : Array Value) (hw : ∀ d ∈ tables_1, d.before a0 Z = true) (n0 : Nat) (h0 : Heap) (hWd : OWorld Z a0) (wc : List Jvm.Cond) (O0 : Old Z n0 h0) (a : Addr) (b : Addr) (y : Value) (z : Int32) (kb : ClassId) (dv : Value) (x0 : Int32) (q0 : Exa Z h0 a "java/lang/String") (q1 : Fld Z h0 a "java/lang/String" "value" "[B" y) (q2 : Fld Z h0 a "java/lang/String" "coder" "B" (.int z)) (q3 : Arv Z h0 b kb .char (1 : Int32) [(.int x0)] dv) (q4 : ¬ x0 < 0) (q5 : ¬ (65535 : Int32) < x0) (g0 : n0 ≤ a ∧ a < h0.size) :
    OMet l Z own_EL n0 (⟨"java/lang/String", "<init>", "([C)V"⟩ : MethodName) (Jvm.Cond.code (⟨"java/lang/String", "<init>", "([C)V"⟩ : MethodName) jdk_42_method_3_code 2 none :: wc) ({ frames := 5, cells := 2, slots := 3, locals := 74 } : Room) #[(.ref a), (.ref b)] h0 [a] (fun vq hq => vq = none ∧ OStr Z hq a [x0] hq.size) := by
  refine own_enter #[.val (.ref a), .val (.ref b)] pn_java_lang_String__init____C_V (ef_ru_ini1 a b y z kb dv x0) hWd.1 O0 (allS g0 all0) ?_
  intro p e s m below meth c T0 X0 hnm hret
  refine og_aloadN X0 1 d2_0 rfl rfl rfl ?_
  refine og_aloadN X0 2 d2_1 rfl rfl rfl ?_
  refine og_iconst X0 3 (0 : Int32) d2_2 rfl rfl ?_
  refine og_aloadN X0 4 d2_3 rfl rfl rfl ?_
  refine own_len X0 5 d2_4 q3 rfl ?_
  refine og_aconstNull X0 6 d2_5 rfl ?_
  refine own_spec X0 9 (a := a) (argsL := [(.ref b), (.int 0), (.int 1), .null]) (rest := []) d2_6 rfl (ru_inv1 l Z a0 hw n0 h0 hWd [] X0.old a b y z kb dv x0 q0 q1 q2 q3 q4 q5 (own_svb X0 (om 0 rfl))) (ow hw 15 rfl) (ow hw 16 rfl) (ow hw 11 rfl) (ow hw 18 rfl) (by decide) (lenOf pd__28_5bCIILjava_2flang_2fVoid_3b_29V rfl) rfl rfl rfl (W := 0) rfl (by decide) (by decide) (by decide) (by decide) (allS (om 0 rfl) all0) rfl ?_
  intro T1 h1 v1 X1 K1 hQ1
  obtain ⟨rfl, f2⟩ := hQ1
  show OGo _ _ _ _ T1 (mkF m 9 #[.val (.ref a), .val (.ref b)] [])
  refine own_retV X1 d2_9 hret (by decide) (by decide) ?_
  exact ⟨rfl, f2.top⟩
theorem ru_nbl2 (l : Launch) (Z : State) (a0 : Array Value) (hw : ∀ d ∈ tables_1, d.before a0 Z = true) (n0 : Nat) (h0 : Heap) (hWd : OWorld Z a0) (wc : List Jvm.Cond) (O0 : Old Z n0 h0)   :
    OMet l Z own_EL n0 (⟨"java/lang/StringUTF16", "newBytesLength", "(I)I"⟩ : MethodName) (Jvm.Cond.code (⟨"java/lang/StringUTF16", "newBytesLength", "(I)I"⟩ : MethodName) jdk_52_method_3_code 1 (some .int) :: wc) ({ frames := 0, cells := 0, slots := 0, locals := 0 } : Room) #[(.int 2)] h0 [] (fun vq hq => vq = some (.int 4)) := by
  refine own_enter #[.val (.int 2)] pn_java_lang_StringUTF16_newBytesLength__I_I (ef_ru_nbl2) hWd.1 O0 all0 ?_
  intro p e s m below meth c T0 X0 hnm hret
  refine og_iloadN X0 1 d22_0 rfl rfl ?_
  refine og_ifY X0 12 d22_1 (XT.i0_ge_t (by decide)) (by decide) (by decide) ?_
  refine og_iloadN X0 13 d22_12 rfl rfl ?_
  refine own_ldcI X0 15 (v := (1073741823 : Int32)) d22_13 (ow hw 112 rfl) rfl ?_
  refine og_icmpY X0 55 d22_15 (XT.ii_lt_t (by decide)) (by decide) (by decide) ?_
  refine og_iloadN X0 56 d22_55 rfl rfl ?_
  refine og_iconst X0 57 (1 : Int32) d22_56 rfl rfl ?_
  refine og_ishl X0 58 d22_57 rfl ?_
  show OGo _ _ _ _ T0 (mkF m 58 #[.val (.int 2)] [(.int 4)])
  refine own_retI X0 d22_58 hret (by decide) (by decide) ?_
  exact rfl
theorem ru_nbf2 (l : Launch) (Z : State) (a0 : Array Value) (hw : ∀ d ∈ tables_1, d.before a0 Z = true) (n0 : Nat) (h0 : Heap) (hWd : OWorld Z a0) (wc : List Jvm.Cond) (O0 : Old Z n0 h0)   :
    OMet l Z own_EL n0 (⟨"java/lang/StringUTF16", "newBytesFor", "(I)[B"⟩ : MethodName) (Jvm.Cond.code (⟨"java/lang/StringUTF16", "newBytesFor", "(I)[B"⟩ : MethodName) jdk_52_method_2_code 1 (some (.array .byte)) :: wc) ({ frames := 1, cells := 1, slots := 4, locals := 12 } : Room) #[(.int 2)] h0 [] (fun vq hq => ∃ (r : Addr) (kb : ClassId), vq = some (.ref r) ∧ h0.size ≤ r ∧ Arv Z hq r kb .byte (4 : Int32) [(.int 0), (.int 0), (.int 0), (.int 0)] (.int 0)) := by
  refine own_enter #[.val (.int 2)] pn_java_lang_StringUTF16_newBytesFor__I__B (ef_ru_nbf2) hWd.1 O0 all0 ?_
  intro p e s m below meth c T0 X0 hnm hret
  refine og_iloadN X0 1 d21_0 rfl rfl ?_
  refine own_stat X0 4 (argsL := [(.int 2)]) (rest := []) d21_1 (ru_nbl2 l Z a0 hw n0 h0 hWd [] X0.old   ) (ow hw 109 rfl) (ow hw 110 rfl) (ow hw 59 rfl) (ow hw 111 rfl) (by decide) (lenOf pd__28I_29I rfl) rfl rfl rfl (W := 0) rfl (by decide) (by decide) (by decide) (by decide) all0 rfl ?_
  intro T1 h1 v1 X1 K1 hQ1
  obtain rfl := hQ1
  show OGo _ _ _ _ T1 (mkF m 4 #[.val (.int 2)] [(.int 4)])
  refine own_arr X1 6 d21_4 (ow hw 23 rfl) (by decide) (cap := 4) (by decide) (by decide) (by decide) (by decide) rfl ?_
  intro T2 h2 b2 kb2 X2 K2 G2 U2 A2
  have f3 : Arv Z h2 b2 kb2 .byte (4 : Int32) [(.int 0), (.int 0), (.int 0), (.int 0)] (.int 0) := A2
  refine own_retA X2 d21_6 hret rfl rfl (by decide) (by decide) ?_
  exact ⟨b2, kb2, rfl, (Nat.le_trans K1.1 G2), f3⟩
theorem ru_put2_0 (l : Launch) (Z : State) (a0 : Array Value) (hw : ∀ d ∈ tables_1, d.before a0 Z = true) (n0 : Nat) (h0 : Heap) (hWd : OWorld Z a0) (wc : List Jvm.Cond) (O0 : Old Z n0 h0) (b : Addr) (kb : ClassId) (x : Int32) (dv : Value) (e0 : Value) (e1 : Value) (e2 : Value) (e3 : Value) (q0 : Arv Z h0 b kb .byte (4 : Int32) [e0, e1, e2, e3] dv) (g0 : n0 ≤ b ∧ b < h0.size) :
    OMet l Z own_EL n0 (⟨"java/lang/StringUTF16", "putChar", "([BII)V"⟩ : MethodName) (Jvm.Cond.code (⟨"java/lang/StringUTF16", "putChar", "([BII)V"⟩ : MethodName) jdk_52_method_4_code 3 none :: wc) ({ frames := 0, cells := 0, slots := 0, locals := 0 } : Room) #[(.ref b), (.int 0), (.int x)] h0 [b] (fun vq hq => vq = none ∧ Arv Z hq b kb .byte (4 : Int32) [(.int (StrChars.lo8 x)), (.int (StrChars.hi8 x)), e2, e3] dv) := by
  refine own_enter #[.val (.ref b), .val (.int 0), .val (.int x)] pn_java_lang_StringUTF16_putChar___BII_V (ef_ru_put2_0 b kb x dv e0 e1 e2 e3) hWd.1 O0 (allS g0 all0) ?_
  intro p e s m below meth c T0 X0 hnm hret
  refine own_getS X0 3 d23_0 (host := "") (Or.inl (ow hw 116 rfl)) Via.refl hWd.2.2.2.1 rfl ?_
  intro T1 X2
  refine og_ifY X2 28 d23_3 (XT.i0_ne_t (by decide)) (by decide) (by decide) ?_
  refine og_iloadN X2 29 d23_28 rfl rfl ?_
  refine og_iconst X2 30 (1 : Int32) d23_29 rfl rfl ?_
  refine og_ishl X2 31 d23_30 rfl ?_
  show OGo _ _ _ _ T1 (mkF m 31 #[.val (.ref b), .val (.int 0), .val (.int x)] [(.int 0)])
  refine og_istoreN X2 32 #[.val (.ref b), .val (.int 0), .val (.int x)] d23_31 rfl rfl ?_
  refine og_aloadN X2 33 d23_32 rfl rfl rfl ?_
  refine og_iloadN X2 34 d23_33 rfl rfl ?_
  refine og_iinc X2 37 #[.val (.ref b), .val (.int 1), .val (.int x)] d23_34 rfl rfl rfl ?_
  refine og_iloadN X2 38 d23_37 rfl rfl ?_
  refine own_getS X2 41 d23_38 (host := "") (Or.inl (ow hw 117 rfl)) Via.refl hWd.2.2.2.2.1 rfl ?_
  intro T3 X4
  refine og_ishr X4 42 d23_41 rfl ?_
  refine og_i2b X4 43 d23_42 rfl ?_
  refine own_stB X4 44 d23_43 q0 (own_nbb _) (by decide) (by decide) (i := 0) (by decide) (Nat.le_of_ble_eq_true rfl) (om 0 rfl) rfl ?_
  intro T5 h5 X5 W5 K5 A5
  have f6 : Arv Z h5 b kb .byte (4 : Int32) [(.int (((x >>> ((0 : Int32) &&& 31))).toInt8.toInt32)), e1, e2, e3] dv := A5
  refine og_aloadN X5 45 d23_44 rfl rfl rfl ?_
  refine og_iloadN X5 46 d23_45 rfl rfl ?_
  refine og_iloadN X5 47 d23_46 rfl rfl ?_
  refine own_getS X5 50 d23_47 (host := "") (Or.inl (ow hw 118 rfl)) Via.refl hWd.2.2.2.2.2 rfl ?_
  intro T7 X8
  refine og_ishr X8 51 d23_50 rfl ?_
  refine og_i2b X8 52 d23_51 rfl ?_
  refine own_stB X8 53 d23_52 f6 (own_nbb _) (by decide) (by decide) (i := 1) (by decide) (Nat.le_of_ble_eq_true rfl) (om 0 rfl) rfl ?_
  intro T9 h9 X9 W9 K9 A9
  have f10 : Arv Z h9 b kb .byte (4 : Int32) [(.int (((x >>> ((0 : Int32) &&& 31))).toInt8.toInt32)), (.int (((x >>> ((8 : Int32) &&& 31))).toInt8.toInt32)), e2, e3] dv := A9
  refine own_retV X9 d23_53 hret (by decide) (by decide) ?_
  exact ⟨rfl, by have q := f10; rw [StrChars.shr0] at q; exact q⟩
theorem ru_put2_1 (l : Launch) (Z : State) (a0 : Array Value) (hw : ∀ d ∈ tables_1, d.before a0 Z = true) (n0 : Nat) (h0 : Heap) (hWd : OWorld Z a0) (wc : List Jvm.Cond) (O0 : Old Z n0 h0) (b : Addr) (kb : ClassId) (x : Int32) (dv : Value) (e0 : Value) (e1 : Value) (e2 : Value) (e3 : Value) (q0 : Arv Z h0 b kb .byte (4 : Int32) [e0, e1, e2, e3] dv) (g0 : n0 ≤ b ∧ b < h0.size) :
    OMet l Z own_EL n0 (⟨"java/lang/StringUTF16", "putChar", "([BII)V"⟩ : MethodName) (Jvm.Cond.code (⟨"java/lang/StringUTF16", "putChar", "([BII)V"⟩ : MethodName) jdk_52_method_4_code 3 none :: wc) ({ frames := 0, cells := 0, slots := 0, locals := 0 } : Room) #[(.ref b), (.int 1), (.int x)] h0 [b] (fun vq hq => vq = none ∧ Arv Z hq b kb .byte (4 : Int32) [e0, e1, (.int (StrChars.lo8 x)), (.int (StrChars.hi8 x))] dv) := by
  refine own_enter #[.val (.ref b), .val (.int 1), .val (.int x)] pn_java_lang_StringUTF16_putChar___BII_V (ef_ru_put2_1 b kb x dv e0 e1 e2 e3) hWd.1 O0 (allS g0 all0) ?_
  intro p e s m below meth c T0 X0 hnm hret
  refine own_getS X0 3 d23_0 (host := "") (Or.inl (ow hw 116 rfl)) Via.refl hWd.2.2.2.1 rfl ?_
  intro T1 X2
  refine og_ifY X2 28 d23_3 (XT.i0_ne_t (by decide)) (by decide) (by decide) ?_
  refine og_iloadN X2 29 d23_28 rfl rfl ?_
  refine og_iconst X2 30 (1 : Int32) d23_29 rfl rfl ?_
  refine og_ishl X2 31 d23_30 rfl ?_
  show OGo _ _ _ _ T1 (mkF m 31 #[.val (.ref b), .val (.int 1), .val (.int x)] [(.int 2)])
  refine og_istoreN X2 32 #[.val (.ref b), .val (.int 2), .val (.int x)] d23_31 rfl rfl ?_
  refine og_aloadN X2 33 d23_32 rfl rfl rfl ?_
  refine og_iloadN X2 34 d23_33 rfl rfl ?_
  refine og_iinc X2 37 #[.val (.ref b), .val (.int 3), .val (.int x)] d23_34 rfl rfl rfl ?_
  refine og_iloadN X2 38 d23_37 rfl rfl ?_
  refine own_getS X2 41 d23_38 (host := "") (Or.inl (ow hw 117 rfl)) Via.refl hWd.2.2.2.2.1 rfl ?_
  intro T3 X4
  refine og_ishr X4 42 d23_41 rfl ?_
  refine og_i2b X4 43 d23_42 rfl ?_
  refine own_stB X4 44 d23_43 q0 (own_nbb _) (by decide) (by decide) (i := 2) (by decide) (Nat.le_of_ble_eq_true rfl) (om 0 rfl) rfl ?_
  intro T5 h5 X5 W5 K5 A5
  have f6 : Arv Z h5 b kb .byte (4 : Int32) [e0, e1, (.int (((x >>> ((0 : Int32) &&& 31))).toInt8.toInt32)), e3] dv := A5
  refine og_aloadN X5 45 d23_44 rfl rfl rfl ?_
  refine og_iloadN X5 46 d23_45 rfl rfl ?_
  refine og_iloadN X5 47 d23_46 rfl rfl ?_
  refine own_getS X5 50 d23_47 (host := "") (Or.inl (ow hw 118 rfl)) Via.refl hWd.2.2.2.2.2 rfl ?_
  intro T7 X8
  refine og_ishr X8 51 d23_50 rfl ?_
  refine og_i2b X8 52 d23_51 rfl ?_
  refine own_stB X8 53 d23_52 f6 (own_nbb _) (by decide) (by decide) (i := 3) (by decide) (Nat.le_of_ble_eq_true rfl) (om 0 rfl) rfl ?_
  intro T9 h9 X9 W9 K9 A9
  have f10 : Arv Z h9 b kb .byte (4 : Int32) [e0, e1, (.int (((x >>> ((0 : Int32) &&& 31))).toInt8.toInt32)), (.int (((x >>> ((8 : Int32) &&& 31))).toInt8.toInt32))] dv := A9
  refine own_retV X9 d23_53 hret (by decide) (by decide) ?_
  exact ⟨rfl, by have q := f10; rw [StrChars.shr0] at q; exact q⟩
theorem ru_tob2 (l : Launch) (Z : State) (a0 : Array Value) (hw : ∀ d ∈ tables_1, d.before a0 Z = true) (n0 : Nat) (h0 : Heap) (hWd : OWorld Z a0) (wc : List Jvm.Cond) (O0 : Old Z n0 h0) (b : Addr) (kb : ClassId) (dv : Value) (x0 : Int32) (x1 : Int32) (q0 : Arv Z h0 b kb .char (2 : Int32) [(.int x0), (.int x1)] dv) :
    OMet l Z own_EL n0 (⟨"java/lang/StringUTF16", "toBytes", "([CII)[B"⟩ : MethodName) (Jvm.Cond.code (⟨"java/lang/StringUTF16", "toBytes", "([CII)[B"⟩ : MethodName) jdk_52_method_14_code 5 (some (.array .byte)) :: wc) ({ frames := 2, cells := 1, slots := 4, locals := 24 } : Room) #[(.ref b), (.int 0), (.int 2)] h0 [] (fun vq hq => ∃ (r : Addr) (kr : ClassId), vq = some (.ref r) ∧ h0.size ≤ r ∧ Arv Z hq r kr .byte (4 : Int32) [(.int (StrChars.lo8 x0)), (.int (StrChars.hi8 x0)), (.int (StrChars.lo8 x1)), (.int (StrChars.hi8 x1))] (.int 0)) := by
  refine own_enter #[.val (.ref b), .val (.int 0), .val (.int 2), .unset, .unset] pn_java_lang_StringUTF16_toBytes___CII__B (ef_ru_tob2 b kb dv x0 x1) hWd.1 O0 all0 ?_
  intro p e s m below meth c T0 X0 hnm hret
  refine og_iloadN X0 1 d20_0 rfl rfl ?_
  refine own_stat X0 4 (argsL := [(.int 2)]) (rest := []) d20_1 (ru_nbf2 l Z a0 hw n0 h0 hWd [] X0.old   ) (ow hw 106 rfl) (ow hw 107 rfl) (ow hw 59 rfl) (ow hw 108 rfl) (by decide) (lenOf pd__28I_29_5bB rfl) rfl rfl rfl (W := 0) rfl (by decide) (by decide) (by decide) (by decide) all0 rfl ?_
  intro T1 h1 v1 X1 K1 hQ1
  obtain ⟨r1, kb1, rfl, ge_r1, f2⟩ := hQ1
  show OGo _ _ _ _ T1 (mkF m 4 #[.val (.ref b), .val (.int 0), .val (.int 2), .unset, .unset] [(.ref r1)])
  refine og_astoreN X1 5 #[.val (.ref b), .val (.int 0), .val (.int 2), .val (.ref r1), .unset] d20_4 rfl rfl rfl ?_
  refine og_iconst X1 6 (0 : Int32) d20_5 rfl rfl ?_
  refine og_istore X1 8 #[.val (.ref b), .val (.int 0), .val (.int 2), .val (.ref r1), .val (.int 0)] d20_6 rfl rfl ?_
  refine og_iload X1 10 d20_8 rfl rfl ?_
  refine og_iloadN X1 11 d20_10 rfl rfl ?_
  refine og_icmpN X1 14 d20_11 (XT.ii_ge_f (by decide)) rfl ?_
  refine og_aloadN X1 15 d20_14 rfl rfl rfl ?_
  refine og_iload X1 17 d20_15 rfl rfl ?_
  refine og_aloadN X1 18 d20_17 rfl rfl rfl ?_
  refine og_iloadN X1 19 d20_18 rfl rfl ?_
  have f3 := q0.keep K1 nin0
  refine own_ldC X1 20 d20_19 f3 (by decide) (by decide) rfl rfl ?_
  have X4 := own_svB X1 f2 (own_tx4 hw) (Nat.le_trans (own_n0 X0) ge_r1) ge_r1
  refine own_stat X4 23 (argsL := [(.ref r1), (.int 0), (.int x0)]) (rest := []) d20_20 (ru_put2_0 l Z a0 hw n0 h1 hWd [] X4.old r1 kb1 x0 (.int 0) (.int 0) (.int 0) (.int 0) (.int 0) f2 (own_svb X4 (om 0 rfl))) (ow hw 113 rfl) (ow hw 114 rfl) (ow hw 59 rfl) (ow hw 115 rfl) (by decide) (lenOf pd__28_5bBII_29V rfl) rfl rfl rfl (W := 0) rfl (by decide) (by decide) (by decide) (by decide) (allS (om 0 rfl) all0) rfl ?_
  intro T5 h5 v5 X5 K5 hQ5
  obtain ⟨rfl, f6⟩ := hQ5
  show OGo _ _ _ _ T5 (mkF m 23 #[.val (.ref b), .val (.int 0), .val (.int 2), .val (.ref r1), .val (.int 0)] [])
  refine og_iinc X5 26 #[.val (.ref b), .val (.int 1), .val (.int 2), .val (.ref r1), .val (.int 0)] d20_23 rfl rfl rfl ?_
  refine og_iinc X5 29 #[.val (.ref b), .val (.int 1), .val (.int 2), .val (.ref r1), .val (.int 1)] d20_26 rfl rfl rfl ?_
  refine og_goto X5 8 d20_29 (by decide) (by decide) ?_
  refine og_iload X5 10 d20_8 rfl rfl ?_
  refine og_iloadN X5 11 d20_10 rfl rfl ?_
  refine og_icmpN X5 14 d20_11 (XT.ii_ge_f (by decide)) rfl ?_
  refine og_aloadN X5 15 d20_14 rfl rfl rfl ?_
  refine og_iload X5 17 d20_15 rfl rfl ?_
  refine og_aloadN X5 18 d20_17 rfl rfl rfl ?_
  refine og_iloadN X5 19 d20_18 rfl rfl ?_
  have f7 := f3.keep K5 (ninS (Nat.ne_of_lt (Nat.lt_of_lt_of_le q0.lt ge_r1)) nin0)
  refine own_ldC X5 20 d20_19 f7 (by decide) (by decide) rfl rfl ?_
  refine own_stat X5 23 (argsL := [(.ref r1), (.int 1), (.int x1)]) (rest := []) d20_20 (ru_put2_1 l Z a0 hw n0 h5 hWd [] X5.old r1 kb1 x1 (.int 0) (.int (StrChars.lo8 x0)) (.int (StrChars.hi8 x0)) (.int 0) (.int 0) f6 (own_svb X5 (om 0 rfl))) (ow hw 113 rfl) (ow hw 114 rfl) (ow hw 59 rfl) (ow hw 115 rfl) (by decide) (lenOf pd__28_5bBII_29V rfl) rfl rfl rfl (W := 0) rfl (by decide) (by decide) (by decide) (by decide) (allS (om 0 rfl) all0) rfl ?_
  intro T8 h8 v8 X8 K8 hQ8
  obtain ⟨rfl, f9⟩ := hQ8
  show OGo _ _ _ _ T8 (mkF m 23 #[.val (.ref b), .val (.int 1), .val (.int 2), .val (.ref r1), .val (.int 1)] [])
  refine og_iinc X8 26 #[.val (.ref b), .val (.int 2), .val (.int 2), .val (.ref r1), .val (.int 1)] d20_23 rfl rfl rfl ?_
  refine og_iinc X8 29 #[.val (.ref b), .val (.int 2), .val (.int 2), .val (.ref r1), .val (.int 2)] d20_26 rfl rfl rfl ?_
  refine og_goto X8 8 d20_29 (by decide) (by decide) ?_
  refine og_iload X8 10 d20_8 rfl rfl ?_
  refine og_iloadN X8 11 d20_10 rfl rfl ?_
  refine og_icmpY X8 32 d20_11 (XT.ii_ge_t (by decide)) (by decide) (by decide) ?_
  refine og_aloadN X8 33 d20_32 rfl rfl rfl ?_
  refine own_retA X8 d20_33 hret rfl rfl (by decide) (by decide) ?_
  exact ⟨r1, kb1, rfl, ge_r1, f9⟩
theorem ru_cmi2_0 (l : Launch) (Z : State) (a0 : Array Value) (hw : ∀ d ∈ tables_1, d.before a0 Z = true) (n0 : Nat) (h0 : Heap) (hWd : OWorld Z a0) (wc : List Jvm.Cond) (O0 : Old Z n0 h0) (b : Addr) (kb : ClassId) (dv : Value) (d : Addr) (kd : ClassId) (x0 : Int32) (x1 : Int32) (q0 : Arv Z h0 b kb .char (2 : Int32) [(.int x0), (.int x1)] dv) (q1 : Arv Z h0 d kd .byte (2 : Int32) [(.int 0), (.int 0)] (.int 0)) (q2 : (255 : Int32) < x0) (q3 : b ≠ d) (g0 : n0 ≤ d ∧ d < h0.size) :
    OMet l Z own_EL n0 (⟨"java/lang/StringUTF16", "compress", "([CI[BII)I"⟩ : MethodName) (Jvm.Cond.code (⟨"java/lang/StringUTF16", "compress", "([CI[BII)I"⟩ : MethodName) jdk_52_method_21_code 7 (some .int) :: wc) ({ frames := 0, cells := 0, slots := 0, locals := 0 } : Room) #[(.ref b), (.int 0), (.ref d), (.int 0), (.int 2)] h0 [d] (fun vq hq => vq = some (.int 0)) := by
  refine own_enter #[.val (.ref b), .val (.int 0), .val (.ref d), .val (.int 0), .val (.int 2), .unset, .unset] pn_java_lang_StringUTF16_compress___CI_BII_I (ef_ru_cmi2_0 b kb dv d kd x0 x1) hWd.1 O0 (allS g0 all0) ?_
  intro p e s m below meth c T0 X0 hnm hret
  refine og_iconst X0 1 (0 : Int32) d10_0 rfl rfl ?_
  refine og_istore X0 3 #[.val (.ref b), .val (.int 0), .val (.ref d), .val (.int 0), .val (.int 2), .val (.int 0), .unset] d10_1 rfl rfl ?_
  refine og_iload X0 5 d10_3 rfl rfl ?_
  refine og_iload X0 7 d10_5 rfl rfl ?_
  refine og_icmpN X0 10 d10_7 (XT.ii_ge_f (by decide)) rfl ?_
  refine og_aloadN X0 11 d10_10 rfl rfl rfl ?_
  refine og_iloadN X0 12 d10_11 rfl rfl ?_
  refine own_ldC X0 13 d10_12 q0 (by decide) (by decide) rfl rfl ?_
  refine og_istore X0 15 #[.val (.ref b), .val (.int 0), .val (.ref d), .val (.int 0), .val (.int 2), .val (.int 0), .val (.int x0)] d10_13 rfl rfl ?_
  refine og_iload X0 17 d10_15 rfl rfl ?_
  refine og_sipush X0 20 (255 : Int32) d10_17 rfl rfl ?_
  refine og_icmpN X0 23 d10_20 (XT.ii_le_f q2) rfl ?_
  refine og_iload X0 25 d10_23 rfl rfl ?_
  refine own_retI X0 d10_25 hret (by decide) (by decide) ?_
  exact rfl
theorem ru_cmp2_0 (l : Launch) (Z : State) (a0 : Array Value) (hw : ∀ d ∈ tables_1, d.before a0 Z = true) (n0 : Nat) (h0 : Heap) (hWd : OWorld Z a0) (wc : List Jvm.Cond) (O0 : Old Z n0 h0) (b : Addr) (kb : ClassId) (dv : Value) (x0 : Int32) (x1 : Int32) (q0 : Arv Z h0 b kb .char (2 : Int32) [(.int x0), (.int x1)] dv) (q1 : (255 : Int32) < x0) (q2 : ¬ x0 < 0) (q3 : ¬ (65535 : Int32) < x0) (q4 : ¬ x1 < 0) (q5 : ¬ (65535 : Int32) < x1) :
    OMet l Z own_EL n0 (⟨"java/lang/StringUTF16", "compress", "([CII)[B"⟩ : MethodName) (Jvm.Cond.code (⟨"java/lang/StringUTF16", "compress", "([CII)[B"⟩ : MethodName) jdk_52_method_16_code 6 (some (.array .byte)) :: wc) ({ frames := 3, cells := 2, slots := 6, locals := 40 } : Room) #[(.ref b), (.int 0), (.int 2)] h0 [] (fun vq hq => ∃ (r : Addr) (kr : ClassId), vq = some (.ref r) ∧ h0.size ≤ r ∧ Arv Z hq r kr .byte (4 : Int32) [(.int (StrChars.lo8 x0)), (.int (StrChars.hi8 x0)), (.int (StrChars.lo8 x1)), (.int (StrChars.hi8 x1))] (.int 0)) := by
  refine own_enter #[.val (.ref b), .val (.int 0), .val (.int 2), .unset, .unset, .unset] pn_java_lang_StringUTF16_compress___CII__B (ef_ru_cmp2_0 b kb dv x0 x1) hWd.1 O0 all0 ?_
  intro p e s m below meth c T0 X0 hnm hret
  refine og_iloadN X0 1 d9_0 rfl rfl ?_
  refine own_arr X0 3 d9_1 (ow hw 23 rfl) (by decide) (cap := 2) (by decide) (by decide) (by decide) (by decide) rfl ?_
  intro T1 h1 b1 kb1 X1 K1 G1 U1 A1
  have f2 : Arv Z h1 b1 kb1 .byte (2 : Int32) [(.int 0), (.int 0)] (.int 0) := A1
  refine og_astoreN X1 4 #[.val (.ref b), .val (.int 0), .val (.int 2), .val (.ref b1), .unset, .unset] d9_3 rfl rfl rfl ?_
  refine og_aloadN X1 5 d9_4 rfl rfl rfl ?_
  refine og_iloadN X1 6 d9_5 rfl rfl ?_
  refine og_aloadN X1 7 d9_6 rfl rfl rfl ?_
  refine og_iconst X1 8 (0 : Int32) d9_7 rfl rfl ?_
  refine og_iloadN X1 9 d9_8 rfl rfl ?_
  have f3 := q0.keep K1 nin0
  refine own_stat X1 12 (argsL := [(.ref b), (.int 0), (.ref b1), (.int 0), (.int 2)]) (rest := []) d9_9 (ru_cmi2_0 l Z a0 hw n0 h1 hWd [] X1.old b kb dv b1 kb1 x0 x1 f3 f2 q1 (Nat.ne_of_lt (Nat.lt_of_lt_of_le q0.lt G1)) (own_svb X1 (om 0 rfl))) (ow hw 61 rfl) (ow hw 62 rfl) (ow hw 59 rfl) (ow hw 63 rfl) (by decide) (lenOf pd__28_5bCI_5bBII_29I rfl) rfl rfl rfl (W := 0) rfl (by decide) (by decide) (by decide) (by decide) (allS (om 0 rfl) all0) rfl ?_
  intro T4 h4 v4 X4 K4 hQ4
  obtain rfl := hQ4
  show OGo _ _ _ _ T4 (mkF m 12 #[.val (.ref b), .val (.int 0), .val (.int 2), .val (.ref b1), .unset, .unset] [(.int 0)])
  refine og_istore X4 14 #[.val (.ref b), .val (.int 0), .val (.int 2), .val (.ref b1), .val (.int 0), .unset] d9_12 rfl rfl ?_
  refine og_iload X4 16 d9_14 rfl rfl ?_
  refine og_iloadN X4 17 d9_16 rfl rfl ?_
  refine og_icmpN X4 20 d9_17 (XT.ii_eq_f (by decide)) rfl ?_
  refine og_aloadN X4 21 d9_20 rfl rfl rfl ?_
  refine og_iloadN X4 22 d9_21 rfl rfl ?_
  refine og_iloadN X4 23 d9_22 rfl rfl ?_
  have f5 := f3.keep K4 (ninS (Nat.ne_of_lt (Nat.lt_of_lt_of_le q0.lt G1)) nin0)
  refine own_stat X4 26 (argsL := [(.ref b), (.int 0), (.int 2)]) (rest := []) d9_23 (ru_tob2 l Z a0 hw n0 h4 hWd [] X4.old b kb dv x0 x1 f5 ) (ow hw 103 rfl) (ow hw 104 rfl) (ow hw 59 rfl) (ow hw 105 rfl) (by decide) (lenOf pd__28_5bCII_29_5bB rfl) rfl rfl rfl (W := 0) rfl (by decide) (by decide) (by decide) (by decide) all0 rfl ?_
  intro T6 h6 v6 X6 K6 hQ6
  obtain ⟨r6, kr6, rfl, ge_r6, f7⟩ := hQ6
  show OGo _ _ _ _ T6 (mkF m 26 #[.val (.ref b), .val (.int 0), .val (.int 2), .val (.ref b1), .val (.int 0), .unset] [(.ref r6)])
  refine og_astore X6 28 #[.val (.ref b), .val (.int 0), .val (.int 2), .val (.ref b1), .val (.int 0), .val (.ref r6)] d9_26 rfl rfl rfl ?_
  refine og_aload X6 30 d9_28 rfl rfl rfl ?_
  refine og_iload X6 32 d9_30 rfl rfl ?_
  refine own_stat X6 35 (argsL := [(.ref r6), (.int 0)]) (rest := []) d9_32 (rg_get l Z a0 hw n0 h6 hWd [] X6.old r6 kr6 [x0, x1] 0 f7 (Nat.le_of_ble_eq_true rfl) (Nat.le_of_ble_eq_true rfl) ) (ow hw 119 rfl) (ow hw 120 rfl) (ow hw 59 rfl) (ow hw 121 rfl) (by decide) (lenOf pd__28_5bBI_29C rfl) rfl rfl rfl (W := 0) rfl (by decide) (by decide) (by decide) (by decide) all0 rfl ?_
  intro T8 h8 v8 X8 K8 hQ8
  obtain rfl := hQ8
  show OGo _ _ _ _ T8 (mkF m 35 #[.val (.ref b), .val (.int 0), .val (.int 2), .val (.ref b1), .val (.int 0), .val (.ref r6)] [(.int (StrChars.pairCh (StrChars.lo8 x0) (StrChars.hi8 x0)))])
  refine og_sipush X8 38 (255 : Int32) d9_35 rfl rfl ?_
  refine og_icmpY X8 54 d9_38 (XT.ii_gt_t (by rw [StrChars.pair_says q2 q3]; exact q1)) (by decide) (by decide) ?_
  refine og_aload X8 56 d9_54 rfl rfl rfl ?_
  have f9 := f7.keep K8 nin0
  refine own_retA X8 d9_56 hret rfl rfl (by decide) (by decide) ?_
  exact ⟨r6, kr6, rfl, (Nat.le_trans (Nat.le_trans K1.1 K4.1) ge_r6), f9⟩
theorem ru_cmi2_1 (l : Launch) (Z : State) (a0 : Array Value) (hw : ∀ d ∈ tables_1, d.before a0 Z = true) (n0 : Nat) (h0 : Heap) (hWd : OWorld Z a0) (wc : List Jvm.Cond) (O0 : Old Z n0 h0) (b : Addr) (kb : ClassId) (dv : Value) (d : Addr) (kd : ClassId) (x0 : Int32) (x1 : Int32) (q0 : Arv Z h0 b kb .char (2 : Int32) [(.int x0), (.int x1)] dv) (q1 : Arv Z h0 d kd .byte (2 : Int32) [(.int 0), (.int 0)] (.int 0)) (q2 : ¬ (255 : Int32) < x0) (q3 : (255 : Int32) < x1) (q4 : b ≠ d) (g0 : n0 ≤ d ∧ d < h0.size) :
    OMet l Z own_EL n0 (⟨"java/lang/StringUTF16", "compress", "([CI[BII)I"⟩ : MethodName) (Jvm.Cond.code (⟨"java/lang/StringUTF16", "compress", "([CI[BII)I"⟩ : MethodName) jdk_52_method_21_code 7 (some .int) :: wc) ({ frames := 0, cells := 0, slots := 0, locals := 0 } : Room) #[(.ref b), (.int 0), (.ref d), (.int 0), (.int 2)] h0 [d] (fun vq hq => vq = some (.int 1)) := by
  refine own_enter #[.val (.ref b), .val (.int 0), .val (.ref d), .val (.int 0), .val (.int 2), .unset, .unset] pn_java_lang_StringUTF16_compress___CI_BII_I (ef_ru_cmi2_1 b kb dv d kd x0 x1) hWd.1 O0 (allS g0 all0) ?_
  intro p e s m below meth c T0 X0 hnm hret
  refine og_iconst X0 1 (0 : Int32) d10_0 rfl rfl ?_
  refine og_istore X0 3 #[.val (.ref b), .val (.int 0), .val (.ref d), .val (.int 0), .val (.int 2), .val (.int 0), .unset] d10_1 rfl rfl ?_
  refine og_iload X0 5 d10_3 rfl rfl ?_
  refine og_iload X0 7 d10_5 rfl rfl ?_
  refine og_icmpN X0 10 d10_7 (XT.ii_ge_f (by decide)) rfl ?_
  refine og_aloadN X0 11 d10_10 rfl rfl rfl ?_
  refine og_iloadN X0 12 d10_11 rfl rfl ?_
  refine own_ldC X0 13 d10_12 q0 (by decide) (by decide) rfl rfl ?_
  refine og_istore X0 15 #[.val (.ref b), .val (.int 0), .val (.ref d), .val (.int 0), .val (.int 2), .val (.int 0), .val (.int x0)] d10_13 rfl rfl ?_
  refine og_iload X0 17 d10_15 rfl rfl ?_
  refine og_sipush X0 20 (255 : Int32) d10_17 rfl rfl ?_
  refine og_icmpY X0 26 d10_20 (XT.ii_le_t q2) (by decide) (by decide) ?_
  refine og_aloadN X0 27 d10_26 rfl rfl rfl ?_
  refine og_iloadN X0 28 d10_27 rfl rfl ?_
  refine og_iload X0 30 d10_28 rfl rfl ?_
  refine og_i2b X0 31 d10_30 rfl ?_
  refine own_stB X0 32 d10_31 q1 (own_nbb _) (by decide) (by decide) (i := 0) (by decide) (Nat.le_of_ble_eq_true rfl) (om 0 rfl) rfl ?_
  intro T1 h1 X1 W1 K1 A1
  have f2 : Arv Z h1 d kd .byte (2 : Int32) [(.int ((x0).toInt8.toInt32)), (.int 0)] (.int 0) := A1
  refine og_iinc X1 35 #[.val (.ref b), .val (.int 1), .val (.ref d), .val (.int 0), .val (.int 2), .val (.int 0), .val (.int x0)] d10_32 rfl rfl rfl ?_
  refine og_iinc X1 38 #[.val (.ref b), .val (.int 1), .val (.ref d), .val (.int 1), .val (.int 2), .val (.int 0), .val (.int x0)] d10_35 rfl rfl rfl ?_
  refine og_iinc X1 41 #[.val (.ref b), .val (.int 1), .val (.ref d), .val (.int 1), .val (.int 2), .val (.int 1), .val (.int x0)] d10_38 rfl rfl rfl ?_
  refine og_goto X1 3 d10_41 (by decide) (by decide) ?_
  refine og_iload X1 5 d10_3 rfl rfl ?_
  refine og_iload X1 7 d10_5 rfl rfl ?_
  refine og_icmpN X1 10 d10_7 (XT.ii_ge_f (by decide)) rfl ?_
  refine og_aloadN X1 11 d10_10 rfl rfl rfl ?_
  refine og_iloadN X1 12 d10_11 rfl rfl ?_
  have f3 := q0.keep K1 (ninS q4 nin0)
  refine own_ldC X1 13 d10_12 f3 (by decide) (by decide) rfl rfl ?_
  refine og_istore X1 15 #[.val (.ref b), .val (.int 1), .val (.ref d), .val (.int 1), .val (.int 2), .val (.int 1), .val (.int x1)] d10_13 rfl rfl ?_
  refine og_iload X1 17 d10_15 rfl rfl ?_
  refine og_sipush X1 20 (255 : Int32) d10_17 rfl rfl ?_
  refine og_icmpN X1 23 d10_20 (XT.ii_le_f q3) rfl ?_
  refine og_iload X1 25 d10_23 rfl rfl ?_
  refine own_retI X1 d10_25 hret (by decide) (by decide) ?_
  exact rfl
theorem ru_cmp2_1 (l : Launch) (Z : State) (a0 : Array Value) (hw : ∀ d ∈ tables_1, d.before a0 Z = true) (n0 : Nat) (h0 : Heap) (hWd : OWorld Z a0) (wc : List Jvm.Cond) (O0 : Old Z n0 h0) (b : Addr) (kb : ClassId) (dv : Value) (x0 : Int32) (x1 : Int32) (q0 : Arv Z h0 b kb .char (2 : Int32) [(.int x0), (.int x1)] dv) (q1 : ¬ (255 : Int32) < x0) (q2 : (255 : Int32) < x1) (q3 : ¬ x0 < 0) (q4 : ¬ (65535 : Int32) < x0) (q5 : ¬ x1 < 0) (q6 : ¬ (65535 : Int32) < x1) :
    OMet l Z own_EL n0 (⟨"java/lang/StringUTF16", "compress", "([CII)[B"⟩ : MethodName) (Jvm.Cond.code (⟨"java/lang/StringUTF16", "compress", "([CII)[B"⟩ : MethodName) jdk_52_method_16_code 6 (some (.array .byte)) :: wc) ({ frames := 3, cells := 2, slots := 6, locals := 40 } : Room) #[(.ref b), (.int 0), (.int 2)] h0 [] (fun vq hq => ∃ (r : Addr) (kr : ClassId), vq = some (.ref r) ∧ h0.size ≤ r ∧ Arv Z hq r kr .byte (4 : Int32) [(.int (StrChars.lo8 x0)), (.int (StrChars.hi8 x0)), (.int (StrChars.lo8 x1)), (.int (StrChars.hi8 x1))] (.int 0)) := by
  refine own_enter #[.val (.ref b), .val (.int 0), .val (.int 2), .unset, .unset, .unset] pn_java_lang_StringUTF16_compress___CII__B (ef_ru_cmp2_1 b kb dv x0 x1) hWd.1 O0 all0 ?_
  intro p e s m below meth c T0 X0 hnm hret
  refine og_iloadN X0 1 d9_0 rfl rfl ?_
  refine own_arr X0 3 d9_1 (ow hw 23 rfl) (by decide) (cap := 2) (by decide) (by decide) (by decide) (by decide) rfl ?_
  intro T1 h1 b1 kb1 X1 K1 G1 U1 A1
  have f2 : Arv Z h1 b1 kb1 .byte (2 : Int32) [(.int 0), (.int 0)] (.int 0) := A1
  refine og_astoreN X1 4 #[.val (.ref b), .val (.int 0), .val (.int 2), .val (.ref b1), .unset, .unset] d9_3 rfl rfl rfl ?_
  refine og_aloadN X1 5 d9_4 rfl rfl rfl ?_
  refine og_iloadN X1 6 d9_5 rfl rfl ?_
  refine og_aloadN X1 7 d9_6 rfl rfl rfl ?_
  refine og_iconst X1 8 (0 : Int32) d9_7 rfl rfl ?_
  refine og_iloadN X1 9 d9_8 rfl rfl ?_
  have f3 := q0.keep K1 nin0
  refine own_stat X1 12 (argsL := [(.ref b), (.int 0), (.ref b1), (.int 0), (.int 2)]) (rest := []) d9_9 (ru_cmi2_1 l Z a0 hw n0 h1 hWd [] X1.old b kb dv b1 kb1 x0 x1 f3 f2 q1 q2 (Nat.ne_of_lt (Nat.lt_of_lt_of_le q0.lt G1)) (own_svb X1 (om 0 rfl))) (ow hw 61 rfl) (ow hw 62 rfl) (ow hw 59 rfl) (ow hw 63 rfl) (by decide) (lenOf pd__28_5bCI_5bBII_29I rfl) rfl rfl rfl (W := 0) rfl (by decide) (by decide) (by decide) (by decide) (allS (om 0 rfl) all0) rfl ?_
  intro T4 h4 v4 X4 K4 hQ4
  obtain rfl := hQ4
  show OGo _ _ _ _ T4 (mkF m 12 #[.val (.ref b), .val (.int 0), .val (.int 2), .val (.ref b1), .unset, .unset] [(.int 1)])
  refine og_istore X4 14 #[.val (.ref b), .val (.int 0), .val (.int 2), .val (.ref b1), .val (.int 1), .unset] d9_12 rfl rfl ?_
  refine og_iload X4 16 d9_14 rfl rfl ?_
  refine og_iloadN X4 17 d9_16 rfl rfl ?_
  refine og_icmpN X4 20 d9_17 (XT.ii_eq_f (by decide)) rfl ?_
  refine og_aloadN X4 21 d9_20 rfl rfl rfl ?_
  refine og_iloadN X4 22 d9_21 rfl rfl ?_
  refine og_iloadN X4 23 d9_22 rfl rfl ?_
  have f5 := f3.keep K4 (ninS (Nat.ne_of_lt (Nat.lt_of_lt_of_le q0.lt G1)) nin0)
  refine own_stat X4 26 (argsL := [(.ref b), (.int 0), (.int 2)]) (rest := []) d9_23 (ru_tob2 l Z a0 hw n0 h4 hWd [] X4.old b kb dv x0 x1 f5 ) (ow hw 103 rfl) (ow hw 104 rfl) (ow hw 59 rfl) (ow hw 105 rfl) (by decide) (lenOf pd__28_5bCII_29_5bB rfl) rfl rfl rfl (W := 0) rfl (by decide) (by decide) (by decide) (by decide) all0 rfl ?_
  intro T6 h6 v6 X6 K6 hQ6
  obtain ⟨r6, kr6, rfl, ge_r6, f7⟩ := hQ6
  show OGo _ _ _ _ T6 (mkF m 26 #[.val (.ref b), .val (.int 0), .val (.int 2), .val (.ref b1), .val (.int 1), .unset] [(.ref r6)])
  refine og_astore X6 28 #[.val (.ref b), .val (.int 0), .val (.int 2), .val (.ref b1), .val (.int 1), .val (.ref r6)] d9_26 rfl rfl rfl ?_
  refine og_aload X6 30 d9_28 rfl rfl rfl ?_
  refine og_iload X6 32 d9_30 rfl rfl ?_
  refine own_stat X6 35 (argsL := [(.ref r6), (.int 1)]) (rest := []) d9_32 (rg_get l Z a0 hw n0 h6 hWd [] X6.old r6 kr6 [x0, x1] 1 f7 (Nat.le_of_ble_eq_true rfl) (Nat.le_of_ble_eq_true rfl) ) (ow hw 119 rfl) (ow hw 120 rfl) (ow hw 59 rfl) (ow hw 121 rfl) (by decide) (lenOf pd__28_5bBI_29C rfl) rfl rfl rfl (W := 0) rfl (by decide) (by decide) (by decide) (by decide) all0 rfl ?_
  intro T8 h8 v8 X8 K8 hQ8
  obtain rfl := hQ8
  show OGo _ _ _ _ T8 (mkF m 35 #[.val (.ref b), .val (.int 0), .val (.int 2), .val (.ref b1), .val (.int 1), .val (.ref r6)] [(.int (StrChars.pairCh (StrChars.lo8 x1) (StrChars.hi8 x1)))])
  refine og_sipush X8 38 (255 : Int32) d9_35 rfl rfl ?_
  refine og_icmpY X8 54 d9_38 (XT.ii_gt_t (by rw [StrChars.pair_says q5 q6]; exact q2)) (by decide) (by decide) ?_
  refine og_aload X8 56 d9_54 rfl rfl rfl ?_
  have f9 := f7.keep K8 nin0
  refine own_retA X8 d9_56 hret rfl rfl (by decide) (by decide) ?_
  exact ⟨r6, kr6, rfl, (Nat.le_trans (Nat.le_trans K1.1 K4.1) ge_r6), f9⟩
theorem ru_cmi2_2 (l : Launch) (Z : State) (a0 : Array Value) (hw : ∀ d ∈ tables_1, d.before a0 Z = true) (n0 : Nat) (h0 : Heap) (hWd : OWorld Z a0) (wc : List Jvm.Cond) (O0 : Old Z n0 h0) (b : Addr) (kb : ClassId) (dv : Value) (d : Addr) (kd : ClassId) (x0 : Int32) (x1 : Int32) (q0 : Arv Z h0 b kb .char (2 : Int32) [(.int x0), (.int x1)] dv) (q1 : Arv Z h0 d kd .byte (2 : Int32) [(.int 0), (.int 0)] (.int 0)) (q2 : ¬ (255 : Int32) < x0) (q3 : ¬ (255 : Int32) < x1) (q4 : b ≠ d) (g0 : n0 ≤ d ∧ d < h0.size) :
    OMet l Z own_EL n0 (⟨"java/lang/StringUTF16", "compress", "([CI[BII)I"⟩ : MethodName) (Jvm.Cond.code (⟨"java/lang/StringUTF16", "compress", "([CI[BII)I"⟩ : MethodName) jdk_52_method_21_code 7 (some .int) :: wc) ({ frames := 0, cells := 0, slots := 0, locals := 0 } : Room) #[(.ref b), (.int 0), (.ref d), (.int 0), (.int 2)] h0 [d] (fun vq hq => vq = some (.int 2) ∧ Arv Z hq d kd .byte (2 : Int32) [(.int ((x0).toInt8.toInt32)), (.int ((x1).toInt8.toInt32))] (.int 0)) := by
  refine own_enter #[.val (.ref b), .val (.int 0), .val (.ref d), .val (.int 0), .val (.int 2), .unset, .unset] pn_java_lang_StringUTF16_compress___CI_BII_I (ef_ru_cmi2_2 b kb dv d kd x0 x1) hWd.1 O0 (allS g0 all0) ?_
  intro p e s m below meth c T0 X0 hnm hret
  refine og_iconst X0 1 (0 : Int32) d10_0 rfl rfl ?_
  refine og_istore X0 3 #[.val (.ref b), .val (.int 0), .val (.ref d), .val (.int 0), .val (.int 2), .val (.int 0), .unset] d10_1 rfl rfl ?_
  refine og_iload X0 5 d10_3 rfl rfl ?_
  refine og_iload X0 7 d10_5 rfl rfl ?_
  refine og_icmpN X0 10 d10_7 (XT.ii_ge_f (by decide)) rfl ?_
  refine og_aloadN X0 11 d10_10 rfl rfl rfl ?_
  refine og_iloadN X0 12 d10_11 rfl rfl ?_
  refine own_ldC X0 13 d10_12 q0 (by decide) (by decide) rfl rfl ?_
  refine og_istore X0 15 #[.val (.ref b), .val (.int 0), .val (.ref d), .val (.int 0), .val (.int 2), .val (.int 0), .val (.int x0)] d10_13 rfl rfl ?_
  refine og_iload X0 17 d10_15 rfl rfl ?_
  refine og_sipush X0 20 (255 : Int32) d10_17 rfl rfl ?_
  refine og_icmpY X0 26 d10_20 (XT.ii_le_t q2) (by decide) (by decide) ?_
  refine og_aloadN X0 27 d10_26 rfl rfl rfl ?_
  refine og_iloadN X0 28 d10_27 rfl rfl ?_
  refine og_iload X0 30 d10_28 rfl rfl ?_
  refine og_i2b X0 31 d10_30 rfl ?_
  refine own_stB X0 32 d10_31 q1 (own_nbb _) (by decide) (by decide) (i := 0) (by decide) (Nat.le_of_ble_eq_true rfl) (om 0 rfl) rfl ?_
  intro T1 h1 X1 W1 K1 A1
  have f2 : Arv Z h1 d kd .byte (2 : Int32) [(.int ((x0).toInt8.toInt32)), (.int 0)] (.int 0) := A1
  refine og_iinc X1 35 #[.val (.ref b), .val (.int 1), .val (.ref d), .val (.int 0), .val (.int 2), .val (.int 0), .val (.int x0)] d10_32 rfl rfl rfl ?_
  refine og_iinc X1 38 #[.val (.ref b), .val (.int 1), .val (.ref d), .val (.int 1), .val (.int 2), .val (.int 0), .val (.int x0)] d10_35 rfl rfl rfl ?_
  refine og_iinc X1 41 #[.val (.ref b), .val (.int 1), .val (.ref d), .val (.int 1), .val (.int 2), .val (.int 1), .val (.int x0)] d10_38 rfl rfl rfl ?_
  refine og_goto X1 3 d10_41 (by decide) (by decide) ?_
  refine og_iload X1 5 d10_3 rfl rfl ?_
  refine og_iload X1 7 d10_5 rfl rfl ?_
  refine og_icmpN X1 10 d10_7 (XT.ii_ge_f (by decide)) rfl ?_
  refine og_aloadN X1 11 d10_10 rfl rfl rfl ?_
  refine og_iloadN X1 12 d10_11 rfl rfl ?_
  have f3 := q0.keep K1 (ninS q4 nin0)
  refine own_ldC X1 13 d10_12 f3 (by decide) (by decide) rfl rfl ?_
  refine og_istore X1 15 #[.val (.ref b), .val (.int 1), .val (.ref d), .val (.int 1), .val (.int 2), .val (.int 1), .val (.int x1)] d10_13 rfl rfl ?_
  refine og_iload X1 17 d10_15 rfl rfl ?_
  refine og_sipush X1 20 (255 : Int32) d10_17 rfl rfl ?_
  refine og_icmpY X1 26 d10_20 (XT.ii_le_t q3) (by decide) (by decide) ?_
  refine og_aloadN X1 27 d10_26 rfl rfl rfl ?_
  refine og_iloadN X1 28 d10_27 rfl rfl ?_
  refine og_iload X1 30 d10_28 rfl rfl ?_
  refine og_i2b X1 31 d10_30 rfl ?_
  refine own_stB X1 32 d10_31 f2 (own_nbb _) (by decide) (by decide) (i := 1) (by decide) (Nat.le_of_ble_eq_true rfl) (om 0 rfl) rfl ?_
  intro T4 h4 X4 W4 K4 A4
  have f5 : Arv Z h4 d kd .byte (2 : Int32) [(.int ((x0).toInt8.toInt32)), (.int ((x1).toInt8.toInt32))] (.int 0) := A4
  refine og_iinc X4 35 #[.val (.ref b), .val (.int 2), .val (.ref d), .val (.int 1), .val (.int 2), .val (.int 1), .val (.int x1)] d10_32 rfl rfl rfl ?_
  refine og_iinc X4 38 #[.val (.ref b), .val (.int 2), .val (.ref d), .val (.int 2), .val (.int 2), .val (.int 1), .val (.int x1)] d10_35 rfl rfl rfl ?_
  refine og_iinc X4 41 #[.val (.ref b), .val (.int 2), .val (.ref d), .val (.int 2), .val (.int 2), .val (.int 2), .val (.int x1)] d10_38 rfl rfl rfl ?_
  refine og_goto X4 3 d10_41 (by decide) (by decide) ?_
  refine og_iload X4 5 d10_3 rfl rfl ?_
  refine og_iload X4 7 d10_5 rfl rfl ?_
  refine og_icmpY X4 44 d10_7 (XT.ii_ge_t (by decide)) (by decide) (by decide) ?_
  refine og_iload X4 46 d10_44 rfl rfl ?_
  refine own_retI X4 d10_46 hret (by decide) (by decide) ?_
  exact ⟨rfl, f5⟩
theorem ru_cmp2_2 (l : Launch) (Z : State) (a0 : Array Value) (hw : ∀ d ∈ tables_1, d.before a0 Z = true) (n0 : Nat) (h0 : Heap) (hWd : OWorld Z a0) (wc : List Jvm.Cond) (O0 : Old Z n0 h0) (b : Addr) (kb : ClassId) (dv : Value) (x0 : Int32) (x1 : Int32) (q0 : Arv Z h0 b kb .char (2 : Int32) [(.int x0), (.int x1)] dv) (q1 : ¬ (255 : Int32) < x0) (q2 : ¬ (255 : Int32) < x1) (q3 : ¬ x0 < 0) (q4 : ¬ (65535 : Int32) < x0) (q5 : ¬ x1 < 0) (q6 : ¬ (65535 : Int32) < x1) :
    OMet l Z own_EL n0 (⟨"java/lang/StringUTF16", "compress", "([CII)[B"⟩ : MethodName) (Jvm.Cond.code (⟨"java/lang/StringUTF16", "compress", "([CII)[B"⟩ : MethodName) jdk_52_method_16_code 6 (some (.array .byte)) :: wc) ({ frames := 1, cells := 1, slots := 2, locals := 18 } : Room) #[(.ref b), (.int 0), (.int 2)] h0 [] (fun vq hq => ∃ (r : Addr) (kr : ClassId), vq = some (.ref r) ∧ h0.size ≤ r ∧ Arv Z hq r kr .byte (2 : Int32) [(.int ((x0).toInt8.toInt32)), (.int ((x1).toInt8.toInt32))] (.int 0)) := by
  refine own_enter #[.val (.ref b), .val (.int 0), .val (.int 2), .unset, .unset, .unset] pn_java_lang_StringUTF16_compress___CII__B (ef_ru_cmp2_2 b kb dv x0 x1) hWd.1 O0 all0 ?_
  intro p e s m below meth c T0 X0 hnm hret
  refine og_iloadN X0 1 d9_0 rfl rfl ?_
  refine own_arr X0 3 d9_1 (ow hw 23 rfl) (by decide) (cap := 2) (by decide) (by decide) (by decide) (by decide) rfl ?_
  intro T1 h1 b1 kb1 X1 K1 G1 U1 A1
  have f2 : Arv Z h1 b1 kb1 .byte (2 : Int32) [(.int 0), (.int 0)] (.int 0) := A1
  refine og_astoreN X1 4 #[.val (.ref b), .val (.int 0), .val (.int 2), .val (.ref b1), .unset, .unset] d9_3 rfl rfl rfl ?_
  refine og_aloadN X1 5 d9_4 rfl rfl rfl ?_
  refine og_iloadN X1 6 d9_5 rfl rfl ?_
  refine og_aloadN X1 7 d9_6 rfl rfl rfl ?_
  refine og_iconst X1 8 (0 : Int32) d9_7 rfl rfl ?_
  refine og_iloadN X1 9 d9_8 rfl rfl ?_
  have f3 := q0.keep K1 nin0
  refine own_stat X1 12 (argsL := [(.ref b), (.int 0), (.ref b1), (.int 0), (.int 2)]) (rest := []) d9_9 (ru_cmi2_2 l Z a0 hw n0 h1 hWd [] X1.old b kb dv b1 kb1 x0 x1 f3 f2 q1 q2 (Nat.ne_of_lt (Nat.lt_of_lt_of_le q0.lt G1)) (own_svb X1 (om 0 rfl))) (ow hw 61 rfl) (ow hw 62 rfl) (ow hw 59 rfl) (ow hw 63 rfl) (by decide) (lenOf pd__28_5bCI_5bBII_29I rfl) rfl rfl rfl (W := 0) rfl (by decide) (by decide) (by decide) (by decide) (allS (om 0 rfl) all0) rfl ?_
  intro T4 h4 v4 X4 K4 hQ4
  obtain ⟨rfl, f5⟩ := hQ4
  show OGo _ _ _ _ T4 (mkF m 12 #[.val (.ref b), .val (.int 0), .val (.int 2), .val (.ref b1), .unset, .unset] [(.int 2)])
  refine og_istore X4 14 #[.val (.ref b), .val (.int 0), .val (.int 2), .val (.ref b1), .val (.int 2), .unset] d9_12 rfl rfl ?_
  refine og_iload X4 16 d9_14 rfl rfl ?_
  refine og_iloadN X4 17 d9_16 rfl rfl ?_
  refine og_icmpY X4 57 d9_17 (XT.ii_eq_t (by decide)) (by decide) (by decide) ?_
  refine og_aloadN X4 58 d9_57 rfl rfl rfl ?_
  refine own_retA X4 d9_58 hret rfl rfl (by decide) (by decide) ?_
  exact ⟨b1, kb1, rfl, G1, f5⟩
theorem ru_cod2_2 (l : Launch) (Z : State) (a0 : Array Value) (hw : ∀ d ∈ tables_1, d.before a0 Z = true) (n0 : Nat) (h0 : Heap) (hWd : OWorld Z a0) (wc : List Jvm.Cond) (O0 : Old Z n0 h0) (b : Addr) (kb : ClassId) (vs : List Value) (dv : Value) (q0 : Arv Z h0 b kb .byte (2 : Int32) vs dv) :
    OMet l Z own_EL n0 (⟨"java/lang/StringUTF16", "coderFromArrayLen", "([BI)B"⟩ : MethodName) (Jvm.Cond.code (⟨"java/lang/StringUTF16", "coderFromArrayLen", "([BI)B"⟩ : MethodName) jdk_52_method_15_code 2 (some .byte) :: wc) ({ frames := 0, cells := 0, slots := 0, locals := 0 } : Room) #[(.ref b), (.int 2)] h0 [] (fun vq hq => vq = some (.int 0)) := by
  refine own_enter #[.val (.ref b), .val (.int 2)] pn_java_lang_StringUTF16_coderFromArrayLen___BI_B (ef_ru_cod2_2 b kb vs dv) hWd.1 O0 all0 ?_
  intro p e s m below meth c T0 X0 hnm hret
  refine og_iloadN X0 1 d11_0 rfl rfl ?_
  refine og_aloadN X0 2 d11_1 rfl rfl rfl ?_
  refine own_len X0 3 d11_2 q0 rfl ?_
  refine og_isub X0 4 d11_3 rfl ?_
  show OGo _ _ _ _ T0 (mkF m 4 #[.val (.ref b), .val (.int 2)] [(.int 0)])
  refine og_bipush X0 6 (31 : Int32) d11_4 rfl rfl ?_
  refine og_iushr X0 7 d11_6 rfl ?_
  show OGo _ _ _ _ T0 (mkF m 7 #[.val (.ref b), .val (.int 2)] [(.int 0)])
  refine og_i2b X0 8 d11_7 rfl ?_
  show OGo _ _ _ _ T0 (mkF m 8 #[.val (.ref b), .val (.int 2)] [(.int 0)])
  refine own_retY X0 d11_8 hret rfl (by decide) (by decide) ?_
  exact rfl
theorem ru_cod2_4 (l : Launch) (Z : State) (a0 : Array Value) (hw : ∀ d ∈ tables_1, d.before a0 Z = true) (n0 : Nat) (h0 : Heap) (hWd : OWorld Z a0) (wc : List Jvm.Cond) (O0 : Old Z n0 h0) (b : Addr) (kb : ClassId) (vs : List Value) (dv : Value) (q0 : Arv Z h0 b kb .byte (4 : Int32) vs dv) :
    OMet l Z own_EL n0 (⟨"java/lang/StringUTF16", "coderFromArrayLen", "([BI)B"⟩ : MethodName) (Jvm.Cond.code (⟨"java/lang/StringUTF16", "coderFromArrayLen", "([BI)B"⟩ : MethodName) jdk_52_method_15_code 2 (some .byte) :: wc) ({ frames := 0, cells := 0, slots := 0, locals := 0 } : Room) #[(.ref b), (.int 2)] h0 [] (fun vq hq => vq = some (.int 1)) := by
  refine own_enter #[.val (.ref b), .val (.int 2)] pn_java_lang_StringUTF16_coderFromArrayLen___BI_B (ef_ru_cod2_4 b kb vs dv) hWd.1 O0 all0 ?_
  intro p e s m below meth c T0 X0 hnm hret
  refine og_iloadN X0 1 d11_0 rfl rfl ?_
  refine og_aloadN X0 2 d11_1 rfl rfl rfl ?_
  refine own_len X0 3 d11_2 q0 rfl ?_
  refine og_isub X0 4 d11_3 rfl ?_
  show OGo _ _ _ _ T0 (mkF m 4 #[.val (.ref b), .val (.int 2)] [(.int (-2 : Int32))])
  refine og_bipush X0 6 (31 : Int32) d11_4 rfl rfl ?_
  refine og_iushr X0 7 d11_6 rfl ?_
  show OGo _ _ _ _ T0 (mkF m 7 #[.val (.ref b), .val (.int 2)] [(.int 1)])
  refine og_i2b X0 8 d11_7 rfl ?_
  show OGo _ _ _ _ T0 (mkF m 8 #[.val (.ref b), .val (.int 2)] [(.int 1)])
  refine own_retY X0 d11_8 hret rfl (by decide) (by decide) ?_
  exact rfl
theorem ru_inv2 (l : Launch) (Z : State) (a0 : Array Value) (hw : ∀ d ∈ tables_1, d.before a0 Z = true) (n0 : Nat) (h0 : Heap) (hWd : OWorld Z a0) (wc : List Jvm.Cond) (O0 : Old Z n0 h0) (a : Addr) (b : Addr) (y : Value) (z : Int32) (kb : ClassId) (dv : Value) (x0 : Int32) (x1 : Int32) (q0 : Exa Z h0 a "java/lang/String") (q1 : Fld Z h0 a "java/lang/String" "value" "[B" y) (q2 : Fld Z h0 a "java/lang/String" "coder" "B" (.int z)) (q3 : Arv Z h0 b kb .char (2 : Int32) [(.int x0), (.int x1)] dv) (q4 : ¬ x0 < 0) (q5 : ¬ (65535 : Int32) < x0) (q6 : ¬ x1 < 0) (q7 : ¬ (65535 : Int32) < x1) (g0 : n0 ≤ a ∧ a < h0.size) :
    OMet l Z own_EL n0 (⟨"java/lang/String", "<init>", "([CIILjava/lang/Void;)V"⟩ : MethodName) (Jvm.Cond.code (⟨"java/lang/String", "<init>", "([CIILjava/lang/Void;)V"⟩ : MethodName) jdk_42_method_149_code 6 none :: wc) ({ frames := 4, cells := 2, slots := 6, locals := 57 } : Room) #[(.ref a), (.ref b), (.int 0), (.int 2), .null] h0 [a] (fun vq hq => vq = none ∧ OStr Z hq a [x0, x1] hq.size) := by
  refine own_enter #[.val (.ref a), .val (.ref b), .val (.int 0), .val (.int 2), .val .null, .unset] pn_java_lang_String__init____CIILjava_lang_Void__V (ef_ru_inv2 a b y z kb dv x0 x1) hWd.1 O0 (allS g0 all0) ?_
  intro p e s m below meth c T0 X0 hnm hret
  refine og_aloadN X0 1 d3_0 rfl rfl rfl ?_
  refine own_obj0 X0 4 (a := a) d3_1 (ow hw 19 rfl) (ow hw 20 rfl) (ow hw 21 rfl) rfl (W := 0) rfl (by decide) (by decide) rfl ?_
  intro T1 X2
  refine og_iloadN X2 5 d3_4 rfl rfl ?_
  refine og_ifY X2 27 d3_5 (XT.i0_ne_t (by decide)) (by decide) (by decide) ?_
  refine own_getS X2 30 d3_27 (host := "") (Or.inl (ow hw 56 rfl)) Via.refl hWd.2.1.1 rfl ?_
  intro T3 X4
  refine og_ifN X4 33 d3_30 (XT.i0_eq_f hWd.2.1.2) rfl ?_
  refine og_aloadN X4 34 d3_33 rfl rfl rfl ?_
  refine og_iloadN X4 35 d3_34 rfl rfl ?_
  refine og_iloadN X4 36 d3_35 rfl rfl ?_
  by_cases hc5 : (255 : Int32) < x0
  · -- (255 : Int32) < x0
    refine own_stat X4 39 (argsL := [(.ref b), (.int 0), (.int 2)]) (rest := []) d3_36 (ru_cmp2_0 l Z a0 hw n0 h0 hWd [] X4.old b kb dv x0 x1 q3 hc5 q4 q5 q6 q7 ) (ow hw 57 rfl) (ow hw 58 rfl) (ow hw 59 rfl) (ow hw 60 rfl) (by decide) (lenOf pd__28_5bCII_29_5bB rfl) rfl rfl rfl (W := 0) rfl (by decide) (by decide) (by decide) (by decide) all0 rfl ?_
    intro T6 h6 v6 X6 K6 hQ6
    obtain ⟨r6, kr6, rfl, ge_r6, f7⟩ := hQ6
    show OGo _ _ _ _ T6 (mkF m 39 #[.val (.ref a), .val (.ref b), .val (.int 0), .val (.int 2), .val .null, .unset] [(.ref r6)])
    refine og_astore X6 41 #[.val (.ref a), .val (.ref b), .val (.int 0), .val (.int 2), .val .null, .val (.ref r6)] d3_39 rfl rfl rfl ?_
    refine og_aloadN X6 42 d3_41 rfl rfl rfl ?_
    refine og_aload X6 44 d3_42 rfl rfl rfl ?_
    refine og_iloadN X6 45 d3_44 rfl rfl ?_
    refine own_stat X6 48 (argsL := [(.ref r6), (.int 2)]) (rest := [(.ref a)]) d3_45 (ru_cod2_4 l Z a0 hw n0 h6 hWd [] X6.old r6 kr6 [(.int (StrChars.lo8 x0)), (.int (StrChars.hi8 x0)), (.int (StrChars.lo8 x1)), (.int (StrChars.hi8 x1))] (.int 0) f7 ) (ow hw 64 rfl) (ow hw 65 rfl) (ow hw 59 rfl) (ow hw 66 rfl) (by decide) (lenOf pd__28_5bBI_29B rfl) rfl rfl rfl (W := 1) rfl (by decide) (by decide) (by decide) (by decide) all0 rfl ?_
    intro T8 h8 v8 X8 K8 hQ8
    obtain rfl := hQ8
    show OGo _ _ _ _ T8 (mkF m 48 #[.val (.ref a), .val (.ref b), .val (.int 0), .val (.int 2), .val .null, .val (.ref r6)] [(.int 1), (.ref a)])
    have f9 := q2.keep K6 nin0
    have f10 := f9.keep K8 nin0
    have f11 := q0.keep K6
    have f12 := f11.keep K8
    have f13 := q1.keep K6 nin0
    have f14 := f13.keep K8 nin0
    refine own_put X8 51 d3_48 (host := "") (Or.inl (ow hw 29 rfl)) Via.refl f10 f12 (Or.inr ⟨(ow hw 25 rfl), rfl, hnm⟩) (ow hw 10 rfl) (ty := .byte) (by decide) rfl rfl (om 0 rfl) rfl ?_
    intro T15 h15 X15 W15 K15 F15
    have f16 := Fld.other W15 f14 (Or.inr (slot_ne (Or.inr (ow hw 24 rfl)) (Or.inr (ow hw 25 rfl)) (by decide) (t := (.array .byte)) (t' := .byte) (by decide) (by decide)))
    refine og_aloadN X15 52 d3_51 rfl rfl rfl ?_
    refine og_aload X15 54 d3_52 rfl rfl rfl ?_
    have f17 := f12.keep K15
    refine own_put X15 57 d3_54 (host := "") (Or.inl (ow hw 28 rfl)) Via.refl f16 f17 (Or.inr ⟨(ow hw 24 rfl), rfl, hnm⟩) (ow hw 10 rfl) (ty := (.array .byte)) (by decide) rfl rfl (om 0 rfl) rfl ?_
    intro T18 h18 X18 W18 K18 F18
    have f19 := Fld.other W18 F15 (Or.inr (slot_ne (Or.inr (ow hw 25 rfl)) (Or.inr (ow hw 24 rfl)) (by decide) (t := .byte) (t' := (.array .byte)) (by decide) (by decide)))
    have f20 := f17.keep K18
    have f21 := f7.keep K8 nin0
    have f22 := f21.keep K15 (ninS (Nat.ne_of_gt (Nat.lt_of_lt_of_le q0.lt ge_r6)) nin0)
    have f23 := f22.keep K18 (ninS (Nat.ne_of_gt (Nat.lt_of_lt_of_le q0.lt ge_r6)) nin0)
    refine own_retV X18 d3_57 hret (by decide) (by decide) ?_
    exact ⟨rfl, own_mkStrW (cs := [x0, x1]) (n := 2) f20 f19 F18 f23 ⟨x0, List.mem_of_getElem? (i := 0) rfl, hc5⟩ (own_l16 ⟨q4, q5⟩ (own_l16 ⟨q6, q7⟩ (fun _ q => nomatch q))) rfl rfl (Nat.le_of_ble_eq_true rfl)⟩
  · -- not
    by_cases hc24 : (255 : Int32) < x1
    · -- (255 : Int32) < x1
      refine own_stat X4 39 (argsL := [(.ref b), (.int 0), (.int 2)]) (rest := []) d3_36 (ru_cmp2_1 l Z a0 hw n0 h0 hWd [] X4.old b kb dv x0 x1 q3 hc5 hc24 q4 q5 q6 q7 ) (ow hw 57 rfl) (ow hw 58 rfl) (ow hw 59 rfl) (ow hw 60 rfl) (by decide) (lenOf pd__28_5bCII_29_5bB rfl) rfl rfl rfl (W := 0) rfl (by decide) (by decide) (by decide) (by decide) all0 rfl ?_
      intro T25 h25 v25 X25 K25 hQ25
      obtain ⟨r25, kr25, rfl, ge_r25, f26⟩ := hQ25
      show OGo _ _ _ _ T25 (mkF m 39 #[.val (.ref a), .val (.ref b), .val (.int 0), .val (.int 2), .val .null, .unset] [(.ref r25)])
      refine og_astore X25 41 #[.val (.ref a), .val (.ref b), .val (.int 0), .val (.int 2), .val .null, .val (.ref r25)] d3_39 rfl rfl rfl ?_
      refine og_aloadN X25 42 d3_41 rfl rfl rfl ?_
      refine og_aload X25 44 d3_42 rfl rfl rfl ?_
      refine og_iloadN X25 45 d3_44 rfl rfl ?_
      refine own_stat X25 48 (argsL := [(.ref r25), (.int 2)]) (rest := [(.ref a)]) d3_45 (ru_cod2_4 l Z a0 hw n0 h25 hWd [] X25.old r25 kr25 [(.int (StrChars.lo8 x0)), (.int (StrChars.hi8 x0)), (.int (StrChars.lo8 x1)), (.int (StrChars.hi8 x1))] (.int 0) f26 ) (ow hw 64 rfl) (ow hw 65 rfl) (ow hw 59 rfl) (ow hw 66 rfl) (by decide) (lenOf pd__28_5bBI_29B rfl) rfl rfl rfl (W := 1) rfl (by decide) (by decide) (by decide) (by decide) all0 rfl ?_
      intro T27 h27 v27 X27 K27 hQ27
      obtain rfl := hQ27
      show OGo _ _ _ _ T27 (mkF m 48 #[.val (.ref a), .val (.ref b), .val (.int 0), .val (.int 2), .val .null, .val (.ref r25)] [(.int 1), (.ref a)])
      have f28 := q2.keep K25 nin0
      have f29 := f28.keep K27 nin0
      have f30 := q0.keep K25
      have f31 := f30.keep K27
      have f32 := q1.keep K25 nin0
      have f33 := f32.keep K27 nin0
      refine own_put X27 51 d3_48 (host := "") (Or.inl (ow hw 29 rfl)) Via.refl f29 f31 (Or.inr ⟨(ow hw 25 rfl), rfl, hnm⟩) (ow hw 10 rfl) (ty := .byte) (by decide) rfl rfl (om 0 rfl) rfl ?_
      intro T34 h34 X34 W34 K34 F34
      have f35 := Fld.other W34 f33 (Or.inr (slot_ne (Or.inr (ow hw 24 rfl)) (Or.inr (ow hw 25 rfl)) (by decide) (t := (.array .byte)) (t' := .byte) (by decide) (by decide)))
      refine og_aloadN X34 52 d3_51 rfl rfl rfl ?_
      refine og_aload X34 54 d3_52 rfl rfl rfl ?_
      have f36 := f31.keep K34
      refine own_put X34 57 d3_54 (host := "") (Or.inl (ow hw 28 rfl)) Via.refl f35 f36 (Or.inr ⟨(ow hw 24 rfl), rfl, hnm⟩) (ow hw 10 rfl) (ty := (.array .byte)) (by decide) rfl rfl (om 0 rfl) rfl ?_
      intro T37 h37 X37 W37 K37 F37
      have f38 := Fld.other W37 F34 (Or.inr (slot_ne (Or.inr (ow hw 25 rfl)) (Or.inr (ow hw 24 rfl)) (by decide) (t := .byte) (t' := (.array .byte)) (by decide) (by decide)))
      have f39 := f36.keep K37
      have f40 := f26.keep K27 nin0
      have f41 := f40.keep K34 (ninS (Nat.ne_of_gt (Nat.lt_of_lt_of_le q0.lt ge_r25)) nin0)
      have f42 := f41.keep K37 (ninS (Nat.ne_of_gt (Nat.lt_of_lt_of_le q0.lt ge_r25)) nin0)
      refine own_retV X37 d3_57 hret (by decide) (by decide) ?_
      exact ⟨rfl, own_mkStrW (cs := [x0, x1]) (n := 2) f39 f38 F37 f42 ⟨x1, List.mem_of_getElem? (i := 1) rfl, hc24⟩ (own_l16 ⟨q4, q5⟩ (own_l16 ⟨q6, q7⟩ (fun _ q => nomatch q))) rfl rfl (Nat.le_of_ble_eq_true rfl)⟩
    · -- not
      refine own_stat X4 39 (argsL := [(.ref b), (.int 0), (.int 2)]) (rest := []) d3_36 (ru_cmp2_2 l Z a0 hw n0 h0 hWd [] X4.old b kb dv x0 x1 q3 hc5 hc24 q4 q5 q6 q7 ) (ow hw 57 rfl) (ow hw 58 rfl) (ow hw 59 rfl) (ow hw 60 rfl) (by decide) (lenOf pd__28_5bCII_29_5bB rfl) rfl rfl rfl (W := 0) rfl (by decide) (by decide) (by decide) (by decide) all0 rfl ?_
      intro T43 h43 v43 X43 K43 hQ43
      obtain ⟨r43, kr43, rfl, ge_r43, f44⟩ := hQ43
      show OGo _ _ _ _ T43 (mkF m 39 #[.val (.ref a), .val (.ref b), .val (.int 0), .val (.int 2), .val .null, .unset] [(.ref r43)])
      refine og_astore X43 41 #[.val (.ref a), .val (.ref b), .val (.int 0), .val (.int 2), .val .null, .val (.ref r43)] d3_39 rfl rfl rfl ?_
      refine og_aloadN X43 42 d3_41 rfl rfl rfl ?_
      refine og_aload X43 44 d3_42 rfl rfl rfl ?_
      refine og_iloadN X43 45 d3_44 rfl rfl ?_
      refine own_stat X43 48 (argsL := [(.ref r43), (.int 2)]) (rest := [(.ref a)]) d3_45 (ru_cod2_2 l Z a0 hw n0 h43 hWd [] X43.old r43 kr43 [(.int ((x0).toInt8.toInt32)), (.int ((x1).toInt8.toInt32))] (.int 0) f44 ) (ow hw 64 rfl) (ow hw 65 rfl) (ow hw 59 rfl) (ow hw 66 rfl) (by decide) (lenOf pd__28_5bBI_29B rfl) rfl rfl rfl (W := 1) rfl (by decide) (by decide) (by decide) (by decide) all0 rfl ?_
      intro T45 h45 v45 X45 K45 hQ45
      obtain rfl := hQ45
      show OGo _ _ _ _ T45 (mkF m 48 #[.val (.ref a), .val (.ref b), .val (.int 0), .val (.int 2), .val .null, .val (.ref r43)] [(.int 0), (.ref a)])
      have f46 := q2.keep K43 nin0
      have f47 := f46.keep K45 nin0
      have f48 := q0.keep K43
      have f49 := f48.keep K45
      have f50 := q1.keep K43 nin0
      have f51 := f50.keep K45 nin0
      refine own_put X45 51 d3_48 (host := "") (Or.inl (ow hw 29 rfl)) Via.refl f47 f49 (Or.inr ⟨(ow hw 25 rfl), rfl, hnm⟩) (ow hw 10 rfl) (ty := .byte) (by decide) rfl rfl (om 0 rfl) rfl ?_
      intro T52 h52 X52 W52 K52 F52
      have f53 := Fld.other W52 f51 (Or.inr (slot_ne (Or.inr (ow hw 24 rfl)) (Or.inr (ow hw 25 rfl)) (by decide) (t := (.array .byte)) (t' := .byte) (by decide) (by decide)))
      refine og_aloadN X52 52 d3_51 rfl rfl rfl ?_
      refine og_aload X52 54 d3_52 rfl rfl rfl ?_
      have f54 := f49.keep K52
      refine own_put X52 57 d3_54 (host := "") (Or.inl (ow hw 28 rfl)) Via.refl f53 f54 (Or.inr ⟨(ow hw 24 rfl), rfl, hnm⟩) (ow hw 10 rfl) (ty := (.array .byte)) (by decide) rfl rfl (om 0 rfl) rfl ?_
      intro T55 h55 X55 W55 K55 F55
      have f56 := Fld.other W55 F52 (Or.inr (slot_ne (Or.inr (ow hw 25 rfl)) (Or.inr (ow hw 24 rfl)) (by decide) (t := .byte) (t' := (.array .byte)) (by decide) (by decide)))
      have f57 := f54.keep K55
      have f58 := f44.keep K45 nin0
      have f59 := f58.keep K52 (ninS (Nat.ne_of_gt (Nat.lt_of_lt_of_le q0.lt ge_r43)) nin0)
      have f60 := f59.keep K55 (ninS (Nat.ne_of_gt (Nat.lt_of_lt_of_le q0.lt ge_r43)) nin0)
      refine own_retV X55 d3_57 hret (by decide) (by decide) ?_
      exact ⟨rfl, own_mkStr (cs := [x0, x1]) (bs := [x0.toInt8.toInt32, x1.toInt8.toInt32]) (n := 2) f57 f56 F55 f60 rfl (own_lS ⟨q4, hc5⟩ (own_lS ⟨q6, hc24⟩ own_l0)) rfl rfl (Nat.le_of_ble_eq_true rfl)⟩
theorem ru_ini2 (l : Launch) (Z : State) (a0 : Array Value) (hw : ∀ d ∈ tables_1, d.before a0 Z = true) (n0 : Nat) (h0 : Heap) (hWd : OWorld Z a0) (wc : List Jvm.Cond) (O0 : Old Z n0 h0) (a : Addr) (b : Addr) (y : Value) (z : Int32) (kb : ClassId) (dv : Value) (x0 : Int32) (x1 : Int32) (q0 : Exa Z h0 a "java/lang/String") (q1 : Fld Z h0 a "java/lang/String" "value" "[B" y) (q2 : Fld Z h0 a "java/lang/String" "coder" "B" (.int z)) (q3 : Arv Z h0 b kb .char (2 : Int32) [(.int x0), (.int x1)] dv) (q4 : ¬ x0 < 0) (q5 : ¬ (65535 : Int32) < x0) (q6 : ¬ x1 < 0) (q7 : ¬ (65535 : Int32) < x1) (g0 : n0 ≤ a ∧ a < h0.size) :
    OMet l Z own_EL n0 (⟨"java/lang/String", "<init>", "([C)V"⟩ : MethodName) (Jvm.Cond.code (⟨"java/lang/String", "<init>", "([C)V"⟩ : MethodName) jdk_42_method_3_code 2 none :: wc) ({ frames := 5, cells := 2, slots := 6, locals := 74 } : Room) #[(.ref a), (.ref b)] h0 [a] (fun vq hq => vq = none ∧ OStr Z hq a [x0, x1] hq.size) := by
  refine own_enter #[.val (.ref a), .val (.ref b)] pn_java_lang_String__init____C_V (ef_ru_ini2 a b y z kb dv x0 x1) hWd.1 O0 (allS g0 all0) ?_
  intro p e s m below meth c T0 X0 hnm hret
  refine og_aloadN X0 1 d2_0 rfl rfl rfl ?_
  refine og_aloadN X0 2 d2_1 rfl rfl rfl ?_
  refine og_iconst X0 3 (0 : Int32) d2_2 rfl rfl ?_
  refine og_aloadN X0 4 d2_3 rfl rfl rfl ?_
  refine own_len X0 5 d2_4 q3 rfl ?_
  refine og_aconstNull X0 6 d2_5 rfl ?_
  refine own_spec X0 9 (a := a) (argsL := [(.ref b), (.int 0), (.int 2), .null]) (rest := []) d2_6 rfl (ru_inv2 l Z a0 hw n0 h0 hWd [] X0.old a b y z kb dv x0 x1 q0 q1 q2 q3 q4 q5 q6 q7 (own_svb X0 (om 0 rfl))) (ow hw 15 rfl) (ow hw 16 rfl) (ow hw 11 rfl) (ow hw 18 rfl) (by decide) (lenOf pd__28_5bCIILjava_2flang_2fVoid_3b_29V rfl) rfl rfl rfl (W := 0) rfl (by decide) (by decide) (by decide) (by decide) (allS (om 0 rfl) all0) rfl ?_
  intro T1 h1 v1 X1 K1 hQ1
  obtain ⟨rfl, f2⟩ := hQ1
  show OGo _ _ _ _ T1 (mkF m 9 #[.val (.ref a), .val (.ref b)] [])
  refine own_retV X1 d2_9 hret (by decide) (by decide) ?_
  exact ⟨rfl, f2.top⟩
theorem ru_nbl3 (l : Launch) (Z : State) (a0 : Array Value) (hw : ∀ d ∈ tables_1, d.before a0 Z = true) (n0 : Nat) (h0 : Heap) (hWd : OWorld Z a0) (wc : List Jvm.Cond) (O0 : Old Z n0 h0)   :
    OMet l Z own_EL n0 (⟨"java/lang/StringUTF16", "newBytesLength", "(I)I"⟩ : MethodName) (Jvm.Cond.code (⟨"java/lang/StringUTF16", "newBytesLength", "(I)I"⟩ : MethodName) jdk_52_method_3_code 1 (some .int) :: wc) ({ frames := 0, cells := 0, slots := 0, locals := 0 } : Room) #[(.int 3)] h0 [] (fun vq hq => vq = some (.int 6)) := by
  refine own_enter #[.val (.int 3)] pn_java_lang_StringUTF16_newBytesLength__I_I (ef_ru_nbl3) hWd.1 O0 all0 ?_
  intro p e s m below meth c T0 X0 hnm hret
  refine og_iloadN X0 1 d22_0 rfl rfl ?_
  refine og_ifY X0 12 d22_1 (XT.i0_ge_t (by decide)) (by decide) (by decide) ?_
  refine og_iloadN X0 13 d22_12 rfl rfl ?_
  refine own_ldcI X0 15 (v := (1073741823 : Int32)) d22_13 (ow hw 112 rfl) rfl ?_
  refine og_icmpY X0 55 d22_15 (XT.ii_lt_t (by decide)) (by decide) (by decide) ?_
  refine og_iloadN X0 56 d22_55 rfl rfl ?_
  refine og_iconst X0 57 (1 : Int32) d22_56 rfl rfl ?_
  refine og_ishl X0 58 d22_57 rfl ?_
  show OGo _ _ _ _ T0 (mkF m 58 #[.val (.int 3)] [(.int 6)])
  refine own_retI X0 d22_58 hret (by decide) (by decide) ?_
  exact rfl
theorem ru_nbf3 (l : Launch) (Z : State) (a0 : Array Value) (hw : ∀ d ∈ tables_1, d.before a0 Z = true) (n0 : Nat) (h0 : Heap) (hWd : OWorld Z a0) (wc : List Jvm.Cond) (O0 : Old Z n0 h0)   :
    OMet l Z own_EL n0 (⟨"java/lang/StringUTF16", "newBytesFor", "(I)[B"⟩ : MethodName) (Jvm.Cond.code (⟨"java/lang/StringUTF16", "newBytesFor", "(I)[B"⟩ : MethodName) jdk_52_method_2_code 1 (some (.array .byte)) :: wc) ({ frames := 1, cells := 1, slots := 6, locals := 12 } : Room) #[(.int 3)] h0 [] (fun vq hq => ∃ (r : Addr) (kb : ClassId), vq = some (.ref r) ∧ h0.size ≤ r ∧ Arv Z hq r kb .byte (6 : Int32) [(.int 0), (.int 0), (.int 0), (.int 0), (.int 0), (.int 0)] (.int 0)) := by
  refine own_enter #[.val (.int 3)] pn_java_lang_StringUTF16_newBytesFor__I__B (ef_ru_nbf3) hWd.1 O0 all0 ?_
  intro p e s m below meth c T0 X0 hnm hret
  refine og_iloadN X0 1 d21_0 rfl rfl ?_
  refine own_stat X0 4 (argsL := [(.int 3)]) (rest := []) d21_1 (ru_nbl3 l Z a0 hw n0 h0 hWd [] X0.old   ) (ow hw 109 rfl) (ow hw 110 rfl) (ow hw 59 rfl) (ow hw 111 rfl) (by decide) (lenOf pd__28I_29I rfl) rfl rfl rfl (W := 0) rfl (by decide) (by decide) (by decide) (by decide) all0 rfl ?_
  intro T1 h1 v1 X1 K1 hQ1
  obtain rfl := hQ1
  show OGo _ _ _ _ T1 (mkF m 4 #[.val (.int 3)] [(.int 6)])
  refine own_arr X1 6 d21_4 (ow hw 23 rfl) (by decide) (cap := 6) (by decide) (by decide) (by decide) (by decide) rfl ?_
  intro T2 h2 b2 kb2 X2 K2 G2 U2 A2
  have f3 : Arv Z h2 b2 kb2 .byte (6 : Int32) [(.int 0), (.int 0), (.int 0), (.int 0), (.int 0), (.int 0)] (.int 0) := A2
  refine own_retA X2 d21_6 hret rfl rfl (by decide) (by decide) ?_
  exact ⟨b2, kb2, rfl, (Nat.le_trans K1.1 G2), f3⟩
theorem ru_put3_0 (l : Launch) (Z : State) (a0 : Array Value) (hw : ∀ d ∈ tables_1, d.before a0 Z = true) (n0 : Nat) (h0 : Heap) (hWd : OWorld Z a0) (wc : List Jvm.Cond) (O0 : Old Z n0 h0) (b : Addr) (kb : ClassId) (x : Int32) (dv : Value) (e0 : Value) (e1 : Value) (e2 : Value) (e3 : Value) (e4 : Value) (e5 : Value) (q0 : Arv Z h0 b kb .byte (6 : Int32) [e0, e1, e2, e3, e4, e5] dv) (g0 : n0 ≤ b ∧ b < h0.size) :
    OMet l Z own_EL n0 (⟨"java/lang/StringUTF16", "putChar", "([BII)V"⟩ : MethodName) (Jvm.Cond.code (⟨"java/lang/StringUTF16", "putChar", "([BII)V"⟩ : MethodName) jdk_52_method_4_code 3 none :: wc) ({ frames := 0, cells := 0, slots := 0, locals := 0 } : Room) #[(.ref b), (.int 0), (.int x)] h0 [b] (fun vq hq => vq = none ∧ Arv Z hq b kb .byte (6 : Int32) [(.int (StrChars.lo8 x)), (.int (StrChars.hi8 x)), e2, e3, e4, e5] dv) := by
  refine own_enter #[.val (.ref b), .val (.int 0), .val (.int x)] pn_java_lang_StringUTF16_putChar___BII_V (ef_ru_put3_0 b kb x dv e0 e1 e2 e3 e4 e5) hWd.1 O0 (allS g0 all0) ?_
  intro p e s m below meth c T0 X0 hnm hret
  refine own_getS X0 3 d23_0 (host := "") (Or.inl (ow hw 116 rfl)) Via.refl hWd.2.2.2.1 rfl ?_
  intro T1 X2
  refine og_ifY X2 28 d23_3 (XT.i0_ne_t (by decide)) (by decide) (by decide) ?_
  refine og_iloadN X2 29 d23_28 rfl rfl ?_
  refine og_iconst X2 30 (1 : Int32) d23_29 rfl rfl ?_
  refine og_ishl X2 31 d23_30 rfl ?_
  show OGo _ _ _ _ T1 (mkF m 31 #[.val (.ref b), .val (.int 0), .val (.int x)] [(.int 0)])
  refine og_istoreN X2 32 #[.val (.ref b), .val (.int 0), .val (.int x)] d23_31 rfl rfl ?_
  refine og_aloadN X2 33 d23_32 rfl rfl rfl ?_
  refine og_iloadN X2 34 d23_33 rfl rfl ?_
  refine og_iinc X2 37 #[.val (.ref b), .val (.int 1), .val (.int x)] d23_34 rfl rfl rfl ?_
  refine og_iloadN X2 38 d23_37 rfl rfl ?_
  refine own_getS X2 41 d23_38 (host := "") (Or.inl (ow hw 117 rfl)) Via.refl hWd.2.2.2.2.1 rfl ?_
  intro T3 X4
  refine og_ishr X4 42 d23_41 rfl ?_
  refine og_i2b X4 43 d23_42 rfl ?_
  refine own_stB X4 44 d23_43 q0 (own_nbb _) (by decide) (by decide) (i := 0) (by decide) (Nat.le_of_ble_eq_true rfl) (om 0 rfl) rfl ?_
  intro T5 h5 X5 W5 K5 A5
  have f6 : Arv Z h5 b kb .byte (6 : Int32) [(.int (((x >>> ((0 : Int32) &&& 31))).toInt8.toInt32)), e1, e2, e3, e4, e5] dv := A5
  refine og_aloadN X5 45 d23_44 rfl rfl rfl ?_
  refine og_iloadN X5 46 d23_45 rfl rfl ?_
  refine og_iloadN X5 47 d23_46 rfl rfl ?_
  refine own_getS X5 50 d23_47 (host := "") (Or.inl (ow hw 118 rfl)) Via.refl hWd.2.2.2.2.2 rfl ?_
  intro T7 X8
  refine og_ishr X8 51 d23_50 rfl ?_
  refine og_i2b X8 52 d23_51 rfl ?_
  refine own_stB X8 53 d23_52 f6 (own_nbb _) (by decide) (by decide) (i := 1) (by decide) (Nat.le_of_ble_eq_true rfl) (om 0 rfl) rfl ?_
  intro T9 h9 X9 W9 K9 A9
  have f10 : Arv Z h9 b kb .byte (6 : Int32) [(.int (((x >>> ((0 : Int32) &&& 31))).toInt8.toInt32)), (.int (((x >>> ((8 : Int32) &&& 31))).toInt8.toInt32)), e2, e3, e4, e5] dv := A9
  refine own_retV X9 d23_53 hret (by decide) (by decide) ?_
  exact ⟨rfl, by have q := f10; rw [StrChars.shr0] at q; exact q⟩
theorem ru_put3_1 (l : Launch) (Z : State) (a0 : Array Value) (hw : ∀ d ∈ tables_1, d.before a0 Z = true) (n0 : Nat) (h0 : Heap) (hWd : OWorld Z a0) (wc : List Jvm.Cond) (O0 : Old Z n0 h0) (b : Addr) (kb : ClassId) (x : Int32) (dv : Value) (e0 : Value) (e1 : Value) (e2 : Value) (e3 : Value) (e4 : Value) (e5 : Value) (q0 : Arv Z h0 b kb .byte (6 : Int32) [e0, e1, e2, e3, e4, e5] dv) (g0 : n0 ≤ b ∧ b < h0.size) :
    OMet l Z own_EL n0 (⟨"java/lang/StringUTF16", "putChar", "([BII)V"⟩ : MethodName) (Jvm.Cond.code (⟨"java/lang/StringUTF16", "putChar", "([BII)V"⟩ : MethodName) jdk_52_method_4_code 3 none :: wc) ({ frames := 0, cells := 0, slots := 0, locals := 0 } : Room) #[(.ref b), (.int 1), (.int x)] h0 [b] (fun vq hq => vq = none ∧ Arv Z hq b kb .byte (6 : Int32) [e0, e1, (.int (StrChars.lo8 x)), (.int (StrChars.hi8 x)), e4, e5] dv) := by
  refine own_enter #[.val (.ref b), .val (.int 1), .val (.int x)] pn_java_lang_StringUTF16_putChar___BII_V (ef_ru_put3_1 b kb x dv e0 e1 e2 e3 e4 e5) hWd.1 O0 (allS g0 all0) ?_
  intro p e s m below meth c T0 X0 hnm hret
  refine own_getS X0 3 d23_0 (host := "") (Or.inl (ow hw 116 rfl)) Via.refl hWd.2.2.2.1 rfl ?_
  intro T1 X2
  refine og_ifY X2 28 d23_3 (XT.i0_ne_t (by decide)) (by decide) (by decide) ?_
  refine og_iloadN X2 29 d23_28 rfl rfl ?_
  refine og_iconst X2 30 (1 : Int32) d23_29 rfl rfl ?_
  refine og_ishl X2 31 d23_30 rfl ?_
  show OGo _ _ _ _ T1 (mkF m 31 #[.val (.ref b), .val (.int 1), .val (.int x)] [(.int 2)])
  refine og_istoreN X2 32 #[.val (.ref b), .val (.int 2), .val (.int x)] d23_31 rfl rfl ?_
  refine og_aloadN X2 33 d23_32 rfl rfl rfl ?_
  refine og_iloadN X2 34 d23_33 rfl rfl ?_
  refine og_iinc X2 37 #[.val (.ref b), .val (.int 3), .val (.int x)] d23_34 rfl rfl rfl ?_
  refine og_iloadN X2 38 d23_37 rfl rfl ?_
  refine own_getS X2 41 d23_38 (host := "") (Or.inl (ow hw 117 rfl)) Via.refl hWd.2.2.2.2.1 rfl ?_
  intro T3 X4
  refine og_ishr X4 42 d23_41 rfl ?_
  refine og_i2b X4 43 d23_42 rfl ?_
  refine own_stB X4 44 d23_43 q0 (own_nbb _) (by decide) (by decide) (i := 2) (by decide) (Nat.le_of_ble_eq_true rfl) (om 0 rfl) rfl ?_
  intro T5 h5 X5 W5 K5 A5
  have f6 : Arv Z h5 b kb .byte (6 : Int32) [e0, e1, (.int (((x >>> ((0 : Int32) &&& 31))).toInt8.toInt32)), e3, e4, e5] dv := A5
  refine og_aloadN X5 45 d23_44 rfl rfl rfl ?_
  refine og_iloadN X5 46 d23_45 rfl rfl ?_
  refine og_iloadN X5 47 d23_46 rfl rfl ?_
  refine own_getS X5 50 d23_47 (host := "") (Or.inl (ow hw 118 rfl)) Via.refl hWd.2.2.2.2.2 rfl ?_
  intro T7 X8
  refine og_ishr X8 51 d23_50 rfl ?_
  refine og_i2b X8 52 d23_51 rfl ?_
  refine own_stB X8 53 d23_52 f6 (own_nbb _) (by decide) (by decide) (i := 3) (by decide) (Nat.le_of_ble_eq_true rfl) (om 0 rfl) rfl ?_
  intro T9 h9 X9 W9 K9 A9
  have f10 : Arv Z h9 b kb .byte (6 : Int32) [e0, e1, (.int (((x >>> ((0 : Int32) &&& 31))).toInt8.toInt32)), (.int (((x >>> ((8 : Int32) &&& 31))).toInt8.toInt32)), e4, e5] dv := A9
  refine own_retV X9 d23_53 hret (by decide) (by decide) ?_
  exact ⟨rfl, by have q := f10; rw [StrChars.shr0] at q; exact q⟩
theorem ru_put3_2 (l : Launch) (Z : State) (a0 : Array Value) (hw : ∀ d ∈ tables_1, d.before a0 Z = true) (n0 : Nat) (h0 : Heap) (hWd : OWorld Z a0) (wc : List Jvm.Cond) (O0 : Old Z n0 h0) (b : Addr) (kb : ClassId) (x : Int32) (dv : Value) (e0 : Value) (e1 : Value) (e2 : Value) (e3 : Value) (e4 : Value) (e5 : Value) (q0 : Arv Z h0 b kb .byte (6 : Int32) [e0, e1, e2, e3, e4, e5] dv) (g0 : n0 ≤ b ∧ b < h0.size) :
    OMet l Z own_EL n0 (⟨"java/lang/StringUTF16", "putChar", "([BII)V"⟩ : MethodName) (Jvm.Cond.code (⟨"java/lang/StringUTF16", "putChar", "([BII)V"⟩ : MethodName) jdk_52_method_4_code 3 none :: wc) ({ frames := 0, cells := 0, slots := 0, locals := 0 } : Room) #[(.ref b), (.int 2), (.int x)] h0 [b] (fun vq hq => vq = none ∧ Arv Z hq b kb .byte (6 : Int32) [e0, e1, e2, e3, (.int (StrChars.lo8 x)), (.int (StrChars.hi8 x))] dv) := by
  refine own_enter #[.val (.ref b), .val (.int 2), .val (.int x)] pn_java_lang_StringUTF16_putChar___BII_V (ef_ru_put3_2 b kb x dv e0 e1 e2 e3 e4 e5) hWd.1 O0 (allS g0 all0) ?_
  intro p e s m below meth c T0 X0 hnm hret
  refine own_getS X0 3 d23_0 (host := "") (Or.inl (ow hw 116 rfl)) Via.refl hWd.2.2.2.1 rfl ?_
  intro T1 X2
  refine og_ifY X2 28 d23_3 (XT.i0_ne_t (by decide)) (by decide) (by decide) ?_
  refine og_iloadN X2 29 d23_28 rfl rfl ?_
  refine og_iconst X2 30 (1 : Int32) d23_29 rfl rfl ?_
  refine og_ishl X2 31 d23_30 rfl ?_
  show OGo _ _ _ _ T1 (mkF m 31 #[.val (.ref b), .val (.int 2), .val (.int x)] [(.int 4)])
  refine og_istoreN X2 32 #[.val (.ref b), .val (.int 4), .val (.int x)] d23_31 rfl rfl ?_
  refine og_aloadN X2 33 d23_32 rfl rfl rfl ?_
  refine og_iloadN X2 34 d23_33 rfl rfl ?_
  refine og_iinc X2 37 #[.val (.ref b), .val (.int 5), .val (.int x)] d23_34 rfl rfl rfl ?_
  refine og_iloadN X2 38 d23_37 rfl rfl ?_
  refine own_getS X2 41 d23_38 (host := "") (Or.inl (ow hw 117 rfl)) Via.refl hWd.2.2.2.2.1 rfl ?_
  intro T3 X4
  refine og_ishr X4 42 d23_41 rfl ?_
  refine og_i2b X4 43 d23_42 rfl ?_
  refine own_stB X4 44 d23_43 q0 (own_nbb _) (by decide) (by decide) (i := 4) (by decide) (Nat.le_of_ble_eq_true rfl) (om 0 rfl) rfl ?_
  intro T5 h5 X5 W5 K5 A5
  have f6 : Arv Z h5 b kb .byte (6 : Int32) [e0, e1, e2, e3, (.int (((x >>> ((0 : Int32) &&& 31))).toInt8.toInt32)), e5] dv := A5
  refine og_aloadN X5 45 d23_44 rfl rfl rfl ?_
  refine og_iloadN X5 46 d23_45 rfl rfl ?_
  refine og_iloadN X5 47 d23_46 rfl rfl ?_
  refine own_getS X5 50 d23_47 (host := "") (Or.inl (ow hw 118 rfl)) Via.refl hWd.2.2.2.2.2 rfl ?_
  intro T7 X8
  refine og_ishr X8 51 d23_50 rfl ?_
  refine og_i2b X8 52 d23_51 rfl ?_
  refine own_stB X8 53 d23_52 f6 (own_nbb _) (by decide) (by decide) (i := 5) (by decide) (Nat.le_of_ble_eq_true rfl) (om 0 rfl) rfl ?_
  intro T9 h9 X9 W9 K9 A9
  have f10 : Arv Z h9 b kb .byte (6 : Int32) [e0, e1, e2, e3, (.int (((x >>> ((0 : Int32) &&& 31))).toInt8.toInt32)), (.int (((x >>> ((8 : Int32) &&& 31))).toInt8.toInt32))] dv := A9
  refine own_retV X9 d23_53 hret (by decide) (by decide) ?_
  exact ⟨rfl, by have q := f10; rw [StrChars.shr0] at q; exact q⟩
theorem ru_tob3 (l : Launch) (Z : State) (a0 : Array Value) (hw : ∀ d ∈ tables_1, d.before a0 Z = true) (n0 : Nat) (h0 : Heap) (hWd : OWorld Z a0) (wc : List Jvm.Cond) (O0 : Old Z n0 h0) (b : Addr) (kb : ClassId) (dv : Value) (x0 : Int32) (x1 : Int32) (x2 : Int32) (q0 : Arv Z h0 b kb .char (3 : Int32) [(.int x0), (.int x1), (.int x2)] dv) :
    OMet l Z own_EL n0 (⟨"java/lang/StringUTF16", "toBytes", "([CII)[B"⟩ : MethodName) (Jvm.Cond.code (⟨"java/lang/StringUTF16", "toBytes", "([CII)[B"⟩ : MethodName) jdk_52_method_14_code 5 (some (.array .byte)) :: wc) ({ frames := 2, cells := 1, slots := 6, locals := 24 } : Room) #[(.ref b), (.int 0), (.int 3)] h0 [] (fun vq hq => ∃ (r : Addr) (kr : ClassId), vq = some (.ref r) ∧ h0.size ≤ r ∧ Arv Z hq r kr .byte (6 : Int32) [(.int (StrChars.lo8 x0)), (.int (StrChars.hi8 x0)), (.int (StrChars.lo8 x1)), (.int (StrChars.hi8 x1)), (.int (StrChars.lo8 x2)), (.int (StrChars.hi8 x2))] (.int 0)) := by
  refine own_enter #[.val (.ref b), .val (.int 0), .val (.int 3), .unset, .unset] pn_java_lang_StringUTF16_toBytes___CII__B (ef_ru_tob3 b kb dv x0 x1 x2) hWd.1 O0 all0 ?_
  intro p e s m below meth c T0 X0 hnm hret
  refine og_iloadN X0 1 d20_0 rfl rfl ?_
  refine own_stat X0 4 (argsL := [(.int 3)]) (rest := []) d20_1 (ru_nbf3 l Z a0 hw n0 h0 hWd [] X0.old   ) (ow hw 106 rfl) (ow hw 107 rfl) (ow hw 59 rfl) (ow hw 108 rfl) (by decide) (lenOf pd__28I_29_5bB rfl) rfl rfl rfl (W := 0) rfl (by decide) (by decide) (by decide) (by decide) all0 rfl ?_
  intro T1 h1 v1 X1 K1 hQ1
  obtain ⟨r1, kb1, rfl, ge_r1, f2⟩ := hQ1
  show OGo _ _ _ _ T1 (mkF m 4 #[.val (.ref b), .val (.int 0), .val (.int 3), .unset, .unset] [(.ref r1)])
  refine og_astoreN X1 5 #[.val (.ref b), .val (.int 0), .val (.int 3), .val (.ref r1), .unset] d20_4 rfl rfl rfl ?_
  refine og_iconst X1 6 (0 : Int32) d20_5 rfl rfl ?_
  refine og_istore X1 8 #[.val (.ref b), .val (.int 0), .val (.int 3), .val (.ref r1), .val (.int 0)] d20_6 rfl rfl ?_
  refine og_iload X1 10 d20_8 rfl rfl ?_
  refine og_iloadN X1 11 d20_10 rfl rfl ?_
  refine og_icmpN X1 14 d20_11 (XT.ii_ge_f (by decide)) rfl ?_
  refine og_aloadN X1 15 d20_14 rfl rfl rfl ?_
  refine og_iload X1 17 d20_15 rfl rfl ?_
  refine og_aloadN X1 18 d20_17 rfl rfl rfl ?_
  refine og_iloadN X1 19 d20_18 rfl rfl ?_
  have f3 := q0.keep K1 nin0
  refine own_ldC X1 20 d20_19 f3 (by decide) (by decide) rfl rfl ?_
  have X4 := own_svB X1 f2 (own_tx6 hw) (Nat.le_trans (own_n0 X0) ge_r1) ge_r1
  refine own_stat X4 23 (argsL := [(.ref r1), (.int 0), (.int x0)]) (rest := []) d20_20 (ru_put3_0 l Z a0 hw n0 h1 hWd [] X4.old r1 kb1 x0 (.int 0) (.int 0) (.int 0) (.int 0) (.int 0) (.int 0) (.int 0) f2 (own_svb X4 (om 0 rfl))) (ow hw 113 rfl) (ow hw 114 rfl) (ow hw 59 rfl) (ow hw 115 rfl) (by decide) (lenOf pd__28_5bBII_29V rfl) rfl rfl rfl (W := 0) rfl (by decide) (by decide) (by decide) (by decide) (allS (om 0 rfl) all0) rfl ?_
  intro T5 h5 v5 X5 K5 hQ5
  obtain ⟨rfl, f6⟩ := hQ5
  show OGo _ _ _ _ T5 (mkF m 23 #[.val (.ref b), .val (.int 0), .val (.int 3), .val (.ref r1), .val (.int 0)] [])
  refine og_iinc X5 26 #[.val (.ref b), .val (.int 1), .val (.int 3), .val (.ref r1), .val (.int 0)] d20_23 rfl rfl rfl ?_
  refine og_iinc X5 29 #[.val (.ref b), .val (.int 1), .val (.int 3), .val (.ref r1), .val (.int 1)] d20_26 rfl rfl rfl ?_
  refine og_goto X5 8 d20_29 (by decide) (by decide) ?_
  refine og_iload X5 10 d20_8 rfl rfl ?_
  refine og_iloadN X5 11 d20_10 rfl rfl ?_
  refine og_icmpN X5 14 d20_11 (XT.ii_ge_f (by decide)) rfl ?_
  refine og_aloadN X5 15 d20_14 rfl rfl rfl ?_
  refine og_iload X5 17 d20_15 rfl rfl ?_
  refine og_aloadN X5 18 d20_17 rfl rfl rfl ?_
  refine og_iloadN X5 19 d20_18 rfl rfl ?_
  have f7 := f3.keep K5 (ninS (Nat.ne_of_lt (Nat.lt_of_lt_of_le q0.lt ge_r1)) nin0)
  refine own_ldC X5 20 d20_19 f7 (by decide) (by decide) rfl rfl ?_
  refine own_stat X5 23 (argsL := [(.ref r1), (.int 1), (.int x1)]) (rest := []) d20_20 (ru_put3_1 l Z a0 hw n0 h5 hWd [] X5.old r1 kb1 x1 (.int 0) (.int (StrChars.lo8 x0)) (.int (StrChars.hi8 x0)) (.int 0) (.int 0) (.int 0) (.int 0) f6 (own_svb X5 (om 0 rfl))) (ow hw 113 rfl) (ow hw 114 rfl) (ow hw 59 rfl) (ow hw 115 rfl) (by decide) (lenOf pd__28_5bBII_29V rfl) rfl rfl rfl (W := 0) rfl (by decide) (by decide) (by decide) (by decide) (allS (om 0 rfl) all0) rfl ?_
  intro T8 h8 v8 X8 K8 hQ8
  obtain ⟨rfl, f9⟩ := hQ8
  show OGo _ _ _ _ T8 (mkF m 23 #[.val (.ref b), .val (.int 1), .val (.int 3), .val (.ref r1), .val (.int 1)] [])
  refine og_iinc X8 26 #[.val (.ref b), .val (.int 2), .val (.int 3), .val (.ref r1), .val (.int 1)] d20_23 rfl rfl rfl ?_
  refine og_iinc X8 29 #[.val (.ref b), .val (.int 2), .val (.int 3), .val (.ref r1), .val (.int 2)] d20_26 rfl rfl rfl ?_
  refine og_goto X8 8 d20_29 (by decide) (by decide) ?_
  refine og_iload X8 10 d20_8 rfl rfl ?_
  refine og_iloadN X8 11 d20_10 rfl rfl ?_
  refine og_icmpN X8 14 d20_11 (XT.ii_ge_f (by decide)) rfl ?_
  refine og_aloadN X8 15 d20_14 rfl rfl rfl ?_
  refine og_iload X8 17 d20_15 rfl rfl ?_
  refine og_aloadN X8 18 d20_17 rfl rfl rfl ?_
  refine og_iloadN X8 19 d20_18 rfl rfl ?_
  have f10 := f7.keep K8 (ninS (Nat.ne_of_lt (Nat.lt_of_lt_of_le q0.lt ge_r1)) nin0)
  refine own_ldC X8 20 d20_19 f10 (by decide) (by decide) rfl rfl ?_
  refine own_stat X8 23 (argsL := [(.ref r1), (.int 2), (.int x2)]) (rest := []) d20_20 (ru_put3_2 l Z a0 hw n0 h8 hWd [] X8.old r1 kb1 x2 (.int 0) (.int (StrChars.lo8 x0)) (.int (StrChars.hi8 x0)) (.int (StrChars.lo8 x1)) (.int (StrChars.hi8 x1)) (.int 0) (.int 0) f9 (own_svb X8 (om 0 rfl))) (ow hw 113 rfl) (ow hw 114 rfl) (ow hw 59 rfl) (ow hw 115 rfl) (by decide) (lenOf pd__28_5bBII_29V rfl) rfl rfl rfl (W := 0) rfl (by decide) (by decide) (by decide) (by decide) (allS (om 0 rfl) all0) rfl ?_
  intro T11 h11 v11 X11 K11 hQ11
  obtain ⟨rfl, f12⟩ := hQ11
  show OGo _ _ _ _ T11 (mkF m 23 #[.val (.ref b), .val (.int 2), .val (.int 3), .val (.ref r1), .val (.int 2)] [])
  refine og_iinc X11 26 #[.val (.ref b), .val (.int 3), .val (.int 3), .val (.ref r1), .val (.int 2)] d20_23 rfl rfl rfl ?_
  refine og_iinc X11 29 #[.val (.ref b), .val (.int 3), .val (.int 3), .val (.ref r1), .val (.int 3)] d20_26 rfl rfl rfl ?_
  refine og_goto X11 8 d20_29 (by decide) (by decide) ?_
  refine og_iload X11 10 d20_8 rfl rfl ?_
  refine og_iloadN X11 11 d20_10 rfl rfl ?_
  refine og_icmpY X11 32 d20_11 (XT.ii_ge_t (by decide)) (by decide) (by decide) ?_
  refine og_aloadN X11 33 d20_32 rfl rfl rfl ?_
  refine own_retA X11 d20_33 hret rfl rfl (by decide) (by decide) ?_
  exact ⟨r1, kb1, rfl, ge_r1, f12⟩
theorem ru_cmi3_0 (l : Launch) (Z : State) (a0 : Array Value) (hw : ∀ d ∈ tables_1, d.before a0 Z = true) (n0 : Nat) (h0 : Heap) (hWd : OWorld Z a0) (wc : List Jvm.Cond) (O0 : Old Z n0 h0) (b : Addr) (kb : ClassId) (dv : Value) (d : Addr) (kd : ClassId) (x0 : Int32) (x1 : Int32) (x2 : Int32) (q0 : Arv Z h0 b kb .char (3 : Int32) [(.int x0), (.int x1), (.int x2)] dv) (q1 : Arv Z h0 d kd .byte (3 : Int32) [(.int 0), (.int 0), (.int 0)] (.int 0)) (q2 : (255 : Int32) < x0) (q3 : b ≠ d) (g0 : n0 ≤ d ∧ d < h0.size) :
    OMet l Z own_EL n0 (⟨"java/lang/StringUTF16", "compress", "([CI[BII)I"⟩ : MethodName) (Jvm.Cond.code (⟨"java/lang/StringUTF16", "compress", "([CI[BII)I"⟩ : MethodName) jdk_52_method_21_code 7 (some .int) :: wc) ({ frames := 0, cells := 0, slots := 0, locals := 0 } : Room) #[(.ref b), (.int 0), (.ref d), (.int 0), (.int 3)] h0 [d] (fun vq hq => vq = some (.int 0)) := by
  refine own_enter #[.val (.ref b), .val (.int 0), .val (.ref d), .val (.int 0), .val (.int 3), .unset, .unset] pn_java_lang_StringUTF16_compress___CI_BII_I (ef_ru_cmi3_0 b kb dv d kd x0 x1 x2) hWd.1 O0 (allS g0 all0) ?_
  intro p e s m below meth c T0 X0 hnm hret
  refine og_iconst X0 1 (0 : Int32) d10_0 rfl rfl ?_
  refine og_istore X0 3 #[.val (.ref b), .val (.int 0), .val (.ref d), .val (.int 0), .val (.int 3), .val (.int 0), .unset] d10_1 rfl rfl ?_
  refine og_iload X0 5 d10_3 rfl rfl ?_
  refine og_iload X0 7 d10_5 rfl rfl ?_
  refine og_icmpN X0 10 d10_7 (XT.ii_ge_f (by decide)) rfl ?_
  refine og_aloadN X0 11 d10_10 rfl rfl rfl ?_
  refine og_iloadN X0 12 d10_11 rfl rfl ?_
  refine own_ldC X0 13 d10_12 q0 (by decide) (by decide) rfl rfl ?_
  refine og_istore X0 15 #[.val (.ref b), .val (.int 0), .val (.ref d), .val (.int 0), .val (.int 3), .val (.int 0), .val (.int x0)] d10_13 rfl rfl ?_
  refine og_iload X0 17 d10_15 rfl rfl ?_
  refine og_sipush X0 20 (255 : Int32) d10_17 rfl rfl ?_
  refine og_icmpN X0 23 d10_20 (XT.ii_le_f q2) rfl ?_
  refine og_iload X0 25 d10_23 rfl rfl ?_
  refine own_retI X0 d10_25 hret (by decide) (by decide) ?_
  exact rfl
theorem ru_cmp3_0 (l : Launch) (Z : State) (a0 : Array Value) (hw : ∀ d ∈ tables_1, d.before a0 Z = true) (n0 : Nat) (h0 : Heap) (hWd : OWorld Z a0) (wc : List Jvm.Cond) (O0 : Old Z n0 h0) (b : Addr) (kb : ClassId) (dv : Value) (x0 : Int32) (x1 : Int32) (x2 : Int32) (q0 : Arv Z h0 b kb .char (3 : Int32) [(.int x0), (.int x1), (.int x2)] dv) (q1 : (255 : Int32) < x0) (q2 : ¬ x0 < 0) (q3 : ¬ (65535 : Int32) < x0) (q4 : ¬ x1 < 0) (q5 : ¬ (65535 : Int32) < x1) (q6 : ¬ x2 < 0) (q7 : ¬ (65535 : Int32) < x2) :
    OMet l Z own_EL n0 (⟨"java/lang/StringUTF16", "compress", "([CII)[B"⟩ : MethodName) (Jvm.Cond.code (⟨"java/lang/StringUTF16", "compress", "([CII)[B"⟩ : MethodName) jdk_52_method_16_code 6 (some (.array .byte)) :: wc) ({ frames := 3, cells := 2, slots := 9, locals := 40 } : Room) #[(.ref b), (.int 0), (.int 3)] h0 [] (fun vq hq => ∃ (r : Addr) (kr : ClassId), vq = some (.ref r) ∧ h0.size ≤ r ∧ Arv Z hq r kr .byte (6 : Int32) [(.int (StrChars.lo8 x0)), (.int (StrChars.hi8 x0)), (.int (StrChars.lo8 x1)), (.int (StrChars.hi8 x1)), (.int (StrChars.lo8 x2)), (.int (StrChars.hi8 x2))] (.int 0)) := by
  refine own_enter #[.val (.ref b), .val (.int 0), .val (.int 3), .unset, .unset, .unset] pn_java_lang_StringUTF16_compress___CII__B (ef_ru_cmp3_0 b kb dv x0 x1 x2) hWd.1 O0 all0 ?_
  intro p e s m below meth c T0 X0 hnm hret
  refine og_iloadN X0 1 d9_0 rfl rfl ?_
  refine own_arr X0 3 d9_1 (ow hw 23 rfl) (by decide) (cap := 3) (by decide) (by decide) (by decide) (by decide) rfl ?_
  intro T1 h1 b1 kb1 X1 K1 G1 U1 A1
  have f2 : Arv Z h1 b1 kb1 .byte (3 : Int32) [(.int 0), (.int 0), (.int 0)] (.int 0) := A1
  refine og_astoreN X1 4 #[.val (.ref b), .val (.int 0), .val (.int 3), .val (.ref b1), .unset, .unset] d9_3 rfl rfl rfl ?_
  refine og_aloadN X1 5 d9_4 rfl rfl rfl ?_
  refine og_iloadN X1 6 d9_5 rfl rfl ?_
  refine og_aloadN X1 7 d9_6 rfl rfl rfl ?_
  refine og_iconst X1 8 (0 : Int32) d9_7 rfl rfl ?_
  refine og_iloadN X1 9 d9_8 rfl rfl ?_
  have f3 := q0.keep K1 nin0
  refine own_stat X1 12 (argsL := [(.ref b), (.int 0), (.ref b1), (.int 0), (.int 3)]) (rest := []) d9_9 (ru_cmi3_0 l Z a0 hw n0 h1 hWd [] X1.old b kb dv b1 kb1 x0 x1 x2 f3 f2 q1 (Nat.ne_of_lt (Nat.lt_of_lt_of_le q0.lt G1)) (own_svb X1 (om 0 rfl))) (ow hw 61 rfl) (ow hw 62 rfl) (ow hw 59 rfl) (ow hw 63 rfl) (by decide) (lenOf pd__28_5bCI_5bBII_29I rfl) rfl rfl rfl (W := 0) rfl (by decide) (by decide) (by decide) (by decide) (allS (om 0 rfl) all0) rfl ?_
  intro T4 h4 v4 X4 K4 hQ4
  obtain rfl := hQ4
  show OGo _ _ _ _ T4 (mkF m 12 #[.val (.ref b), .val (.int 0), .val (.int 3), .val (.ref b1), .unset, .unset] [(.int 0)])
  refine og_istore X4 14 #[.val (.ref b), .val (.int 0), .val (.int 3), .val (.ref b1), .val (.int 0), .unset] d9_12 rfl rfl ?_
  refine og_iload X4 16 d9_14 rfl rfl ?_
  refine og_iloadN X4 17 d9_16 rfl rfl ?_
  refine og_icmpN X4 20 d9_17 (XT.ii_eq_f (by decide)) rfl ?_
  refine og_aloadN X4 21 d9_20 rfl rfl rfl ?_
  refine og_iloadN X4 22 d9_21 rfl rfl ?_
  refine og_iloadN X4 23 d9_22 rfl rfl ?_
  have f5 := f3.keep K4 (ninS (Nat.ne_of_lt (Nat.lt_of_lt_of_le q0.lt G1)) nin0)
  refine own_stat X4 26 (argsL := [(.ref b), (.int 0), (.int 3)]) (rest := []) d9_23 (ru_tob3 l Z a0 hw n0 h4 hWd [] X4.old b kb dv x0 x1 x2 f5 ) (ow hw 103 rfl) (ow hw 104 rfl) (ow hw 59 rfl) (ow hw 105 rfl) (by decide) (lenOf pd__28_5bCII_29_5bB rfl) rfl rfl rfl (W := 0) rfl (by decide) (by decide) (by decide) (by decide) all0 rfl ?_
  intro T6 h6 v6 X6 K6 hQ6
  obtain ⟨r6, kr6, rfl, ge_r6, f7⟩ := hQ6
  show OGo _ _ _ _ T6 (mkF m 26 #[.val (.ref b), .val (.int 0), .val (.int 3), .val (.ref b1), .val (.int 0), .unset] [(.ref r6)])
  refine og_astore X6 28 #[.val (.ref b), .val (.int 0), .val (.int 3), .val (.ref b1), .val (.int 0), .val (.ref r6)] d9_26 rfl rfl rfl ?_
  refine og_aload X6 30 d9_28 rfl rfl rfl ?_
  refine og_iload X6 32 d9_30 rfl rfl ?_
  refine own_stat X6 35 (argsL := [(.ref r6), (.int 0)]) (rest := []) d9_32 (rg_get l Z a0 hw n0 h6 hWd [] X6.old r6 kr6 [x0, x1, x2] 0 f7 (Nat.le_of_ble_eq_true rfl) (Nat.le_of_ble_eq_true rfl) ) (ow hw 119 rfl) (ow hw 120 rfl) (ow hw 59 rfl) (ow hw 121 rfl) (by decide) (lenOf pd__28_5bBI_29C rfl) rfl rfl rfl (W := 0) rfl (by decide) (by decide) (by decide) (by decide) all0 rfl ?_
  intro T8 h8 v8 X8 K8 hQ8
  obtain rfl := hQ8
  show OGo _ _ _ _ T8 (mkF m 35 #[.val (.ref b), .val (.int 0), .val (.int 3), .val (.ref b1), .val (.int 0), .val (.ref r6)] [(.int (StrChars.pairCh (StrChars.lo8 x0) (StrChars.hi8 x0)))])
  refine og_sipush X8 38 (255 : Int32) d9_35 rfl rfl ?_
  refine og_icmpY X8 54 d9_38 (XT.ii_gt_t (by rw [StrChars.pair_says q2 q3]; exact q1)) (by decide) (by decide) ?_
  refine og_aload X8 56 d9_54 rfl rfl rfl ?_
  have f9 := f7.keep K8 nin0
  refine own_retA X8 d9_56 hret rfl rfl (by decide) (by decide) ?_
  exact ⟨r6, kr6, rfl, (Nat.le_trans (Nat.le_trans K1.1 K4.1) ge_r6), f9⟩
theorem ru_cmi3_1 (l : Launch) (Z : State) (a0 : Array Value) (hw : ∀ d ∈ tables_1, d.before a0 Z = true) (n0 : Nat) (h0 : Heap) (hWd : OWorld Z a0) (wc : List Jvm.Cond) (O0 : Old Z n0 h0) (b : Addr) (kb : ClassId) (dv : Value) (d : Addr) (kd : ClassId) (x0 : Int32) (x1 : Int32) (x2 : Int32) (q0 : Arv Z h0 b kb .char (3 : Int32) [(.int x0), (.int x1), (.int x2)] dv) (q1 : Arv Z h0 d kd .byte (3 : Int32) [(.int 0), (.int 0), (.int 0)] (.int 0)) (q2 : ¬ (255 : Int32) < x0) (q3 : (255 : Int32) < x1) (q4 : b ≠ d) (g0 : n0 ≤ d ∧ d < h0.size) :
    OMet l Z own_EL n0 (⟨"java/lang/StringUTF16", "compress", "([CI[BII)I"⟩ : MethodName) (Jvm.Cond.code (⟨"java/lang/StringUTF16", "compress", "([CI[BII)I"⟩ : MethodName) jdk_52_method_21_code 7 (some .int) :: wc) ({ frames := 0, cells := 0, slots := 0, locals := 0 } : Room) #[(.ref b), (.int 0), (.ref d), (.int 0), (.int 3)] h0 [d] (fun vq hq => vq = some (.int 1)) := by
  refine own_enter #[.val (.ref b), .val (.int 0), .val (.ref d), .val (.int 0), .val (.int 3), .unset, .unset] pn_java_lang_StringUTF16_compress___CI_BII_I (ef_ru_cmi3_1 b kb dv d kd x0 x1 x2) hWd.1 O0 (allS g0 all0) ?_
  intro p e s m below meth c T0 X0 hnm hret
  refine og_iconst X0 1 (0 : Int32) d10_0 rfl rfl ?_
  refine og_istore X0 3 #[.val (.ref b), .val (.int 0), .val (.ref d), .val (.int 0), .val (.int 3), .val (.int 0), .unset] d10_1 rfl rfl ?_
  refine og_iload X0 5 d10_3 rfl rfl ?_
  refine og_iload X0 7 d10_5 rfl rfl ?_
  refine og_icmpN X0 10 d10_7 (XT.ii_ge_f (by decide)) rfl ?_
  refine og_aloadN X0 11 d10_10 rfl rfl rfl ?_
  refine og_iloadN X0 12 d10_11 rfl rfl ?_
  refine own_ldC X0 13 d10_12 q0 (by decide) (by decide) rfl rfl ?_
  refine og_istore X0 15 #[.val (.ref b), .val (.int 0), .val (.ref d), .val (.int 0), .val (.int 3), .val (.int 0), .val (.int x0)] d10_13 rfl rfl ?_
  refine og_iload X0 17 d10_15 rfl rfl ?_
  refine og_sipush X0 20 (255 : Int32) d10_17 rfl rfl ?_
  refine og_icmpY X0 26 d10_20 (XT.ii_le_t q2) (by decide) (by decide) ?_
  refine og_aloadN X0 27 d10_26 rfl rfl rfl ?_
  refine og_iloadN X0 28 d10_27 rfl rfl ?_
  refine og_iload X0 30 d10_28 rfl rfl ?_
  refine og_i2b X0 31 d10_30 rfl ?_
  refine own_stB X0 32 d10_31 q1 (own_nbb _) (by decide) (by decide) (i := 0) (by decide) (Nat.le_of_ble_eq_true rfl) (om 0 rfl) rfl ?_
  intro T1 h1 X1 W1 K1 A1
  have f2 : Arv Z h1 d kd .byte (3 : Int32) [(.int ((x0).toInt8.toInt32)), (.int 0), (.int 0)] (.int 0) := A1
  refine og_iinc X1 35 #[.val (.ref b), .val (.int 1), .val (.ref d), .val (.int 0), .val (.int 3), .val (.int 0), .val (.int x0)] d10_32 rfl rfl rfl ?_
  refine og_iinc X1 38 #[.val (.ref b), .val (.int 1), .val (.ref d), .val (.int 1), .val (.int 3), .val (.int 0), .val (.int x0)] d10_35 rfl rfl rfl ?_
  refine og_iinc X1 41 #[.val (.ref b), .val (.int 1), .val (.ref d), .val (.int 1), .val (.int 3), .val (.int 1), .val (.int x0)] d10_38 rfl rfl rfl ?_
  refine og_goto X1 3 d10_41 (by decide) (by decide) ?_
  refine og_iload X1 5 d10_3 rfl rfl ?_
  refine og_iload X1 7 d10_5 rfl rfl ?_
  refine og_icmpN X1 10 d10_7 (XT.ii_ge_f (by decide)) rfl ?_
  refine og_aloadN X1 11 d10_10 rfl rfl rfl ?_
  refine og_iloadN X1 12 d10_11 rfl rfl ?_
  have f3 := q0.keep K1 (ninS q4 nin0)
  refine own_ldC X1 13 d10_12 f3 (by decide) (by decide) rfl rfl ?_
  refine og_istore X1 15 #[.val (.ref b), .val (.int 1), .val (.ref d), .val (.int 1), .val (.int 3), .val (.int 1), .val (.int x1)] d10_13 rfl rfl ?_
  refine og_iload X1 17 d10_15 rfl rfl ?_
  refine og_sipush X1 20 (255 : Int32) d10_17 rfl rfl ?_
  refine og_icmpN X1 23 d10_20 (XT.ii_le_f q3) rfl ?_
  refine og_iload X1 25 d10_23 rfl rfl ?_
  refine own_retI X1 d10_25 hret (by decide) (by decide) ?_
  exact rfl
theorem ru_cmp3_1 (l : Launch) (Z : State) (a0 : Array Value) (hw : ∀ d ∈ tables_1, d.before a0 Z = true) (n0 : Nat) (h0 : Heap) (hWd : OWorld Z a0) (wc : List Jvm.Cond) (O0 : Old Z n0 h0) (b : Addr) (kb : ClassId) (dv : Value) (x0 : Int32) (x1 : Int32) (x2 : Int32) (q0 : Arv Z h0 b kb .char (3 : Int32) [(.int x0), (.int x1), (.int x2)] dv) (q1 : ¬ (255 : Int32) < x0) (q2 : (255 : Int32) < x1) (q3 : ¬ x0 < 0) (q4 : ¬ (65535 : Int32) < x0) (q5 : ¬ x1 < 0) (q6 : ¬ (65535 : Int32) < x1) (q7 : ¬ x2 < 0) (q8 : ¬ (65535 : Int32) < x2) :
    OMet l Z own_EL n0 (⟨"java/lang/StringUTF16", "compress", "([CII)[B"⟩ : MethodName) (Jvm.Cond.code (⟨"java/lang/StringUTF16", "compress", "([CII)[B"⟩ : MethodName) jdk_52_method_16_code 6 (some (.array .byte)) :: wc) ({ frames := 3, cells := 2, slots := 9, locals := 40 } : Room) #[(.ref b), (.int 0), (.int 3)] h0 [] (fun vq hq => ∃ (r : Addr) (kr : ClassId), vq = some (.ref r) ∧ h0.size ≤ r ∧ Arv Z hq r kr .byte (6 : Int32) [(.int (StrChars.lo8 x0)), (.int (StrChars.hi8 x0)), (.int (StrChars.lo8 x1)), (.int (StrChars.hi8 x1)), (.int (StrChars.lo8 x2)), (.int (StrChars.hi8 x2))] (.int 0)) := by
  refine own_enter #[.val (.ref b), .val (.int 0), .val (.int 3), .unset, .unset, .unset] pn_java_lang_StringUTF16_compress___CII__B (ef_ru_cmp3_1 b kb dv x0 x1 x2) hWd.1 O0 all0 ?_
  intro p e s m below meth c T0 X0 hnm hret
  refine og_iloadN X0 1 d9_0 rfl rfl ?_
  refine own_arr X0 3 d9_1 (ow hw 23 rfl) (by decide) (cap := 3) (by decide) (by decide) (by decide) (by decide) rfl ?_
  intro T1 h1 b1 kb1 X1 K1 G1 U1 A1
  have f2 : Arv Z h1 b1 kb1 .byte (3 : Int32) [(.int 0), (.int 0), (.int 0)] (.int 0) := A1
  refine og_astoreN X1 4 #[.val (.ref b), .val (.int 0), .val (.int 3), .val (.ref b1), .unset, .unset] d9_3 rfl rfl rfl ?_
  refine og_aloadN X1 5 d9_4 rfl rfl rfl ?_
  refine og_iloadN X1 6 d9_5 rfl rfl ?_
  refine og_aloadN X1 7 d9_6 rfl rfl rfl ?_
  refine og_iconst X1 8 (0 : Int32) d9_7 rfl rfl ?_
  refine og_iloadN X1 9 d9_8 rfl rfl ?_
  have f3 := q0.keep K1 nin0
  refine own_stat X1 12 (argsL := [(.ref b), (.int 0), (.ref b1), (.int 0), (.int 3)]) (rest := []) d9_9 (ru_cmi3_1 l Z a0 hw n0 h1 hWd [] X1.old b kb dv b1 kb1 x0 x1 x2 f3 f2 q1 q2 (Nat.ne_of_lt (Nat.lt_of_lt_of_le q0.lt G1)) (own_svb X1 (om 0 rfl))) (ow hw 61 rfl) (ow hw 62 rfl) (ow hw 59 rfl) (ow hw 63 rfl) (by decide) (lenOf pd__28_5bCI_5bBII_29I rfl) rfl rfl rfl (W := 0) rfl (by decide) (by decide) (by decide) (by decide) (allS (om 0 rfl) all0) rfl ?_
  intro T4 h4 v4 X4 K4 hQ4
  obtain rfl := hQ4
  show OGo _ _ _ _ T4 (mkF m 12 #[.val (.ref b), .val (.int 0), .val (.int 3), .val (.ref b1), .unset, .unset] [(.int 1)])
  refine og_istore X4 14 #[.val (.ref b), .val (.int 0), .val (.int 3), .val (.ref b1), .val (.int 1), .unset] d9_12 rfl rfl ?_
  refine og_iload X4 16 d9_14 rfl rfl ?_
  refine og_iloadN X4 17 d9_16 rfl rfl ?_
  refine og_icmpN X4 20 d9_17 (XT.ii_eq_f (by decide)) rfl ?_
  refine og_aloadN X4 21 d9_20 rfl rfl rfl ?_
  refine og_iloadN X4 22 d9_21 rfl rfl ?_
  refine og_iloadN X4 23 d9_22 rfl rfl ?_
  have f5 := f3.keep K4 (ninS (Nat.ne_of_lt (Nat.lt_of_lt_of_le q0.lt G1)) nin0)
  refine own_stat X4 26 (argsL := [(.ref b), (.int 0), (.int 3)]) (rest := []) d9_23 (ru_tob3 l Z a0 hw n0 h4 hWd [] X4.old b kb dv x0 x1 x2 f5 ) (ow hw 103 rfl) (ow hw 104 rfl) (ow hw 59 rfl) (ow hw 105 rfl) (by decide) (lenOf pd__28_5bCII_29_5bB rfl) rfl rfl rfl (W := 0) rfl (by decide) (by decide) (by decide) (by decide) all0 rfl ?_
  intro T6 h6 v6 X6 K6 hQ6
  obtain ⟨r6, kr6, rfl, ge_r6, f7⟩ := hQ6
  show OGo _ _ _ _ T6 (mkF m 26 #[.val (.ref b), .val (.int 0), .val (.int 3), .val (.ref b1), .val (.int 1), .unset] [(.ref r6)])
  refine og_astore X6 28 #[.val (.ref b), .val (.int 0), .val (.int 3), .val (.ref b1), .val (.int 1), .val (.ref r6)] d9_26 rfl rfl rfl ?_
  refine og_aload X6 30 d9_28 rfl rfl rfl ?_
  refine og_iload X6 32 d9_30 rfl rfl ?_
  refine own_stat X6 35 (argsL := [(.ref r6), (.int 1)]) (rest := []) d9_32 (rg_get l Z a0 hw n0 h6 hWd [] X6.old r6 kr6 [x0, x1, x2] 1 f7 (Nat.le_of_ble_eq_true rfl) (Nat.le_of_ble_eq_true rfl) ) (ow hw 119 rfl) (ow hw 120 rfl) (ow hw 59 rfl) (ow hw 121 rfl) (by decide) (lenOf pd__28_5bBI_29C rfl) rfl rfl rfl (W := 0) rfl (by decide) (by decide) (by decide) (by decide) all0 rfl ?_
  intro T8 h8 v8 X8 K8 hQ8
  obtain rfl := hQ8
  show OGo _ _ _ _ T8 (mkF m 35 #[.val (.ref b), .val (.int 0), .val (.int 3), .val (.ref b1), .val (.int 1), .val (.ref r6)] [(.int (StrChars.pairCh (StrChars.lo8 x1) (StrChars.hi8 x1)))])
  refine og_sipush X8 38 (255 : Int32) d9_35 rfl rfl ?_
  refine og_icmpY X8 54 d9_38 (XT.ii_gt_t (by rw [StrChars.pair_says q5 q6]; exact q2)) (by decide) (by decide) ?_
  refine og_aload X8 56 d9_54 rfl rfl rfl ?_
  have f9 := f7.keep K8 nin0
  refine own_retA X8 d9_56 hret rfl rfl (by decide) (by decide) ?_
  exact ⟨r6, kr6, rfl, (Nat.le_trans (Nat.le_trans K1.1 K4.1) ge_r6), f9⟩
theorem ru_cmi3_2 (l : Launch) (Z : State) (a0 : Array Value) (hw : ∀ d ∈ tables_1, d.before a0 Z = true) (n0 : Nat) (h0 : Heap) (hWd : OWorld Z a0) (wc : List Jvm.Cond) (O0 : Old Z n0 h0) (b : Addr) (kb : ClassId) (dv : Value) (d : Addr) (kd : ClassId) (x0 : Int32) (x1 : Int32) (x2 : Int32) (q0 : Arv Z h0 b kb .char (3 : Int32) [(.int x0), (.int x1), (.int x2)] dv) (q1 : Arv Z h0 d kd .byte (3 : Int32) [(.int 0), (.int 0), (.int 0)] (.int 0)) (q2 : ¬ (255 : Int32) < x0) (q3 : ¬ (255 : Int32) < x1) (q4 : (255 : Int32) < x2) (q5 : b ≠ d) (g0 : n0 ≤ d ∧ d < h0.size) :
    OMet l Z own_EL n0 (⟨"java/lang/StringUTF16", "compress", "([CI[BII)I"⟩ : MethodName) (Jvm.Cond.code (⟨"java/lang/StringUTF16", "compress", "([CI[BII)I"⟩ : MethodName) jdk_52_method_21_code 7 (some .int) :: wc) ({ frames := 0, cells := 0, slots := 0, locals := 0 } : Room) #[(.ref b), (.int 0), (.ref d), (.int 0), (.int 3)] h0 [d] (fun vq hq => vq = some (.int 2)) := by
  refine own_enter #[.val (.ref b), .val (.int 0), .val (.ref d), .val (.int 0), .val (.int 3), .unset, .unset] pn_java_lang_StringUTF16_compress___CI_BII_I (ef_ru_cmi3_2 b kb dv d kd x0 x1 x2) hWd.1 O0 (allS g0 all0) ?_
  intro p e s m below meth c T0 X0 hnm hret
  refine og_iconst X0 1 (0 : Int32) d10_0 rfl rfl ?_
  refine og_istore X0 3 #[.val (.ref b), .val (.int 0), .val (.ref d), .val (.int 0), .val (.int 3), .val (.int 0), .unset] d10_1 rfl rfl ?_
  refine og_iload X0 5 d10_3 rfl rfl ?_
  refine og_iload X0 7 d10_5 rfl rfl ?_
  refine og_icmpN X0 10 d10_7 (XT.ii_ge_f (by decide)) rfl ?_
  refine og_aloadN X0 11 d10_10 rfl rfl rfl ?_
  refine og_iloadN X0 12 d10_11 rfl rfl ?_
  refine own_ldC X0 13 d10_12 q0 (by decide) (by decide) rfl rfl ?_
  refine og_istore X0 15 #[.val (.ref b), .val (.int 0), .val (.ref d), .val (.int 0), .val (.int 3), .val (.int 0), .val (.int x0)] d10_13 rfl rfl ?_
  refine og_iload X0 17 d10_15 rfl rfl ?_
  refine og_sipush X0 20 (255 : Int32) d10_17 rfl rfl ?_
  refine og_icmpY X0 26 d10_20 (XT.ii_le_t q2) (by decide) (by decide) ?_
  refine og_aloadN X0 27 d10_26 rfl rfl rfl ?_
  refine og_iloadN X0 28 d10_27 rfl rfl ?_
  refine og_iload X0 30 d10_28 rfl rfl ?_
  refine og_i2b X0 31 d10_30 rfl ?_
  refine own_stB X0 32 d10_31 q1 (own_nbb _) (by decide) (by decide) (i := 0) (by decide) (Nat.le_of_ble_eq_true rfl) (om 0 rfl) rfl ?_
  intro T1 h1 X1 W1 K1 A1
  have f2 : Arv Z h1 d kd .byte (3 : Int32) [(.int ((x0).toInt8.toInt32)), (.int 0), (.int 0)] (.int 0) := A1
  refine og_iinc X1 35 #[.val (.ref b), .val (.int 1), .val (.ref d), .val (.int 0), .val (.int 3), .val (.int 0), .val (.int x0)] d10_32 rfl rfl rfl ?_
  refine og_iinc X1 38 #[.val (.ref b), .val (.int 1), .val (.ref d), .val (.int 1), .val (.int 3), .val (.int 0), .val (.int x0)] d10_35 rfl rfl rfl ?_
  refine og_iinc X1 41 #[.val (.ref b), .val (.int 1), .val (.ref d), .val (.int 1), .val (.int 3), .val (.int 1), .val (.int x0)] d10_38 rfl rfl rfl ?_
  refine og_goto X1 3 d10_41 (by decide) (by decide) ?_
  refine og_iload X1 5 d10_3 rfl rfl ?_
  refine og_iload X1 7 d10_5 rfl rfl ?_
  refine og_icmpN X1 10 d10_7 (XT.ii_ge_f (by decide)) rfl ?_
  refine og_aloadN X1 11 d10_10 rfl rfl rfl ?_
  refine og_iloadN X1 12 d10_11 rfl rfl ?_
  have f3 := q0.keep K1 (ninS q5 nin0)
  refine own_ldC X1 13 d10_12 f3 (by decide) (by decide) rfl rfl ?_
  refine og_istore X1 15 #[.val (.ref b), .val (.int 1), .val (.ref d), .val (.int 1), .val (.int 3), .val (.int 1), .val (.int x1)] d10_13 rfl rfl ?_
  refine og_iload X1 17 d10_15 rfl rfl ?_
  refine og_sipush X1 20 (255 : Int32) d10_17 rfl rfl ?_
  refine og_icmpY X1 26 d10_20 (XT.ii_le_t q3) (by decide) (by decide) ?_
  refine og_aloadN X1 27 d10_26 rfl rfl rfl ?_
  refine og_iloadN X1 28 d10_27 rfl rfl ?_
  refine og_iload X1 30 d10_28 rfl rfl ?_
  refine og_i2b X1 31 d10_30 rfl ?_
  refine own_stB X1 32 d10_31 f2 (own_nbb _) (by decide) (by decide) (i := 1) (by decide) (Nat.le_of_ble_eq_true rfl) (om 0 rfl) rfl ?_
  intro T4 h4 X4 W4 K4 A4
  have f5 : Arv Z h4 d kd .byte (3 : Int32) [(.int ((x0).toInt8.toInt32)), (.int ((x1).toInt8.toInt32)), (.int 0)] (.int 0) := A4
  refine og_iinc X4 35 #[.val (.ref b), .val (.int 2), .val (.ref d), .val (.int 1), .val (.int 3), .val (.int 1), .val (.int x1)] d10_32 rfl rfl rfl ?_
  refine og_iinc X4 38 #[.val (.ref b), .val (.int 2), .val (.ref d), .val (.int 2), .val (.int 3), .val (.int 1), .val (.int x1)] d10_35 rfl rfl rfl ?_
  refine og_iinc X4 41 #[.val (.ref b), .val (.int 2), .val (.ref d), .val (.int 2), .val (.int 3), .val (.int 2), .val (.int x1)] d10_38 rfl rfl rfl ?_
  refine og_goto X4 3 d10_41 (by decide) (by decide) ?_
  refine og_iload X4 5 d10_3 rfl rfl ?_
  refine og_iload X4 7 d10_5 rfl rfl ?_
  refine og_icmpN X4 10 d10_7 (XT.ii_ge_f (by decide)) rfl ?_
  refine og_aloadN X4 11 d10_10 rfl rfl rfl ?_
  refine og_iloadN X4 12 d10_11 rfl rfl ?_
  have f6 := f3.keep K4 (ninS q5 nin0)
  refine own_ldC X4 13 d10_12 f6 (by decide) (by decide) rfl rfl ?_
  refine og_istore X4 15 #[.val (.ref b), .val (.int 2), .val (.ref d), .val (.int 2), .val (.int 3), .val (.int 2), .val (.int x2)] d10_13 rfl rfl ?_
  refine og_iload X4 17 d10_15 rfl rfl ?_
  refine og_sipush X4 20 (255 : Int32) d10_17 rfl rfl ?_
  refine og_icmpN X4 23 d10_20 (XT.ii_le_f q4) rfl ?_
  refine og_iload X4 25 d10_23 rfl rfl ?_
  refine own_retI X4 d10_25 hret (by decide) (by decide) ?_
  exact rfl
theorem ru_cmp3_2 (l : Launch) (Z : State) (a0 : Array Value) (hw : ∀ d ∈ tables_1, d.before a0 Z = true) (n0 : Nat) (h0 : Heap) (hWd : OWorld Z a0) (wc : List Jvm.Cond) (O0 : Old Z n0 h0) (b : Addr) (kb : ClassId) (dv : Value) (x0 : Int32) (x1 : Int32) (x2 : Int32) (q0 : Arv Z h0 b kb .char (3 : Int32) [(.int x0), (.int x1), (.int x2)] dv) (q1 : ¬ (255 : Int32) < x0) (q2 : ¬ (255 : Int32) < x1) (q3 : (255 : Int32) < x2) (q4 : ¬ x0 < 0) (q5 : ¬ (65535 : Int32) < x0) (q6 : ¬ x1 < 0) (q7 : ¬ (65535 : Int32) < x1) (q8 : ¬ x2 < 0) (q9 : ¬ (65535 : Int32) < x2) :
    OMet l Z own_EL n0 (⟨"java/lang/StringUTF16", "compress", "([CII)[B"⟩ : MethodName) (Jvm.Cond.code (⟨"java/lang/StringUTF16", "compress", "([CII)[B"⟩ : MethodName) jdk_52_method_16_code 6 (some (.array .byte)) :: wc) ({ frames := 3, cells := 2, slots := 9, locals := 40 } : Room) #[(.ref b), (.int 0), (.int 3)] h0 [] (fun vq hq => ∃ (r : Addr) (kr : ClassId), vq = some (.ref r) ∧ h0.size ≤ r ∧ Arv Z hq r kr .byte (6 : Int32) [(.int (StrChars.lo8 x0)), (.int (StrChars.hi8 x0)), (.int (StrChars.lo8 x1)), (.int (StrChars.hi8 x1)), (.int (StrChars.lo8 x2)), (.int (StrChars.hi8 x2))] (.int 0)) := by
  refine own_enter #[.val (.ref b), .val (.int 0), .val (.int 3), .unset, .unset, .unset] pn_java_lang_StringUTF16_compress___CII__B (ef_ru_cmp3_2 b kb dv x0 x1 x2) hWd.1 O0 all0 ?_
  intro p e s m below meth c T0 X0 hnm hret
  refine og_iloadN X0 1 d9_0 rfl rfl ?_
  refine own_arr X0 3 d9_1 (ow hw 23 rfl) (by decide) (cap := 3) (by decide) (by decide) (by decide) (by decide) rfl ?_
  intro T1 h1 b1 kb1 X1 K1 G1 U1 A1
  have f2 : Arv Z h1 b1 kb1 .byte (3 : Int32) [(.int 0), (.int 0), (.int 0)] (.int 0) := A1
  refine og_astoreN X1 4 #[.val (.ref b), .val (.int 0), .val (.int 3), .val (.ref b1), .unset, .unset] d9_3 rfl rfl rfl ?_
  refine og_aloadN X1 5 d9_4 rfl rfl rfl ?_
  refine og_iloadN X1 6 d9_5 rfl rfl ?_
  refine og_aloadN X1 7 d9_6 rfl rfl rfl ?_
  refine og_iconst X1 8 (0 : Int32) d9_7 rfl rfl ?_
  refine og_iloadN X1 9 d9_8 rfl rfl ?_
  have f3 := q0.keep K1 nin0
  refine own_stat X1 12 (argsL := [(.ref b), (.int 0), (.ref b1), (.int 0), (.int 3)]) (rest := []) d9_9 (ru_cmi3_2 l Z a0 hw n0 h1 hWd [] X1.old b kb dv b1 kb1 x0 x1 x2 f3 f2 q1 q2 q3 (Nat.ne_of_lt (Nat.lt_of_lt_of_le q0.lt G1)) (own_svb X1 (om 0 rfl))) (ow hw 61 rfl) (ow hw 62 rfl) (ow hw 59 rfl) (ow hw 63 rfl) (by decide) (lenOf pd__28_5bCI_5bBII_29I rfl) rfl rfl rfl (W := 0) rfl (by decide) (by decide) (by decide) (by decide) (allS (om 0 rfl) all0) rfl ?_
  intro T4 h4 v4 X4 K4 hQ4
  obtain rfl := hQ4
  show OGo _ _ _ _ T4 (mkF m 12 #[.val (.ref b), .val (.int 0), .val (.int 3), .val (.ref b1), .unset, .unset] [(.int 2)])
  refine og_istore X4 14 #[.val (.ref b), .val (.int 0), .val (.int 3), .val (.ref b1), .val (.int 2), .unset] d9_12 rfl rfl ?_
  refine og_iload X4 16 d9_14 rfl rfl ?_
  refine og_iloadN X4 17 d9_16 rfl rfl ?_
  refine og_icmpN X4 20 d9_17 (XT.ii_eq_f (by decide)) rfl ?_
  refine og_aloadN X4 21 d9_20 rfl rfl rfl ?_
  refine og_iloadN X4 22 d9_21 rfl rfl ?_
  refine og_iloadN X4 23 d9_22 rfl rfl ?_
  have f5 := f3.keep K4 (ninS (Nat.ne_of_lt (Nat.lt_of_lt_of_le q0.lt G1)) nin0)
  refine own_stat X4 26 (argsL := [(.ref b), (.int 0), (.int 3)]) (rest := []) d9_23 (ru_tob3 l Z a0 hw n0 h4 hWd [] X4.old b kb dv x0 x1 x2 f5 ) (ow hw 103 rfl) (ow hw 104 rfl) (ow hw 59 rfl) (ow hw 105 rfl) (by decide) (lenOf pd__28_5bCII_29_5bB rfl) rfl rfl rfl (W := 0) rfl (by decide) (by decide) (by decide) (by decide) all0 rfl ?_
  intro T6 h6 v6 X6 K6 hQ6
  obtain ⟨r6, kr6, rfl, ge_r6, f7⟩ := hQ6
  show OGo _ _ _ _ T6 (mkF m 26 #[.val (.ref b), .val (.int 0), .val (.int 3), .val (.ref b1), .val (.int 2), .unset] [(.ref r6)])
  refine og_astore X6 28 #[.val (.ref b), .val (.int 0), .val (.int 3), .val (.ref b1), .val (.int 2), .val (.ref r6)] d9_26 rfl rfl rfl ?_
  refine og_aload X6 30 d9_28 rfl rfl rfl ?_
  refine og_iload X6 32 d9_30 rfl rfl ?_
  refine own_stat X6 35 (argsL := [(.ref r6), (.int 2)]) (rest := []) d9_32 (rg_get l Z a0 hw n0 h6 hWd [] X6.old r6 kr6 [x0, x1, x2] 2 f7 (Nat.le_of_ble_eq_true rfl) (Nat.le_of_ble_eq_true rfl) ) (ow hw 119 rfl) (ow hw 120 rfl) (ow hw 59 rfl) (ow hw 121 rfl) (by decide) (lenOf pd__28_5bBI_29C rfl) rfl rfl rfl (W := 0) rfl (by decide) (by decide) (by decide) (by decide) all0 rfl ?_
  intro T8 h8 v8 X8 K8 hQ8
  obtain rfl := hQ8
  show OGo _ _ _ _ T8 (mkF m 35 #[.val (.ref b), .val (.int 0), .val (.int 3), .val (.ref b1), .val (.int 2), .val (.ref r6)] [(.int (StrChars.pairCh (StrChars.lo8 x2) (StrChars.hi8 x2)))])
  refine og_sipush X8 38 (255 : Int32) d9_35 rfl rfl ?_
  refine og_icmpY X8 54 d9_38 (XT.ii_gt_t (by rw [StrChars.pair_says q8 q9]; exact q3)) (by decide) (by decide) ?_
  refine og_aload X8 56 d9_54 rfl rfl rfl ?_
  have f9 := f7.keep K8 nin0
  refine own_retA X8 d9_56 hret rfl rfl (by decide) (by decide) ?_
  exact ⟨r6, kr6, rfl, (Nat.le_trans (Nat.le_trans K1.1 K4.1) ge_r6), f9⟩
theorem ru_cmi3_3 (l : Launch) (Z : State) (a0 : Array Value) (hw : ∀ d ∈ tables_1, d.before a0 Z = true) (n0 : Nat) (h0 : Heap) (hWd : OWorld Z a0) (wc : List Jvm.Cond) (O0 : Old Z n0 h0) (b : Addr) (kb : ClassId) (dv : Value) (d : Addr) (kd : ClassId) (x0 : Int32) (x1 : Int32) (x2 : Int32) (q0 : Arv Z h0 b kb .char (3 : Int32) [(.int x0), (.int x1), (.int x2)] dv) (q1 : Arv Z h0 d kd .byte (3 : Int32) [(.int 0), (.int 0), (.int 0)] (.int 0)) (q2 : ¬ (255 : Int32) < x0) (q3 : ¬ (255 : Int32) < x1) (q4 : ¬ (255 : Int32) < x2) (q5 : b ≠ d) (g0 : n0 ≤ d ∧ d < h0.size) :
    OMet l Z own_EL n0 (⟨"java/lang/StringUTF16", "compress", "([CI[BII)I"⟩ : MethodName) (Jvm.Cond.code (⟨"java/lang/StringUTF16", "compress", "([CI[BII)I"⟩ : MethodName) jdk_52_method_21_code 7 (some .int) :: wc) ({ frames := 0, cells := 0, slots := 0, locals := 0 } : Room) #[(.ref b), (.int 0), (.ref d), (.int 0), (.int 3)] h0 [d] (fun vq hq => vq = some (.int 3) ∧ Arv Z hq d kd .byte (3 : Int32) [(.int ((x0).toInt8.toInt32)), (.int ((x1).toInt8.toInt32)), (.int ((x2).toInt8.toInt32))] (.int 0)) := by
  refine own_enter #[.val (.ref b), .val (.int 0), .val (.ref d), .val (.int 0), .val (.int 3), .unset, .unset] pn_java_lang_StringUTF16_compress___CI_BII_I (ef_ru_cmi3_3 b kb dv d kd x0 x1 x2) hWd.1 O0 (allS g0 all0) ?_
  intro p e s m below meth c T0 X0 hnm hret
  refine og_iconst X0 1 (0 : Int32) d10_0 rfl rfl ?_
  refine og_istore X0 3 #[.val (.ref b), .val (.int 0), .val (.ref d), .val (.int 0), .val (.int 3), .val (.int 0), .unset] d10_1 rfl rfl ?_
  refine og_iload X0 5 d10_3 rfl rfl ?_
  refine og_iload X0 7 d10_5 rfl rfl ?_
  refine og_icmpN X0 10 d10_7 (XT.ii_ge_f (by decide)) rfl ?_
  refine og_aloadN X0 11 d10_10 rfl rfl rfl ?_
  refine og_iloadN X0 12 d10_11 rfl rfl ?_
  refine own_ldC X0 13 d10_12 q0 (by decide) (by decide) rfl rfl ?_
  refine og_istore X0 15 #[.val (.ref b), .val (.int 0), .val (.ref d), .val (.int 0), .val (.int 3), .val (.int 0), .val (.int x0)] d10_13 rfl rfl ?_
  refine og_iload X0 17 d10_15 rfl rfl ?_
  refine og_sipush X0 20 (255 : Int32) d10_17 rfl rfl ?_
  refine og_icmpY X0 26 d10_20 (XT.ii_le_t q2) (by decide) (by decide) ?_
  refine og_aloadN X0 27 d10_26 rfl rfl rfl ?_
  refine og_iloadN X0 28 d10_27 rfl rfl ?_
  refine og_iload X0 30 d10_28 rfl rfl ?_
  refine og_i2b X0 31 d10_30 rfl ?_
  refine own_stB X0 32 d10_31 q1 (own_nbb _) (by decide) (by decide) (i := 0) (by decide) (Nat.le_of_ble_eq_true rfl) (om 0 rfl) rfl ?_
  intro T1 h1 X1 W1 K1 A1
  have f2 : Arv Z h1 d kd .byte (3 : Int32) [(.int ((x0).toInt8.toInt32)), (.int 0), (.int 0)] (.int 0) := A1
  refine og_iinc X1 35 #[.val (.ref b), .val (.int 1), .val (.ref d), .val (.int 0), .val (.int 3), .val (.int 0), .val (.int x0)] d10_32 rfl rfl rfl ?_
  refine og_iinc X1 38 #[.val (.ref b), .val (.int 1), .val (.ref d), .val (.int 1), .val (.int 3), .val (.int 0), .val (.int x0)] d10_35 rfl rfl rfl ?_
  refine og_iinc X1 41 #[.val (.ref b), .val (.int 1), .val (.ref d), .val (.int 1), .val (.int 3), .val (.int 1), .val (.int x0)] d10_38 rfl rfl rfl ?_
  refine og_goto X1 3 d10_41 (by decide) (by decide) ?_
  refine og_iload X1 5 d10_3 rfl rfl ?_
  refine og_iload X1 7 d10_5 rfl rfl ?_
  refine og_icmpN X1 10 d10_7 (XT.ii_ge_f (by decide)) rfl ?_
  refine og_aloadN X1 11 d10_10 rfl rfl rfl ?_
  refine og_iloadN X1 12 d10_11 rfl rfl ?_
  have f3 := q0.keep K1 (ninS q5 nin0)
  refine own_ldC X1 13 d10_12 f3 (by decide) (by decide) rfl rfl ?_
  refine og_istore X1 15 #[.val (.ref b), .val (.int 1), .val (.ref d), .val (.int 1), .val (.int 3), .val (.int 1), .val (.int x1)] d10_13 rfl rfl ?_
  refine og_iload X1 17 d10_15 rfl rfl ?_
  refine og_sipush X1 20 (255 : Int32) d10_17 rfl rfl ?_
  refine og_icmpY X1 26 d10_20 (XT.ii_le_t q3) (by decide) (by decide) ?_
  refine og_aloadN X1 27 d10_26 rfl rfl rfl ?_
  refine og_iloadN X1 28 d10_27 rfl rfl ?_
  refine og_iload X1 30 d10_28 rfl rfl ?_
  refine og_i2b X1 31 d10_30 rfl ?_
  refine own_stB X1 32 d10_31 f2 (own_nbb _) (by decide) (by decide) (i := 1) (by decide) (Nat.le_of_ble_eq_true rfl) (om 0 rfl) rfl ?_
  intro T4 h4 X4 W4 K4 A4
  have f5 : Arv Z h4 d kd .byte (3 : Int32) [(.int ((x0).toInt8.toInt32)), (.int ((x1).toInt8.toInt32)), (.int 0)] (.int 0) := A4
  refine og_iinc X4 35 #[.val (.ref b), .val (.int 2), .val (.ref d), .val (.int 1), .val (.int 3), .val (.int 1), .val (.int x1)] d10_32 rfl rfl rfl ?_
  refine og_iinc X4 38 #[.val (.ref b), .val (.int 2), .val (.ref d), .val (.int 2), .val (.int 3), .val (.int 1), .val (.int x1)] d10_35 rfl rfl rfl ?_
  refine og_iinc X4 41 #[.val (.ref b), .val (.int 2), .val (.ref d), .val (.int 2), .val (.int 3), .val (.int 2), .val (.int x1)] d10_38 rfl rfl rfl ?_
  refine og_goto X4 3 d10_41 (by decide) (by decide) ?_
  refine og_iload X4 5 d10_3 rfl rfl ?_
  refine og_iload X4 7 d10_5 rfl rfl ?_
  refine og_icmpN X4 10 d10_7 (XT.ii_ge_f (by decide)) rfl ?_
  refine og_aloadN X4 11 d10_10 rfl rfl rfl ?_
  refine og_iloadN X4 12 d10_11 rfl rfl ?_
  have f6 := f3.keep K4 (ninS q5 nin0)
  refine own_ldC X4 13 d10_12 f6 (by decide) (by decide) rfl rfl ?_
  refine og_istore X4 15 #[.val (.ref b), .val (.int 2), .val (.ref d), .val (.int 2), .val (.int 3), .val (.int 2), .val (.int x2)] d10_13 rfl rfl ?_
  refine og_iload X4 17 d10_15 rfl rfl ?_
  refine og_sipush X4 20 (255 : Int32) d10_17 rfl rfl ?_
  refine og_icmpY X4 26 d10_20 (XT.ii_le_t q4) (by decide) (by decide) ?_
  refine og_aloadN X4 27 d10_26 rfl rfl rfl ?_
  refine og_iloadN X4 28 d10_27 rfl rfl ?_
  refine og_iload X4 30 d10_28 rfl rfl ?_
  refine og_i2b X4 31 d10_30 rfl ?_
  refine own_stB X4 32 d10_31 f5 (own_nbb _) (by decide) (by decide) (i := 2) (by decide) (Nat.le_of_ble_eq_true rfl) (om 0 rfl) rfl ?_
  intro T7 h7 X7 W7 K7 A7
  have f8 : Arv Z h7 d kd .byte (3 : Int32) [(.int ((x0).toInt8.toInt32)), (.int ((x1).toInt8.toInt32)), (.int ((x2).toInt8.toInt32))] (.int 0) := A7
  refine og_iinc X7 35 #[.val (.ref b), .val (.int 3), .val (.ref d), .val (.int 2), .val (.int 3), .val (.int 2), .val (.int x2)] d10_32 rfl rfl rfl ?_
  refine og_iinc X7 38 #[.val (.ref b), .val (.int 3), .val (.ref d), .val (.int 3), .val (.int 3), .val (.int 2), .val (.int x2)] d10_35 rfl rfl rfl ?_
  refine og_iinc X7 41 #[.val (.ref b), .val (.int 3), .val (.ref d), .val (.int 3), .val (.int 3), .val (.int 3), .val (.int x2)] d10_38 rfl rfl rfl ?_
  refine og_goto X7 3 d10_41 (by decide) (by decide) ?_
  refine og_iload X7 5 d10_3 rfl rfl ?_
  refine og_iload X7 7 d10_5 rfl rfl ?_
  refine og_icmpY X7 44 d10_7 (XT.ii_ge_t (by decide)) (by decide) (by decide) ?_
  refine og_iload X7 46 d10_44 rfl rfl ?_
  refine own_retI X7 d10_46 hret (by decide) (by decide) ?_
  exact ⟨rfl, f8⟩
theorem ru_cmp3_3 (l : Launch) (Z : State) (a0 : Array Value) (hw : ∀ d ∈ tables_1, d.before a0 Z = true) (n0 : Nat) (h0 : Heap) (hWd : OWorld Z a0) (wc : List Jvm.Cond) (O0 : Old Z n0 h0) (b : Addr) (kb : ClassId) (dv : Value) (x0 : Int32) (x1 : Int32) (x2 : Int32) (q0 : Arv Z h0 b kb .char (3 : Int32) [(.int x0), (.int x1), (.int x2)] dv) (q1 : ¬ (255 : Int32) < x0) (q2 : ¬ (255 : Int32) < x1) (q3 : ¬ (255 : Int32) < x2) (q4 : ¬ x0 < 0) (q5 : ¬ (65535 : Int32) < x0) (q6 : ¬ x1 < 0) (q7 : ¬ (65535 : Int32) < x1) (q8 : ¬ x2 < 0) (q9 : ¬ (65535 : Int32) < x2) :
    OMet l Z own_EL n0 (⟨"java/lang/StringUTF16", "compress", "([CII)[B"⟩ : MethodName) (Jvm.Cond.code (⟨"java/lang/StringUTF16", "compress", "([CII)[B"⟩ : MethodName) jdk_52_method_16_code 6 (some (.array .byte)) :: wc) ({ frames := 1, cells := 1, slots := 3, locals := 18 } : Room) #[(.ref b), (.int 0), (.int 3)] h0 [] (fun vq hq => ∃ (r : Addr) (kr : ClassId), vq = some (.ref r) ∧ h0.size ≤ r ∧ Arv Z hq r kr .byte (3 : Int32) [(.int ((x0).toInt8.toInt32)), (.int ((x1).toInt8.toInt32)), (.int ((x2).toInt8.toInt32))] (.int 0)) := by
  refine own_enter #[.val (.ref b), .val (.int 0), .val (.int 3), .unset, .unset, .unset] pn_java_lang_StringUTF16_compress___CII__B (ef_ru_cmp3_3 b kb dv x0 x1 x2) hWd.1 O0 all0 ?_
  intro p e s m below meth c T0 X0 hnm hret
  refine og_iloadN X0 1 d9_0 rfl rfl ?_
  refine own_arr X0 3 d9_1 (ow hw 23 rfl) (by decide) (cap := 3) (by decide) (by decide) (by decide) (by decide) rfl ?_
  intro T1 h1 b1 kb1 X1 K1 G1 U1 A1
  have f2 : Arv Z h1 b1 kb1 .byte (3 : Int32) [(.int 0), (.int 0), (.int 0)] (.int 0) := A1
  refine og_astoreN X1 4 #[.val (.ref b), .val (.int 0), .val (.int 3), .val (.ref b1), .unset, .unset] d9_3 rfl rfl rfl ?_
  refine og_aloadN X1 5 d9_4 rfl rfl rfl ?_
  refine og_iloadN X1 6 d9_5 rfl rfl ?_
  refine og_aloadN X1 7 d9_6 rfl rfl rfl ?_
  refine og_iconst X1 8 (0 : Int32) d9_7 rfl rfl ?_
  refine og_iloadN X1 9 d9_8 rfl rfl ?_
  have f3 := q0.keep K1 nin0
  refine own_stat X1 12 (argsL := [(.ref b), (.int 0), (.ref b1), (.int 0), (.int 3)]) (rest := []) d9_9 (ru_cmi3_3 l Z a0 hw n0 h1 hWd [] X1.old b kb dv b1 kb1 x0 x1 x2 f3 f2 q1 q2 q3 (Nat.ne_of_lt (Nat.lt_of_lt_of_le q0.lt G1)) (own_svb X1 (om 0 rfl))) (ow hw 61 rfl) (ow hw 62 rfl) (ow hw 59 rfl) (ow hw 63 rfl) (by decide) (lenOf pd__28_5bCI_5bBII_29I rfl) rfl rfl rfl (W := 0) rfl (by decide) (by decide) (by decide) (by decide) (allS (om 0 rfl) all0) rfl ?_
  intro T4 h4 v4 X4 K4 hQ4
  obtain ⟨rfl, f5⟩ := hQ4
  show OGo _ _ _ _ T4 (mkF m 12 #[.val (.ref b), .val (.int 0), .val (.int 3), .val (.ref b1), .unset, .unset] [(.int 3)])
  refine og_istore X4 14 #[.val (.ref b), .val (.int 0), .val (.int 3), .val (.ref b1), .val (.int 3), .unset] d9_12 rfl rfl ?_
  refine og_iload X4 16 d9_14 rfl rfl ?_
  refine og_iloadN X4 17 d9_16 rfl rfl ?_
  refine og_icmpY X4 57 d9_17 (XT.ii_eq_t (by decide)) (by decide) (by decide) ?_
  refine og_aloadN X4 58 d9_57 rfl rfl rfl ?_
  refine own_retA X4 d9_58 hret rfl rfl (by decide) (by decide) ?_
  exact ⟨b1, kb1, rfl, G1, f5⟩
theorem ru_cod3_3 (l : Launch) (Z : State) (a0 : Array Value) (hw : ∀ d ∈ tables_1, d.before a0 Z = true) (n0 : Nat) (h0 : Heap) (hWd : OWorld Z a0) (wc : List Jvm.Cond) (O0 : Old Z n0 h0) (b : Addr) (kb : ClassId) (vs : List Value) (dv : Value) (q0 : Arv Z h0 b kb .byte (3 : Int32) vs dv) :
    OMet l Z own_EL n0 (⟨"java/lang/StringUTF16", "coderFromArrayLen", "([BI)B"⟩ : MethodName) (Jvm.Cond.code (⟨"java/lang/StringUTF16", "coderFromArrayLen", "([BI)B"⟩ : MethodName) jdk_52_method_15_code 2 (some .byte) :: wc) ({ frames := 0, cells := 0, slots := 0, locals := 0 } : Room) #[(.ref b), (.int 3)] h0 [] (fun vq hq => vq = some (.int 0)) := by
  refine own_enter #[.val (.ref b), .val (.int 3)] pn_java_lang_StringUTF16_coderFromArrayLen___BI_B (ef_ru_cod3_3 b kb vs dv) hWd.1 O0 all0 ?_
  intro p e s m below meth c T0 X0 hnm hret
  refine og_iloadN X0 1 d11_0 rfl rfl ?_
  refine og_aloadN X0 2 d11_1 rfl rfl rfl ?_
  refine own_len X0 3 d11_2 q0 rfl ?_
  refine og_isub X0 4 d11_3 rfl ?_
  show OGo _ _ _ _ T0 (mkF m 4 #[.val (.ref b), .val (.int 3)] [(.int 0)])
  refine og_bipush X0 6 (31 : Int32) d11_4 rfl rfl ?_
  refine og_iushr X0 7 d11_6 rfl ?_
  show OGo _ _ _ _ T0 (mkF m 7 #[.val (.ref b), .val (.int 3)] [(.int 0)])
  refine og_i2b X0 8 d11_7 rfl ?_
  show OGo _ _ _ _ T0 (mkF m 8 #[.val (.ref b), .val (.int 3)] [(.int 0)])
  refine own_retY X0 d11_8 hret rfl (by decide) (by decide) ?_
  exact rfl
theorem ru_cod3_6 (l : Launch) (Z : State) (a0 : Array Value) (hw : ∀ d ∈ tables_1, d.before a0 Z = true) (n0 : Nat) (h0 : Heap) (hWd : OWorld Z a0) (wc : List Jvm.Cond) (O0 : Old Z n0 h0) (b : Addr) (kb : ClassId) (vs : List Value) (dv : Value) (q0 : Arv Z h0 b kb .byte (6 : Int32) vs dv) :
    OMet l Z own_EL n0 (⟨"java/lang/StringUTF16", "coderFromArrayLen", "([BI)B"⟩ : MethodName) (Jvm.Cond.code (⟨"java/lang/StringUTF16", "coderFromArrayLen", "([BI)B"⟩ : MethodName) jdk_52_method_15_code 2 (some .byte) :: wc) ({ frames := 0, cells := 0, slots := 0, locals := 0 } : Room) #[(.ref b), (.int 3)] h0 [] (fun vq hq => vq = some (.int 1)) := by
  refine own_enter #[.val (.ref b), .val (.int 3)] pn_java_lang_StringUTF16_coderFromArrayLen___BI_B (ef_ru_cod3_6 b kb vs dv) hWd.1 O0 all0 ?_
  intro p e s m below meth c T0 X0 hnm hret
  refine og_iloadN X0 1 d11_0 rfl rfl ?_
  refine og_aloadN X0 2 d11_1 rfl rfl rfl ?_
  refine own_len X0 3 d11_2 q0 rfl ?_
  refine og_isub X0 4 d11_3 rfl ?_
  show OGo _ _ _ _ T0 (mkF m 4 #[.val (.ref b), .val (.int 3)] [(.int (-3 : Int32))])
  refine og_bipush X0 6 (31 : Int32) d11_4 rfl rfl ?_
  refine og_iushr X0 7 d11_6 rfl ?_
  show OGo _ _ _ _ T0 (mkF m 7 #[.val (.ref b), .val (.int 3)] [(.int 1)])
  refine og_i2b X0 8 d11_7 rfl ?_
  show OGo _ _ _ _ T0 (mkF m 8 #[.val (.ref b), .val (.int 3)] [(.int 1)])
  refine own_retY X0 d11_8 hret rfl (by decide) (by decide) ?_
  exact rfl
theorem ru_inv3 (l : Launch) (Z : State) (a0 : Array Value) (hw : ∀ d ∈ tables_1, d.before a0 Z = true) (n0 : Nat) (h0 : Heap) (hWd : OWorld Z a0) (wc : List Jvm.Cond) (O0 : Old Z n0 h0) (a : Addr) (b : Addr) (y : Value) (z : Int32) (kb : ClassId) (dv : Value) (x0 : Int32) (x1 : Int32) (x2 : Int32) (q0 : Exa Z h0 a "java/lang/String") (q1 : Fld Z h0 a "java/lang/String" "value" "[B" y) (q2 : Fld Z h0 a "java/lang/String" "coder" "B" (.int z)) (q3 : Arv Z h0 b kb .char (3 : Int32) [(.int x0), (.int x1), (.int x2)] dv) (q4 : ¬ x0 < 0) (q5 : ¬ (65535 : Int32) < x0) (q6 : ¬ x1 < 0) (q7 : ¬ (65535 : Int32) < x1) (q8 : ¬ x2 < 0) (q9 : ¬ (65535 : Int32) < x2) (g0 : n0 ≤ a ∧ a < h0.size) :
    OMet l Z own_EL n0 (⟨"java/lang/String", "<init>", "([CIILjava/lang/Void;)V"⟩ : MethodName) (Jvm.Cond.code (⟨"java/lang/String", "<init>", "([CIILjava/lang/Void;)V"⟩ : MethodName) jdk_42_method_149_code 6 none :: wc) ({ frames := 4, cells := 2, slots := 9, locals := 57 } : Room) #[(.ref a), (.ref b), (.int 0), (.int 3), .null] h0 [a] (fun vq hq => vq = none ∧ OStr Z hq a [x0, x1, x2] hq.size) := by
  refine own_enter #[.val (.ref a), .val (.ref b), .val (.int 0), .val (.int 3), .val .null, .unset] pn_java_lang_String__init____CIILjava_lang_Void__V (ef_ru_inv3 a b y z kb dv x0 x1 x2) hWd.1 O0 (allS g0 all0) ?_
  intro p e s m below meth c T0 X0 hnm hret
  refine og_aloadN X0 1 d3_0 rfl rfl rfl ?_
  refine own_obj0 X0 4 (a := a) d3_1 (ow hw 19 rfl) (ow hw 20 rfl) (ow hw 21 rfl) rfl (W := 0) rfl (by decide) (by decide) rfl ?_
  intro T1 X2
  refine og_iloadN X2 5 d3_4 rfl rfl ?_
  refine og_ifY X2 27 d3_5 (XT.i0_ne_t (by decide)) (by decide) (by decide) ?_
  refine own_getS X2 30 d3_27 (host := "") (Or.inl (ow hw 56 rfl)) Via.refl hWd.2.1.1 rfl ?_
  intro T3 X4
  refine og_ifN X4 33 d3_30 (XT.i0_eq_f hWd.2.1.2) rfl ?_
  refine og_aloadN X4 34 d3_33 rfl rfl rfl ?_
  refine og_iloadN X4 35 d3_34 rfl rfl ?_
  refine og_iloadN X4 36 d3_35 rfl rfl ?_
  by_cases hc5 : (255 : Int32) < x0
  · -- (255 : Int32) < x0
    refine own_stat X4 39 (argsL := [(.ref b), (.int 0), (.int 3)]) (rest := []) d3_36 (ru_cmp3_0 l Z a0 hw n0 h0 hWd [] X4.old b kb dv x0 x1 x2 q3 hc5 q4 q5 q6 q7 q8 q9 ) (ow hw 57 rfl) (ow hw 58 rfl) (ow hw 59 rfl) (ow hw 60 rfl) (by decide) (lenOf pd__28_5bCII_29_5bB rfl) rfl rfl rfl (W := 0) rfl (by decide) (by decide) (by decide) (by decide) all0 rfl ?_
    intro T6 h6 v6 X6 K6 hQ6
    obtain ⟨r6, kr6, rfl, ge_r6, f7⟩ := hQ6
    show OGo _ _ _ _ T6 (mkF m 39 #[.val (.ref a), .val (.ref b), .val (.int 0), .val (.int 3), .val .null, .unset] [(.ref r6)])
    refine og_astore X6 41 #[.val (.ref a), .val (.ref b), .val (.int 0), .val (.int 3), .val .null, .val (.ref r6)] d3_39 rfl rfl rfl ?_
    refine og_aloadN X6 42 d3_41 rfl rfl rfl ?_
    refine og_aload X6 44 d3_42 rfl rfl rfl ?_
    refine og_iloadN X6 45 d3_44 rfl rfl ?_
    refine own_stat X6 48 (argsL := [(.ref r6), (.int 3)]) (rest := [(.ref a)]) d3_45 (ru_cod3_6 l Z a0 hw n0 h6 hWd [] X6.old r6 kr6 [(.int (StrChars.lo8 x0)), (.int (StrChars.hi8 x0)), (.int (StrChars.lo8 x1)), (.int (StrChars.hi8 x1)), (.int (StrChars.lo8 x2)), (.int (StrChars.hi8 x2))] (.int 0) f7 ) (ow hw 64 rfl) (ow hw 65 rfl) (ow hw 59 rfl) (ow hw 66 rfl) (by decide) (lenOf pd__28_5bBI_29B rfl) rfl rfl rfl (W := 1) rfl (by decide) (by decide) (by decide) (by decide) all0 rfl ?_
    intro T8 h8 v8 X8 K8 hQ8
    obtain rfl := hQ8
    show OGo _ _ _ _ T8 (mkF m 48 #[.val (.ref a), .val (.ref b), .val (.int 0), .val (.int 3), .val .null, .val (.ref r6)] [(.int 1), (.ref a)])
    have f9 := q2.keep K6 nin0
    have f10 := f9.keep K8 nin0
    have f11 := q0.keep K6
    have f12 := f11.keep K8
    have f13 := q1.keep K6 nin0
    have f14 := f13.keep K8 nin0
    refine own_put X8 51 d3_48 (host := "") (Or.inl (ow hw 29 rfl)) Via.refl f10 f12 (Or.inr ⟨(ow hw 25 rfl), rfl, hnm⟩) (ow hw 10 rfl) (ty := .byte) (by decide) rfl rfl (om 0 rfl) rfl ?_
    intro T15 h15 X15 W15 K15 F15
    have f16 := Fld.other W15 f14 (Or.inr (slot_ne (Or.inr (ow hw 24 rfl)) (Or.inr (ow hw 25 rfl)) (by decide) (t := (.array .byte)) (t' := .byte) (by decide) (by decide)))
    refine og_aloadN X15 52 d3_51 rfl rfl rfl ?_
    refine og_aload X15 54 d3_52 rfl rfl rfl ?_
    have f17 := f12.keep K15
    refine own_put X15 57 d3_54 (host := "") (Or.inl (ow hw 28 rfl)) Via.refl f16 f17 (Or.inr ⟨(ow hw 24 rfl), rfl, hnm⟩) (ow hw 10 rfl) (ty := (.array .byte)) (by decide) rfl rfl (om 0 rfl) rfl ?_
    intro T18 h18 X18 W18 K18 F18
    have f19 := Fld.other W18 F15 (Or.inr (slot_ne (Or.inr (ow hw 25 rfl)) (Or.inr (ow hw 24 rfl)) (by decide) (t := .byte) (t' := (.array .byte)) (by decide) (by decide)))
    have f20 := f17.keep K18
    have f21 := f7.keep K8 nin0
    have f22 := f21.keep K15 (ninS (Nat.ne_of_gt (Nat.lt_of_lt_of_le q0.lt ge_r6)) nin0)
    have f23 := f22.keep K18 (ninS (Nat.ne_of_gt (Nat.lt_of_lt_of_le q0.lt ge_r6)) nin0)
    refine own_retV X18 d3_57 hret (by decide) (by decide) ?_
    exact ⟨rfl, own_mkStrW (cs := [x0, x1, x2]) (n := 3) f20 f19 F18 f23 ⟨x0, List.mem_of_getElem? (i := 0) rfl, hc5⟩ (own_l16 ⟨q4, q5⟩ (own_l16 ⟨q6, q7⟩ (own_l16 ⟨q8, q9⟩ (fun _ q => nomatch q)))) rfl rfl (Nat.le_of_ble_eq_true rfl)⟩
  · -- not
    by_cases hc24 : (255 : Int32) < x1
    · -- (255 : Int32) < x1
      refine own_stat X4 39 (argsL := [(.ref b), (.int 0), (.int 3)]) (rest := []) d3_36 (ru_cmp3_1 l Z a0 hw n0 h0 hWd [] X4.old b kb dv x0 x1 x2 q3 hc5 hc24 q4 q5 q6 q7 q8 q9 ) (ow hw 57 rfl) (ow hw 58 rfl) (ow hw 59 rfl) (ow hw 60 rfl) (by decide) (lenOf pd__28_5bCII_29_5bB rfl) rfl rfl rfl (W := 0) rfl (by decide) (by decide) (by decide) (by decide) all0 rfl ?_
      intro T25 h25 v25 X25 K25 hQ25
      obtain ⟨r25, kr25, rfl, ge_r25, f26⟩ := hQ25
      show OGo _ _ _ _ T25 (mkF m 39 #[.val (.ref a), .val (.ref b), .val (.int 0), .val (.int 3), .val .null, .unset] [(.ref r25)])
      refine og_astore X25 41 #[.val (.ref a), .val (.ref b), .val (.int 0), .val (.int 3), .val .null, .val (.ref r25)] d3_39 rfl rfl rfl ?_
      refine og_aloadN X25 42 d3_41 rfl rfl rfl ?_
      refine og_aload X25 44 d3_42 rfl rfl rfl ?_
      refine og_iloadN X25 45 d3_44 rfl rfl ?_
      refine own_stat X25 48 (argsL := [(.ref r25), (.int 3)]) (rest := [(.ref a)]) d3_45 (ru_cod3_6 l Z a0 hw n0 h25 hWd [] X25.old r25 kr25 [(.int (StrChars.lo8 x0)), (.int (StrChars.hi8 x0)), (.int (StrChars.lo8 x1)), (.int (StrChars.hi8 x1)), (.int (StrChars.lo8 x2)), (.int (StrChars.hi8 x2))] (.int 0) f26 ) (ow hw 64 rfl) (ow hw 65 rfl) (ow hw 59 rfl) (ow hw 66 rfl) (by decide) (lenOf pd__28_5bBI_29B rfl) rfl rfl rfl (W := 1) rfl (by decide) (by decide) (by decide) (by decide) all0 rfl ?_
      intro T27 h27 v27 X27 K27 hQ27
      obtain rfl := hQ27
      show OGo _ _ _ _ T27 (mkF m 48 #[.val (.ref a), .val (.ref b), .val (.int 0), .val (.int 3), .val .null, .val (.ref r25)] [(.int 1), (.ref a)])
      have f28 := q2.keep K25 nin0
      have f29 := f28.keep K27 nin0
      have f30 := q0.keep K25
      have f31 := f30.keep K27
      have f32 := q1.keep K25 nin0
      have f33 := f32.keep K27 nin0
      refine own_put X27 51 d3_48 (host := "") (Or.inl (ow hw 29 rfl)) Via.refl f29 f31 (Or.inr ⟨(ow hw 25 rfl), rfl, hnm⟩) (ow hw 10 rfl) (ty := .byte) (by decide) rfl rfl (om 0 rfl) rfl ?_
      intro T34 h34 X34 W34 K34 F34
      have f35 := Fld.other W34 f33 (Or.inr (slot_ne (Or.inr (ow hw 24 rfl)) (Or.inr (ow hw 25 rfl)) (by decide) (t := (.array .byte)) (t' := .byte) (by decide) (by decide)))
      refine og_aloadN X34 52 d3_51 rfl rfl rfl ?_
      refine og_aload X34 54 d3_52 rfl rfl rfl ?_
      have f36 := f31.keep K34
      refine own_put X34 57 d3_54 (host := "") (Or.inl (ow hw 28 rfl)) Via.refl f35 f36 (Or.inr ⟨(ow hw 24 rfl), rfl, hnm⟩) (ow hw 10 rfl) (ty := (.array .byte)) (by decide) rfl rfl (om 0 rfl) rfl ?_
      intro T37 h37 X37 W37 K37 F37
      have f38 := Fld.other W37 F34 (Or.inr (slot_ne (Or.inr (ow hw 25 rfl)) (Or.inr (ow hw 24 rfl)) (by decide) (t := .byte) (t' := (.array .byte)) (by decide) (by decide)))
      have f39 := f36.keep K37
      have f40 := f26.keep K27 nin0
      have f41 := f40.keep K34 (ninS (Nat.ne_of_gt (Nat.lt_of_lt_of_le q0.lt ge_r25)) nin0)
      have f42 := f41.keep K37 (ninS (Nat.ne_of_gt (Nat.lt_of_lt_of_le q0.lt ge_r25)) nin0)
      refine own_retV X37 d3_57 hret (by decide) (by decide) ?_
      exact ⟨rfl, own_mkStrW (cs := [x0, x1, x2]) (n := 3) f39 f38 F37 f42 ⟨x1, List.mem_of_getElem? (i := 1) rfl, hc24⟩ (own_l16 ⟨q4, q5⟩ (own_l16 ⟨q6, q7⟩ (own_l16 ⟨q8, q9⟩ (fun _ q => nomatch q)))) rfl rfl (Nat.le_of_ble_eq_true rfl)⟩
    · -- not
      by_cases hc43 : (255 : Int32) < x2
      · -- (255 : Int32) < x2
        refine own_stat X4 39 (argsL := [(.ref b), (.int 0), (.int 3)]) (rest := []) d3_36 (ru_cmp3_2 l Z a0 hw n0 h0 hWd [] X4.old b kb dv x0 x1 x2 q3 hc5 hc24 hc43 q4 q5 q6 q7 q8 q9 ) (ow hw 57 rfl) (ow hw 58 rfl) (ow hw 59 rfl) (ow hw 60 rfl) (by decide) (lenOf pd__28_5bCII_29_5bB rfl) rfl rfl rfl (W := 0) rfl (by decide) (by decide) (by decide) (by decide) all0 rfl ?_
        intro T44 h44 v44 X44 K44 hQ44
        obtain ⟨r44, kr44, rfl, ge_r44, f45⟩ := hQ44
        show OGo _ _ _ _ T44 (mkF m 39 #[.val (.ref a), .val (.ref b), .val (.int 0), .val (.int 3), .val .null, .unset] [(.ref r44)])
        refine og_astore X44 41 #[.val (.ref a), .val (.ref b), .val (.int 0), .val (.int 3), .val .null, .val (.ref r44)] d3_39 rfl rfl rfl ?_
        refine og_aloadN X44 42 d3_41 rfl rfl rfl ?_
        refine og_aload X44 44 d3_42 rfl rfl rfl ?_
        refine og_iloadN X44 45 d3_44 rfl rfl ?_
        refine own_stat X44 48 (argsL := [(.ref r44), (.int 3)]) (rest := [(.ref a)]) d3_45 (ru_cod3_6 l Z a0 hw n0 h44 hWd [] X44.old r44 kr44 [(.int (StrChars.lo8 x0)), (.int (StrChars.hi8 x0)), (.int (StrChars.lo8 x1)), (.int (StrChars.hi8 x1)), (.int (StrChars.lo8 x2)), (.int (StrChars.hi8 x2))] (.int 0) f45 ) (ow hw 64 rfl) (ow hw 65 rfl) (ow hw 59 rfl) (ow hw 66 rfl) (by decide) (lenOf pd__28_5bBI_29B rfl) rfl rfl rfl (W := 1) rfl (by decide) (by decide) (by decide) (by decide) all0 rfl ?_
        intro T46 h46 v46 X46 K46 hQ46
        obtain rfl := hQ46
        show OGo _ _ _ _ T46 (mkF m 48 #[.val (.ref a), .val (.ref b), .val (.int 0), .val (.int 3), .val .null, .val (.ref r44)] [(.int 1), (.ref a)])
        have f47 := q2.keep K44 nin0
        have f48 := f47.keep K46 nin0
        have f49 := q0.keep K44
        have f50 := f49.keep K46
        have f51 := q1.keep K44 nin0
        have f52 := f51.keep K46 nin0
        refine own_put X46 51 d3_48 (host := "") (Or.inl (ow hw 29 rfl)) Via.refl f48 f50 (Or.inr ⟨(ow hw 25 rfl), rfl, hnm⟩) (ow hw 10 rfl) (ty := .byte) (by decide) rfl rfl (om 0 rfl) rfl ?_
        intro T53 h53 X53 W53 K53 F53
        have f54 := Fld.other W53 f52 (Or.inr (slot_ne (Or.inr (ow hw 24 rfl)) (Or.inr (ow hw 25 rfl)) (by decide) (t := (.array .byte)) (t' := .byte) (by decide) (by decide)))
        refine og_aloadN X53 52 d3_51 rfl rfl rfl ?_
        refine og_aload X53 54 d3_52 rfl rfl rfl ?_
        have f55 := f50.keep K53
        refine own_put X53 57 d3_54 (host := "") (Or.inl (ow hw 28 rfl)) Via.refl f54 f55 (Or.inr ⟨(ow hw 24 rfl), rfl, hnm⟩) (ow hw 10 rfl) (ty := (.array .byte)) (by decide) rfl rfl (om 0 rfl) rfl ?_
        intro T56 h56 X56 W56 K56 F56
        have f57 := Fld.other W56 F53 (Or.inr (slot_ne (Or.inr (ow hw 25 rfl)) (Or.inr (ow hw 24 rfl)) (by decide) (t := .byte) (t' := (.array .byte)) (by decide) (by decide)))
        have f58 := f55.keep K56
        have f59 := f45.keep K46 nin0
        have f60 := f59.keep K53 (ninS (Nat.ne_of_gt (Nat.lt_of_lt_of_le q0.lt ge_r44)) nin0)
        have f61 := f60.keep K56 (ninS (Nat.ne_of_gt (Nat.lt_of_lt_of_le q0.lt ge_r44)) nin0)
        refine own_retV X56 d3_57 hret (by decide) (by decide) ?_
        exact ⟨rfl, own_mkStrW (cs := [x0, x1, x2]) (n := 3) f58 f57 F56 f61 ⟨x2, List.mem_of_getElem? (i := 2) rfl, hc43⟩ (own_l16 ⟨q4, q5⟩ (own_l16 ⟨q6, q7⟩ (own_l16 ⟨q8, q9⟩ (fun _ q => nomatch q)))) rfl rfl (Nat.le_of_ble_eq_true rfl)⟩
      · -- not
        refine own_stat X4 39 (argsL := [(.ref b), (.int 0), (.int 3)]) (rest := []) d3_36 (ru_cmp3_3 l Z a0 hw n0 h0 hWd [] X4.old b kb dv x0 x1 x2 q3 hc5 hc24 hc43 q4 q5 q6 q7 q8 q9 ) (ow hw 57 rfl) (ow hw 58 rfl) (ow hw 59 rfl) (ow hw 60 rfl) (by decide) (lenOf pd__28_5bCII_29_5bB rfl) rfl rfl rfl (W := 0) rfl (by decide) (by decide) (by decide) (by decide) all0 rfl ?_
        intro T62 h62 v62 X62 K62 hQ62
        obtain ⟨r62, kr62, rfl, ge_r62, f63⟩ := hQ62
        show OGo _ _ _ _ T62 (mkF m 39 #[.val (.ref a), .val (.ref b), .val (.int 0), .val (.int 3), .val .null, .unset] [(.ref r62)])
        refine og_astore X62 41 #[.val (.ref a), .val (.ref b), .val (.int 0), .val (.int 3), .val .null, .val (.ref r62)] d3_39 rfl rfl rfl ?_
        refine og_aloadN X62 42 d3_41 rfl rfl rfl ?_
        refine og_aload X62 44 d3_42 rfl rfl rfl ?_
        refine og_iloadN X62 45 d3_44 rfl rfl ?_
        refine own_stat X62 48 (argsL := [(.ref r62), (.int 3)]) (rest := [(.ref a)]) d3_45 (ru_cod3_3 l Z a0 hw n0 h62 hWd [] X62.old r62 kr62 [(.int ((x0).toInt8.toInt32)), (.int ((x1).toInt8.toInt32)), (.int ((x2).toInt8.toInt32))] (.int 0) f63 ) (ow hw 64 rfl) (ow hw 65 rfl) (ow hw 59 rfl) (ow hw 66 rfl) (by decide) (lenOf pd__28_5bBI_29B rfl) rfl rfl rfl (W := 1) rfl (by decide) (by decide) (by decide) (by decide) all0 rfl ?_
        intro T64 h64 v64 X64 K64 hQ64
        obtain rfl := hQ64
        show OGo _ _ _ _ T64 (mkF m 48 #[.val (.ref a), .val (.ref b), .val (.int 0), .val (.int 3), .val .null, .val (.ref r62)] [(.int 0), (.ref a)])
        have f65 := q2.keep K62 nin0
        have f66 := f65.keep K64 nin0
        have f67 := q0.keep K62
        have f68 := f67.keep K64
        have f69 := q1.keep K62 nin0
        have f70 := f69.keep K64 nin0
        refine own_put X64 51 d3_48 (host := "") (Or.inl (ow hw 29 rfl)) Via.refl f66 f68 (Or.inr ⟨(ow hw 25 rfl), rfl, hnm⟩) (ow hw 10 rfl) (ty := .byte) (by decide) rfl rfl (om 0 rfl) rfl ?_
        intro T71 h71 X71 W71 K71 F71
        have f72 := Fld.other W71 f70 (Or.inr (slot_ne (Or.inr (ow hw 24 rfl)) (Or.inr (ow hw 25 rfl)) (by decide) (t := (.array .byte)) (t' := .byte) (by decide) (by decide)))
        refine og_aloadN X71 52 d3_51 rfl rfl rfl ?_
        refine og_aload X71 54 d3_52 rfl rfl rfl ?_
        have f73 := f68.keep K71
        refine own_put X71 57 d3_54 (host := "") (Or.inl (ow hw 28 rfl)) Via.refl f72 f73 (Or.inr ⟨(ow hw 24 rfl), rfl, hnm⟩) (ow hw 10 rfl) (ty := (.array .byte)) (by decide) rfl rfl (om 0 rfl) rfl ?_
        intro T74 h74 X74 W74 K74 F74
        have f75 := Fld.other W74 F71 (Or.inr (slot_ne (Or.inr (ow hw 25 rfl)) (Or.inr (ow hw 24 rfl)) (by decide) (t := .byte) (t' := (.array .byte)) (by decide) (by decide)))
        have f76 := f73.keep K74
        have f77 := f63.keep K64 nin0
        have f78 := f77.keep K71 (ninS (Nat.ne_of_gt (Nat.lt_of_lt_of_le q0.lt ge_r62)) nin0)
        have f79 := f78.keep K74 (ninS (Nat.ne_of_gt (Nat.lt_of_lt_of_le q0.lt ge_r62)) nin0)
        refine own_retV X74 d3_57 hret (by decide) (by decide) ?_
        exact ⟨rfl, own_mkStr (cs := [x0, x1, x2]) (bs := [x0.toInt8.toInt32, x1.toInt8.toInt32, x2.toInt8.toInt32]) (n := 3) f76 f75 F74 f79 rfl (own_lS ⟨q4, hc5⟩ (own_lS ⟨q6, hc24⟩ (own_lS ⟨q8, hc43⟩ own_l0))) rfl rfl (Nat.le_of_ble_eq_true rfl)⟩
theorem ru_ini3 (l : Launch) (Z : State) (a0 : Array Value) (hw : ∀ d ∈ tables_1, d.before a0 Z = true) (n0 : Nat) (h0 : Heap) (hWd : OWorld Z a0) (wc : List Jvm.Cond) (O0 : Old Z n0 h0) (a : Addr) (b : Addr) (y : Value) (z : Int32) (kb : ClassId) (dv : Value) (x0 : Int32) (x1 : Int32) (x2 : Int32) (q0 : Exa Z h0 a "java/lang/String") (q1 : Fld Z h0 a "java/lang/String" "value" "[B" y) (q2 : Fld Z h0 a "java/lang/String" "coder" "B" (.int z)) (q3 : Arv Z h0 b kb .char (3 : Int32) [(.int x0), (.int x1), (.int x2)] dv) (q4 : ¬ x0 < 0) (q5 : ¬ (65535 : Int32) < x0) (q6 : ¬ x1 < 0) (q7 : ¬ (65535 : Int32) < x1) (q8 : ¬ x2 < 0) (q9 : ¬ (65535 : Int32) < x2) (g0 : n0 ≤ a ∧ a < h0.size) :
    OMet l Z own_EL n0 (⟨"java/lang/String", "<init>", "([C)V"⟩ : MethodName) (Jvm.Cond.code (⟨"java/lang/String", "<init>", "([C)V"⟩ : MethodName) jdk_42_method_3_code 2 none :: wc) ({ frames := 5, cells := 2, slots := 9, locals := 74 } : Room) #[(.ref a), (.ref b)] h0 [a] (fun vq hq => vq = none ∧ OStr Z hq a [x0, x1, x2] hq.size) := by
  refine own_enter #[.val (.ref a), .val (.ref b)] pn_java_lang_String__init____C_V (ef_ru_ini3 a b y z kb dv x0 x1 x2) hWd.1 O0 (allS g0 all0) ?_
  intro p e s m below meth c T0 X0 hnm hret
  refine og_aloadN X0 1 d2_0 rfl rfl rfl ?_
  refine og_aloadN X0 2 d2_1 rfl rfl rfl ?_
  refine og_iconst X0 3 (0 : Int32) d2_2 rfl rfl ?_
  refine og_aloadN X0 4 d2_3 rfl rfl rfl ?_
  refine own_len X0 5 d2_4 q3 rfl ?_
  refine og_aconstNull X0 6 d2_5 rfl ?_
  refine own_spec X0 9 (a := a) (argsL := [(.ref b), (.int 0), (.int 3), .null]) (rest := []) d2_6 rfl (ru_inv3 l Z a0 hw n0 h0 hWd [] X0.old a b y z kb dv x0 x1 x2 q0 q1 q2 q3 q4 q5 q6 q7 q8 q9 (own_svb X0 (om 0 rfl))) (ow hw 15 rfl) (ow hw 16 rfl) (ow hw 11 rfl) (ow hw 18 rfl) (by decide) (lenOf pd__28_5bCIILjava_2flang_2fVoid_3b_29V rfl) rfl rfl rfl (W := 0) rfl (by decide) (by decide) (by decide) (by decide) (allS (om 0 rfl) all0) rfl ?_
  intro T1 h1 v1 X1 K1 hQ1
  obtain ⟨rfl, f2⟩ := hQ1
  show OGo _ _ _ _ T1 (mkF m 9 #[.val (.ref a), .val (.ref b)] [])
  refine own_retV X1 d2_9 hret (by decide) (by decide) ?_
  exact ⟨rfl, f2.top⟩
theorem ru_nbl4 (l : Launch) (Z : State) (a0 : Array Value) (hw : ∀ d ∈ tables_1, d.before a0 Z = true) (n0 : Nat) (h0 : Heap) (hWd : OWorld Z a0) (wc : List Jvm.Cond) (O0 : Old Z n0 h0)   :
    OMet l Z own_EL n0 (⟨"java/lang/StringUTF16", "newBytesLength", "(I)I"⟩ : MethodName) (Jvm.Cond.code (⟨"java/lang/StringUTF16", "newBytesLength", "(I)I"⟩ : MethodName) jdk_52_method_3_code 1 (some .int) :: wc) ({ frames := 0, cells := 0, slots := 0, locals := 0 } : Room) #[(.int 4)] h0 [] (fun vq hq => vq = some (.int 8)) := by
  refine own_enter #[.val (.int 4)] pn_java_lang_StringUTF16_newBytesLength__I_I (ef_ru_nbl4) hWd.1 O0 all0 ?_
  intro p e s m below meth c T0 X0 hnm hret
  refine og_iloadN X0 1 d22_0 rfl rfl ?_
  refine og_ifY X0 12 d22_1 (XT.i0_ge_t (by decide)) (by decide) (by decide) ?_
  refine og_iloadN X0 13 d22_12 rfl rfl ?_
  refine own_ldcI X0 15 (v := (1073741823 : Int32)) d22_13 (ow hw 112 rfl) rfl ?_
  refine og_icmpY X0 55 d22_15 (XT.ii_lt_t (by decide)) (by decide) (by decide) ?_
  refine og_iloadN X0 56 d22_55 rfl rfl ?_
  refine og_iconst X0 57 (1 : Int32) d22_56 rfl rfl ?_
  refine og_ishl X0 58 d22_57 rfl ?_
  show OGo _ _ _ _ T0 (mkF m 58 #[.val (.int 4)] [(.int 8)])
  refine own_retI X0 d22_58 hret (by decide) (by decide) ?_
  exact rfl
theorem ru_nbf4 (l : Launch) (Z : State) (a0 : Array Value) (hw : ∀ d ∈ tables_1, d.before a0 Z = true) (n0 : Nat) (h0 : Heap) (hWd : OWorld Z a0) (wc : List Jvm.Cond) (O0 : Old Z n0 h0)   :
    OMet l Z own_EL n0 (⟨"java/lang/StringUTF16", "newBytesFor", "(I)[B"⟩ : MethodName) (Jvm.Cond.code (⟨"java/lang/StringUTF16", "newBytesFor", "(I)[B"⟩ : MethodName) jdk_52_method_2_code 1 (some (.array .byte)) :: wc) ({ frames := 1, cells := 1, slots := 8, locals := 12 } : Room) #[(.int 4)] h0 [] (fun vq hq => ∃ (r : Addr) (kb : ClassId), vq = some (.ref r) ∧ h0.size ≤ r ∧ Arv Z hq r kb .byte (8 : Int32) [(.int 0), (.int 0), (.int 0), (.int 0), (.int 0), (.int 0), (.int 0), (.int 0)] (.int 0)) := by
  refine own_enter #[.val (.int 4)] pn_java_lang_StringUTF16_newBytesFor__I__B (ef_ru_nbf4) hWd.1 O0 all0 ?_
  intro p e s m below meth c T0 X0 hnm hret
  refine og_iloadN X0 1 d21_0 rfl rfl ?_
  refine own_stat X0 4 (argsL := [(.int 4)]) (rest := []) d21_1 (ru_nbl4 l Z a0 hw n0 h0 hWd [] X0.old   ) (ow hw 109 rfl) (ow hw 110 rfl) (ow hw 59 rfl) (ow hw 111 rfl) (by decide) (lenOf pd__28I_29I rfl) rfl rfl rfl (W := 0) rfl (by decide) (by decide) (by decide) (by decide) all0 rfl ?_
  intro T1 h1 v1 X1 K1 hQ1
  obtain rfl := hQ1
  show OGo _ _ _ _ T1 (mkF m 4 #[.val (.int 4)] [(.int 8)])
  refine own_arr X1 6 d21_4 (ow hw 23 rfl) (by decide) (cap := 8) (by decide) (by decide) (by decide) (by decide) rfl ?_
  intro T2 h2 b2 kb2 X2 K2 G2 U2 A2
  have f3 : Arv Z h2 b2 kb2 .byte (8 : Int32) [(.int 0), (.int 0), (.int 0), (.int 0), (.int 0), (.int 0), (.int 0), (.int 0)] (.int 0) := A2
  refine own_retA X2 d21_6 hret rfl rfl (by decide) (by decide) ?_
  exact ⟨b2, kb2, rfl, (Nat.le_trans K1.1 G2), f3⟩
theorem ru_put4_0 (l : Launch) (Z : State) (a0 : Array Value) (hw : ∀ d ∈ tables_1, d.before a0 Z = true) (n0 : Nat) (h0 : Heap) (hWd : OWorld Z a0) (wc : List Jvm.Cond) (O0 : Old Z n0 h0) (b : Addr) (kb : ClassId) (x : Int32) (dv : Value) (e0 : Value) (e1 : Value) (e2 : Value) (e3 : Value) (e4 : Value) (e5 : Value) (e6 : Value) (e7 : Value) (q0 : Arv Z h0 b kb .byte (8 : Int32) [e0, e1, e2, e3, e4, e5, e6, e7] dv) (g0 : n0 ≤ b ∧ b < h0.size) :
    OMet l Z own_EL n0 (⟨"java/lang/StringUTF16", "putChar", "([BII)V"⟩ : MethodName) (Jvm.Cond.code (⟨"java/lang/StringUTF16", "putChar", "([BII)V"⟩ : MethodName) jdk_52_method_4_code 3 none :: wc) ({ frames := 0, cells := 0, slots := 0, locals := 0 } : Room) #[(.ref b), (.int 0), (.int x)] h0 [b] (fun vq hq => vq = none ∧ Arv Z hq b kb .byte (8 : Int32) [(.int (StrChars.lo8 x)), (.int (StrChars.hi8 x)), e2, e3, e4, e5, e6, e7] dv) := by
  refine own_enter #[.val (.ref b), .val (.int 0), .val (.int x)] pn_java_lang_StringUTF16_putChar___BII_V (ef_ru_put4_0 b kb x dv e0 e1 e2 e3 e4 e5 e6 e7) hWd.1 O0 (allS g0 all0) ?_
  intro p e s m below meth c T0 X0 hnm hret
  refine own_getS X0 3 d23_0 (host := "") (Or.inl (ow hw 116 rfl)) Via.refl hWd.2.2.2.1 rfl ?_
  intro T1 X2
  refine og_ifY X2 28 d23_3 (XT.i0_ne_t (by decide)) (by decide) (by decide) ?_
  refine og_iloadN X2 29 d23_28 rfl rfl ?_
  refine og_iconst X2 30 (1 : Int32) d23_29 rfl rfl ?_
  refine og_ishl X2 31 d23_30 rfl ?_
  show OGo _ _ _ _ T1 (mkF m 31 #[.val (.ref b), .val (.int 0), .val (.int x)] [(.int 0)])
  refine og_istoreN X2 32 #[.val (.ref b), .val (.int 0), .val (.int x)] d23_31 rfl rfl ?_
  refine og_aloadN X2 33 d23_32 rfl rfl rfl ?_
  refine og_iloadN X2 34 d23_33 rfl rfl ?_
  refine og_iinc X2 37 #[.val (.ref b), .val (.int 1), .val (.int x)] d23_34 rfl rfl rfl ?_
  refine og_iloadN X2 38 d23_37 rfl rfl ?_
  refine own_getS X2 41 d23_38 (host := "") (Or.inl (ow hw 117 rfl)) Via.refl hWd.2.2.2.2.1 rfl ?_
  intro T3 X4
  refine og_ishr X4 42 d23_41 rfl ?_
  refine og_i2b X4 43 d23_42 rfl ?_
  refine own_stB X4 44 d23_43 q0 (own_nbb _) (by decide) (by decide) (i := 0) (by decide) (Nat.le_of_ble_eq_true rfl) (om 0 rfl) rfl ?_
  intro T5 h5 X5 W5 K5 A5
  have f6 : Arv Z h5 b kb .byte (8 : Int32) [(.int (((x >>> ((0 : Int32) &&& 31))).toInt8.toInt32)), e1, e2, e3, e4, e5, e6, e7] dv := A5
  refine og_aloadN X5 45 d23_44 rfl rfl rfl ?_
  refine og_iloadN X5 46 d23_45 rfl rfl ?_
  refine og_iloadN X5 47 d23_46 rfl rfl ?_
  refine own_getS X5 50 d23_47 (host := "") (Or.inl (ow hw 118 rfl)) Via.refl hWd.2.2.2.2.2 rfl ?_
  intro T7 X8
  refine og_ishr X8 51 d23_50 rfl ?_
  refine og_i2b X8 52 d23_51 rfl ?_
  refine own_stB X8 53 d23_52 f6 (own_nbb _) (by decide) (by decide) (i := 1) (by decide) (Nat.le_of_ble_eq_true rfl) (om 0 rfl) rfl ?_
  intro T9 h9 X9 W9 K9 A9
  have f10 : Arv Z h9 b kb .byte (8 : Int32) [(.int (((x >>> ((0 : Int32) &&& 31))).toInt8.toInt32)), (.int (((x >>> ((8 : Int32) &&& 31))).toInt8.toInt32)), e2, e3, e4, e5, e6, e7] dv := A9
  refine own_retV X9 d23_53 hret (by decide) (by decide) ?_
  exact ⟨rfl, by have q := f10; rw [StrChars.shr0] at q; exact q⟩
theorem ru_put4_1 (l : Launch) (Z : State) (a0 : Array Value) (hw : ∀ d ∈ tables_1, d.before a0 Z = true) (n0 : Nat) (h0 : Heap) (hWd : OWorld Z a0) (wc : List Jvm.Cond) (O0 : Old Z n0 h0) (b : Addr) (kb : ClassId) (x : Int32) (dv : Value) (e0 : Value) (e1 : Value) (e2 : Value) (e3 : Value) (e4 : Value) (e5 : Value) (e6 : Value) (e7 : Value) (q0 : Arv Z h0 b kb .byte (8 : Int32) [e0, e1, e2, e3, e4, e5, e6, e7] dv) (g0 : n0 ≤ b ∧ b < h0.size) :
    OMet l Z own_EL n0 (⟨"java/lang/StringUTF16", "putChar", "([BII)V"⟩ : MethodName) (Jvm.Cond.code (⟨"java/lang/StringUTF16", "putChar", "([BII)V"⟩ : MethodName) jdk_52_method_4_code 3 none :: wc) ({ frames := 0, cells := 0, slots := 0, locals := 0 } : Room) #[(.ref b), (.int 1), (.int x)] h0 [b] (fun vq hq => vq = none ∧ Arv Z hq b kb .byte (8 : Int32) [e0, e1, (.int (StrChars.lo8 x)), (.int (StrChars.hi8 x)), e4, e5, e6, e7] dv) := by
  refine own_enter #[.val (.ref b), .val (.int 1), .val (.int x)] pn_java_lang_StringUTF16_putChar___BII_V (ef_ru_put4_1 b kb x dv e0 e1 e2 e3 e4 e5 e6 e7) hWd.1 O0 (allS g0 all0) ?_
  intro p e s m below meth c T0 X0 hnm hret
  refine own_getS X0 3 d23_0 (host := "") (Or.inl (ow hw 116 rfl)) Via.refl hWd.2.2.2.1 rfl ?_
  intro T1 X2
  refine og_ifY X2 28 d23_3 (XT.i0_ne_t (by decide)) (by decide) (by decide) ?_
  refine og_iloadN X2 29 d23_28 rfl rfl ?_
  refine og_iconst X2 30 (1 : Int32) d23_29 rfl rfl ?_
  refine og_ishl X2 31 d23_30 rfl ?_
  show OGo _ _ _ _ T1 (mkF m 31 #[.val (.ref b), .val (.int 1), .val (.int x)] [(.int 2)])
  refine og_istoreN X2 32 #[.val (.ref b), .val (.int 2), .val (.int x)] d23_31 rfl rfl ?_
  refine og_aloadN X2 33 d23_32 rfl rfl rfl ?_
  refine og_iloadN X2 34 d23_33 rfl rfl ?_
  refine og_iinc X2 37 #[.val (.ref b), .val (.int 3), .val (.int x)] d23_34 rfl rfl rfl ?_
  refine og_iloadN X2 38 d23_37 rfl rfl ?_
  refine own_getS X2 41 d23_38 (host := "") (Or.inl (ow hw 117 rfl)) Via.refl hWd.2.2.2.2.1 rfl ?_
  intro T3 X4
  refine og_ishr X4 42 d23_41 rfl ?_
  refine og_i2b X4 43 d23_42 rfl ?_
  refine own_stB X4 44 d23_43 q0 (own_nbb _) (by decide) (by decide) (i := 2) (by decide) (Nat.le_of_ble_eq_true rfl) (om 0 rfl) rfl ?_
  intro T5 h5 X5 W5 K5 A5
  have f6 : Arv Z h5 b kb .byte (8 : Int32) [e0, e1, (.int (((x >>> ((0 : Int32) &&& 31))).toInt8.toInt32)), e3, e4, e5, e6, e7] dv := A5
  refine og_aloadN X5 45 d23_44 rfl rfl rfl ?_
  refine og_iloadN X5 46 d23_45 rfl rfl ?_
  refine og_iloadN X5 47 d23_46 rfl rfl ?_
  refine own_getS X5 50 d23_47 (host := "") (Or.inl (ow hw 118 rfl)) Via.refl hWd.2.2.2.2.2 rfl ?_
  intro T7 X8
  refine og_ishr X8 51 d23_50 rfl ?_
  refine og_i2b X8 52 d23_51 rfl ?_
  refine own_stB X8 53 d23_52 f6 (own_nbb _) (by decide) (by decide) (i := 3) (by decide) (Nat.le_of_ble_eq_true rfl) (om 0 rfl) rfl ?_
  intro T9 h9 X9 W9 K9 A9
  have f10 : Arv Z h9 b kb .byte (8 : Int32) [e0, e1, (.int (((x >>> ((0 : Int32) &&& 31))).toInt8.toInt32)), (.int (((x >>> ((8 : Int32) &&& 31))).toInt8.toInt32)), e4, e5, e6, e7] dv := A9
  refine own_retV X9 d23_53 hret (by decide) (by decide) ?_
  exact ⟨rfl, by have q := f10; rw [StrChars.shr0] at q; exact q⟩
theorem ru_put4_2 (l : Launch) (Z : State) (a0 : Array Value) (hw : ∀ d ∈ tables_1, d.before a0 Z = true) (n0 : Nat) (h0 : Heap) (hWd : OWorld Z a0) (wc : List Jvm.Cond) (O0 : Old Z n0 h0) (b : Addr) (kb : ClassId) (x : Int32) (dv : Value) (e0 : Value) (e1 : Value) (e2 : Value) (e3 : Value) (e4 : Value) (e5 : Value) (e6 : Value) (e7 : Value) (q0 : Arv Z h0 b kb .byte (8 : Int32) [e0, e1, e2, e3, e4, e5, e6, e7] dv) (g0 : n0 ≤ b ∧ b < h0.size) :
    OMet l Z own_EL n0 (⟨"java/lang/StringUTF16", "putChar", "([BII)V"⟩ : MethodName) (Jvm.Cond.code (⟨"java/lang/StringUTF16", "putChar", "([BII)V"⟩ : MethodName) jdk_52_method_4_code 3 none :: wc) ({ frames := 0, cells := 0, slots := 0, locals := 0 } : Room) #[(.ref b), (.int 2), (.int x)] h0 [b] (fun vq hq => vq = none ∧ Arv Z hq b kb .byte (8 : Int32) [e0, e1, e2, e3, (.int (StrChars.lo8 x)), (.int (StrChars.hi8 x)), e6, e7] dv) := by
  refine own_enter #[.val (.ref b), .val (.int 2), .val (.int x)] pn_java_lang_StringUTF16_putChar___BII_V (ef_ru_put4_2 b kb x dv e0 e1 e2 e3 e4 e5 e6 e7) hWd.1 O0 (allS g0 all0) ?_
  intro p e s m below meth c T0 X0 hnm hret
  refine own_getS X0 3 d23_0 (host := "") (Or.inl (ow hw 116 rfl)) Via.refl hWd.2.2.2.1 rfl ?_
  intro T1 X2
  refine og_ifY X2 28 d23_3 (XT.i0_ne_t (by decide)) (by decide) (by decide) ?_
  refine og_iloadN X2 29 d23_28 rfl rfl ?_
  refine og_iconst X2 30 (1 : Int32) d23_29 rfl rfl ?_
  refine og_ishl X2 31 d23_30 rfl ?_
  show OGo _ _ _ _ T1 (mkF m 31 #[.val (.ref b), .val (.int 2), .val (.int x)] [(.int 4)])
  refine og_istoreN X2 32 #[.val (.ref b), .val (.int 4), .val (.int x)] d23_31 rfl rfl ?_
  refine og_aloadN X2 33 d23_32 rfl rfl rfl ?_
  refine og_iloadN X2 34 d23_33 rfl rfl ?_
  refine og_iinc X2 37 #[.val (.ref b), .val (.int 5), .val (.int x)] d23_34 rfl rfl rfl ?_
  refine og_iloadN X2 38 d23_37 rfl rfl ?_
  refine own_getS X2 41 d23_38 (host := "") (Or.inl (ow hw 117 rfl)) Via.refl hWd.2.2.2.2.1 rfl ?_
  intro T3 X4
  refine og_ishr X4 42 d23_41 rfl ?_
  refine og_i2b X4 43 d23_42 rfl ?_
  refine own_stB X4 44 d23_43 q0 (own_nbb _) (by decide) (by decide) (i := 4) (by decide) (Nat.le_of_ble_eq_true rfl) (om 0 rfl) rfl ?_
  intro T5 h5 X5 W5 K5 A5
  have f6 : Arv Z h5 b kb .byte (8 : Int32) [e0, e1, e2, e3, (.int (((x >>> ((0 : Int32) &&& 31))).toInt8.toInt32)), e5, e6, e7] dv := A5
  refine og_aloadN X5 45 d23_44 rfl rfl rfl ?_
  refine og_iloadN X5 46 d23_45 rfl rfl ?_
  refine og_iloadN X5 47 d23_46 rfl rfl ?_
  refine own_getS X5 50 d23_47 (host := "") (Or.inl (ow hw 118 rfl)) Via.refl hWd.2.2.2.2.2 rfl ?_
  intro T7 X8
  refine og_ishr X8 51 d23_50 rfl ?_
  refine og_i2b X8 52 d23_51 rfl ?_
  refine own_stB X8 53 d23_52 f6 (own_nbb _) (by decide) (by decide) (i := 5) (by decide) (Nat.le_of_ble_eq_true rfl) (om 0 rfl) rfl ?_
  intro T9 h9 X9 W9 K9 A9
  have f10 : Arv Z h9 b kb .byte (8 : Int32) [e0, e1, e2, e3, (.int (((x >>> ((0 : Int32) &&& 31))).toInt8.toInt32)), (.int (((x >>> ((8 : Int32) &&& 31))).toInt8.toInt32)), e6, e7] dv := A9
  refine own_retV X9 d23_53 hret (by decide) (by decide) ?_
  exact ⟨rfl, by have q := f10; rw [StrChars.shr0] at q; exact q⟩
theorem ru_put4_3 (l : Launch) (Z : State) (a0 : Array Value) (hw : ∀ d ∈ tables_1, d.before a0 Z = true) (n0 : Nat) (h0 : Heap) (hWd : OWorld Z a0) (wc : List Jvm.Cond) (O0 : Old Z n0 h0) (b : Addr) (kb : ClassId) (x : Int32) (dv : Value) (e0 : Value) (e1 : Value) (e2 : Value) (e3 : Value) (e4 : Value) (e5 : Value) (e6 : Value) (e7 : Value) (q0 : Arv Z h0 b kb .byte (8 : Int32) [e0, e1, e2, e3, e4, e5, e6, e7] dv) (g0 : n0 ≤ b ∧ b < h0.size) :
    OMet l Z own_EL n0 (⟨"java/lang/StringUTF16", "putChar", "([BII)V"⟩ : MethodName) (Jvm.Cond.code (⟨"java/lang/StringUTF16", "putChar", "([BII)V"⟩ : MethodName) jdk_52_method_4_code 3 none :: wc) ({ frames := 0, cells := 0, slots := 0, locals := 0 } : Room) #[(.ref b), (.int 3), (.int x)] h0 [b] (fun vq hq => vq = none ∧ Arv Z hq b kb .byte (8 : Int32) [e0, e1, e2, e3, e4, e5, (.int (StrChars.lo8 x)), (.int (StrChars.hi8 x))] dv) := by
  refine own_enter #[.val (.ref b), .val (.int 3), .val (.int x)] pn_java_lang_StringUTF16_putChar___BII_V (ef_ru_put4_3 b kb x dv e0 e1 e2 e3 e4 e5 e6 e7) hWd.1 O0 (allS g0 all0) ?_
  intro p e s m below meth c T0 X0 hnm hret
  refine own_getS X0 3 d23_0 (host := "") (Or.inl (ow hw 116 rfl)) Via.refl hWd.2.2.2.1 rfl ?_
  intro T1 X2
  refine og_ifY X2 28 d23_3 (XT.i0_ne_t (by decide)) (by decide) (by decide) ?_
  refine og_iloadN X2 29 d23_28 rfl rfl ?_
  refine og_iconst X2 30 (1 : Int32) d23_29 rfl rfl ?_
  refine og_ishl X2 31 d23_30 rfl ?_
  show OGo _ _ _ _ T1 (mkF m 31 #[.val (.ref b), .val (.int 3), .val (.int x)] [(.int 6)])
  refine og_istoreN X2 32 #[.val (.ref b), .val (.int 6), .val (.int x)] d23_31 rfl rfl ?_
  refine og_aloadN X2 33 d23_32 rfl rfl rfl ?_
  refine og_iloadN X2 34 d23_33 rfl rfl ?_
  refine og_iinc X2 37 #[.val (.ref b), .val (.int 7), .val (.int x)] d23_34 rfl rfl rfl ?_
  refine og_iloadN X2 38 d23_37 rfl rfl ?_
  refine own_getS X2 41 d23_38 (host := "") (Or.inl (ow hw 117 rfl)) Via.refl hWd.2.2.2.2.1 rfl ?_
  intro T3 X4
  refine og_ishr X4 42 d23_41 rfl ?_
  refine og_i2b X4 43 d23_42 rfl ?_
  refine own_stB X4 44 d23_43 q0 (own_nbb _) (by decide) (by decide) (i := 6) (by decide) (Nat.le_of_ble_eq_true rfl) (om 0 rfl) rfl ?_
  intro T5 h5 X5 W5 K5 A5
  have f6 : Arv Z h5 b kb .byte (8 : Int32) [e0, e1, e2, e3, e4, e5, (.int (((x >>> ((0 : Int32) &&& 31))).toInt8.toInt32)), e7] dv := A5
  refine og_aloadN X5 45 d23_44 rfl rfl rfl ?_
  refine og_iloadN X5 46 d23_45 rfl rfl ?_
  refine og_iloadN X5 47 d23_46 rfl rfl ?_
  refine own_getS X5 50 d23_47 (host := "") (Or.inl (ow hw 118 rfl)) Via.refl hWd.2.2.2.2.2 rfl ?_
  intro T7 X8
  refine og_ishr X8 51 d23_50 rfl ?_
  refine og_i2b X8 52 d23_51 rfl ?_
  refine own_stB X8 53 d23_52 f6 (own_nbb _) (by decide) (by decide) (i := 7) (by decide) (Nat.le_of_ble_eq_true rfl) (om 0 rfl) rfl ?_
  intro T9 h9 X9 W9 K9 A9
  have f10 : Arv Z h9 b kb .byte (8 : Int32) [e0, e1, e2, e3, e4, e5, (.int (((x >>> ((0 : Int32) &&& 31))).toInt8.toInt32)), (.int (((x >>> ((8 : Int32) &&& 31))).toInt8.toInt32))] dv := A9
  refine own_retV X9 d23_53 hret (by decide) (by decide) ?_
  exact ⟨rfl, by have q := f10; rw [StrChars.shr0] at q; exact q⟩
theorem ru_tob4 (l : Launch) (Z : State) (a0 : Array Value) (hw : ∀ d ∈ tables_1, d.before a0 Z = true) (n0 : Nat) (h0 : Heap) (hWd : OWorld Z a0) (wc : List Jvm.Cond) (O0 : Old Z n0 h0) (b : Addr) (kb : ClassId) (dv : Value) (x0 : Int32) (x1 : Int32) (x2 : Int32) (x3 : Int32) (q0 : Arv Z h0 b kb .char (4 : Int32) [(.int x0), (.int x1), (.int x2), (.int x3)] dv) :
    OMet l Z own_EL n0 (⟨"java/lang/StringUTF16", "toBytes", "([CII)[B"⟩ : MethodName) (Jvm.Cond.code (⟨"java/lang/StringUTF16", "toBytes", "([CII)[B"⟩ : MethodName) jdk_52_method_14_code 5 (some (.array .byte)) :: wc) ({ frames := 2, cells := 1, slots := 8, locals := 24 } : Room) #[(.ref b), (.int 0), (.int 4)] h0 [] (fun vq hq => ∃ (r : Addr) (kr : ClassId), vq = some (.ref r) ∧ h0.size ≤ r ∧ Arv Z hq r kr .byte (8 : Int32) [(.int (StrChars.lo8 x0)), (.int (StrChars.hi8 x0)), (.int (StrChars.lo8 x1)), (.int (StrChars.hi8 x1)), (.int (StrChars.lo8 x2)), (.int (StrChars.hi8 x2)), (.int (StrChars.lo8 x3)), (.int (StrChars.hi8 x3))] (.int 0)) := by
  refine own_enter #[.val (.ref b), .val (.int 0), .val (.int 4), .unset, .unset] pn_java_lang_StringUTF16_toBytes___CII__B (ef_ru_tob4 b kb dv x0 x1 x2 x3) hWd.1 O0 all0 ?_
  intro p e s m below meth c T0 X0 hnm hret
  refine og_iloadN X0 1 d20_0 rfl rfl ?_
  refine own_stat X0 4 (argsL := [(.int 4)]) (rest := []) d20_1 (ru_nbf4 l Z a0 hw n0 h0 hWd [] X0.old   ) (ow hw 106 rfl) (ow hw 107 rfl) (ow hw 59 rfl) (ow hw 108 rfl) (by decide) (lenOf pd__28I_29_5bB rfl) rfl rfl rfl (W := 0) rfl (by decide) (by decide) (by decide) (by decide) all0 rfl ?_
  intro T1 h1 v1 X1 K1 hQ1
  obtain ⟨r1, kb1, rfl, ge_r1, f2⟩ := hQ1
  show OGo _ _ _ _ T1 (mkF m 4 #[.val (.ref b), .val (.int 0), .val (.int 4), .unset, .unset] [(.ref r1)])
  refine og_astoreN X1 5 #[.val (.ref b), .val (.int 0), .val (.int 4), .val (.ref r1), .unset] d20_4 rfl rfl rfl ?_
  refine og_iconst X1 6 (0 : Int32) d20_5 rfl rfl ?_
  refine og_istore X1 8 #[.val (.ref b), .val (.int 0), .val (.int 4), .val (.ref r1), .val (.int 0)] d20_6 rfl rfl ?_
  refine og_iload X1 10 d20_8 rfl rfl ?_
  refine og_iloadN X1 11 d20_10 rfl rfl ?_
  refine og_icmpN X1 14 d20_11 (XT.ii_ge_f (by decide)) rfl ?_
  refine og_aloadN X1 15 d20_14 rfl rfl rfl ?_
  refine og_iload X1 17 d20_15 rfl rfl ?_
  refine og_aloadN X1 18 d20_17 rfl rfl rfl ?_
  refine og_iloadN X1 19 d20_18 rfl rfl ?_
  have f3 := q0.keep K1 nin0
  refine own_ldC X1 20 d20_19 f3 (by decide) (by decide) rfl rfl ?_
  have X4 := own_svB X1 f2 (own_tx8 hw) (Nat.le_trans (own_n0 X0) ge_r1) ge_r1
  refine own_stat X4 23 (argsL := [(.ref r1), (.int 0), (.int x0)]) (rest := []) d20_20 (ru_put4_0 l Z a0 hw n0 h1 hWd [] X4.old r1 kb1 x0 (.int 0) (.int 0) (.int 0) (.int 0) (.int 0) (.int 0) (.int 0) (.int 0) (.int 0) f2 (own_svb X4 (om 0 rfl))) (ow hw 113 rfl) (ow hw 114 rfl) (ow hw 59 rfl) (ow hw 115 rfl) (by decide) (lenOf pd__28_5bBII_29V rfl) rfl rfl rfl (W := 0) rfl (by decide) (by decide) (by decide) (by decide) (allS (om 0 rfl) all0) rfl ?_
  intro T5 h5 v5 X5 K5 hQ5
  obtain ⟨rfl, f6⟩ := hQ5
  show OGo _ _ _ _ T5 (mkF m 23 #[.val (.ref b), .val (.int 0), .val (.int 4), .val (.ref r1), .val (.int 0)] [])
  refine og_iinc X5 26 #[.val (.ref b), .val (.int 1), .val (.int 4), .val (.ref r1), .val (.int 0)] d20_23 rfl rfl rfl ?_
  refine og_iinc X5 29 #[.val (.ref b), .val (.int 1), .val (.int 4), .val (.ref r1), .val (.int 1)] d20_26 rfl rfl rfl ?_
  refine og_goto X5 8 d20_29 (by decide) (by decide) ?_
  refine og_iload X5 10 d20_8 rfl rfl ?_
  refine og_iloadN X5 11 d20_10 rfl rfl ?_
  refine og_icmpN X5 14 d20_11 (XT.ii_ge_f (by decide)) rfl ?_
  refine og_aloadN X5 15 d20_14 rfl rfl rfl ?_
  refine og_iload X5 17 d20_15 rfl rfl ?_
  refine og_aloadN X5 18 d20_17 rfl rfl rfl ?_
  refine og_iloadN X5 19 d20_18 rfl rfl ?_
  have f7 := f3.keep K5 (ninS (Nat.ne_of_lt (Nat.lt_of_lt_of_le q0.lt ge_r1)) nin0)
  refine own_ldC X5 20 d20_19 f7 (by decide) (by decide) rfl rfl ?_
  refine own_stat X5 23 (argsL := [(.ref r1), (.int 1), (.int x1)]) (rest := []) d20_20 (ru_put4_1 l Z a0 hw n0 h5 hWd [] X5.old r1 kb1 x1 (.int 0) (.int (StrChars.lo8 x0)) (.int (StrChars.hi8 x0)) (.int 0) (.int 0) (.int 0) (.int 0) (.int 0) (.int 0) f6 (own_svb X5 (om 0 rfl))) (ow hw 113 rfl) (ow hw 114 rfl) (ow hw 59 rfl) (ow hw 115 rfl) (by decide) (lenOf pd__28_5bBII_29V rfl) rfl rfl rfl (W := 0) rfl (by decide) (by decide) (by decide) (by decide) (allS (om 0 rfl) all0) rfl ?_
  intro T8 h8 v8 X8 K8 hQ8
  obtain ⟨rfl, f9⟩ := hQ8
  show OGo _ _ _ _ T8 (mkF m 23 #[.val (.ref b), .val (.int 1), .val (.int 4), .val (.ref r1), .val (.int 1)] [])
  refine og_iinc X8 26 #[.val (.ref b), .val (.int 2), .val (.int 4), .val (.ref r1), .val (.int 1)] d20_23 rfl rfl rfl ?_
  refine og_iinc X8 29 #[.val (.ref b), .val (.int 2), .val (.int 4), .val (.ref r1), .val (.int 2)] d20_26 rfl rfl rfl ?_
  refine og_goto X8 8 d20_29 (by decide) (by decide) ?_
  refine og_iload X8 10 d20_8 rfl rfl ?_
  refine og_iloadN X8 11 d20_10 rfl rfl ?_
  refine og_icmpN X8 14 d20_11 (XT.ii_ge_f (by decide)) rfl ?_
  refine og_aloadN X8 15 d20_14 rfl rfl rfl ?_
  refine og_iload X8 17 d20_15 rfl rfl ?_
  refine og_aloadN X8 18 d20_17 rfl rfl rfl ?_
  refine og_iloadN X8 19 d20_18 rfl rfl ?_
  have f10 := f7.keep K8 (ninS (Nat.ne_of_lt (Nat.lt_of_lt_of_le q0.lt ge_r1)) nin0)
  refine own_ldC X8 20 d20_19 f10 (by decide) (by decide) rfl rfl ?_
  refine own_stat X8 23 (argsL := [(.ref r1), (.int 2), (.int x2)]) (rest := []) d20_20 (ru_put4_2 l Z a0 hw n0 h8 hWd [] X8.old r1 kb1 x2 (.int 0) (.int (StrChars.lo8 x0)) (.int (StrChars.hi8 x0)) (.int (StrChars.lo8 x1)) (.int (StrChars.hi8 x1)) (.int 0) (.int 0) (.int 0) (.int 0) f9 (own_svb X8 (om 0 rfl))) (ow hw 113 rfl) (ow hw 114 rfl) (ow hw 59 rfl) (ow hw 115 rfl) (by decide) (lenOf pd__28_5bBII_29V rfl) rfl rfl rfl (W := 0) rfl (by decide) (by decide) (by decide) (by decide) (allS (om 0 rfl) all0) rfl ?_
  intro T11 h11 v11 X11 K11 hQ11
  obtain ⟨rfl, f12⟩ := hQ11
  show OGo _ _ _ _ T11 (mkF m 23 #[.val (.ref b), .val (.int 2), .val (.int 4), .val (.ref r1), .val (.int 2)] [])
  refine og_iinc X11 26 #[.val (.ref b), .val (.int 3), .val (.int 4), .val (.ref r1), .val (.int 2)] d20_23 rfl rfl rfl ?_
  refine og_iinc X11 29 #[.val (.ref b), .val (.int 3), .val (.int 4), .val (.ref r1), .val (.int 3)] d20_26 rfl rfl rfl ?_
  refine og_goto X11 8 d20_29 (by decide) (by decide) ?_
  refine og_iload X11 10 d20_8 rfl rfl ?_
  refine og_iloadN X11 11 d20_10 rfl rfl ?_
  refine og_icmpN X11 14 d20_11 (XT.ii_ge_f (by decide)) rfl ?_
  refine og_aloadN X11 15 d20_14 rfl rfl rfl ?_
  refine og_iload X11 17 d20_15 rfl rfl ?_
  refine og_aloadN X11 18 d20_17 rfl rfl rfl ?_
  refine og_iloadN X11 19 d20_18 rfl rfl ?_
  have f13 := f10.keep K11 (ninS (Nat.ne_of_lt (Nat.lt_of_lt_of_le q0.lt ge_r1)) nin0)
  refine own_ldC X11 20 d20_19 f13 (by decide) (by decide) rfl rfl ?_
  refine own_stat X11 23 (argsL := [(.ref r1), (.int 3), (.int x3)]) (rest := []) d20_20 (ru_put4_3 l Z a0 hw n0 h11 hWd [] X11.old r1 kb1 x3 (.int 0) (.int (StrChars.lo8 x0)) (.int (StrChars.hi8 x0)) (.int (StrChars.lo8 x1)) (.int (StrChars.hi8 x1)) (.int (StrChars.lo8 x2)) (.int (StrChars.hi8 x2)) (.int 0) (.int 0) f12 (own_svb X11 (om 0 rfl))) (ow hw 113 rfl) (ow hw 114 rfl) (ow hw 59 rfl) (ow hw 115 rfl) (by decide) (lenOf pd__28_5bBII_29V rfl) rfl rfl rfl (W := 0) rfl (by decide) (by decide) (by decide) (by decide) (allS (om 0 rfl) all0) rfl ?_
  intro T14 h14 v14 X14 K14 hQ14
  obtain ⟨rfl, f15⟩ := hQ14
  show OGo _ _ _ _ T14 (mkF m 23 #[.val (.ref b), .val (.int 3), .val (.int 4), .val (.ref r1), .val (.int 3)] [])
  refine og_iinc X14 26 #[.val (.ref b), .val (.int 4), .val (.int 4), .val (.ref r1), .val (.int 3)] d20_23 rfl rfl rfl ?_
  refine og_iinc X14 29 #[.val (.ref b), .val (.int 4), .val (.int 4), .val (.ref r1), .val (.int 4)] d20_26 rfl rfl rfl ?_
  refine og_goto X14 8 d20_29 (by decide) (by decide) ?_
  refine og_iload X14 10 d20_8 rfl rfl ?_
  refine og_iloadN X14 11 d20_10 rfl rfl ?_
  refine og_icmpY X14 32 d20_11 (XT.ii_ge_t (by decide)) (by decide) (by decide) ?_
  refine og_aloadN X14 33 d20_32 rfl rfl rfl ?_
  refine own_retA X14 d20_33 hret rfl rfl (by decide) (by decide) ?_
  exact ⟨r1, kb1, rfl, ge_r1, f15⟩
theorem ru_cmi4_0 (l : Launch) (Z : State) (a0 : Array Value) (hw : ∀ d ∈ tables_1, d.before a0 Z = true) (n0 : Nat) (h0 : Heap) (hWd : OWorld Z a0) (wc : List Jvm.Cond) (O0 : Old Z n0 h0) (b : Addr) (kb : ClassId) (dv : Value) (d : Addr) (kd : ClassId) (x0 : Int32) (x1 : Int32) (x2 : Int32) (x3 : Int32) (q0 : Arv Z h0 b kb .char (4 : Int32) [(.int x0), (.int x1), (.int x2), (.int x3)] dv) (q1 : Arv Z h0 d kd .byte (4 : Int32) [(.int 0), (.int 0), (.int 0), (.int 0)] (.int 0)) (q2 : (255 : Int32) < x0) (q3 : b ≠ d) (g0 : n0 ≤ d ∧ d < h0.size) :
    OMet l Z own_EL n0 (⟨"java/lang/StringUTF16", "compress", "([CI[BII)I"⟩ : MethodName) (Jvm.Cond.code (⟨"java/lang/StringUTF16", "compress", "([CI[BII)I"⟩ : MethodName) jdk_52_method_21_code 7 (some .int) :: wc) ({ frames := 0, cells := 0, slots := 0, locals := 0 } : Room) #[(.ref b), (.int 0), (.ref d), (.int 0), (.int 4)] h0 [d] (fun vq hq => vq = some (.int 0)) := by
  refine own_enter #[.val (.ref b), .val (.int 0), .val (.ref d), .val (.int 0), .val (.int 4), .unset, .unset] pn_java_lang_StringUTF16_compress___CI_BII_I (ef_ru_cmi4_0 b kb dv d kd x0 x1 x2 x3) hWd.1 O0 (allS g0 all0) ?_
  intro p e s m below meth c T0 X0 hnm hret
  refine og_iconst X0 1 (0 : Int32) d10_0 rfl rfl ?_
  refine og_istore X0 3 #[.val (.ref b), .val (.int 0), .val (.ref d), .val (.int 0), .val (.int 4), .val (.int 0), .unset] d10_1 rfl rfl ?_
  refine og_iload X0 5 d10_3 rfl rfl ?_
  refine og_iload X0 7 d10_5 rfl rfl ?_
  refine og_icmpN X0 10 d10_7 (XT.ii_ge_f (by decide)) rfl ?_
  refine og_aloadN X0 11 d10_10 rfl rfl rfl ?_
  refine og_iloadN X0 12 d10_11 rfl rfl ?_
  refine own_ldC X0 13 d10_12 q0 (by decide) (by decide) rfl rfl ?_
  refine og_istore X0 15 #[.val (.ref b), .val (.int 0), .val (.ref d), .val (.int 0), .val (.int 4), .val (.int 0), .val (.int x0)] d10_13 rfl rfl ?_
  refine og_iload X0 17 d10_15 rfl rfl ?_
  refine og_sipush X0 20 (255 : Int32) d10_17 rfl rfl ?_
  refine og_icmpN X0 23 d10_20 (XT.ii_le_f q2) rfl ?_
  refine og_iload X0 25 d10_23 rfl rfl ?_
  refine own_retI X0 d10_25 hret (by decide) (by decide) ?_
  exact rfl
theorem ru_cmp4_0 (l : Launch) (Z : State) (a0 : Array Value) (hw : ∀ d ∈ tables_1, d.before a0 Z = true) (n0 : Nat) (h0 : Heap) (hWd : OWorld Z a0) (wc : List Jvm.Cond) (O0 : Old Z n0 h0) (b : Addr) (kb : ClassId) (dv : Value) (x0 : Int32) (x1 : Int32) (x2 : Int32) (x3 : Int32) (q0 : Arv Z h0 b kb .char (4 : Int32) [(.int x0), (.int x1), (.int x2), (.int x3)] dv) (q1 : (255 : Int32) < x0) (q2 : ¬ x0 < 0) (q3 : ¬ (65535 : Int32) < x0) (q4 : ¬ x1 < 0) (q5 : ¬ (65535 : Int32) < x1) (q6 : ¬ x2 < 0) (q7 : ¬ (65535 : Int32) < x2) (q8 : ¬ x3 < 0) (q9 : ¬ (65535 : Int32) < x3) :
    OMet l Z own_EL n0 (⟨"java/lang/StringUTF16", "compress", "([CII)[B"⟩ : MethodName) (Jvm.Cond.code (⟨"java/lang/StringUTF16", "compress", "([CII)[B"⟩ : MethodName) jdk_52_method_16_code 6 (some (.array .byte)) :: wc) ({ frames := 3, cells := 2, slots := 12, locals := 40 } : Room) #[(.ref b), (.int 0), (.int 4)] h0 [] (fun vq hq => ∃ (r : Addr) (kr : ClassId), vq = some (.ref r) ∧ h0.size ≤ r ∧ Arv Z hq r kr .byte (8 : Int32) [(.int (StrChars.lo8 x0)), (.int (StrChars.hi8 x0)), (.int (StrChars.lo8 x1)), (.int (StrChars.hi8 x1)), (.int (StrChars.lo8 x2)), (.int (StrChars.hi8 x2)), (.int (StrChars.lo8 x3)), (.int (StrChars.hi8 x3))] (.int 0)) := by
  refine own_enter #[.val (.ref b), .val (.int 0), .val (.int 4), .unset, .unset, .unset] pn_java_lang_StringUTF16_compress___CII__B (ef_ru_cmp4_0 b kb dv x0 x1 x2 x3) hWd.1 O0 all0 ?_
  intro p e s m below meth c T0 X0 hnm hret
  refine og_iloadN X0 1 d9_0 rfl rfl ?_
  refine own_arr X0 3 d9_1 (ow hw 23 rfl) (by decide) (cap := 4) (by decide) (by decide) (by decide) (by decide) rfl ?_
  intro T1 h1 b1 kb1 X1 K1 G1 U1 A1
  have f2 : Arv Z h1 b1 kb1 .byte (4 : Int32) [(.int 0), (.int 0), (.int 0), (.int 0)] (.int 0) := A1
  refine og_astoreN X1 4 #[.val (.ref b), .val (.int 0), .val (.int 4), .val (.ref b1), .unset, .unset] d9_3 rfl rfl rfl ?_
  refine og_aloadN X1 5 d9_4 rfl rfl rfl ?_
  refine og_iloadN X1 6 d9_5 rfl rfl ?_
  refine og_aloadN X1 7 d9_6 rfl rfl rfl ?_
  refine og_iconst X1 8 (0 : Int32) d9_7 rfl rfl ?_
  refine og_iloadN X1 9 d9_8 rfl rfl ?_
  have f3 := q0.keep K1 nin0
  refine own_stat X1 12 (argsL := [(.ref b), (.int 0), (.ref b1), (.int 0), (.int 4)]) (rest := []) d9_9 (ru_cmi4_0 l Z a0 hw n0 h1 hWd [] X1.old b kb dv b1 kb1 x0 x1 x2 x3 f3 f2 q1 (Nat.ne_of_lt (Nat.lt_of_lt_of_le q0.lt G1)) (own_svb X1 (om 0 rfl))) (ow hw 61 rfl) (ow hw 62 rfl) (ow hw 59 rfl) (ow hw 63 rfl) (by decide) (lenOf pd__28_5bCI_5bBII_29I rfl) rfl rfl rfl (W := 0) rfl (by decide) (by decide) (by decide) (by decide) (allS (om 0 rfl) all0) rfl ?_
  intro T4 h4 v4 X4 K4 hQ4
  obtain rfl := hQ4
  show OGo _ _ _ _ T4 (mkF m 12 #[.val (.ref b), .val (.int 0), .val (.int 4), .val (.ref b1), .unset, .unset] [(.int 0)])
  refine og_istore X4 14 #[.val (.ref b), .val (.int 0), .val (.int 4), .val (.ref b1), .val (.int 0), .unset] d9_12 rfl rfl ?_
  refine og_iload X4 16 d9_14 rfl rfl ?_
  refine og_iloadN X4 17 d9_16 rfl rfl ?_
  refine og_icmpN X4 20 d9_17 (XT.ii_eq_f (by decide)) rfl ?_
  refine og_aloadN X4 21 d9_20 rfl rfl rfl ?_
  refine og_iloadN X4 22 d9_21 rfl rfl ?_
  refine og_iloadN X4 23 d9_22 rfl rfl ?_
  have f5 := f3.keep K4 (ninS (Nat.ne_of_lt (Nat.lt_of_lt_of_le q0.lt G1)) nin0)
  refine own_stat X4 26 (argsL := [(.ref b), (.int 0), (.int 4)]) (rest := []) d9_23 (ru_tob4 l Z a0 hw n0 h4 hWd [] X4.old b kb dv x0 x1 x2 x3 f5 ) (ow hw 103 rfl) (ow hw 104 rfl) (ow hw 59 rfl) (ow hw 105 rfl) (by decide) (lenOf pd__28_5bCII_29_5bB rfl) rfl rfl rfl (W := 0) rfl (by decide) (by decide) (by decide) (by decide) all0 rfl ?_
  intro T6 h6 v6 X6 K6 hQ6
  obtain ⟨r6, kr6, rfl, ge_r6, f7⟩ := hQ6
  show OGo _ _ _ _ T6 (mkF m 26 #[.val (.ref b), .val (.int 0), .val (.int 4), .val (.ref b1), .val (.int 0), .unset] [(.ref r6)])
  refine og_astore X6 28 #[.val (.ref b), .val (.int 0), .val (.int 4), .val (.ref b1), .val (.int 0), .val (.ref r6)] d9_26 rfl rfl rfl ?_
  refine og_aload X6 30 d9_28 rfl rfl rfl ?_
  refine og_iload X6 32 d9_30 rfl rfl ?_
  refine own_stat X6 35 (argsL := [(.ref r6), (.int 0)]) (rest := []) d9_32 (rg_get l Z a0 hw n0 h6 hWd [] X6.old r6 kr6 [x0, x1, x2, x3] 0 f7 (Nat.le_of_ble_eq_true rfl) (Nat.le_of_ble_eq_true rfl) ) (ow hw 119 rfl) (ow hw 120 rfl) (ow hw 59 rfl) (ow hw 121 rfl) (by decide) (lenOf pd__28_5bBI_29C rfl) rfl rfl rfl (W := 0) rfl (by decide) (by decide) (by decide) (by decide) all0 rfl ?_
  intro T8 h8 v8 X8 K8 hQ8
  obtain rfl := hQ8
  show OGo _ _ _ _ T8 (mkF m 35 #[.val (.ref b), .val (.int 0), .val (.int 4), .val (.ref b1), .val (.int 0), .val (.ref r6)] [(.int (StrChars.pairCh (StrChars.lo8 x0) (StrChars.hi8 x0)))])
  refine og_sipush X8 38 (255 : Int32) d9_35 rfl rfl ?_
  refine og_icmpY X8 54 d9_38 (XT.ii_gt_t (by rw [StrChars.pair_says q2 q3]; exact q1)) (by decide) (by decide) ?_
  refine og_aload X8 56 d9_54 rfl rfl rfl ?_
  have f9 := f7.keep K8 nin0
  refine own_retA X8 d9_56 hret rfl rfl (by decide) (by decide) ?_
  exact ⟨r6, kr6, rfl, (Nat.le_trans (Nat.le_trans K1.1 K4.1) ge_r6), f9⟩
theorem ru_cmi4_1 (l : Launch) (Z : State) (a0 : Array Value) (hw : ∀ d ∈ tables_1, d.before a0 Z = true) (n0 : Nat) (h0 : Heap) (hWd : OWorld Z a0) (wc : List Jvm.Cond) (O0 : Old Z n0 h0) (b : Addr) (kb : ClassId) (dv : Value) (d : Addr) (kd : ClassId) (x0 : Int32) (x1 : Int32) (x2 : Int32) (x3 : Int32) (q0 : Arv Z h0 b kb .char (4 : Int32) [(.int x0), (.int x1), (.int x2), (.int x3)] dv) (q1 : Arv Z h0 d kd .byte (4 : Int32) [(.int 0), (.int 0), (.int 0), (.int 0)] (.int 0)) (q2 : ¬ (255 : Int32) < x0) (q3 : (255 : Int32) < x1) (q4 : b ≠ d) (g0 : n0 ≤ d ∧ d < h0.size) :
    OMet l Z own_EL n0 (⟨"java/lang/StringUTF16", "compress", "([CI[BII)I"⟩ : MethodName) (Jvm.Cond.code (⟨"java/lang/StringUTF16", "compress", "([CI[BII)I"⟩ : MethodName) jdk_52_method_21_code 7 (some .int) :: wc) ({ frames := 0, cells := 0, slots := 0, locals := 0 } : Room) #[(.ref b), (.int 0), (.ref d), (.int 0), (.int 4)] h0 [d] (fun vq hq => vq = some (.int 1)) := by
  refine own_enter #[.val (.ref b), .val (.int 0), .val (.ref d), .val (.int 0), .val (.int 4), .unset, .unset] pn_java_lang_StringUTF16_compress___CI_BII_I (ef_ru_cmi4_1 b kb dv d kd x0 x1 x2 x3) hWd.1 O0 (allS g0 all0) ?_
  intro p e s m below meth c T0 X0 hnm hret
  refine og_iconst X0 1 (0 : Int32) d10_0 rfl rfl ?_
  refine og_istore X0 3 #[.val (.ref b), .val (.int 0), .val (.ref d), .val (.int 0), .val (.int 4), .val (.int 0), .unset] d10_1 rfl rfl ?_
  refine og_iload X0 5 d10_3 rfl rfl ?_
  refine og_iload X0 7 d10_5 rfl rfl ?_
  refine og_icmpN X0 10 d10_7 (XT.ii_ge_f (by decide)) rfl ?_
  refine og_aloadN X0 11 d10_10 rfl rfl rfl ?_
  refine og_iloadN X0 12 d10_11 rfl rfl ?_
  refine own_ldC X0 13 d10_12 q0 (by decide) (by decide) rfl rfl ?_
  refine og_istore X0 15 #[.val (.ref b), .val (.int 0), .val (.ref d), .val (.int 0), .val (.int 4), .val (.int 0), .val (.int x0)] d10_13 rfl rfl ?_
  refine og_iload X0 17 d10_15 rfl rfl ?_
  refine og_sipush X0 20 (255 : Int32) d10_17 rfl rfl ?_
  refine og_icmpY X0 26 d10_20 (XT.ii_le_t q2) (by decide) (by decide) ?_
  refine og_aloadN X0 27 d10_26 rfl rfl rfl ?_
  refine og_iloadN X0 28 d10_27 rfl rfl ?_
  refine og_iload X0 30 d10_28 rfl rfl ?_
  refine og_i2b X0 31 d10_30 rfl ?_
  refine own_stB X0 32 d10_31 q1 (own_nbb _) (by decide) (by decide) (i := 0) (by decide) (Nat.le_of_ble_eq_true rfl) (om 0 rfl) rfl ?_
  intro T1 h1 X1 W1 K1 A1
  have f2 : Arv Z h1 d kd .byte (4 : Int32) [(.int ((x0).toInt8.toInt32)), (.int 0), (.int 0), (.int 0)] (.int 0) := A1
  refine og_iinc X1 35 #[.val (.ref b), .val (.int 1), .val (.ref d), .val (.int 0), .val (.int 4), .val (.int 0), .val (.int x0)] d10_32 rfl rfl rfl ?_
  refine og_iinc X1 38 #[.val (.ref b), .val (.int 1), .val (.ref d), .val (.int 1), .val (.int 4), .val (.int 0), .val (.int x0)] d10_35 rfl rfl rfl ?_
  refine og_iinc X1 41 #[.val (.ref b), .val (.int 1), .val (.ref d), .val (.int 1), .val (.int 4), .val (.int 1), .val (.int x0)] d10_38 rfl rfl rfl ?_
  refine og_goto X1 3 d10_41 (by decide) (by decide) ?_
  refine og_iload X1 5 d10_3 rfl rfl ?_
  refine og_iload X1 7 d10_5 rfl rfl ?_
  refine og_icmpN X1 10 d10_7 (XT.ii_ge_f (by decide)) rfl ?_
  refine og_aloadN X1 11 d10_10 rfl rfl rfl ?_
  refine og_iloadN X1 12 d10_11 rfl rfl ?_
  have f3 := q0.keep K1 (ninS q4 nin0)
  refine own_ldC X1 13 d10_12 f3 (by decide) (by decide) rfl rfl ?_
  refine og_istore X1 15 #[.val (.ref b), .val (.int 1), .val (.ref d), .val (.int 1), .val (.int 4), .val (.int 1), .val (.int x1)] d10_13 rfl rfl ?_
  refine og_iload X1 17 d10_15 rfl rfl ?_
  refine og_sipush X1 20 (255 : Int32) d10_17 rfl rfl ?_
  refine og_icmpN X1 23 d10_20 (XT.ii_le_f q3) rfl ?_
  refine og_iload X1 25 d10_23 rfl rfl ?_
  refine own_retI X1 d10_25 hret (by decide) (by decide) ?_
  exact rfl
theorem ru_cmp4_1 (l : Launch) (Z : State) (a0 : Array Value) (hw : ∀ d ∈ tables_1, d.before a0 Z = true) (n0 : Nat) (h0 : Heap) (hWd : OWorld Z a0) (wc : List Jvm.Cond) (O0 : Old Z n0 h0) (b : Addr) (kb : ClassId) (dv : Value) (x0 : Int32) (x1 : Int32) (x2 : Int32) (x3 : Int32) (q0 : Arv Z h0 b kb .char (4 : Int32) [(.int x0), (.int x1), (.int x2), (.int x3)] dv) (q1 : ¬ (255 : Int32) < x0) (q2 : (255 : Int32) < x1) (q3 : ¬ x0 < 0) (q4 : ¬ (65535 : Int32) < x0) (q5 : ¬ x1 < 0) (q6 : ¬ (65535 : Int32) < x1) (q7 : ¬ x2 < 0) (q8 : ¬ (65535 : Int32) < x2) (q9 : ¬ x3 < 0) (q10 : ¬ (65535 : Int32) < x3) :
    OMet l Z own_EL n0 (⟨"java/lang/StringUTF16", "compress", "([CII)[B"⟩ : MethodName) (Jvm.Cond.code (⟨"java/lang/StringUTF16", "compress", "([CII)[B"⟩ : MethodName) jdk_52_method_16_code 6 (some (.array .byte)) :: wc) ({ frames := 3, cells := 2, slots := 12, locals := 40 } : Room) #[(.ref b), (.int 0), (.int 4)] h0 [] (fun vq hq => ∃ (r : Addr) (kr : ClassId), vq = some (.ref r) ∧ h0.size ≤ r ∧ Arv Z hq r kr .byte (8 : Int32) [(.int (StrChars.lo8 x0)), (.int (StrChars.hi8 x0)), (.int (StrChars.lo8 x1)), (.int (StrChars.hi8 x1)), (.int (StrChars.lo8 x2)), (.int (StrChars.hi8 x2)), (.int (StrChars.lo8 x3)), (.int (StrChars.hi8 x3))] (.int 0)) := by
  refine own_enter #[.val (.ref b), .val (.int 0), .val (.int 4), .unset, .unset, .unset] pn_java_lang_StringUTF16_compress___CII__B (ef_ru_cmp4_1 b kb dv x0 x1 x2 x3) hWd.1 O0 all0 ?_
  intro p e s m below meth c T0 X0 hnm hret
  refine og_iloadN X0 1 d9_0 rfl rfl ?_
  refine own_arr X0 3 d9_1 (ow hw 23 rfl) (by decide) (cap := 4) (by decide) (by decide) (by decide) (by decide) rfl ?_
  intro T1 h1 b1 kb1 X1 K1 G1 U1 A1
  have f2 : Arv Z h1 b1 kb1 .byte (4 : Int32) [(.int 0), (.int 0), (.int 0), (.int 0)] (.int 0) := A1
  refine og_astoreN X1 4 #[.val (.ref b), .val (.int 0), .val (.int 4), .val (.ref b1), .unset, .unset] d9_3 rfl rfl rfl ?_
  refine og_aloadN X1 5 d9_4 rfl rfl rfl ?_
  refine og_iloadN X1 6 d9_5 rfl rfl ?_
  refine og_aloadN X1 7 d9_6 rfl rfl rfl ?_
  refine og_iconst X1 8 (0 : Int32) d9_7 rfl rfl ?_
  refine og_iloadN X1 9 d9_8 rfl rfl ?_
  have f3 := q0.keep K1 nin0
  refine own_stat X1 12 (argsL := [(.ref b), (.int 0), (.ref b1), (.int 0), (.int 4)]) (rest := []) d9_9 (ru_cmi4_1 l Z a0 hw n0 h1 hWd [] X1.old b kb dv b1 kb1 x0 x1 x2 x3 f3 f2 q1 q2 (Nat.ne_of_lt (Nat.lt_of_lt_of_le q0.lt G1)) (own_svb X1 (om 0 rfl))) (ow hw 61 rfl) (ow hw 62 rfl) (ow hw 59 rfl) (ow hw 63 rfl) (by decide) (lenOf pd__28_5bCI_5bBII_29I rfl) rfl rfl rfl (W := 0) rfl (by decide) (by decide) (by decide) (by decide) (allS (om 0 rfl) all0) rfl ?_
  intro T4 h4 v4 X4 K4 hQ4
  obtain rfl := hQ4
  show OGo _ _ _ _ T4 (mkF m 12 #[.val (.ref b), .val (.int 0), .val (.int 4), .val (.ref b1), .unset, .unset] [(.int 1)])
  refine og_istore X4 14 #[.val (.ref b), .val (.int 0), .val (.int 4), .val (.ref b1), .val (.int 1), .unset] d9_12 rfl rfl ?_
  refine og_iload X4 16 d9_14 rfl rfl ?_
  refine og_iloadN X4 17 d9_16 rfl rfl ?_
  refine og_icmpN X4 20 d9_17 (XT.ii_eq_f (by decide)) rfl ?_
  refine og_aloadN X4 21 d9_20 rfl rfl rfl ?_
  refine og_iloadN X4 22 d9_21 rfl rfl ?_
  refine og_iloadN X4 23 d9_22 rfl rfl ?_
  have f5 := f3.keep K4 (ninS (Nat.ne_of_lt (Nat.lt_of_lt_of_le q0.lt G1)) nin0)
  refine own_stat X4 26 (argsL := [(.ref b), (.int 0), (.int 4)]) (rest := []) d9_23 (ru_tob4 l Z a0 hw n0 h4 hWd [] X4.old b kb dv x0 x1 x2 x3 f5 ) (ow hw 103 rfl) (ow hw 104 rfl) (ow hw 59 rfl) (ow hw 105 rfl) (by decide) (lenOf pd__28_5bCII_29_5bB rfl) rfl rfl rfl (W := 0) rfl (by decide) (by decide) (by decide) (by decide) all0 rfl ?_
  intro T6 h6 v6 X6 K6 hQ6
  obtain ⟨r6, kr6, rfl, ge_r6, f7⟩ := hQ6
  show OGo _ _ _ _ T6 (mkF m 26 #[.val (.ref b), .val (.int 0), .val (.int 4), .val (.ref b1), .val (.int 1), .unset] [(.ref r6)])
  refine og_astore X6 28 #[.val (.ref b), .val (.int 0), .val (.int 4), .val (.ref b1), .val (.int 1), .val (.ref r6)] d9_26 rfl rfl rfl ?_
  refine og_aload X6 30 d9_28 rfl rfl rfl ?_
  refine og_iload X6 32 d9_30 rfl rfl ?_
  refine own_stat X6 35 (argsL := [(.ref r6), (.int 1)]) (rest := []) d9_32 (rg_get l Z a0 hw n0 h6 hWd [] X6.old r6 kr6 [x0, x1, x2, x3] 1 f7 (Nat.le_of_ble_eq_true rfl) (Nat.le_of_ble_eq_true rfl) ) (ow hw 119 rfl) (ow hw 120 rfl) (ow hw 59 rfl) (ow hw 121 rfl) (by decide) (lenOf pd__28_5bBI_29C rfl) rfl rfl rfl (W := 0) rfl (by decide) (by decide) (by decide) (by decide) all0 rfl ?_
  intro T8 h8 v8 X8 K8 hQ8
  obtain rfl := hQ8
  show OGo _ _ _ _ T8 (mkF m 35 #[.val (.ref b), .val (.int 0), .val (.int 4), .val (.ref b1), .val (.int 1), .val (.ref r6)] [(.int (StrChars.pairCh (StrChars.lo8 x1) (StrChars.hi8 x1)))])
  refine og_sipush X8 38 (255 : Int32) d9_35 rfl rfl ?_
  refine og_icmpY X8 54 d9_38 (XT.ii_gt_t (by rw [StrChars.pair_says q5 q6]; exact q2)) (by decide) (by decide) ?_
  refine og_aload X8 56 d9_54 rfl rfl rfl ?_
  have f9 := f7.keep K8 nin0
  refine own_retA X8 d9_56 hret rfl rfl (by decide) (by decide) ?_
  exact ⟨r6, kr6, rfl, (Nat.le_trans (Nat.le_trans K1.1 K4.1) ge_r6), f9⟩
theorem ru_cmi4_2 (l : Launch) (Z : State) (a0 : Array Value) (hw : ∀ d ∈ tables_1, d.before a0 Z = true) (n0 : Nat) (h0 : Heap) (hWd : OWorld Z a0) (wc : List Jvm.Cond) (O0 : Old Z n0 h0) (b : Addr) (kb : ClassId) (dv : Value) (d : Addr) (kd : ClassId) (x0 : Int32) (x1 : Int32) (x2 : Int32) (x3 : Int32) (q0 : Arv Z h0 b kb .char (4 : Int32) [(.int x0), (.int x1), (.int x2), (.int x3)] dv) (q1 : Arv Z h0 d kd .byte (4 : Int32) [(.int 0), (.int 0), (.int 0), (.int 0)] (.int 0)) (q2 : ¬ (255 : Int32) < x0) (q3 : ¬ (255 : Int32) < x1) (q4 : (255 : Int32) < x2) (q5 : b ≠ d) (g0 : n0 ≤ d ∧ d < h0.size) :
    OMet l Z own_EL n0 (⟨"java/lang/StringUTF16", "compress", "([CI[BII)I"⟩ : MethodName) (Jvm.Cond.code (⟨"java/lang/StringUTF16", "compress", "([CI[BII)I"⟩ : MethodName) jdk_52_method_21_code 7 (some .int) :: wc) ({ frames := 0, cells := 0, slots := 0, locals := 0 } : Room) #[(.ref b), (.int 0), (.ref d), (.int 0), (.int 4)] h0 [d] (fun vq hq => vq = some (.int 2)) := by
  refine own_enter #[.val (.ref b), .val (.int 0), .val (.ref d), .val (.int 0), .val (.int 4), .unset, .unset] pn_java_lang_StringUTF16_compress___CI_BII_I (ef_ru_cmi4_2 b kb dv d kd x0 x1 x2 x3) hWd.1 O0 (allS g0 all0) ?_
  intro p e s m below meth c T0 X0 hnm hret
  refine og_iconst X0 1 (0 : Int32) d10_0 rfl rfl ?_
  refine og_istore X0 3 #[.val (.ref b), .val (.int 0), .val (.ref d), .val (.int 0), .val (.int 4), .val (.int 0), .unset] d10_1 rfl rfl ?_
  refine og_iload X0 5 d10_3 rfl rfl ?_
  refine og_iload X0 7 d10_5 rfl rfl ?_
  refine og_icmpN X0 10 d10_7 (XT.ii_ge_f (by decide)) rfl ?_
  refine og_aloadN X0 11 d10_10 rfl rfl rfl ?_
  refine og_iloadN X0 12 d10_11 rfl rfl ?_
  refine own_ldC X0 13 d10_12 q0 (by decide) (by decide) rfl rfl ?_
  refine og_istore X0 15 #[.val (.ref b), .val (.int 0), .val (.ref d), .val (.int 0), .val (.int 4), .val (.int 0), .val (.int x0)] d10_13 rfl rfl ?_
  refine og_iload X0 17 d10_15 rfl rfl ?_
  refine og_sipush X0 20 (255 : Int32) d10_17 rfl rfl ?_
  refine og_icmpY X0 26 d10_20 (XT.ii_le_t q2) (by decide) (by decide) ?_
  refine og_aloadN X0 27 d10_26 rfl rfl rfl ?_
  refine og_iloadN X0 28 d10_27 rfl rfl ?_
  refine og_iload X0 30 d10_28 rfl rfl ?_
  refine og_i2b X0 31 d10_30 rfl ?_
  refine own_stB X0 32 d10_31 q1 (own_nbb _) (by decide) (by decide) (i := 0) (by decide) (Nat.le_of_ble_eq_true rfl) (om 0 rfl) rfl ?_
  intro T1 h1 X1 W1 K1 A1
  have f2 : Arv Z h1 d kd .byte (4 : Int32) [(.int ((x0).toInt8.toInt32)), (.int 0), (.int 0), (.int 0)] (.int 0) := A1
  refine og_iinc X1 35 #[.val (.ref b), .val (.int 1), .val (.ref d), .val (.int 0), .val (.int 4), .val (.int 0), .val (.int x0)] d10_32 rfl rfl rfl ?_
  refine og_iinc X1 38 #[.val (.ref b), .val (.int 1), .val (.ref d), .val (.int 1), .val (.int 4), .val (.int 0), .val (.int x0)] d10_35 rfl rfl rfl ?_
  refine og_iinc X1 41 #[.val (.ref b), .val (.int 1), .val (.ref d), .val (.int 1), .val (.int 4), .val (.int 1), .val (.int x0)] d10_38 rfl rfl rfl ?_
  refine og_goto X1 3 d10_41 (by decide) (by decide) ?_
  refine og_iload X1 5 d10_3 rfl rfl ?_
  refine og_iload X1 7 d10_5 rfl rfl ?_
  refine og_icmpN X1 10 d10_7 (XT.ii_ge_f (by decide)) rfl ?_
  refine og_aloadN X1 11 d10_10 rfl rfl rfl ?_
  refine og_iloadN X1 12 d10_11 rfl rfl ?_
  have f3 := q0.keep K1 (ninS q5 nin0)
  refine own_ldC X1 13 d10_12 f3 (by decide) (by decide) rfl rfl ?_
  refine og_istore X1 15 #[.val (.ref b), .val (.int 1), .val (.ref d), .val (.int 1), .val (.int 4), .val (.int 1), .val (.int x1)] d10_13 rfl rfl ?_
  refine og_iload X1 17 d10_15 rfl rfl ?_
  refine og_sipush X1 20 (255 : Int32) d10_17 rfl rfl ?_
  refine og_icmpY X1 26 d10_20 (XT.ii_le_t q3) (by decide) (by decide) ?_
  refine og_aloadN X1 27 d10_26 rfl rfl rfl ?_
  refine og_iloadN X1 28 d10_27 rfl rfl ?_
  refine og_iload X1 30 d10_28 rfl rfl ?_
  refine og_i2b X1 31 d10_30 rfl ?_
  refine own_stB X1 32 d10_31 f2 (own_nbb _) (by decide) (by decide) (i := 1) (by decide) (Nat.le_of_ble_eq_true rfl) (om 0 rfl) rfl ?_
  intro T4 h4 X4 W4 K4 A4
  have f5 : Arv Z h4 d kd .byte (4 : Int32) [(.int ((x0).toInt8.toInt32)), (.int ((x1).toInt8.toInt32)), (.int 0), (.int 0)] (.int 0) := A4
  refine og_iinc X4 35 #[.val (.ref b), .val (.int 2), .val (.ref d), .val (.int 1), .val (.int 4), .val (.int 1), .val (.int x1)] d10_32 rfl rfl rfl ?_
  refine og_iinc X4 38 #[.val (.ref b), .val (.int 2), .val (.ref d), .val (.int 2), .val (.int 4), .val (.int 1), .val (.int x1)] d10_35 rfl rfl rfl ?_
  refine og_iinc X4 41 #[.val (.ref b), .val (.int 2), .val (.ref d), .val (.int 2), .val (.int 4), .val (.int 2), .val (.int x1)] d10_38 rfl rfl rfl ?_
  refine og_goto X4 3 d10_41 (by decide) (by decide) ?_
  refine og_iload X4 5 d10_3 rfl rfl ?_
  refine og_iload X4 7 d10_5 rfl rfl ?_
  refine og_icmpN X4 10 d10_7 (XT.ii_ge_f (by decide)) rfl ?_
  refine og_aloadN X4 11 d10_10 rfl rfl rfl ?_
  refine og_iloadN X4 12 d10_11 rfl rfl ?_
  have f6 := f3.keep K4 (ninS q5 nin0)
  refine own_ldC X4 13 d10_12 f6 (by decide) (by decide) rfl rfl ?_
  refine og_istore X4 15 #[.val (.ref b), .val (.int 2), .val (.ref d), .val (.int 2), .val (.int 4), .val (.int 2), .val (.int x2)] d10_13 rfl rfl ?_
  refine og_iload X4 17 d10_15 rfl rfl ?_
  refine og_sipush X4 20 (255 : Int32) d10_17 rfl rfl ?_
  refine og_icmpN X4 23 d10_20 (XT.ii_le_f q4) rfl ?_
  refine og_iload X4 25 d10_23 rfl rfl ?_
  refine own_retI X4 d10_25 hret (by decide) (by decide) ?_
  exact rfl
theorem ru_cmp4_2 (l : Launch) (Z : State) (a0 : Array Value) (hw : ∀ d ∈ tables_1, d.before a0 Z = true) (n0 : Nat) (h0 : Heap) (hWd : OWorld Z a0) (wc : List Jvm.Cond) (O0 : Old Z n0 h0) (b : Addr) (kb : ClassId) (dv : Value) (x0 : Int32) (x1 : Int32) (x2 : Int32) (x3 : Int32) (q0 : Arv Z h0 b kb .char (4 : Int32) [(.int x0), (.int x1), (.int x2), (.int x3)] dv) (q1 : ¬ (255 : Int32) < x0) (q2 : ¬ (255 : Int32) < x1) (q3 : (255 : Int32) < x2) (q4 : ¬ x0 < 0) (q5 : ¬ (65535 : Int32) < x0) (q6 : ¬ x1 < 0) (q7 : ¬ (65535 : Int32) < x1) (q8 : ¬ x2 < 0) (q9 : ¬ (65535 : Int32) < x2) (q10 : ¬ x3 < 0) (q11 : ¬ (65535 : Int32) < x3) :
    OMet l Z own_EL n0 (⟨"java/lang/StringUTF16", "compress", "([CII)[B"⟩ : MethodName) (Jvm.Cond.code (⟨"java/lang/StringUTF16", "compress", "([CII)[B"⟩ : MethodName) jdk_52_method_16_code 6 (some (.array .byte)) :: wc) ({ frames := 3, cells := 2, slots := 12, locals := 40 } : Room) #[(.ref b), (.int 0), (.int 4)] h0 [] (fun vq hq => ∃ (r : Addr) (kr : ClassId), vq = some (.ref r) ∧ h0.size ≤ r ∧ Arv Z hq r kr .byte (8 : Int32) [(.int (StrChars.lo8 x0)), (.int (StrChars.hi8 x0)), (.int (StrChars.lo8 x1)), (.int (StrChars.hi8 x1)), (.int (StrChars.lo8 x2)), (.int (StrChars.hi8 x2)), (.int (StrChars.lo8 x3)), (.int (StrChars.hi8 x3))] (.int 0)) := by
  refine own_enter #[.val (.ref b), .val (.int 0), .val (.int 4), .unset, .unset, .unset] pn_java_lang_StringUTF16_compress___CII__B (ef_ru_cmp4_2 b kb dv x0 x1 x2 x3) hWd.1 O0 all0 ?_
  intro p e s m below meth c T0 X0 hnm hret
  refine og_iloadN X0 1 d9_0 rfl rfl ?_
  refine own_arr X0 3 d9_1 (ow hw 23 rfl) (by decide) (cap := 4) (by decide) (by decide) (by decide) (by decide) rfl ?_
  intro T1 h1 b1 kb1 X1 K1 G1 U1 A1
  have f2 : Arv Z h1 b1 kb1 .byte (4 : Int32) [(.int 0), (.int 0), (.int 0), (.int 0)] (.int 0) := A1
  refine og_astoreN X1 4 #[.val (.ref b), .val (.int 0), .val (.int 4), .val (.ref b1), .unset, .unset] d9_3 rfl rfl rfl ?_
  refine og_aloadN X1 5 d9_4 rfl rfl rfl ?_
  refine og_iloadN X1 6 d9_5 rfl rfl ?_
  refine og_aloadN X1 7 d9_6 rfl rfl rfl ?_
  refine og_iconst X1 8 (0 : Int32) d9_7 rfl rfl ?_
  refine og_iloadN X1 9 d9_8 rfl rfl ?_
  have f3 := q0.keep K1 nin0
  refine own_stat X1 12 (argsL := [(.ref b), (.int 0), (.ref b1), (.int 0), (.int 4)]) (rest := []) d9_9 (ru_cmi4_2 l Z a0 hw n0 h1 hWd [] X1.old b kb dv b1 kb1 x0 x1 x2 x3 f3 f2 q1 q2 q3 (Nat.ne_of_lt (Nat.lt_of_lt_of_le q0.lt G1)) (own_svb X1 (om 0 rfl))) (ow hw 61 rfl) (ow hw 62 rfl) (ow hw 59 rfl) (ow hw 63 rfl) (by decide) (lenOf pd__28_5bCI_5bBII_29I rfl) rfl rfl rfl (W := 0) rfl (by decide) (by decide) (by decide) (by decide) (allS (om 0 rfl) all0) rfl ?_
  intro T4 h4 v4 X4 K4 hQ4
  obtain rfl := hQ4
  show OGo _ _ _ _ T4 (mkF m 12 #[.val (.ref b), .val (.int 0), .val (.int 4), .val (.ref b1), .unset, .unset] [(.int 2)])
  refine og_istore X4 14 #[.val (.ref b), .val (.int 0), .val (.int 4), .val (.ref b1), .val (.int 2), .unset] d9_12 rfl rfl ?_
  refine og_iload X4 16 d9_14 rfl rfl ?_
  refine og_iloadN X4 17 d9_16 rfl rfl ?_
  refine og_icmpN X4 20 d9_17 (XT.ii_eq_f (by decide)) rfl ?_
  refine og_aloadN X4 21 d9_20 rfl rfl rfl ?_
  refine og_iloadN X4 22 d9_21 rfl rfl ?_
  refine og_iloadN X4 23 d9_22 rfl rfl ?_
  have f5 := f3.keep K4 (ninS (Nat.ne_of_lt (Nat.lt_of_lt_of_le q0.lt G1)) nin0)
  refine own_stat X4 26 (argsL := [(.ref b), (.int 0), (.int 4)]) (rest := []) d9_23 (ru_tob4 l Z a0 hw n0 h4 hWd [] X4.old b kb dv x0 x1 x2 x3 f5 ) (ow hw 103 rfl) (ow hw 104 rfl) (ow hw 59 rfl) (ow hw 105 rfl) (by decide) (lenOf pd__28_5bCII_29_5bB rfl) rfl rfl rfl (W := 0) rfl (by decide) (by decide) (by decide) (by decide) all0 rfl ?_
  intro T6 h6 v6 X6 K6 hQ6
  obtain ⟨r6, kr6, rfl, ge_r6, f7⟩ := hQ6
  show OGo _ _ _ _ T6 (mkF m 26 #[.val (.ref b), .val (.int 0), .val (.int 4), .val (.ref b1), .val (.int 2), .unset] [(.ref r6)])
  refine og_astore X6 28 #[.val (.ref b), .val (.int 0), .val (.int 4), .val (.ref b1), .val (.int 2), .val (.ref r6)] d9_26 rfl rfl rfl ?_
  refine og_aload X6 30 d9_28 rfl rfl rfl ?_
  refine og_iload X6 32 d9_30 rfl rfl ?_
  refine own_stat X6 35 (argsL := [(.ref r6), (.int 2)]) (rest := []) d9_32 (rg_get l Z a0 hw n0 h6 hWd [] X6.old r6 kr6 [x0, x1, x2, x3] 2 f7 (Nat.le_of_ble_eq_true rfl) (Nat.le_of_ble_eq_true rfl) ) (ow hw 119 rfl) (ow hw 120 rfl) (ow hw 59 rfl) (ow hw 121 rfl) (by decide) (lenOf pd__28_5bBI_29C rfl) rfl rfl rfl (W := 0) rfl (by decide) (by decide) (by decide) (by decide) all0 rfl ?_
  intro T8 h8 v8 X8 K8 hQ8
  obtain rfl := hQ8
  show OGo _ _ _ _ T8 (mkF m 35 #[.val (.ref b), .val (.int 0), .val (.int 4), .val (.ref b1), .val (.int 2), .val (.ref r6)] [(.int (StrChars.pairCh (StrChars.lo8 x2) (StrChars.hi8 x2)))])
  refine og_sipush X8 38 (255 : Int32) d9_35 rfl rfl ?_
  refine og_icmpY X8 54 d9_38 (XT.ii_gt_t (by rw [StrChars.pair_says q8 q9]; exact q3)) (by decide) (by decide) ?_
  refine og_aload X8 56 d9_54 rfl rfl rfl ?_
  have f9 := f7.keep K8 nin0
  refine own_retA X8 d9_56 hret rfl rfl (by decide) (by decide) ?_
  exact ⟨r6, kr6, rfl, (Nat.le_trans (Nat.le_trans K1.1 K4.1) ge_r6), f9⟩
theorem ru_cmi4_3 (l : Launch) (Z : State) (a0 : Array Value) (hw : ∀ d ∈ tables_1, d.before a0 Z = true) (n0 : Nat) (h0 : Heap) (hWd : OWorld Z a0) (wc : List Jvm.Cond) (O0 : Old Z n0 h0) (b : Addr) (kb : ClassId) (dv : Value) (d : Addr) (kd : ClassId) (x0 : Int32) (x1 : Int32) (x2 : Int32) (x3 : Int32) (q0 : Arv Z h0 b kb .char (4 : Int32) [(.int x0), (.int x1), (.int x2), (.int x3)] dv) (q1 : Arv Z h0 d kd .byte (4 : Int32) [(.int 0), (.int 0), (.int 0), (.int 0)] (.int 0)) (q2 : ¬ (255 : Int32) < x0) (q3 : ¬ (255 : Int32) < x1) (q4 : ¬ (255 : Int32) < x2) (q5 : (255 : Int32) < x3) (q6 : b ≠ d) (g0 : n0 ≤ d ∧ d < h0.size) :
    OMet l Z own_EL n0 (⟨"java/lang/StringUTF16", "compress", "([CI[BII)I"⟩ : MethodName) (Jvm.Cond.code (⟨"java/lang/StringUTF16", "compress", "([CI[BII)I"⟩ : MethodName) jdk_52_method_21_code 7 (some .int) :: wc) ({ frames := 0, cells := 0, slots := 0, locals := 0 } : Room) #[(.ref b), (.int 0), (.ref d), (.int 0), (.int 4)] h0 [d] (fun vq hq => vq = some (.int 3)) := by
  refine own_enter #[.val (.ref b), .val (.int 0), .val (.ref d), .val (.int 0), .val (.int 4), .unset, .unset] pn_java_lang_StringUTF16_compress___CI_BII_I (ef_ru_cmi4_3 b kb dv d kd x0 x1 x2 x3) hWd.1 O0 (allS g0 all0) ?_
  intro p e s m below meth c T0 X0 hnm hret
  refine og_iconst X0 1 (0 : Int32) d10_0 rfl rfl ?_
  refine og_istore X0 3 #[.val (.ref b), .val (.int 0), .val (.ref d), .val (.int 0), .val (.int 4), .val (.int 0), .unset] d10_1 rfl rfl ?_
  refine og_iload X0 5 d10_3 rfl rfl ?_
  refine og_iload X0 7 d10_5 rfl rfl ?_
  refine og_icmpN X0 10 d10_7 (XT.ii_ge_f (by decide)) rfl ?_
  refine og_aloadN X0 11 d10_10 rfl rfl rfl ?_
  refine og_iloadN X0 12 d10_11 rfl rfl ?_
  refine own_ldC X0 13 d10_12 q0 (by decide) (by decide) rfl rfl ?_
  refine og_istore X0 15 #[.val (.ref b), .val (.int 0), .val (.ref d), .val (.int 0), .val (.int 4), .val (.int 0), .val (.int x0)] d10_13 rfl rfl ?_
  refine og_iload X0 17 d10_15 rfl rfl ?_
  refine og_sipush X0 20 (255 : Int32) d10_17 rfl rfl ?_
  refine og_icmpY X0 26 d10_20 (XT.ii_le_t q2) (by decide) (by decide) ?_
  refine og_aloadN X0 27 d10_26 rfl rfl rfl ?_
  refine og_iloadN X0 28 d10_27 rfl rfl ?_
  refine og_iload X0 30 d10_28 rfl rfl ?_
  refine og_i2b X0 31 d10_30 rfl ?_
  refine own_stB X0 32 d10_31 q1 (own_nbb _) (by decide) (by decide) (i := 0) (by decide) (Nat.le_of_ble_eq_true rfl) (om 0 rfl) rfl ?_
  intro T1 h1 X1 W1 K1 A1
  have f2 : Arv Z h1 d kd .byte (4 : Int32) [(.int ((x0).toInt8.toInt32)), (.int 0), (.int 0), (.int 0)] (.int 0) := A1
  refine og_iinc X1 35 #[.val (.ref b), .val (.int 1), .val (.ref d), .val (.int 0), .val (.int 4), .val (.int 0), .val (.int x0)] d10_32 rfl rfl rfl ?_
  refine og_iinc X1 38 #[.val (.ref b), .val (.int 1), .val (.ref d), .val (.int 1), .val (.int 4), .val (.int 0), .val (.int x0)] d10_35 rfl rfl rfl ?_
  refine og_iinc X1 41 #[.val (.ref b), .val (.int 1), .val (.ref d), .val (.int 1), .val (.int 4), .val (.int 1), .val (.int x0)] d10_38 rfl rfl rfl ?_
  refine og_goto X1 3 d10_41 (by decide) (by decide) ?_
  refine og_iload X1 5 d10_3 rfl rfl ?_
  refine og_iload X1 7 d10_5 rfl rfl ?_
  refine og_icmpN X1 10 d10_7 (XT.ii_ge_f (by decide)) rfl ?_
  refine og_aloadN X1 11 d10_10 rfl rfl rfl ?_
  refine og_iloadN X1 12 d10_11 rfl rfl ?_
  have f3 := q0.keep K1 (ninS q6 nin0)
  refine own_ldC X1 13 d10_12 f3 (by decide) (by decide) rfl rfl ?_
  refine og_istore X1 15 #[.val (.ref b), .val (.int 1), .val (.ref d), .val (.int 1), .val (.int 4), .val (.int 1), .val (.int x1)] d10_13 rfl rfl ?_
  refine og_iload X1 17 d10_15 rfl rfl ?_
  refine og_sipush X1 20 (255 : Int32) d10_17 rfl rfl ?_
  refine og_icmpY X1 26 d10_20 (XT.ii_le_t q3) (by decide) (by decide) ?_
  refine og_aloadN X1 27 d10_26 rfl rfl rfl ?_
  refine og_iloadN X1 28 d10_27 rfl rfl ?_
  refine og_iload X1 30 d10_28 rfl rfl ?_
  refine og_i2b X1 31 d10_30 rfl ?_
  refine own_stB X1 32 d10_31 f2 (own_nbb _) (by decide) (by decide) (i := 1) (by decide) (Nat.le_of_ble_eq_true rfl) (om 0 rfl) rfl ?_
  intro T4 h4 X4 W4 K4 A4
  have f5 : Arv Z h4 d kd .byte (4 : Int32) [(.int ((x0).toInt8.toInt32)), (.int ((x1).toInt8.toInt32)), (.int 0), (.int 0)] (.int 0) := A4
  refine og_iinc X4 35 #[.val (.ref b), .val (.int 2), .val (.ref d), .val (.int 1), .val (.int 4), .val (.int 1), .val (.int x1)] d10_32 rfl rfl rfl ?_
  refine og_iinc X4 38 #[.val (.ref b), .val (.int 2), .val (.ref d), .val (.int 2), .val (.int 4), .val (.int 1), .val (.int x1)] d10_35 rfl rfl rfl ?_
  refine og_iinc X4 41 #[.val (.ref b), .val (.int 2), .val (.ref d), .val (.int 2), .val (.int 4), .val (.int 2), .val (.int x1)] d10_38 rfl rfl rfl ?_
  refine og_goto X4 3 d10_41 (by decide) (by decide) ?_
  refine og_iload X4 5 d10_3 rfl rfl ?_
  refine og_iload X4 7 d10_5 rfl rfl ?_
  refine og_icmpN X4 10 d10_7 (XT.ii_ge_f (by decide)) rfl ?_
  refine og_aloadN X4 11 d10_10 rfl rfl rfl ?_
  refine og_iloadN X4 12 d10_11 rfl rfl ?_
  have f6 := f3.keep K4 (ninS q6 nin0)
  refine own_ldC X4 13 d10_12 f6 (by decide) (by decide) rfl rfl ?_
  refine og_istore X4 15 #[.val (.ref b), .val (.int 2), .val (.ref d), .val (.int 2), .val (.int 4), .val (.int 2), .val (.int x2)] d10_13 rfl rfl ?_
  refine og_iload X4 17 d10_15 rfl rfl ?_
  refine og_sipush X4 20 (255 : Int32) d10_17 rfl rfl ?_
  refine og_icmpY X4 26 d10_20 (XT.ii_le_t q4) (by decide) (by decide) ?_
  refine og_aloadN X4 27 d10_26 rfl rfl rfl ?_
  refine og_iloadN X4 28 d10_27 rfl rfl ?_
  refine og_iload X4 30 d10_28 rfl rfl ?_
  refine og_i2b X4 31 d10_30 rfl ?_
  refine own_stB X4 32 d10_31 f5 (own_nbb _) (by decide) (by decide) (i := 2) (by decide) (Nat.le_of_ble_eq_true rfl) (om 0 rfl) rfl ?_
  intro T7 h7 X7 W7 K7 A7
  have f8 : Arv Z h7 d kd .byte (4 : Int32) [(.int ((x0).toInt8.toInt32)), (.int ((x1).toInt8.toInt32)), (.int ((x2).toInt8.toInt32)), (.int 0)] (.int 0) := A7
  refine og_iinc X7 35 #[.val (.ref b), .val (.int 3), .val (.ref d), .val (.int 2), .val (.int 4), .val (.int 2), .val (.int x2)] d10_32 rfl rfl rfl ?_
  refine og_iinc X7 38 #[.val (.ref b), .val (.int 3), .val (.ref d), .val (.int 3), .val (.int 4), .val (.int 2), .val (.int x2)] d10_35 rfl rfl rfl ?_
  refine og_iinc X7 41 #[.val (.ref b), .val (.int 3), .val (.ref d), .val (.int 3), .val (.int 4), .val (.int 3), .val (.int x2)] d10_38 rfl rfl rfl ?_
  refine og_goto X7 3 d10_41 (by decide) (by decide) ?_
  refine og_iload X7 5 d10_3 rfl rfl ?_
  refine og_iload X7 7 d10_5 rfl rfl ?_
  refine og_icmpN X7 10 d10_7 (XT.ii_ge_f (by decide)) rfl ?_
  refine og_aloadN X7 11 d10_10 rfl rfl rfl ?_
  refine og_iloadN X7 12 d10_11 rfl rfl ?_
  have f9 := f6.keep K7 (ninS q6 nin0)
  refine own_ldC X7 13 d10_12 f9 (by decide) (by decide) rfl rfl ?_
  refine og_istore X7 15 #[.val (.ref b), .val (.int 3), .val (.ref d), .val (.int 3), .val (.int 4), .val (.int 3), .val (.int x3)] d10_13 rfl rfl ?_
  refine og_iload X7 17 d10_15 rfl rfl ?_
  refine og_sipush X7 20 (255 : Int32) d10_17 rfl rfl ?_
  refine og_icmpN X7 23 d10_20 (XT.ii_le_f q5) rfl ?_
  refine og_iload X7 25 d10_23 rfl rfl ?_
  refine own_retI X7 d10_25 hret (by decide) (by decide) ?_
  exact rfl
theorem ru_cmp4_3 (l : Launch) (Z : State) (a0 : Array Value) (hw : ∀ d ∈ tables_1, d.before a0 Z = true) (n0 : Nat) (h0 : Heap) (hWd : OWorld Z a0) (wc : List Jvm.Cond) (O0 : Old Z n0 h0) (b : Addr) (kb : ClassId) (dv : Value) (x0 : Int32) (x1 : Int32) (x2 : Int32) (x3 : Int32) (q0 : Arv Z h0 b kb .char (4 : Int32) [(.int x0), (.int x1), (.int x2), (.int x3)] dv) (q1 : ¬ (255 : Int32) < x0) (q2 : ¬ (255 : Int32) < x1) (q3 : ¬ (255 : Int32) < x2) (q4 : (255 : Int32) < x3) (q5 : ¬ x0 < 0) (q6 : ¬ (65535 : Int32) < x0) (q7 : ¬ x1 < 0) (q8 : ¬ (65535 : Int32) < x1) (q9 : ¬ x2 < 0) (q10 : ¬ (65535 : Int32) < x2) (q11 : ¬ x3 < 0) (q12 : ¬ (65535 : Int32) < x3) :
    OMet l Z own_EL n0 (⟨"java/lang/StringUTF16", "compress", "([CII)[B"⟩ : MethodName) (Jvm.Cond.code (⟨"java/lang/StringUTF16", "compress", "([CII)[B"⟩ : MethodName) jdk_52_method_16_code 6 (some (.array .byte)) :: wc) ({ frames := 3, cells := 2, slots := 12, locals := 40 } : Room) #[(.ref b), (.int 0), (.int 4)] h0 [] (fun vq hq => ∃ (r : Addr) (kr : ClassId), vq = some (.ref r) ∧ h0.size ≤ r ∧ Arv Z hq r kr .byte (8 : Int32) [(.int (StrChars.lo8 x0)), (.int (StrChars.hi8 x0)), (.int (StrChars.lo8 x1)), (.int (StrChars.hi8 x1)), (.int (StrChars.lo8 x2)), (.int (StrChars.hi8 x2)), (.int (StrChars.lo8 x3)), (.int (StrChars.hi8 x3))] (.int 0)) := by
  refine own_enter #[.val (.ref b), .val (.int 0), .val (.int 4), .unset, .unset, .unset] pn_java_lang_StringUTF16_compress___CII__B (ef_ru_cmp4_3 b kb dv x0 x1 x2 x3) hWd.1 O0 all0 ?_
  intro p e s m below meth c T0 X0 hnm hret
  refine og_iloadN X0 1 d9_0 rfl rfl ?_
  refine own_arr X0 3 d9_1 (ow hw 23 rfl) (by decide) (cap := 4) (by decide) (by decide) (by decide) (by decide) rfl ?_
  intro T1 h1 b1 kb1 X1 K1 G1 U1 A1
  have f2 : Arv Z h1 b1 kb1 .byte (4 : Int32) [(.int 0), (.int 0), (.int 0), (.int 0)] (.int 0) := A1
  refine og_astoreN X1 4 #[.val (.ref b), .val (.int 0), .val (.int 4), .val (.ref b1), .unset, .unset] d9_3 rfl rfl rfl ?_
  refine og_aloadN X1 5 d9_4 rfl rfl rfl ?_
  refine og_iloadN X1 6 d9_5 rfl rfl ?_
  refine og_aloadN X1 7 d9_6 rfl rfl rfl ?_
  refine og_iconst X1 8 (0 : Int32) d9_7 rfl rfl ?_
  refine og_iloadN X1 9 d9_8 rfl rfl ?_
  have f3 := q0.keep K1 nin0
  refine own_stat X1 12 (argsL := [(.ref b), (.int 0), (.ref b1), (.int 0), (.int 4)]) (rest := []) d9_9 (ru_cmi4_3 l Z a0 hw n0 h1 hWd [] X1.old b kb dv b1 kb1 x0 x1 x2 x3 f3 f2 q1 q2 q3 q4 (Nat.ne_of_lt (Nat.lt_of_lt_of_le q0.lt G1)) (own_svb X1 (om 0 rfl))) (ow hw 61 rfl) (ow hw 62 rfl) (ow hw 59 rfl) (ow hw 63 rfl) (by decide) (lenOf pd__28_5bCI_5bBII_29I rfl) rfl rfl rfl (W := 0) rfl (by decide) (by decide) (by decide) (by decide) (allS (om 0 rfl) all0) rfl ?_
  intro T4 h4 v4 X4 K4 hQ4
  obtain rfl := hQ4
  show OGo _ _ _ _ T4 (mkF m 12 #[.val (.ref b), .val (.int 0), .val (.int 4), .val (.ref b1), .unset, .unset] [(.int 3)])
  refine og_istore X4 14 #[.val (.ref b), .val (.int 0), .val (.int 4), .val (.ref b1), .val (.int 3), .unset] d9_12 rfl rfl ?_
  refine og_iload X4 16 d9_14 rfl rfl ?_
  refine og_iloadN X4 17 d9_16 rfl rfl ?_
  refine og_icmpN X4 20 d9_17 (XT.ii_eq_f (by decide)) rfl ?_
  refine og_aloadN X4 21 d9_20 rfl rfl rfl ?_
  refine og_iloadN X4 22 d9_21 rfl rfl ?_
  refine og_iloadN X4 23 d9_22 rfl rfl ?_
  have f5 := f3.keep K4 (ninS (Nat.ne_of_lt (Nat.lt_of_lt_of_le q0.lt G1)) nin0)
  refine own_stat X4 26 (argsL := [(.ref b), (.int 0), (.int 4)]) (rest := []) d9_23 (ru_tob4 l Z a0 hw n0 h4 hWd [] X4.old b kb dv x0 x1 x2 x3 f5 ) (ow hw 103 rfl) (ow hw 104 rfl) (ow hw 59 rfl) (ow hw 105 rfl) (by decide) (lenOf pd__28_5bCII_29_5bB rfl) rfl rfl rfl (W := 0) rfl (by decide) (by decide) (by decide) (by decide) all0 rfl ?_
  intro T6 h6 v6 X6 K6 hQ6
  obtain ⟨r6, kr6, rfl, ge_r6, f7⟩ := hQ6
  show OGo _ _ _ _ T6 (mkF m 26 #[.val (.ref b), .val (.int 0), .val (.int 4), .val (.ref b1), .val (.int 3), .unset] [(.ref r6)])
  refine og_astore X6 28 #[.val (.ref b), .val (.int 0), .val (.int 4), .val (.ref b1), .val (.int 3), .val (.ref r6)] d9_26 rfl rfl rfl ?_
  refine og_aload X6 30 d9_28 rfl rfl rfl ?_
  refine og_iload X6 32 d9_30 rfl rfl ?_
  refine own_stat X6 35 (argsL := [(.ref r6), (.int 3)]) (rest := []) d9_32 (rg_get l Z a0 hw n0 h6 hWd [] X6.old r6 kr6 [x0, x1, x2, x3] 3 f7 (Nat.le_of_ble_eq_true rfl) (Nat.le_of_ble_eq_true rfl) ) (ow hw 119 rfl) (ow hw 120 rfl) (ow hw 59 rfl) (ow hw 121 rfl) (by decide) (lenOf pd__28_5bBI_29C rfl) rfl rfl rfl (W := 0) rfl (by decide) (by decide) (by decide) (by decide) all0 rfl ?_
  intro T8 h8 v8 X8 K8 hQ8
  obtain rfl := hQ8
  show OGo _ _ _ _ T8 (mkF m 35 #[.val (.ref b), .val (.int 0), .val (.int 4), .val (.ref b1), .val (.int 3), .val (.ref r6)] [(.int (StrChars.pairCh (StrChars.lo8 x3) (StrChars.hi8 x3)))])
  refine og_sipush X8 38 (255 : Int32) d9_35 rfl rfl ?_
  refine og_icmpY X8 54 d9_38 (XT.ii_gt_t (by rw [StrChars.pair_says q11 q12]; exact q4)) (by decide) (by decide) ?_
  refine og_aload X8 56 d9_54 rfl rfl rfl ?_
  have f9 := f7.keep K8 nin0
  refine own_retA X8 d9_56 hret rfl rfl (by decide) (by decide) ?_
  exact ⟨r6, kr6, rfl, (Nat.le_trans (Nat.le_trans K1.1 K4.1) ge_r6), f9⟩
theorem ru_cmi4_4 (l : Launch) (Z : State) (a0 : Array Value) (hw : ∀ d ∈ tables_1, d.before a0 Z = true) (n0 : Nat) (h0 : Heap) (hWd : OWorld Z a0) (wc : List Jvm.Cond) (O0 : Old Z n0 h0) (b : Addr) (kb : ClassId) (dv : Value) (d : Addr) (kd : ClassId) (x0 : Int32) (x1 : Int32) (x2 : Int32) (x3 : Int32) (q0 : Arv Z h0 b kb .char (4 : Int32) [(.int x0), (.int x1), (.int x2), (.int x3)] dv) (q1 : Arv Z h0 d kd .byte (4 : Int32) [(.int 0), (.int 0), (.int 0), (.int 0)] (.int 0)) (q2 : ¬ (255 : Int32) < x0) (q3 : ¬ (255 : Int32) < x1) (q4 : ¬ (255 : Int32) < x2) (q5 : ¬ (255 : Int32) < x3) (q6 : b ≠ d) (g0 : n0 ≤ d ∧ d < h0.size) :
    OMet l Z own_EL n0 (⟨"java/lang/StringUTF16", "compress", "([CI[BII)I"⟩ : MethodName) (Jvm.Cond.code (⟨"java/lang/StringUTF16", "compress", "([CI[BII)I"⟩ : MethodName) jdk_52_method_21_code 7 (some .int) :: wc) ({ frames := 0, cells := 0, slots := 0, locals := 0 } : Room) #[(.ref b), (.int 0), (.ref d), (.int 0), (.int 4)] h0 [d] (fun vq hq => vq = some (.int 4) ∧ Arv Z hq d kd .byte (4 : Int32) [(.int ((x0).toInt8.toInt32)), (.int ((x1).toInt8.toInt32)), (.int ((x2).toInt8.toInt32)), (.int ((x3).toInt8.toInt32))] (.int 0)) := by
  refine own_enter #[.val (.ref b), .val (.int 0), .val (.ref d), .val (.int 0), .val (.int 4), .unset, .unset] pn_java_lang_StringUTF16_compress___CI_BII_I (ef_ru_cmi4_4 b kb dv d kd x0 x1 x2 x3) hWd.1 O0 (allS g0 all0) ?_
  intro p e s m below meth c T0 X0 hnm hret
  refine og_iconst X0 1 (0 : Int32) d10_0 rfl rfl ?_
  refine og_istore X0 3 #[.val (.ref b), .val (.int 0), .val (.ref d), .val (.int 0), .val (.int 4), .val (.int 0), .unset] d10_1 rfl rfl ?_
  refine og_iload X0 5 d10_3 rfl rfl ?_
  refine og_iload X0 7 d10_5 rfl rfl ?_
  refine og_icmpN X0 10 d10_7 (XT.ii_ge_f (by decide)) rfl ?_
  refine og_aloadN X0 11 d10_10 rfl rfl rfl ?_
  refine og_iloadN X0 12 d10_11 rfl rfl ?_
  refine own_ldC X0 13 d10_12 q0 (by decide) (by decide) rfl rfl ?_
  refine og_istore X0 15 #[.val (.ref b), .val (.int 0), .val (.ref d), .val (.int 0), .val (.int 4), .val (.int 0), .val (.int x0)] d10_13 rfl rfl ?_
  refine og_iload X0 17 d10_15 rfl rfl ?_
  refine og_sipush X0 20 (255 : Int32) d10_17 rfl rfl ?_
  refine og_icmpY X0 26 d10_20 (XT.ii_le_t q2) (by decide) (by decide) ?_
  refine og_aloadN X0 27 d10_26 rfl rfl rfl ?_
  refine og_iloadN X0 28 d10_27 rfl rfl ?_
  refine og_iload X0 30 d10_28 rfl rfl ?_
  refine og_i2b X0 31 d10_30 rfl ?_
  refine own_stB X0 32 d10_31 q1 (own_nbb _) (by decide) (by decide) (i := 0) (by decide) (Nat.le_of_ble_eq_true rfl) (om 0 rfl) rfl ?_
  intro T1 h1 X1 W1 K1 A1
  have f2 : Arv Z h1 d kd .byte (4 : Int32) [(.int ((x0).toInt8.toInt32)), (.int 0), (.int 0), (.int 0)] (.int 0) := A1
  refine og_iinc X1 35 #[.val (.ref b), .val (.int 1), .val (.ref d), .val (.int 0), .val (.int 4), .val (.int 0), .val (.int x0)] d10_32 rfl rfl rfl ?_
  refine og_iinc X1 38 #[.val (.ref b), .val (.int 1), .val (.ref d), .val (.int 1), .val (.int 4), .val (.int 0), .val (.int x0)] d10_35 rfl rfl rfl ?_
  refine og_iinc X1 41 #[.val (.ref b), .val (.int 1), .val (.ref d), .val (.int 1), .val (.int 4), .val (.int 1), .val (.int x0)] d10_38 rfl rfl rfl ?_
  refine og_goto X1 3 d10_41 (by decide) (by decide) ?_
  refine og_iload X1 5 d10_3 rfl rfl ?_
  refine og_iload X1 7 d10_5 rfl rfl ?_
  refine og_icmpN X1 10 d10_7 (XT.ii_ge_f (by decide)) rfl ?_
  refine og_aloadN X1 11 d10_10 rfl rfl rfl ?_
  refine og_iloadN X1 12 d10_11 rfl rfl ?_
  have f3 := q0.keep K1 (ninS q6 nin0)
  refine own_ldC X1 13 d10_12 f3 (by decide) (by decide) rfl rfl ?_
  refine og_istore X1 15 #[.val (.ref b), .val (.int 1), .val (.ref d), .val (.int 1), .val (.int 4), .val (.int 1), .val (.int x1)] d10_13 rfl rfl ?_
  refine og_iload X1 17 d10_15 rfl rfl ?_
  refine og_sipush X1 20 (255 : Int32) d10_17 rfl rfl ?_
  refine og_icmpY X1 26 d10_20 (XT.ii_le_t q3) (by decide) (by decide) ?_
  refine og_aloadN X1 27 d10_26 rfl rfl rfl ?_
  refine og_iloadN X1 28 d10_27 rfl rfl ?_
  refine og_iload X1 30 d10_28 rfl rfl ?_
  refine og_i2b X1 31 d10_30 rfl ?_
  refine own_stB X1 32 d10_31 f2 (own_nbb _) (by decide) (by decide) (i := 1) (by decide) (Nat.le_of_ble_eq_true rfl) (om 0 rfl) rfl ?_
  intro T4 h4 X4 W4 K4 A4
  have f5 : Arv Z h4 d kd .byte (4 : Int32) [(.int ((x0).toInt8.toInt32)), (.int ((x1).toInt8.toInt32)), (.int 0), (.int 0)] (.int 0) := A4
  refine og_iinc X4 35 #[.val (.ref b), .val (.int 2), .val (.ref d), .val (.int 1), .val (.int 4), .val (.int 1), .val (.int x1)] d10_32 rfl rfl rfl ?_
  refine og_iinc X4 38 #[.val (.ref b), .val (.int 2), .val (.ref d), .val (.int 2), .val (.int 4), .val (.int 1), .val (.int x1)] d10_35 rfl rfl rfl ?_
  refine og_iinc X4 41 #[.val (.ref b), .val (.int 2), .val (.ref d), .val (.int 2), .val (.int 4), .val (.int 2), .val (.int x1)] d10_38 rfl rfl rfl ?_
  refine og_goto X4 3 d10_41 (by decide) (by decide) ?_
  refine og_iload X4 5 d10_3 rfl rfl ?_
  refine og_iload X4 7 d10_5 rfl rfl ?_
  refine og_icmpN X4 10 d10_7 (XT.ii_ge_f (by decide)) rfl ?_
  refine og_aloadN X4 11 d10_10 rfl rfl rfl ?_
  refine og_iloadN X4 12 d10_11 rfl rfl ?_
  have f6 := f3.keep K4 (ninS q6 nin0)
  refine own_ldC X4 13 d10_12 f6 (by decide) (by decide) rfl rfl ?_
  refine og_istore X4 15 #[.val (.ref b), .val (.int 2), .val (.ref d), .val (.int 2), .val (.int 4), .val (.int 2), .val (.int x2)] d10_13 rfl rfl ?_
  refine og_iload X4 17 d10_15 rfl rfl ?_
  refine og_sipush X4 20 (255 : Int32) d10_17 rfl rfl ?_
  refine og_icmpY X4 26 d10_20 (XT.ii_le_t q4) (by decide) (by decide) ?_
  refine og_aloadN X4 27 d10_26 rfl rfl rfl ?_
  refine og_iloadN X4 28 d10_27 rfl rfl ?_
  refine og_iload X4 30 d10_28 rfl rfl ?_
  refine og_i2b X4 31 d10_30 rfl ?_
  refine own_stB X4 32 d10_31 f5 (own_nbb _) (by decide) (by decide) (i := 2) (by decide) (Nat.le_of_ble_eq_true rfl) (om 0 rfl) rfl ?_
  intro T7 h7 X7 W7 K7 A7
  have f8 : Arv Z h7 d kd .byte (4 : Int32) [(.int ((x0).toInt8.toInt32)), (.int ((x1).toInt8.toInt32)), (.int ((x2).toInt8.toInt32)), (.int 0)] (.int 0) := A7
  refine og_iinc X7 35 #[.val (.ref b), .val (.int 3), .val (.ref d), .val (.int 2), .val (.int 4), .val (.int 2), .val (.int x2)] d10_32 rfl rfl rfl ?_
  refine og_iinc X7 38 #[.val (.ref b), .val (.int 3), .val (.ref d), .val (.int 3), .val (.int 4), .val (.int 2), .val (.int x2)] d10_35 rfl rfl rfl ?_
  refine og_iinc X7 41 #[.val (.ref b), .val (.int 3), .val (.ref d), .val (.int 3), .val (.int 4), .val (.int 3), .val (.int x2)] d10_38 rfl rfl rfl ?_
  refine og_goto X7 3 d10_41 (by decide) (by decide) ?_
  refine og_iload X7 5 d10_3 rfl rfl ?_
  refine og_iload X7 7 d10_5 rfl rfl ?_
  refine og_icmpN X7 10 d10_7 (XT.ii_ge_f (by decide)) rfl ?_
  refine og_aloadN X7 11 d10_10 rfl rfl rfl ?_
  refine og_iloadN X7 12 d10_11 rfl rfl ?_
  have f9 := f6.keep K7 (ninS q6 nin0)
  refine own_ldC X7 13 d10_12 f9 (by decide) (by decide) rfl rfl ?_
  refine og_istore X7 15 #[.val (.ref b), .val (.int 3), .val (.ref d), .val (.int 3), .val (.int 4), .val (.int 3), .val (.int x3)] d10_13 rfl rfl ?_
  refine og_iload X7 17 d10_15 rfl rfl ?_
  refine og_sipush X7 20 (255 : Int32) d10_17 rfl rfl ?_
  refine og_icmpY X7 26 d10_20 (XT.ii_le_t q5) (by decide) (by decide) ?_
  refine og_aloadN X7 27 d10_26 rfl rfl rfl ?_
  refine og_iloadN X7 28 d10_27 rfl rfl ?_
  refine og_iload X7 30 d10_28 rfl rfl ?_
  refine og_i2b X7 31 d10_30 rfl ?_
  refine own_stB X7 32 d10_31 f8 (own_nbb _) (by decide) (by decide) (i := 3) (by decide) (Nat.le_of_ble_eq_true rfl) (om 0 rfl) rfl ?_
  intro T10 h10 X10 W10 K10 A10
  have f11 : Arv Z h10 d kd .byte (4 : Int32) [(.int ((x0).toInt8.toInt32)), (.int ((x1).toInt8.toInt32)), (.int ((x2).toInt8.toInt32)), (.int ((x3).toInt8.toInt32))] (.int 0) := A10
  refine og_iinc X10 35 #[.val (.ref b), .val (.int 4), .val (.ref d), .val (.int 3), .val (.int 4), .val (.int 3), .val (.int x3)] d10_32 rfl rfl rfl ?_
  refine og_iinc X10 38 #[.val (.ref b), .val (.int 4), .val (.ref d), .val (.int 4), .val (.int 4), .val (.int 3), .val (.int x3)] d10_35 rfl rfl rfl ?_
  refine og_iinc X10 41 #[.val (.ref b), .val (.int 4), .val (.ref d), .val (.int 4), .val (.int 4), .val (.int 4), .val (.int x3)] d10_38 rfl rfl rfl ?_
  refine og_goto X10 3 d10_41 (by decide) (by decide) ?_
  refine og_iload X10 5 d10_3 rfl rfl ?_
  refine og_iload X10 7 d10_5 rfl rfl ?_
  refine og_icmpY X10 44 d10_7 (XT.ii_ge_t (by decide)) (by decide) (by decide) ?_
  refine og_iload X10 46 d10_44 rfl rfl ?_
  refine own_retI X10 d10_46 hret (by decide) (by decide) ?_
  exact ⟨rfl, f11⟩
theorem ru_cmp4_4 (l : Launch) (Z : State) (a0 : Array Value) (hw : ∀ d ∈ tables_1, d.before a0 Z = true) (n0 : Nat) (h0 : Heap) (hWd : OWorld Z a0) (wc : List Jvm.Cond) (O0 : Old Z n0 h0) (b : Addr) (kb : ClassId) (dv : Value) (x0 : Int32) (x1 : Int32) (x2 : Int32) (x3 : Int32) (q0 : Arv Z h0 b kb .char (4 : Int32) [(.int x0), (.int x1), (.int x2), (.int x3)] dv) (q1 : ¬ (255 : Int32) < x0) (q2 : ¬ (255 : Int32) < x1) (q3 : ¬ (255 : Int32) < x2) (q4 : ¬ (255 : Int32) < x3) (q5 : ¬ x0 < 0) (q6 : ¬ (65535 : Int32) < x0) (q7 : ¬ x1 < 0) (q8 : ¬ (65535 : Int32) < x1) (q9 : ¬ x2 < 0) (q10 : ¬ (65535 : Int32) < x2) (q11 : ¬ x3 < 0) (q12 : ¬ (65535 : Int32) < x3) :
    OMet l Z own_EL n0 (⟨"java/lang/StringUTF16", "compress", "([CII)[B"⟩ : MethodName) (Jvm.Cond.code (⟨"java/lang/StringUTF16", "compress", "([CII)[B"⟩ : MethodName) jdk_52_method_16_code 6 (some (.array .byte)) :: wc) ({ frames := 1, cells := 1, slots := 4, locals := 18 } : Room) #[(.ref b), (.int 0), (.int 4)] h0 [] (fun vq hq => ∃ (r : Addr) (kr : ClassId), vq = some (.ref r) ∧ h0.size ≤ r ∧ Arv Z hq r kr .byte (4 : Int32) [(.int ((x0).toInt8.toInt32)), (.int ((x1).toInt8.toInt32)), (.int ((x2).toInt8.toInt32)), (.int ((x3).toInt8.toInt32))] (.int 0)) := by
  refine own_enter #[.val (.ref b), .val (.int 0), .val (.int 4), .unset, .unset, .unset] pn_java_lang_StringUTF16_compress___CII__B (ef_ru_cmp4_4 b kb dv x0 x1 x2 x3) hWd.1 O0 all0 ?_
  intro p e s m below meth c T0 X0 hnm hret
  refine og_iloadN X0 1 d9_0 rfl rfl ?_
  refine own_arr X0 3 d9_1 (ow hw 23 rfl) (by decide) (cap := 4) (by decide) (by decide) (by decide) (by decide) rfl ?_
  intro T1 h1 b1 kb1 X1 K1 G1 U1 A1
  have f2 : Arv Z h1 b1 kb1 .byte (4 : Int32) [(.int 0), (.int 0), (.int 0), (.int 0)] (.int 0) := A1
  refine og_astoreN X1 4 #[.val (.ref b), .val (.int 0), .val (.int 4), .val (.ref b1), .unset, .unset] d9_3 rfl rfl rfl ?_
  refine og_aloadN X1 5 d9_4 rfl rfl rfl ?_
  refine og_iloadN X1 6 d9_5 rfl rfl ?_
  refine og_aloadN X1 7 d9_6 rfl rfl rfl ?_
  refine og_iconst X1 8 (0 : Int32) d9_7 rfl rfl ?_
  refine og_iloadN X1 9 d9_8 rfl rfl ?_
  have f3 := q0.keep K1 nin0
  refine own_stat X1 12 (argsL := [(.ref b), (.int 0), (.ref b1), (.int 0), (.int 4)]) (rest := []) d9_9 (ru_cmi4_4 l Z a0 hw n0 h1 hWd [] X1.old b kb dv b1 kb1 x0 x1 x2 x3 f3 f2 q1 q2 q3 q4 (Nat.ne_of_lt (Nat.lt_of_lt_of_le q0.lt G1)) (own_svb X1 (om 0 rfl))) (ow hw 61 rfl) (ow hw 62 rfl) (ow hw 59 rfl) (ow hw 63 rfl) (by decide) (lenOf pd__28_5bCI_5bBII_29I rfl) rfl rfl rfl (W := 0) rfl (by decide) (by decide) (by decide) (by decide) (allS (om 0 rfl) all0) rfl ?_
  intro T4 h4 v4 X4 K4 hQ4
  obtain ⟨rfl, f5⟩ := hQ4
  show OGo _ _ _ _ T4 (mkF m 12 #[.val (.ref b), .val (.int 0), .val (.int 4), .val (.ref b1), .unset, .unset] [(.int 4)])
  refine og_istore X4 14 #[.val (.ref b), .val (.int 0), .val (.int 4), .val (.ref b1), .val (.int 4), .unset] d9_12 rfl rfl ?_
  refine og_iload X4 16 d9_14 rfl rfl ?_
  refine og_iloadN X4 17 d9_16 rfl rfl ?_
  refine og_icmpY X4 57 d9_17 (XT.ii_eq_t (by decide)) (by decide) (by decide) ?_
  refine og_aloadN X4 58 d9_57 rfl rfl rfl ?_
  refine own_retA X4 d9_58 hret rfl rfl (by decide) (by decide) ?_
  exact ⟨b1, kb1, rfl, G1, f5⟩
theorem ru_cod4_4 (l : Launch) (Z : State) (a0 : Array Value) (hw : ∀ d ∈ tables_1, d.before a0 Z = true) (n0 : Nat) (h0 : Heap) (hWd : OWorld Z a0) (wc : List Jvm.Cond) (O0 : Old Z n0 h0) (b : Addr) (kb : ClassId) (vs : List Value) (dv : Value) (q0 : Arv Z h0 b kb .byte (4 : Int32) vs dv) :
    OMet l Z own_EL n0 (⟨"java/lang/StringUTF16", "coderFromArrayLen", "([BI)B"⟩ : MethodName) (Jvm.Cond.code (⟨"java/lang/StringUTF16", "coderFromArrayLen", "([BI)B"⟩ : MethodName) jdk_52_method_15_code 2 (some .byte) :: wc) ({ frames := 0, cells := 0, slots := 0, locals := 0 } : Room) #[(.ref b), (.int 4)] h0 [] (fun vq hq => vq = some (.int 0)) := by
  refine own_enter #[.val (.ref b), .val (.int 4)] pn_java_lang_StringUTF16_coderFromArrayLen___BI_B (ef_ru_cod4_4 b kb vs dv) hWd.1 O0 all0 ?_
  intro p e s m below meth c T0 X0 hnm hret
  refine og_iloadN X0 1 d11_0 rfl rfl ?_
  refine og_aloadN X0 2 d11_1 rfl rfl rfl ?_
  refine own_len X0 3 d11_2 q0 rfl ?_
  refine og_isub X0 4 d11_3 rfl ?_
  show OGo _ _ _ _ T0 (mkF m 4 #[.val (.ref b), .val (.int 4)] [(.int 0)])
  refine og_bipush X0 6 (31 : Int32) d11_4 rfl rfl ?_
  refine og_iushr X0 7 d11_6 rfl ?_
  show OGo _ _ _ _ T0 (mkF m 7 #[.val (.ref b), .val (.int 4)] [(.int 0)])
  refine og_i2b X0 8 d11_7 rfl ?_
  show OGo _ _ _ _ T0 (mkF m 8 #[.val (.ref b), .val (.int 4)] [(.int 0)])
  refine own_retY X0 d11_8 hret rfl (by decide) (by decide) ?_
  exact rfl
theorem ru_cod4_8 (l : Launch) (Z : State) (a0 : Array Value) (hw : ∀ d ∈ tables_1, d.before a0 Z = true) (n0 : Nat) (h0 : Heap) (hWd : OWorld Z a0) (wc : List Jvm.Cond) (O0 : Old Z n0 h0) (b : Addr) (kb : ClassId) (vs : List Value) (dv : Value) (q0 : Arv Z h0 b kb .byte (8 : Int32) vs dv) :
    OMet l Z own_EL n0 (⟨"java/lang/StringUTF16", "coderFromArrayLen", "([BI)B"⟩ : MethodName) (Jvm.Cond.code (⟨"java/lang/StringUTF16", "coderFromArrayLen", "([BI)B"⟩ : MethodName) jdk_52_method_15_code 2 (some .byte) :: wc) ({ frames := 0, cells := 0, slots := 0, locals := 0 } : Room) #[(.ref b), (.int 4)] h0 [] (fun vq hq => vq = some (.int 1)) := by
  refine own_enter #[.val (.ref b), .val (.int 4)] pn_java_lang_StringUTF16_coderFromArrayLen___BI_B (ef_ru_cod4_8 b kb vs dv) hWd.1 O0 all0 ?_
  intro p e s m below meth c T0 X0 hnm hret
  refine og_iloadN X0 1 d11_0 rfl rfl ?_
  refine og_aloadN X0 2 d11_1 rfl rfl rfl ?_
  refine own_len X0 3 d11_2 q0 rfl ?_
  refine og_isub X0 4 d11_3 rfl ?_
  show OGo _ _ _ _ T0 (mkF m 4 #[.val (.ref b), .val (.int 4)] [(.int (-4 : Int32))])
  refine og_bipush X0 6 (31 : Int32) d11_4 rfl rfl ?_
  refine og_iushr X0 7 d11_6 rfl ?_
  show OGo _ _ _ _ T0 (mkF m 7 #[.val (.ref b), .val (.int 4)] [(.int 1)])
  refine og_i2b X0 8 d11_7 rfl ?_
  show OGo _ _ _ _ T0 (mkF m 8 #[.val (.ref b), .val (.int 4)] [(.int 1)])
  refine own_retY X0 d11_8 hret rfl (by decide) (by decide) ?_
  exact rfl
theorem ru_inv4 (l : Launch) (Z : State) (a0 : Array Value) (hw : ∀ d ∈ tables_1, d.before a0 Z = true) (n0 : Nat) (h0 : Heap) (hWd : OWorld Z a0) (wc : List Jvm.Cond) (O0 : Old Z n0 h0) (a : Addr) (b : Addr) (y : Value) (z : Int32) (kb : ClassId) (dv : Value) (x0 : Int32) (x1 : Int32) (x2 : Int32) (x3 : Int32) (q0 : Exa Z h0 a "java/lang/String") (q1 : Fld Z h0 a "java/lang/String" "value" "[B" y) (q2 : Fld Z h0 a "java/lang/String" "coder" "B" (.int z)) (q3 : Arv Z h0 b kb .char (4 : Int32) [(.int x0), (.int x1), (.int x2), (.int x3)] dv) (q4 : ¬ x0 < 0) (q5 : ¬ (65535 : Int32) < x0) (q6 : ¬ x1 < 0) (q7 : ¬ (65535 : Int32) < x1) (q8 : ¬ x2 < 0) (q9 : ¬ (65535 : Int32) < x2) (q10 : ¬ x3 < 0) (q11 : ¬ (65535 : Int32) < x3) (g0 : n0 ≤ a ∧ a < h0.size) :
    OMet l Z own_EL n0 (⟨"java/lang/String", "<init>", "([CIILjava/lang/Void;)V"⟩ : MethodName) (Jvm.Cond.code (⟨"java/lang/String", "<init>", "([CIILjava/lang/Void;)V"⟩ : MethodName) jdk_42_method_149_code 6 none :: wc) ({ frames := 4, cells := 2, slots := 12, locals := 57 } : Room) #[(.ref a), (.ref b), (.int 0), (.int 4), .null] h0 [a] (fun vq hq => vq = none ∧ OStr Z hq a [x0, x1, x2, x3] hq.size) := by
  refine own_enter #[.val (.ref a), .val (.ref b), .val (.int 0), .val (.int 4), .val .null, .unset] pn_java_lang_String__init____CIILjava_lang_Void__V (ef_ru_inv4 a b y z kb dv x0 x1 x2 x3) hWd.1 O0 (allS g0 all0) ?_
  intro p e s m below meth c T0 X0 hnm hret
  refine og_aloadN X0 1 d3_0 rfl rfl rfl ?_
  refine own_obj0 X0 4 (a := a) d3_1 (ow hw 19 rfl) (ow hw 20 rfl) (ow hw 21 rfl) rfl (W := 0) rfl (by decide) (by decide) rfl ?_
  intro T1 X2
  refine og_iloadN X2 5 d3_4 rfl rfl ?_
  refine og_ifY X2 27 d3_5 (XT.i0_ne_t (by decide)) (by decide) (by decide) ?_
  refine own_getS X2 30 d3_27 (host := "") (Or.inl (ow hw 56 rfl)) Via.refl hWd.2.1.1 rfl ?_
  intro T3 X4
  refine og_ifN X4 33 d3_30 (XT.i0_eq_f hWd.2.1.2) rfl ?_
  refine og_aloadN X4 34 d3_33 rfl rfl rfl ?_
  refine og_iloadN X4 35 d3_34 rfl rfl ?_
  refine og_iloadN X4 36 d3_35 rfl rfl ?_
  by_cases hc5 : (255 : Int32) < x0
  · -- (255 : Int32) < x0
    refine own_stat X4 39 (argsL := [(.ref b), (.int 0), (.int 4)]) (rest := []) d3_36 (ru_cmp4_0 l Z a0 hw n0 h0 hWd [] X4.old b kb dv x0 x1 x2 x3 q3 hc5 q4 q5 q6 q7 q8 q9 q10 q11 ) (ow hw 57 rfl) (ow hw 58 rfl) (ow hw 59 rfl) (ow hw 60 rfl) (by decide) (lenOf pd__28_5bCII_29_5bB rfl) rfl rfl rfl (W := 0) rfl (by decide) (by decide) (by decide) (by decide) all0 rfl ?_
    intro T6 h6 v6 X6 K6 hQ6
    obtain ⟨r6, kr6, rfl, ge_r6, f7⟩ := hQ6
    show OGo _ _ _ _ T6 (mkF m 39 #[.val (.ref a), .val (.ref b), .val (.int 0), .val (.int 4), .val .null, .unset] [(.ref r6)])
    refine og_astore X6 41 #[.val (.ref a), .val (.ref b), .val (.int 0), .val (.int 4), .val .null, .val (.ref r6)] d3_39 rfl rfl rfl ?_
    refine og_aloadN X6 42 d3_41 rfl rfl rfl ?_
    refine og_aload X6 44 d3_42 rfl rfl rfl ?_
    refine og_iloadN X6 45 d3_44 rfl rfl ?_
    refine own_stat X6 48 (argsL := [(.ref r6), (.int 4)]) (rest := [(.ref a)]) d3_45 (ru_cod4_8 l Z a0 hw n0 h6 hWd [] X6.old r6 kr6 [(.int (StrChars.lo8 x0)), (.int (StrChars.hi8 x0)), (.int (StrChars.lo8 x1)), (.int (StrChars.hi8 x1)), (.int (StrChars.lo8 x2)), (.int (StrChars.hi8 x2)), (.int (StrChars.lo8 x3)), (.int (StrChars.hi8 x3))] (.int 0) f7 ) (ow hw 64 rfl) (ow hw 65 rfl) (ow hw 59 rfl) (ow hw 66 rfl) (by decide) (lenOf pd__28_5bBI_29B rfl) rfl rfl rfl (W := 1) rfl (by decide) (by decide) (by decide) (by decide) all0 rfl ?_
    intro T8 h8 v8 X8 K8 hQ8
    obtain rfl := hQ8
    show OGo _ _ _ _ T8 (mkF m 48 #[.val (.ref a), .val (.ref b), .val (.int 0), .val (.int 4), .val .null, .val (.ref r6)] [(.int 1), (.ref a)])
    have f9 := q2.keep K6 nin0
    have f10 := f9.keep K8 nin0
    have f11 := q0.keep K6
    have f12 := f11.keep K8
    have f13 := q1.keep K6 nin0
    have f14 := f13.keep K8 nin0
    refine own_put X8 51 d3_48 (host := "") (Or.inl (ow hw 29 rfl)) Via.refl f10 f12 (Or.inr ⟨(ow hw 25 rfl), rfl, hnm⟩) (ow hw 10 rfl) (ty := .byte) (by decide) rfl rfl (om 0 rfl) rfl ?_
    intro T15 h15 X15 W15 K15 F15
    have f16 := Fld.other W15 f14 (Or.inr (slot_ne (Or.inr (ow hw 24 rfl)) (Or.inr (ow hw 25 rfl)) (by decide) (t := (.array .byte)) (t' := .byte) (by decide) (by decide)))
    refine og_aloadN X15 52 d3_51 rfl rfl rfl ?_
    refine og_aload X15 54 d3_52 rfl rfl rfl ?_
    have f17 := f12.keep K15
    refine own_put X15 57 d3_54 (host := "") (Or.inl (ow hw 28 rfl)) Via.refl f16 f17 (Or.inr ⟨(ow hw 24 rfl), rfl, hnm⟩) (ow hw 10 rfl) (ty := (.array .byte)) (by decide) rfl rfl (om 0 rfl) rfl ?_
    intro T18 h18 X18 W18 K18 F18
    have f19 := Fld.other W18 F15 (Or.inr (slot_ne (Or.inr (ow hw 25 rfl)) (Or.inr (ow hw 24 rfl)) (by decide) (t := .byte) (t' := (.array .byte)) (by decide) (by decide)))
    have f20 := f17.keep K18
    have f21 := f7.keep K8 nin0
    have f22 := f21.keep K15 (ninS (Nat.ne_of_gt (Nat.lt_of_lt_of_le q0.lt ge_r6)) nin0)
    have f23 := f22.keep K18 (ninS (Nat.ne_of_gt (Nat.lt_of_lt_of_le q0.lt ge_r6)) nin0)
    refine own_retV X18 d3_57 hret (by decide) (by decide) ?_
    exact ⟨rfl, own_mkStrW (cs := [x0, x1, x2, x3]) (n := 4) f20 f19 F18 f23 ⟨x0, List.mem_of_getElem? (i := 0) rfl, hc5⟩ (own_l16 ⟨q4, q5⟩ (own_l16 ⟨q6, q7⟩ (own_l16 ⟨q8, q9⟩ (own_l16 ⟨q10, q11⟩ (fun _ q => nomatch q))))) rfl rfl (Nat.le_of_ble_eq_true rfl)⟩
  · -- not
    by_cases hc24 : (255 : Int32) < x1
    · -- (255 : Int32) < x1
      refine own_stat X4 39 (argsL := [(.ref b), (.int 0), (.int 4)]) (rest := []) d3_36 (ru_cmp4_1 l Z a0 hw n0 h0 hWd [] X4.old b kb dv x0 x1 x2 x3 q3 hc5 hc24 q4 q5 q6 q7 q8 q9 q10 q11 ) (ow hw 57 rfl) (ow hw 58 rfl) (ow hw 59 rfl) (ow hw 60 rfl) (by decide) (lenOf pd__28_5bCII_29_5bB rfl) rfl rfl rfl (W := 0) rfl (by decide) (by decide) (by decide) (by decide) all0 rfl ?_
      intro T25 h25 v25 X25 K25 hQ25
      obtain ⟨r25, kr25, rfl, ge_r25, f26⟩ := hQ25
      show OGo _ _ _ _ T25 (mkF m 39 #[.val (.ref a), .val (.ref b), .val (.int 0), .val (.int 4), .val .null, .unset] [(.ref r25)])
      refine og_astore X25 41 #[.val (.ref a), .val (.ref b), .val (.int 0), .val (.int 4), .val .null, .val (.ref r25)] d3_39 rfl rfl rfl ?_
      refine og_aloadN X25 42 d3_41 rfl rfl rfl ?_
      refine og_aload X25 44 d3_42 rfl rfl rfl ?_
      refine og_iloadN X25 45 d3_44 rfl rfl ?_
      refine own_stat X25 48 (argsL := [(.ref r25), (.int 4)]) (rest := [(.ref a)]) d3_45 (ru_cod4_8 l Z a0 hw n0 h25 hWd [] X25.old r25 kr25 [(.int (StrChars.lo8 x0)), (.int (StrChars.hi8 x0)), (.int (StrChars.lo8 x1)), (.int (StrChars.hi8 x1)), (.int (StrChars.lo8 x2)), (.int (StrChars.hi8 x2)), (.int (StrChars.lo8 x3)), (.int (StrChars.hi8 x3))] (.int 0) f26 ) (ow hw 64 rfl) (ow hw 65 rfl) (ow hw 59 rfl) (ow hw 66 rfl) (by decide) (lenOf pd__28_5bBI_29B rfl) rfl rfl rfl (W := 1) rfl (by decide) (by decide) (by decide) (by decide) all0 rfl ?_
      intro T27 h27 v27 X27 K27 hQ27
      obtain rfl := hQ27
      show OGo _ _ _ _ T27 (mkF m 48 #[.val (.ref a), .val (.ref b), .val (.int 0), .val (.int 4), .val .null, .val (.ref r25)] [(.int 1), (.ref a)])
      have f28 := q2.keep K25 nin0
      have f29 := f28.keep K27 nin0
      have f30 := q0.keep K25
      have f31 := f30.keep K27
      have f32 := q1.keep K25 nin0
      have f33 := f32.keep K27 nin0
      refine own_put X27 51 d3_48 (host := "") (Or.inl (ow hw 29 rfl)) Via.refl f29 f31 (Or.inr ⟨(ow hw 25 rfl), rfl, hnm⟩) (ow hw 10 rfl) (ty := .byte) (by decide) rfl rfl (om 0 rfl) rfl ?_
      intro T34 h34 X34 W34 K34 F34
      have f35 := Fld.other W34 f33 (Or.inr (slot_ne (Or.inr (ow hw 24 rfl)) (Or.inr (ow hw 25 rfl)) (by decide) (t := (.array .byte)) (t' := .byte) (by decide) (by decide)))
      refine og_aloadN X34 52 d3_51 rfl rfl rfl ?_
      refine og_aload X34 54 d3_52 rfl rfl rfl ?_
      have f36 := f31.keep K34
      refine own_put X34 57 d3_54 (host := "") (Or.inl (ow hw 28 rfl)) Via.refl f35 f36 (Or.inr ⟨(ow hw 24 rfl), rfl, hnm⟩) (ow hw 10 rfl) (ty := (.array .byte)) (by decide) rfl rfl (om 0 rfl) rfl ?_
      intro T37 h37 X37 W37 K37 F37
      have f38 := Fld.other W37 F34 (Or.inr (slot_ne (Or.inr (ow hw 25 rfl)) (Or.inr (ow hw 24 rfl)) (by decide) (t := .byte) (t' := (.array .byte)) (by decide) (by decide)))
      have f39 := f36.keep K37
      have f40 := f26.keep K27 nin0
      have f41 := f40.keep K34 (ninS (Nat.ne_of_gt (Nat.lt_of_lt_of_le q0.lt ge_r25)) nin0)
      have f42 := f41.keep K37 (ninS (Nat.ne_of_gt (Nat.lt_of_lt_of_le q0.lt ge_r25)) nin0)
      refine own_retV X37 d3_57 hret (by decide) (by decide) ?_
      exact ⟨rfl, own_mkStrW (cs := [x0, x1, x2, x3]) (n := 4) f39 f38 F37 f42 ⟨x1, List.mem_of_getElem? (i := 1) rfl, hc24⟩ (own_l16 ⟨q4, q5⟩ (own_l16 ⟨q6, q7⟩ (own_l16 ⟨q8, q9⟩ (own_l16 ⟨q10, q11⟩ (fun _ q => nomatch q))))) rfl rfl (Nat.le_of_ble_eq_true rfl)⟩
    · -- not
      by_cases hc43 : (255 : Int32) < x2
      · -- (255 : Int32) < x2
        refine own_stat X4 39 (argsL := [(.ref b), (.int 0), (.int 4)]) (rest := []) d3_36 (ru_cmp4_2 l Z a0 hw n0 h0 hWd [] X4.old b kb dv x0 x1 x2 x3 q3 hc5 hc24 hc43 q4 q5 q6 q7 q8 q9 q10 q11 ) (ow hw 57 rfl) (ow hw 58 rfl) (ow hw 59 rfl) (ow hw 60 rfl) (by decide) (lenOf pd__28_5bCII_29_5bB rfl) rfl rfl rfl (W := 0) rfl (by decide) (by decide) (by decide) (by decide) all0 rfl ?_
        intro T44 h44 v44 X44 K44 hQ44
        obtain ⟨r44, kr44, rfl, ge_r44, f45⟩ := hQ44
        show OGo _ _ _ _ T44 (mkF m 39 #[.val (.ref a), .val (.ref b), .val (.int 0), .val (.int 4), .val .null, .unset] [(.ref r44)])
        refine og_astore X44 41 #[.val (.ref a), .val (.ref b), .val (.int 0), .val (.int 4), .val .null, .val (.ref r44)] d3_39 rfl rfl rfl ?_
        refine og_aloadN X44 42 d3_41 rfl rfl rfl ?_
        refine og_aload X44 44 d3_42 rfl rfl rfl ?_
        refine og_iloadN X44 45 d3_44 rfl rfl ?_
        refine own_stat X44 48 (argsL := [(.ref r44), (.int 4)]) (rest := [(.ref a)]) d3_45 (ru_cod4_8 l Z a0 hw n0 h44 hWd [] X44.old r44 kr44 [(.int (StrChars.lo8 x0)), (.int (StrChars.hi8 x0)), (.int (StrChars.lo8 x1)), (.int (StrChars.hi8 x1)), (.int (StrChars.lo8 x2)), (.int (StrChars.hi8 x2)), (.int (StrChars.lo8 x3)), (.int (StrChars.hi8 x3))] (.int 0) f45 ) (ow hw 64 rfl) (ow hw 65 rfl) (ow hw 59 rfl) (ow hw 66 rfl) (by decide) (lenOf pd__28_5bBI_29B rfl) rfl rfl rfl (W := 1) rfl (by decide) (by decide) (by decide) (by decide) all0 rfl ?_
        intro T46 h46 v46 X46 K46 hQ46
        obtain rfl := hQ46
        show OGo _ _ _ _ T46 (mkF m 48 #[.val (.ref a), .val (.ref b), .val (.int 0), .val (.int 4), .val .null, .val (.ref r44)] [(.int 1), (.ref a)])
        have f47 := q2.keep K44 nin0
        have f48 := f47.keep K46 nin0
        have f49 := q0.keep K44
        have f50 := f49.keep K46
        have f51 := q1.keep K44 nin0
        have f52 := f51.keep K46 nin0
        refine own_put X46 51 d3_48 (host := "") (Or.inl (ow hw 29 rfl)) Via.refl f48 f50 (Or.inr ⟨(ow hw 25 rfl), rfl, hnm⟩) (ow hw 10 rfl) (ty := .byte) (by decide) rfl rfl (om 0 rfl) rfl ?_
        intro T53 h53 X53 W53 K53 F53
        have f54 := Fld.other W53 f52 (Or.inr (slot_ne (Or.inr (ow hw 24 rfl)) (Or.inr (ow hw 25 rfl)) (by decide) (t := (.array .byte)) (t' := .byte) (by decide) (by decide)))
        refine og_aloadN X53 52 d3_51 rfl rfl rfl ?_
        refine og_aload X53 54 d3_52 rfl rfl rfl ?_
        have f55 := f50.keep K53
        refine own_put X53 57 d3_54 (host := "") (Or.inl (ow hw 28 rfl)) Via.refl f54 f55 (Or.inr ⟨(ow hw 24 rfl), rfl, hnm⟩) (ow hw 10 rfl) (ty := (.array .byte)) (by decide) rfl rfl (om 0 rfl) rfl ?_
        intro T56 h56 X56 W56 K56 F56
        have f57 := Fld.other W56 F53 (Or.inr (slot_ne (Or.inr (ow hw 25 rfl)) (Or.inr (ow hw 24 rfl)) (by decide) (t := .byte) (t' := (.array .byte)) (by decide) (by decide)))
        have f58 := f55.keep K56
        have f59 := f45.keep K46 nin0
        have f60 := f59.keep K53 (ninS (Nat.ne_of_gt (Nat.lt_of_lt_of_le q0.lt ge_r44)) nin0)
        have f61 := f60.keep K56 (ninS (Nat.ne_of_gt (Nat.lt_of_lt_of_le q0.lt ge_r44)) nin0)
        refine own_retV X56 d3_57 hret (by decide) (by decide) ?_
        exact ⟨rfl, own_mkStrW (cs := [x0, x1, x2, x3]) (n := 4) f58 f57 F56 f61 ⟨x2, List.mem_of_getElem? (i := 2) rfl, hc43⟩ (own_l16 ⟨q4, q5⟩ (own_l16 ⟨q6, q7⟩ (own_l16 ⟨q8, q9⟩ (own_l16 ⟨q10, q11⟩ (fun _ q => nomatch q))))) rfl rfl (Nat.le_of_ble_eq_true rfl)⟩
      · -- not
        by_cases hc62 : (255 : Int32) < x3
        · -- (255 : Int32) < x3
          refine own_stat X4 39 (argsL := [(.ref b), (.int 0), (.int 4)]) (rest := []) d3_36 (ru_cmp4_3 l Z a0 hw n0 h0 hWd [] X4.old b kb dv x0 x1 x2 x3 q3 hc5 hc24 hc43 hc62 q4 q5 q6 q7 q8 q9 q10 q11 ) (ow hw 57 rfl) (ow hw 58 rfl) (ow hw 59 rfl) (ow hw 60 rfl) (by decide) (lenOf pd__28_5bCII_29_5bB rfl) rfl rfl rfl (W := 0) rfl (by decide) (by decide) (by decide) (by decide) all0 rfl ?_
          intro T63 h63 v63 X63 K63 hQ63
          obtain ⟨r63, kr63, rfl, ge_r63, f64⟩ := hQ63
          show OGo _ _ _ _ T63 (mkF m 39 #[.val (.ref a), .val (.ref b), .val (.int 0), .val (.int 4), .val .null, .unset] [(.ref r63)])
          refine og_astore X63 41 #[.val (.ref a), .val (.ref b), .val (.int 0), .val (.int 4), .val .null, .val (.ref r63)] d3_39 rfl rfl rfl ?_
          refine og_aloadN X63 42 d3_41 rfl rfl rfl ?_
          refine og_aload X63 44 d3_42 rfl rfl rfl ?_
          refine og_iloadN X63 45 d3_44 rfl rfl ?_
          refine own_stat X63 48 (argsL := [(.ref r63), (.int 4)]) (rest := [(.ref a)]) d3_45 (ru_cod4_8 l Z a0 hw n0 h63 hWd [] X63.old r63 kr63 [(.int (StrChars.lo8 x0)), (.int (StrChars.hi8 x0)), (.int (StrChars.lo8 x1)), (.int (StrChars.hi8 x1)), (.int (StrChars.lo8 x2)), (.int (StrChars.hi8 x2)), (.int (StrChars.lo8 x3)), (.int (StrChars.hi8 x3))] (.int 0) f64 ) (ow hw 64 rfl) (ow hw 65 rfl) (ow hw 59 rfl) (ow hw 66 rfl) (by decide) (lenOf pd__28_5bBI_29B rfl) rfl rfl rfl (W := 1) rfl (by decide) (by decide) (by decide) (by decide) all0 rfl ?_
          intro T65 h65 v65 X65 K65 hQ65
          obtain rfl := hQ65
          show OGo _ _ _ _ T65 (mkF m 48 #[.val (.ref a), .val (.ref b), .val (.int 0), .val (.int 4), .val .null, .val (.ref r63)] [(.int 1), (.ref a)])
          have f66 := q2.keep K63 nin0
          have f67 := f66.keep K65 nin0
          have f68 := q0.keep K63
          have f69 := f68.keep K65
          have f70 := q1.keep K63 nin0
          have f71 := f70.keep K65 nin0
          refine own_put X65 51 d3_48 (host := "") (Or.inl (ow hw 29 rfl)) Via.refl f67 f69 (Or.inr ⟨(ow hw 25 rfl), rfl, hnm⟩) (ow hw 10 rfl) (ty := .byte) (by decide) rfl rfl (om 0 rfl) rfl ?_
          intro T72 h72 X72 W72 K72 F72
          have f73 := Fld.other W72 f71 (Or.inr (slot_ne (Or.inr (ow hw 24 rfl)) (Or.inr (ow hw 25 rfl)) (by decide) (t := (.array .byte)) (t' := .byte) (by decide) (by decide)))
          refine og_aloadN X72 52 d3_51 rfl rfl rfl ?_
          refine og_aload X72 54 d3_52 rfl rfl rfl ?_
          have f74 := f69.keep K72
          refine own_put X72 57 d3_54 (host := "") (Or.inl (ow hw 28 rfl)) Via.refl f73 f74 (Or.inr ⟨(ow hw 24 rfl), rfl, hnm⟩) (ow hw 10 rfl) (ty := (.array .byte)) (by decide) rfl rfl (om 0 rfl) rfl ?_
          intro T75 h75 X75 W75 K75 F75
          have f76 := Fld.other W75 F72 (Or.inr (slot_ne (Or.inr (ow hw 25 rfl)) (Or.inr (ow hw 24 rfl)) (by decide) (t := .byte) (t' := (.array .byte)) (by decide) (by decide)))
          have f77 := f74.keep K75
          have f78 := f64.keep K65 nin0
          have f79 := f78.keep K72 (ninS (Nat.ne_of_gt (Nat.lt_of_lt_of_le q0.lt ge_r63)) nin0)
          have f80 := f79.keep K75 (ninS (Nat.ne_of_gt (Nat.lt_of_lt_of_le q0.lt ge_r63)) nin0)
          refine own_retV X75 d3_57 hret (by decide) (by decide) ?_
          exact ⟨rfl, own_mkStrW (cs := [x0, x1, x2, x3]) (n := 4) f77 f76 F75 f80 ⟨x3, List.mem_of_getElem? (i := 3) rfl, hc62⟩ (own_l16 ⟨q4, q5⟩ (own_l16 ⟨q6, q7⟩ (own_l16 ⟨q8, q9⟩ (own_l16 ⟨q10, q11⟩ (fun _ q => nomatch q))))) rfl rfl (Nat.le_of_ble_eq_true rfl)⟩
        · -- not
          refine own_stat X4 39 (argsL := [(.ref b), (.int 0), (.int 4)]) (rest := []) d3_36 (ru_cmp4_4 l Z a0 hw n0 h0 hWd [] X4.old b kb dv x0 x1 x2 x3 q3 hc5 hc24 hc43 hc62 q4 q5 q6 q7 q8 q9 q10 q11 ) (ow hw 57 rfl) (ow hw 58 rfl) (ow hw 59 rfl) (ow hw 60 rfl) (by decide) (lenOf pd__28_5bCII_29_5bB rfl) rfl rfl rfl (W := 0) rfl (by decide) (by decide) (by decide) (by decide) all0 rfl ?_
          intro T81 h81 v81 X81 K81 hQ81
          obtain ⟨r81, kr81, rfl, ge_r81, f82⟩ := hQ81
          show OGo _ _ _ _ T81 (mkF m 39 #[.val (.ref a), .val (.ref b), .val (.int 0), .val (.int 4), .val .null, .unset] [(.ref r81)])
          refine og_astore X81 41 #[.val (.ref a), .val (.ref b), .val (.int 0), .val (.int 4), .val .null, .val (.ref r81)] d3_39 rfl rfl rfl ?_
          refine og_aloadN X81 42 d3_41 rfl rfl rfl ?_
          refine og_aload X81 44 d3_42 rfl rfl rfl ?_
          refine og_iloadN X81 45 d3_44 rfl rfl ?_
          refine own_stat X81 48 (argsL := [(.ref r81), (.int 4)]) (rest := [(.ref a)]) d3_45 (ru_cod4_4 l Z a0 hw n0 h81 hWd [] X81.old r81 kr81 [(.int ((x0).toInt8.toInt32)), (.int ((x1).toInt8.toInt32)), (.int ((x2).toInt8.toInt32)), (.int ((x3).toInt8.toInt32))] (.int 0) f82 ) (ow hw 64 rfl) (ow hw 65 rfl) (ow hw 59 rfl) (ow hw 66 rfl) (by decide) (lenOf pd__28_5bBI_29B rfl) rfl rfl rfl (W := 1) rfl (by decide) (by decide) (by decide) (by decide) all0 rfl ?_
          intro T83 h83 v83 X83 K83 hQ83
          obtain rfl := hQ83
          show OGo _ _ _ _ T83 (mkF m 48 #[.val (.ref a), .val (.ref b), .val (.int 0), .val (.int 4), .val .null, .val (.ref r81)] [(.int 0), (.ref a)])
          have f84 := q2.keep K81 nin0
          have f85 := f84.keep K83 nin0
          have f86 := q0.keep K81
          have f87 := f86.keep K83
          have f88 := q1.keep K81 nin0
          have f89 := f88.keep K83 nin0
          refine own_put X83 51 d3_48 (host := "") (Or.inl (ow hw 29 rfl)) Via.refl f85 f87 (Or.inr ⟨(ow hw 25 rfl), rfl, hnm⟩) (ow hw 10 rfl) (ty := .byte) (by decide) rfl rfl (om 0 rfl) rfl ?_
          intro T90 h90 X90 W90 K90 F90
          have f91 := Fld.other W90 f89 (Or.inr (slot_ne (Or.inr (ow hw 24 rfl)) (Or.inr (ow hw 25 rfl)) (by decide) (t := (.array .byte)) (t' := .byte) (by decide) (by decide)))
          refine og_aloadN X90 52 d3_51 rfl rfl rfl ?_
          refine og_aload X90 54 d3_52 rfl rfl rfl ?_
          have f92 := f87.keep K90
          refine own_put X90 57 d3_54 (host := "") (Or.inl (ow hw 28 rfl)) Via.refl f91 f92 (Or.inr ⟨(ow hw 24 rfl), rfl, hnm⟩) (ow hw 10 rfl) (ty := (.array .byte)) (by decide) rfl rfl (om 0 rfl) rfl ?_
          intro T93 h93 X93 W93 K93 F93
          have f94 := Fld.other W93 F90 (Or.inr (slot_ne (Or.inr (ow hw 25 rfl)) (Or.inr (ow hw 24 rfl)) (by decide) (t := .byte) (t' := (.array .byte)) (by decide) (by decide)))
          have f95 := f92.keep K93
          have f96 := f82.keep K83 nin0
          have f97 := f96.keep K90 (ninS (Nat.ne_of_gt (Nat.lt_of_lt_of_le q0.lt ge_r81)) nin0)
          have f98 := f97.keep K93 (ninS (Nat.ne_of_gt (Nat.lt_of_lt_of_le q0.lt ge_r81)) nin0)
          refine own_retV X93 d3_57 hret (by decide) (by decide) ?_
          exact ⟨rfl, own_mkStr (cs := [x0, x1, x2, x3]) (bs := [x0.toInt8.toInt32, x1.toInt8.toInt32, x2.toInt8.toInt32, x3.toInt8.toInt32]) (n := 4) f95 f94 F93 f98 rfl (own_lS ⟨q4, hc5⟩ (own_lS ⟨q6, hc24⟩ (own_lS ⟨q8, hc43⟩ (own_lS ⟨q10, hc62⟩ own_l0)))) rfl rfl (Nat.le_of_ble_eq_true rfl)⟩
theorem ru_ini4 (l : Launch) (Z : State) (a0 : Array Value) (hw : ∀ d ∈ tables_1, d.before a0 Z = true) (n0 : Nat) (h0 : Heap) (hWd : OWorld Z a0) (wc : List Jvm.Cond) (O0 : Old Z n0 h0) (a : Addr) (b : Addr) (y : Value) (z : Int32) (kb : ClassId) (dv : Value) (x0 : Int32) (x1 : Int32) (x2 : Int32) (x3 : Int32) (q0 : Exa Z h0 a "java/lang/String") (q1 : Fld Z h0 a "java/lang/String" "value" "[B" y) (q2 : Fld Z h0 a "java/lang/String" "coder" "B" (.int z)) (q3 : Arv Z h0 b kb .char (4 : Int32) [(.int x0), (.int x1), (.int x2), (.int x3)] dv) (q4 : ¬ x0 < 0) (q5 : ¬ (65535 : Int32) < x0) (q6 : ¬ x1 < 0) (q7 : ¬ (65535 : Int32) < x1) (q8 : ¬ x2 < 0) (q9 : ¬ (65535 : Int32) < x2) (q10 : ¬ x3 < 0) (q11 : ¬ (65535 : Int32) < x3) (g0 : n0 ≤ a ∧ a < h0.size) :
    OMet l Z own_EL n0 (⟨"java/lang/String", "<init>", "([C)V"⟩ : MethodName) (Jvm.Cond.code (⟨"java/lang/String", "<init>", "([C)V"⟩ : MethodName) jdk_42_method_3_code 2 none :: wc) ({ frames := 5, cells := 2, slots := 12, locals := 74 } : Room) #[(.ref a), (.ref b)] h0 [a] (fun vq hq => vq = none ∧ OStr Z hq a [x0, x1, x2, x3] hq.size) := by
  refine own_enter #[.val (.ref a), .val (.ref b)] pn_java_lang_String__init____C_V (ef_ru_ini4 a b y z kb dv x0 x1 x2 x3) hWd.1 O0 (allS g0 all0) ?_
  intro p e s m below meth c T0 X0 hnm hret
  refine og_aloadN X0 1 d2_0 rfl rfl rfl ?_
  refine og_aloadN X0 2 d2_1 rfl rfl rfl ?_
  refine og_iconst X0 3 (0 : Int32) d2_2 rfl rfl ?_
  refine og_aloadN X0 4 d2_3 rfl rfl rfl ?_
  refine own_len X0 5 d2_4 q3 rfl ?_
  refine og_aconstNull X0 6 d2_5 rfl ?_
  refine own_spec X0 9 (a := a) (argsL := [(.ref b), (.int 0), (.int 4), .null]) (rest := []) d2_6 rfl (ru_inv4 l Z a0 hw n0 h0 hWd [] X0.old a b y z kb dv x0 x1 x2 x3 q0 q1 q2 q3 q4 q5 q6 q7 q8 q9 q10 q11 (own_svb X0 (om 0 rfl))) (ow hw 15 rfl) (ow hw 16 rfl) (ow hw 11 rfl) (ow hw 18 rfl) (by decide) (lenOf pd__28_5bCIILjava_2flang_2fVoid_3b_29V rfl) rfl rfl rfl (W := 0) rfl (by decide) (by decide) (by decide) (by decide) (allS (om 0 rfl) all0) rfl ?_
  intro T1 h1 v1 X1 K1 hQ1
  obtain ⟨rfl, f2⟩ := hQ1
  show OGo _ _ _ _ T1 (mkF m 9 #[.val (.ref a), .val (.ref b)] [])
  refine own_retV X1 d2_9 hret (by decide) (by decide) ?_
  exact ⟨rfl, f2.top⟩
theorem rm1 (l : Launch) (Z : State) (a0 : Array Value) (hw : ∀ d ∈ tables_1, d.before a0 Z = true) (n0 : Nat) (h0 : Heap) (hWd : OWorld Z a0) (wc : List Jvm.Cond) (O0 : Old Z n0 h0) (x : Int32)  :
    OMet l Z own_EL n0 (⟨"com/example/bote/bote/fields/FieldCursorSkipWhitespacePinLaw", "draw", "(I)C"⟩ : MethodName) (Jvm.Cond.code (⟨"com/example/bote/bote/fields/FieldCursorSkipWhitespacePinLaw", "draw", "(I)C"⟩ : MethodName) method_3_code 2 (some .char) :: wc) ({ frames := 0, cells := 0, slots := 0, locals := 0 } : Room) #[(.int x)] h0 [] (fun vq hq => ∃ (r : Int32), vq = some (.int r) ∧ ¬ r < 0 ∧ ¬ (65535 : Int32) < r) := by
  refine own_enter #[.val (.int x), .unset] pn_com_example_bote_bote_fields_FieldCursorSkipWhitespacePinLaw_draw__I_C (ef_rm1 x) hWd.1 O0 all0 ?_
  intro p e s m below meth c T0 X0 hnm hret
  refine og_iloadN X0 1 d1_0 rfl rfl ?_
  refine og_iconst X0 2 (3 : Int32) d1_1 rfl rfl ?_
  refine og_iand X0 3 d1_2 rfl ?_
  refine og_istoreN X0 4 #[.val (.int x), .val (.int (x &&& (3 : Int32)))] d1_3 rfl rfl ?_
  refine og_iloadN X0 5 d1_4 rfl rfl ?_
  by_cases hc1 : (x &&& (3 : Int32)) = 0
  · -- (x &&& (3 : Int32)) = 0
    refine og_ifN X0 8 d1_5 (XT.i0_ne_f hc1) rfl ?_
    refine og_bipush X0 10 (32 : Int32) d1_8 rfl rfl ?_
    refine own_retC X0 d1_10 hret rfl (by decide) (by decide) ?_
    exact ⟨_, rfl, by decide, by decide⟩
  · -- not
    refine og_ifY X0 11 d1_5 (XT.i0_ne_t hc1) (by decide) (by decide) ?_
    refine og_iloadN X0 12 d1_11 rfl rfl ?_
    refine og_iconst X0 13 (1 : Int32) d1_12 rfl rfl ?_
    by_cases hc2 : (x &&& (3 : Int32)) = (1 : Int32)
    · -- (x &&& (3 : Int32)) = (1 : Int32)
      refine og_icmpN X0 16 d1_13 (XT.ii_ne_f hc2) rfl ?_
      refine og_bipush X0 18 (9 : Int32) d1_16 rfl rfl ?_
      refine own_retC X0 d1_18 hret rfl (by decide) (by decide) ?_
      exact ⟨_, rfl, by decide, by decide⟩
    · -- not
      refine og_icmpY X0 19 d1_13 (XT.ii_ne_t hc2) (by decide) (by decide) ?_
      refine og_iloadN X0 20 d1_19 rfl rfl ?_
      refine og_iconst X0 21 (2 : Int32) d1_20 rfl rfl ?_
      refine og_iushr X0 22 d1_21 rfl ?_
      refine own_ldcI X0 24 (v := (65535 : Int32)) d1_22 (ow hw 4 rfl) rfl ?_
      refine og_iand X0 25 d1_24 rfl ?_
      refine og_i2c X0 26 d1_25 rfl ?_
      refine own_retC X0 d1_26 hret (own_fitC (own_lat16 _).1 (own_lat16 _).2) (by decide) (by decide) ?_
      exact ⟨_, rfl, (own_lat16 _).1, (own_lat16 _).2⟩
theorem rm19 (l : Launch) (Z : State) (a0 : Array Value) (hw : ∀ d ∈ tables_1, d.before a0 Z = true) (n0 : Nat) (h0 : Heap) (hWd : OWorld Z a0) (wc : List Jvm.Cond) (O0 : Old Z n0 h0) (x : Int32)  :
    OMet l Z own_EL n0 (⟨"com/example/bote/bote/fields/FieldCursorSkipWhitespacePinLaw", "ws", "(C)Z"⟩ : MethodName) (Jvm.Cond.code (⟨"com/example/bote/bote/fields/FieldCursorSkipWhitespacePinLaw", "ws", "(C)Z"⟩ : MethodName) method_2_code 1 (some .boolean) :: wc) ({ frames := 0, cells := 0, slots := 0, locals := 0 } : Room) #[(.int x)] h0 [] (fun vq hq => vq = some (.int (own_ws x))) := by
  refine own_enter #[.val (.int x)] pn_com_example_bote_bote_fields_FieldCursorSkipWhitespacePinLaw_ws__C_Z (ef_rm19 x) hWd.1 O0 all0 ?_
  intro p e s m below meth c T0 X0 hnm hret
  refine og_iloadN X0 1 d19_0 rfl rfl ?_
  refine og_bipush X0 3 (32 : Int32) d19_1 rfl rfl ?_
  by_cases hc1 : x = (32 : Int32)
  · -- x = (32 : Int32)
    refine og_icmpY X0 12 d19_3 (XT.ii_eq_t hc1) (by decide) (by decide) ?_
    refine og_iconst X0 13 (1 : Int32) d19_12 rfl rfl ?_
    refine og_goto X0 17 d19_13 (by decide) (by decide) ?_
    refine own_retZ X0 d19_17 hret rfl (by decide) (by decide) ?_
    rw [own_ws, if_pos hc1]
  · -- not
    refine og_icmpN X0 6 d19_3 (XT.ii_eq_f hc1) rfl ?_
    refine og_iloadN X0 7 d19_6 rfl rfl ?_
    refine og_bipush X0 9 (9 : Int32) d19_7 rfl rfl ?_
    by_cases hc2 : x = (9 : Int32)
    · -- x = (9 : Int32)
      refine og_icmpN X0 12 d19_9 (XT.ii_ne_f hc2) rfl ?_
      refine og_iconst X0 13 (1 : Int32) d19_12 rfl rfl ?_
      refine og_goto X0 17 d19_13 (by decide) (by decide) ?_
      refine own_retZ X0 d19_17 hret rfl (by decide) (by decide) ?_
      rw [own_ws, if_neg hc1, if_pos hc2]
    · -- not
      refine og_icmpY X0 16 d19_9 (XT.ii_ne_t hc2) (by decide) (by decide) ?_
      refine og_iconst X0 17 (0 : Int32) d19_16 rfl rfl ?_
      refine own_retZ X0 d19_17 hret rfl (by decide) (by decide) ?_
      rw [own_ws, if_neg hc1, if_neg hc2]
theorem rm5 (l : Launch) (Z : State) (a0 : Array Value) (hw : ∀ d ∈ tables_1, d.before a0 Z = true) (n0 : Nat) (h0 : Heap) (hWd : OWorld Z a0) (wc : List Jvm.Cond) (O0 : Old Z n0 h0) (a : Addr) (u : Addr) (v : Addr) (q0 : Exa Z h0 a "com/example/bote/bote/fields/FieldCursor") (q1 : Fld Z h0 a "com/example/bote/bote/fields/FieldCursor" "text" "Ljava/lang/String;" .null) (q2 : Fld Z h0 a "com/example/bote/bote/fields/FieldCursor" "shape" "Ljava/lang/String;" .null) (q3 : Fld Z h0 a "com/example/bote/bote/fields/FieldCursor" "at" "I" (.int 0)) (g0 : n0 ≤ a ∧ a < h0.size) :
    OMet l Z own_EL n0 (⟨"com/example/bote/bote/fields/FieldCursor", "<init>", "(Ljava/lang/String;Ljava/lang/String;)V"⟩ : MethodName) (Jvm.Cond.code (⟨"com/example/bote/bote/fields/FieldCursor", "<init>", "(Ljava/lang/String;Ljava/lang/String;)V"⟩ : MethodName) prog_2_method_1_code 3 none :: wc) ({ frames := 1, cells := 0, slots := 0, locals := 12 } : Room) #[(.ref a), (.ref u), (.ref v)] h0 [a] (fun vq hq => vq = none ∧ Fld Z hq a "com/example/bote/bote/fields/FieldCursor" "text" "Ljava/lang/String;" (.ref u) ∧ Fld Z hq a "com/example/bote/bote/fields/FieldCursor" "at" "I" (.int 0)) := by
  refine own_enter #[.val (.ref a), .val (.ref u), .val (.ref v)] pn_com_example_bote_bote_fields_FieldCursor__init___Ljava_lang_String_Ljava_lang_String__V (ef_rm5 a u v) hWd.1 O0 (allS g0 all0) ?_
  intro p e s m below meth c T0 X0 hnm hret
  refine og_aloadN X0 1 d5_0 rfl rfl rfl ?_
  refine own_obj0 X0 4 (a := a) d5_1 (ow hw 34 rfl) (ow hw 20 rfl) (ow hw 21 rfl) rfl (W := 0) rfl (by decide) (by decide) rfl ?_
  intro T1 X2
  refine og_aloadN X2 5 d5_4 rfl rfl rfl ?_
  refine og_aloadN X2 6 d5_5 rfl rfl rfl ?_
  refine own_put X2 9 d5_6 (host := "") (Or.inl (ow hw 35 rfl)) Via.refl q1 q0 (Or.inr ⟨(ow hw 36 rfl), rfl, hnm⟩) (ow hw 7 rfl) (ty := (.object "java/lang/String")) (by decide) rfl rfl (om 0 rfl) rfl ?_
  intro T3 h3 X3 W3 K3 F3
  have f4 := Fld.other W3 q2 (Or.inr (slot_ne (Or.inr (ow hw 38 rfl)) (Or.inr (ow hw 36 rfl)) (by decide) (t := (.object "java/lang/String")) (t' := (.object "java/lang/String")) (by decide) (by decide)))
  have f5 := Fld.other W3 q3 (Or.inr (slot_ne (Or.inl (ow hw 45 rfl)) (Or.inr (ow hw 36 rfl)) (by decide) (t := .int) (t' := (.object "java/lang/String")) (by decide) (by decide)))
  refine og_aloadN X3 10 d5_9 rfl rfl rfl ?_
  refine og_aloadN X3 11 d5_10 rfl rfl rfl ?_
  have f6 := q0.keep K3
  refine own_put X3 14 d5_11 (host := "") (Or.inl (ow hw 37 rfl)) Via.refl f4 f6 (Or.inr ⟨(ow hw 38 rfl), rfl, hnm⟩) (ow hw 7 rfl) (ty := (.object "java/lang/String")) (by decide) rfl rfl (om 0 rfl) rfl ?_
  intro T7 h7 X7 W7 K7 F7
  have f8 := Fld.other W7 F3 (Or.inr (slot_ne (Or.inr (ow hw 36 rfl)) (Or.inr (ow hw 38 rfl)) (by decide) (t := (.object "java/lang/String")) (t' := (.object "java/lang/String")) (by decide) (by decide)))
  have f9 := Fld.other W7 f5 (Or.inr (slot_ne (Or.inl (ow hw 45 rfl)) (Or.inr (ow hw 38 rfl)) (by decide) (t := .int) (t' := (.object "java/lang/String")) (by decide) (by decide)))
  refine own_retV X7 d5_14 hret (by decide) (by decide) ?_
  exact ⟨rfl, f8, f9⟩
theorem rm_nxI (l : Launch) (Z : State) (a0 : Array Value) (hw : ∀ d ∈ tables_1, d.before a0 Z = true) (n0 : Nat) (h0 : Heap) (hWd : OWorld Z a0) (wc : List Jvm.Cond) (O0 : Old Z n0 h0) (a : Addr) (u : Addr) (i : Nat) (cs : List Int32) (y : Int32) (q0 : Fld Z h0 a "com/example/bote/bote/fields/FieldCursor" "text" "Ljava/lang/String;" (.ref u)) (q1 : Fld Z h0 a "com/example/bote/bote/fields/FieldCursor" "at" "I" (.int (Int32.ofNat i))) (q2 : OStr Z h0 u cs h0.size) (q3 : i < (cs).length) :
    OMet l Z own_EL n0 (⟨"com/example/bote/bote/fields/FieldCursor", "isNext", "(C)Z"⟩ : MethodName) (Jvm.Cond.code (⟨"com/example/bote/bote/fields/FieldCursor", "isNext", "(C)Z"⟩ : MethodName) prog_2_method_5_code 2 (some .boolean) :: wc) ({ frames := 5, cells := 0, slots := 0, locals := 66 } : Room) #[(.ref a), (.int y)] h0 [] (fun vq hq => vq = some (.int (own_eq1 ((cs).getD i 0) y))) := by
  refine own_enter #[.val (.ref a), .val (.int y)] pn_com_example_bote_bote_fields_FieldCursor_isNext__C_Z (ef_rm_nxI a u i cs y) hWd.1 O0 all0 ?_
  intro p e s m below meth c T0 X0 hnm hret
  have hL := q2.len
  refine og_aloadN X0 1 d13_0 rfl rfl rfl ?_
  refine own_get X0 4 d13_1 (host := "") (Or.inl (ow hw 44 rfl)) Via.refl q1 rfl ?_
  intro T1 X2
  refine og_aloadN X2 5 d13_4 rfl rfl rfl ?_
  refine own_get X2 8 d13_5 (host := "") (Or.inl (ow hw 35 rfl)) Via.refl q0 rfl ?_
  intro T3 X4
  refine own_strLen X4 11 d13_8 q2 (own_wL hw) (ow hw 10 rfl) hWd.2.1.1 hWd.2.1.2 (ow hw 46 rfl) (ow hw 47 rfl) (ow hw 49 rfl) (ow hw 48 rfl) rfl (W := 1) rfl (by decide) (by decide) (by decide) (by decide) rfl ?_
  intro T5 X6
  show OGo _ _ _ _ T5 (mkF m 11 #[.val (.ref a), .val (.int y)] [(.int (Int32.ofNat (cs).length)), (.int (Int32.ofNat i))])
  refine og_icmpN X6 14 d13_11 (XT.ii_ge_f (own_olt (by omega) (by omega))) rfl ?_
  refine og_aloadN X6 15 d13_14 rfl rfl rfl ?_
  refine own_get X6 18 d13_15 (host := "") (Or.inl (ow hw 35 rfl)) Via.refl q0 rfl ?_
  intro T7 X8
  refine og_aloadN X8 19 d13_18 rfl rfl rfl ?_
  refine own_get X8 22 d13_19 (host := "") (Or.inl (ow hw 44 rfl)) Via.refl q1 rfl ?_
  intro T9 X10
  refine own_virt X10 25 (a := u) (argsL := [(.int (Int32.ofNat i))]) (rest := []) d13_22 q2.exa (fun _ hZ => notFace_of_selects (args := #[]) (mvT hZ (ow hw 80 rfl))) (rg_ch l Z a0 hw n0 h0 hWd [] X10.old u cs i q2.top q3 ) (ow hw 77 rfl) (ow hw 78 rfl) (ow hw 80 rfl) (ow hw 79 rfl) (ow hw 11 rfl) (ow hw 81 rfl) (by decide) (lenOf pd__28I_29C rfl) rfl rfl rfl (W := 0) rfl (by decide) (by decide) (by decide) (by decide) all0 rfl ?_
  intro T11 h11 v11 X11 K11 hQ11
  obtain rfl := hQ11
  show OGo _ _ _ _ T11 (mkF m 25 #[.val (.ref a), .val (.int y)] [(.int ((cs).getD i 0))])
  refine og_iloadN X11 26 d13_25 rfl rfl ?_
  by_cases hc12 : ((cs).getD i 0) = y
  · -- ((cs).getD i 0) = y
    refine og_icmpN X11 29 d13_26 (XT.ii_ne_f hc12) rfl ?_
    refine og_iconst X11 30 (1 : Int32) d13_29 rfl rfl ?_
    refine og_goto X11 34 d13_30 (by decide) (by decide) ?_
    refine own_retZ X11 d13_34 hret rfl (by decide) (by decide) ?_
    rw [own_eq1, if_pos hc12]
  · -- not
    refine og_icmpY X11 33 d13_26 (XT.ii_ne_t hc12) (by decide) (by decide) ?_
    refine og_iconst X11 34 (0 : Int32) d13_33 rfl rfl ?_
    refine own_retZ X11 d13_34 hret rfl (by decide) (by decide) ?_
    rw [own_eq1, if_neg hc12]
theorem rm_nxE (l : Launch) (Z : State) (a0 : Array Value) (hw : ∀ d ∈ tables_1, d.before a0 Z = true) (n0 : Nat) (h0 : Heap) (hWd : OWorld Z a0) (wc : List Jvm.Cond) (O0 : Old Z n0 h0) (a : Addr) (u : Addr) (i : Nat) (cs : List Int32) (y : Int32) (q0 : Fld Z h0 a "com/example/bote/bote/fields/FieldCursor" "text" "Ljava/lang/String;" (.ref u)) (q1 : Fld Z h0 a "com/example/bote/bote/fields/FieldCursor" "at" "I" (.int (Int32.ofNat i))) (q2 : OStr Z h0 u cs h0.size) (q3 : i = (cs).length) :
    OMet l Z own_EL n0 (⟨"com/example/bote/bote/fields/FieldCursor", "isNext", "(C)Z"⟩ : MethodName) (Jvm.Cond.code (⟨"com/example/bote/bote/fields/FieldCursor", "isNext", "(C)Z"⟩ : MethodName) prog_2_method_5_code 2 (some .boolean) :: wc) ({ frames := 2, cells := 0, slots := 0, locals := 26 } : Room) #[(.ref a), (.int y)] h0 [] (fun vq hq => vq = some (.int 0)) := by
  refine own_enter #[.val (.ref a), .val (.int y)] pn_com_example_bote_bote_fields_FieldCursor_isNext__C_Z (ef_rm_nxE a u i cs y) hWd.1 O0 all0 ?_
  intro p e s m below meth c T0 X0 hnm hret
  have hL := q2.len
  refine og_aloadN X0 1 d13_0 rfl rfl rfl ?_
  refine own_get X0 4 d13_1 (host := "") (Or.inl (ow hw 44 rfl)) Via.refl q1 rfl ?_
  intro T1 X2
  refine og_aloadN X2 5 d13_4 rfl rfl rfl ?_
  refine own_get X2 8 d13_5 (host := "") (Or.inl (ow hw 35 rfl)) Via.refl q0 rfl ?_
  intro T3 X4
  refine own_strLen X4 11 d13_8 q2 (own_wL hw) (ow hw 10 rfl) hWd.2.1.1 hWd.2.1.2 (ow hw 46 rfl) (ow hw 47 rfl) (ow hw 49 rfl) (ow hw 48 rfl) rfl (W := 1) rfl (by decide) (by decide) (by decide) (by decide) rfl ?_
  intro T5 X6
  show OGo _ _ _ _ T5 (mkF m 11 #[.val (.ref a), .val (.int y)] [(.int (Int32.ofNat (cs).length)), (.int (Int32.ofNat i))])
  refine og_icmpY X6 33 d13_11 (XT.ii_ge_t (own_onl (by omega) (by omega))) (by decide) (by decide) ?_
  refine og_iconst X6 34 (0 : Int32) d13_33 rfl rfl ?_
  refine own_retZ X6 d13_34 hret rfl (by decide) (by decide) ?_
  exact rfl
theorem rm_tkI (l : Launch) (Z : State) (a0 : Array Value) (hw : ∀ d ∈ tables_1, d.before a0 Z = true) (n0 : Nat) (h0 : Heap) (hWd : OWorld Z a0) (wc : List Jvm.Cond) (O0 : Old Z n0 h0) (a : Addr) (u : Addr) (i : Nat) (cs : List Int32) (y : Int32) (q0 : Exa Z h0 a "com/example/bote/bote/fields/FieldCursor") (q1 : Fld Z h0 a "com/example/bote/bote/fields/FieldCursor" "text" "Ljava/lang/String;" (.ref u)) (q2 : Fld Z h0 a "com/example/bote/bote/fields/FieldCursor" "at" "I" (.int (Int32.ofNat i))) (q3 : OStr Z h0 u cs h0.size) (q4 : i < (cs).length) (q5 : (cs).getD i 0 = y) (g0 : n0 ≤ a ∧ a < h0.size) :
    OMet l Z own_EL n0 (⟨"com/example/bote/bote/fields/FieldCursor", "take", "(C)Z"⟩ : MethodName) (Jvm.Cond.code (⟨"com/example/bote/bote/fields/FieldCursor", "take", "(C)Z"⟩ : MethodName) prog_2_method_6_code 3 (some .boolean) :: wc) ({ frames := 6, cells := 0, slots := 0, locals := 79 } : Room) #[(.ref a), (.int y)] h0 [a] (fun vq hq => vq = some (.int 1) ∧ Fld Z hq a "com/example/bote/bote/fields/FieldCursor" "text" "Ljava/lang/String;" (.ref u) ∧ Fld Z hq a "com/example/bote/bote/fields/FieldCursor" "at" "I" (.int (Int32.ofNat (i + 1)))) := by
  refine own_enter #[.val (.ref a), .val (.int y), .unset] pn_com_example_bote_bote_fields_FieldCursor_take__C_Z (ef_rm_tkI a u i cs y) hWd.1 O0 (allS g0 all0) ?_
  intro p e s m below meth c T0 X0 hnm hret
  refine og_aloadN X0 1 d12_0 rfl rfl rfl ?_
  refine og_iloadN X0 2 d12_1 rfl rfl ?_
  refine own_virt X0 5 (a := a) (argsL := [(.int y)]) (rest := []) d12_2 q0 (fun _ hZ => notFace_of_selects (args := #[]) (mvT hZ (ow hw 75 rfl))) (rm_nxI l Z a0 hw n0 h0 hWd [] X0.old a u i cs y q1 q2 q3.top q4 ) (ow hw 72 rfl) (ow hw 73 rfl) (ow hw 75 rfl) (ow hw 74 rfl) (ow hw 8 rfl) (ow hw 76 rfl) (by decide) (lenOf pd__28C_29Z rfl) rfl rfl rfl (W := 0) rfl (by decide) (by decide) (by decide) (by decide) all0 rfl ?_
  intro T1 h1 v1 X1 K1 hQ1
  obtain rfl := hQ1
  show OGo _ _ _ _ T1 (mkF m 5 #[.val (.ref a), .val (.int y), .unset] [(.int (own_eq1 ((cs).getD i 0) y))])
  refine og_istoreN X1 6 #[.val (.ref a), .val (.int y), .val (.int (own_eq1 ((cs).getD i 0) y))] d12_5 rfl rfl ?_
  refine og_iloadN X1 7 d12_6 rfl rfl ?_
  refine og_ifN X1 10 d12_7 (XT.i0_eq_f (by rw [own_eq1, if_pos q5]; decide)) rfl ?_
  refine og_aloadN X1 11 d12_10 rfl rfl rfl ?_
  refine og_dup X1 12 d12_11 rfl rfl ?_
  have f2 := q2.keep K1 nin0
  refine own_get X1 15 d12_12 (host := "") (Or.inl (ow hw 44 rfl)) Via.refl f2 rfl ?_
  intro T3 X4
  refine og_iconst X4 16 (1 : Int32) d12_15 rfl rfl ?_
  refine og_iadd X4 17 d12_16 rfl ?_
  have f5 := q0.keep K1
  have f6 := q1.keep K1 nin0
  refine own_put X4 20 d12_17 (host := "") (Or.inl (ow hw 44 rfl)) Via.refl f2 f5 (Or.inl (ow hw 45 rfl)) (ow hw 7 rfl) (ty := .int) (by decide) rfl rfl (om 0 rfl) rfl ?_
  intro T7 h7 X7 W7 K7 F7
  have f8 := Fld.other W7 f6 (Or.inr (slot_ne (Or.inr (ow hw 36 rfl)) (Or.inl (ow hw 45 rfl)) (by decide) (t := (.object "java/lang/String")) (t' := .int) (by decide) (by decide)))
  refine og_iloadN X7 21 d12_20 rfl rfl ?_
  refine own_retZ X7 d12_21 hret (own_zb (Or.inr (show (own_eq1 ((cs).getD i 0) y) = 1 from if_pos q5))).1 (by decide) (by decide) ?_
  exact ⟨by rw [own_eq1, if_pos q5], f8, by have q := F7; rwa [own_o1] at q⟩
theorem rm_tkE (l : Launch) (Z : State) (a0 : Array Value) (hw : ∀ d ∈ tables_1, d.before a0 Z = true) (n0 : Nat) (h0 : Heap) (hWd : OWorld Z a0) (wc : List Jvm.Cond) (O0 : Old Z n0 h0) (a : Addr) (u : Addr) (i : Nat) (cs : List Int32) (y : Int32) (q0 : Exa Z h0 a "com/example/bote/bote/fields/FieldCursor") (q1 : Fld Z h0 a "com/example/bote/bote/fields/FieldCursor" "text" "Ljava/lang/String;" (.ref u)) (q2 : Fld Z h0 a "com/example/bote/bote/fields/FieldCursor" "at" "I" (.int (Int32.ofNat i))) (q3 : OStr Z h0 u cs h0.size) (q4 : i = (cs).length) (g0 : n0 ≤ a ∧ a < h0.size) :
    OMet l Z own_EL n0 (⟨"com/example/bote/bote/fields/FieldCursor", "take", "(C)Z"⟩ : MethodName) (Jvm.Cond.code (⟨"com/example/bote/bote/fields/FieldCursor", "take", "(C)Z"⟩ : MethodName) prog_2_method_6_code 3 (some .boolean) :: wc) ({ frames := 3, cells := 0, slots := 0, locals := 39 } : Room) #[(.ref a), (.int y)] h0 [a] (fun vq hq => vq = some (.int 0) ∧ Fld Z hq a "com/example/bote/bote/fields/FieldCursor" "text" "Ljava/lang/String;" (.ref u) ∧ Fld Z hq a "com/example/bote/bote/fields/FieldCursor" "at" "I" (.int (Int32.ofNat i))) := by
  refine own_enter #[.val (.ref a), .val (.int y), .unset] pn_com_example_bote_bote_fields_FieldCursor_take__C_Z (ef_rm_tkE a u i cs y) hWd.1 O0 (allS g0 all0) ?_
  intro p e s m below meth c T0 X0 hnm hret
  refine og_aloadN X0 1 d12_0 rfl rfl rfl ?_
  refine og_iloadN X0 2 d12_1 rfl rfl ?_
  refine own_virt X0 5 (a := a) (argsL := [(.int y)]) (rest := []) d12_2 q0 (fun _ hZ => notFace_of_selects (args := #[]) (mvT hZ (ow hw 75 rfl))) (rm_nxE l Z a0 hw n0 h0 hWd [] X0.old a u i cs y q1 q2 q3.top q4 ) (ow hw 72 rfl) (ow hw 73 rfl) (ow hw 75 rfl) (ow hw 74 rfl) (ow hw 8 rfl) (ow hw 76 rfl) (by decide) (lenOf pd__28C_29Z rfl) rfl rfl rfl (W := 0) rfl (by decide) (by decide) (by decide) (by decide) all0 rfl ?_
  intro T1 h1 v1 X1 K1 hQ1
  obtain rfl := hQ1
  show OGo _ _ _ _ T1 (mkF m 5 #[.val (.ref a), .val (.int y), .unset] [(.int 0)])
  refine og_istoreN X1 6 #[.val (.ref a), .val (.int y), .val (.int 0)] d12_5 rfl rfl ?_
  refine og_iloadN X1 7 d12_6 rfl rfl ?_
  refine og_ifY X1 20 d12_7 (XT.i0_eq_t (by decide)) (by decide) (by decide) ?_
  refine og_iloadN X1 21 d12_20 rfl rfl ?_
  have f2 := q1.keep K1 nin0
  have f3 := q2.keep K1 nin0
  refine own_retZ X1 d12_21 hret rfl (by decide) (by decide) ?_
  exact ⟨rfl, f2, f3⟩
theorem rm_skI (l : Launch) (Z : State) (a0 : Array Value) (hw : ∀ d ∈ tables_1, d.before a0 Z = true) (n0 : Nat) (h0 : Heap) (hWd : OWorld Z a0) (wc : List Jvm.Cond) (O0 : Old Z n0 h0) (a : Addr) (u : Addr) (i0 : Nat) (kk : Nat) (cs : List Int32) (q0 : Exa Z h0 a "com/example/bote/bote/fields/FieldCursor") (q1 : Fld Z h0 a "com/example/bote/bote/fields/FieldCursor" "text" "Ljava/lang/String;" (.ref u)) (q2 : Fld Z h0 a "com/example/bote/bote/fields/FieldCursor" "at" "I" (.int (Int32.ofNat i0))) (q3 : OStr Z h0 u cs h0.size) (q4 : own_skip cs i0 = kk) (q5 : i0 ≤ (cs).length) (q6 : kk < (cs).length) (g0 : n0 ≤ a ∧ a < h0.size) :
    OMet l Z own_EL n0 (⟨"com/example/bote/bote/fields/FieldCursor", "skipWhitespace", "()Z"⟩ : MethodName) (Jvm.Cond.code (⟨"com/example/bote/bote/fields/FieldCursor", "skipWhitespace", "()Z"⟩ : MethodName) prog_2_method_2_code 1 (some .boolean) :: wc) ({ frames := 5, cells := 0, slots := 0, locals := 66 } : Room) #[(.ref a)] h0 [a] (fun vq hq => vq = some (.int 1) ∧ Fld Z hq a "com/example/bote/bote/fields/FieldCursor" "text" "Ljava/lang/String;" (.ref u) ∧ Fld Z hq a "com/example/bote/bote/fields/FieldCursor" "at" "I" (.int (Int32.ofNat kk))) := by
  refine own_enter #[.val (.ref a)] pn_com_example_bote_bote_fields_FieldCursor_skipWhitespace___Z (ef_rm_skI a u i0 kk cs) hWd.1 O0 (allS g0 all0) ?_
  intro p e s m below meth c T0 X0 hnm hret
  have hL := q3.len
  refine own_loop (fun (i : Nat) => (cs).length - i) 0 (fun i => #[.val (.ref a)]) (fun i hh => Fld Z hh a "com/example/bote/bote/fields/FieldCursor" "text" "Ljava/lang/String;" (.ref u) ∧ Fld Z hh a "com/example/bote/bote/fields/FieldCursor" "at" "I" (.int (Int32.ofNat i)) ∧ own_skip cs i = kk ∧ i ≤ (cs).length) [a] X0 i0 ⟨q1, q2, q4, q5⟩ ?_
  intro i IH T1 h1 X1 K1 ok1
  obtain ⟨f2, f3, hp4, hp5⟩ := ok1
  refine og_aloadN X1 1 d6_0 rfl rfl rfl ?_
  refine own_get X1 4 d6_1 (host := "") (Or.inl (ow hw 44 rfl)) Via.refl f3 rfl ?_
  intro T6 X7
  by_cases hc8 : i < (cs).length
  · -- i < (cs).length
    refine og_aloadN X7 5 d6_4 rfl rfl rfl ?_
    refine own_get X7 8 d6_5 (host := "") (Or.inl (ow hw 35 rfl)) Via.refl f2 rfl ?_
    intro T9 X10
    have f11 := q3.keep K1 (allS (Or.inr ⟨_, _, _, q0, by decide, (ow hw 7 rfl)⟩) all0)
    refine own_strLen X10 11 d6_8 f11 (own_wL hw) (ow hw 10 rfl) hWd.2.1.1 hWd.2.1.2 (ow hw 46 rfl) (ow hw 47 rfl) (ow hw 49 rfl) (ow hw 48 rfl) rfl (W := 1) rfl (by decide) (by decide) (by decide) (by decide) rfl ?_
    intro T12 X13
    show OGo _ _ _ _ T12 (mkF m 11 #[.val (.ref a)] [(.int (Int32.ofNat (cs).length)), (.int (Int32.ofNat i))])
    refine og_icmpN X13 14 d6_11 (XT.ii_ge_f (own_olt (by omega) (by omega))) rfl ?_
    refine og_aloadN X13 15 d6_14 rfl rfl rfl ?_
    refine own_get X13 18 d6_15 (host := "") (Or.inl (ow hw 35 rfl)) Via.refl f2 rfl ?_
    intro T14 X15
    refine og_aloadN X15 19 d6_18 rfl rfl rfl ?_
    refine own_get X15 22 d6_19 (host := "") (Or.inl (ow hw 44 rfl)) Via.refl f3 rfl ?_
    intro T16 X17
    have f18 := q3.exa.keep K1
    refine own_virt X17 25 (a := u) (argsL := [(.int (Int32.ofNat i))]) (rest := []) d6_22 f18 (fun _ hZ => notFace_of_selects (args := #[]) (mvT hZ (ow hw 80 rfl))) (rg_ch l Z a0 hw n0 h1 hWd [] X17.old u cs i f11.top hc8 ) (ow hw 77 rfl) (ow hw 78 rfl) (ow hw 80 rfl) (ow hw 79 rfl) (ow hw 11 rfl) (ow hw 81 rfl) (by decide) (lenOf pd__28I_29C rfl) rfl rfl rfl (W := 0) rfl (by decide) (by decide) (by decide) (by decide) all0 rfl ?_
    intro T19 h19 v19 X19 K19 hQ19
    obtain rfl := hQ19
    show OGo _ _ _ _ T19 (mkF m 25 #[.val (.ref a)] [(.int ((cs).getD i 0))])
    refine og_bipush X19 27 (32 : Int32) d6_25 rfl rfl ?_
    by_cases hc20 : ((cs).getD i 0) = (32 : Int32)
    · -- ((cs).getD i 0) = (32 : Int32)
      refine og_icmpY X19 46 d6_27 (XT.ii_eq_t hc20) (by decide) (by decide) ?_
      refine og_aloadN X19 47 d6_46 rfl rfl rfl ?_
      refine og_dup X19 48 d6_47 rfl rfl ?_
      have f21 := f3.keep K19 nin0
      refine own_get X19 51 d6_48 (host := "") (Or.inl (ow hw 44 rfl)) Via.refl f21 rfl ?_
      intro T22 X23
      refine og_iconst X23 52 (1 : Int32) d6_51 rfl rfl ?_
      refine og_iadd X23 53 d6_52 rfl ?_
      have f24 := q0.keep K1
      have f25 := f24.keep K19
      have f26 := f2.keep K19 nin0
      refine own_put X23 56 d6_53 (host := "") (Or.inl (ow hw 44 rfl)) Via.refl f21 f25 (Or.inl (ow hw 45 rfl)) (ow hw 7 rfl) (ty := .int) (by decide) rfl rfl (om 0 rfl) rfl ?_
      intro T27 h27 X27 W27 K27 F27
      have f28 := Fld.other W27 f26 (Or.inr (slot_ne (Or.inr (ow hw 36 rfl)) (Or.inl (ow hw 45 rfl)) (by decide) (t := (.object "java/lang/String")) (t' := .int) (by decide) (by decide)))
      refine og_goto X27 0 d6_56 (by decide) (by decide) ?_
      exact IH (i + 1) (by omega) _ _ X27 ((K1.trans K19 (fun _ q => nomatch q)).trans K27 (fun _ q => Or.inl q)) ⟨f28, (by have q := F27; rwa [own_o1] at q), ((own_skip_step hc8 (Or.inl hc20)).symm.trans hp4), (by omega)⟩
    · -- not
      refine og_icmpN X19 30 d6_27 (XT.ii_eq_f hc20) rfl ?_
      refine og_aloadN X19 31 d6_30 rfl rfl rfl ?_
      have f29 := f2.keep K19 nin0
      refine own_get X19 34 d6_31 (host := "") (Or.inl (ow hw 35 rfl)) Via.refl f29 rfl ?_
      intro T30 X31
      refine og_aloadN X31 35 d6_34 rfl rfl rfl ?_
      have f32 := f3.keep K19 nin0
      refine own_get X31 38 d6_35 (host := "") (Or.inl (ow hw 44 rfl)) Via.refl f32 rfl ?_
      intro T33 X34
      have f35 := f18.keep K19
      have f36 := f11.keep K19 all0
      refine own_virt X34 41 (a := u) (argsL := [(.int (Int32.ofNat i))]) (rest := []) d6_38 f35 (fun _ hZ => notFace_of_selects (args := #[]) (mvT hZ (ow hw 80 rfl))) (rg_ch l Z a0 hw n0 h19 hWd [] X34.old u cs i f36.top hc8 ) (ow hw 77 rfl) (ow hw 78 rfl) (ow hw 80 rfl) (ow hw 79 rfl) (ow hw 11 rfl) (ow hw 81 rfl) (by decide) (lenOf pd__28I_29C rfl) rfl rfl rfl (W := 0) rfl (by decide) (by decide) (by decide) (by decide) all0 rfl ?_
      intro T37 h37 v37 X37 K37 hQ37
      obtain rfl := hQ37
      show OGo _ _ _ _ T37 (mkF m 41 #[.val (.ref a)] [(.int ((cs).getD i 0))])
      refine og_bipush X37 43 (9 : Int32) d6_41 rfl rfl ?_
      by_cases hc38 : ((cs).getD i 0) = (9 : Int32)
      · -- ((cs).getD i 0) = (9 : Int32)
        refine og_icmpN X37 46 d6_43 (XT.ii_ne_f hc38) rfl ?_
        refine og_aloadN X37 47 d6_46 rfl rfl rfl ?_
        refine og_dup X37 48 d6_47 rfl rfl ?_
        have f39 := f32.keep K37 nin0
        refine own_get X37 51 d6_48 (host := "") (Or.inl (ow hw 44 rfl)) Via.refl f39 rfl ?_
        intro T40 X41
        refine og_iconst X41 52 (1 : Int32) d6_51 rfl rfl ?_
        refine og_iadd X41 53 d6_52 rfl ?_
        have f42 := q0.keep K1
        have f43 := f42.keep K19
        have f44 := f43.keep K37
        have f45 := f29.keep K37 nin0
        refine own_put X41 56 d6_53 (host := "") (Or.inl (ow hw 44 rfl)) Via.refl f39 f44 (Or.inl (ow hw 45 rfl)) (ow hw 7 rfl) (ty := .int) (by decide) rfl rfl (om 0 rfl) rfl ?_
        intro T46 h46 X46 W46 K46 F46
        have f47 := Fld.other W46 f45 (Or.inr (slot_ne (Or.inr (ow hw 36 rfl)) (Or.inl (ow hw 45 rfl)) (by decide) (t := (.object "java/lang/String")) (t' := .int) (by decide) (by decide)))
        refine og_goto X46 0 d6_56 (by decide) (by decide) ?_
        exact IH (i + 1) (by omega) _ _ X46 (((K1.trans K19 (fun _ q => nomatch q)).trans K37 (fun _ q => nomatch q)).trans K46 (fun _ q => Or.inl q)) ⟨f47, (by have q := F46; rwa [own_o1] at q), ((own_skip_step hc8 (Or.inr hc38)).symm.trans hp4), (by omega)⟩
      · -- not
        refine og_icmpY X37 59 d6_43 (XT.ii_ne_t hc38) (by decide) (by decide) ?_
        refine og_aloadN X37 60 d6_59 rfl rfl rfl ?_
        have f48 := f32.keep K37 nin0
        refine own_get X37 63 d6_60 (host := "") (Or.inl (ow hw 44 rfl)) Via.refl f48 rfl ?_
        intro T49 X50
        refine og_aloadN X50 64 d6_63 rfl rfl rfl ?_
        have f51 := f29.keep K37 nin0
        refine own_get X50 67 d6_64 (host := "") (Or.inl (ow hw 35 rfl)) Via.refl f51 rfl ?_
        intro T52 X53
        have f54 := f36.keep K37 all0
        refine own_strLen X53 70 d6_67 f54 (own_wL hw) (ow hw 10 rfl) hWd.2.1.1 hWd.2.1.2 (ow hw 46 rfl) (ow hw 47 rfl) (ow hw 49 rfl) (ow hw 48 rfl) rfl (W := 1) rfl (by decide) (by decide) (by decide) (by decide) rfl ?_
        intro T55 X56
        show OGo _ _ _ _ T55 (mkF m 70 #[.val (.ref a)] [(.int (Int32.ofNat (cs).length)), (.int (Int32.ofNat i))])
        refine og_icmpN X56 73 d6_70 (XT.ii_ge_f (own_olt (by omega) (by omega))) rfl ?_
        refine og_iconst X56 74 (1 : Int32) d6_73 rfl rfl ?_
        refine og_goto X56 78 d6_74 (by decide) (by decide) ?_
        refine own_retZ X56 d6_78 hret rfl (by decide) (by decide) ?_
        exact ⟨rfl, f51, ((own_skip_stop hc8 hc20 hc38).symm.trans hp4) ▸ f48⟩
  · -- not
    refine og_aloadN X7 5 d6_4 rfl rfl rfl ?_
    refine own_get X7 8 d6_5 (host := "") (Or.inl (ow hw 35 rfl)) Via.refl f2 rfl ?_
    intro T57 X58
    have f59 := q3.keep K1 (allS (Or.inr ⟨_, _, _, q0, by decide, (ow hw 7 rfl)⟩) all0)
    refine own_strLen X58 11 d6_8 f59 (own_wL hw) (ow hw 10 rfl) hWd.2.1.1 hWd.2.1.2 (ow hw 46 rfl) (ow hw 47 rfl) (ow hw 49 rfl) (ow hw 48 rfl) rfl (W := 1) rfl (by decide) (by decide) (by decide) (by decide) rfl ?_
    intro T60 X61
    show OGo _ _ _ _ T60 (mkF m 11 #[.val (.ref a)] [(.int (Int32.ofNat (cs).length)), (.int (Int32.ofNat i))])
    refine og_icmpY X61 59 d6_11 (XT.ii_ge_t (own_onl (by omega) (by omega))) (by decide) (by decide) ?_
    refine og_aloadN X61 60 d6_59 rfl rfl rfl ?_
    refine own_get X61 63 d6_60 (host := "") (Or.inl (ow hw 44 rfl)) Via.refl f3 rfl ?_
    intro T62 X63
    refine og_aloadN X63 64 d6_63 rfl rfl rfl ?_
    refine own_get X63 67 d6_64 (host := "") (Or.inl (ow hw 35 rfl)) Via.refl f2 rfl ?_
    intro T64 X65
    refine own_strLen X65 70 d6_67 f59 (own_wL hw) (ow hw 10 rfl) hWd.2.1.1 hWd.2.1.2 (ow hw 46 rfl) (ow hw 47 rfl) (ow hw 49 rfl) (ow hw 48 rfl) rfl (W := 1) rfl (by decide) (by decide) (by decide) (by decide) rfl ?_
    intro T66 X67
    show OGo _ _ _ _ T66 (mkF m 70 #[.val (.ref a)] [(.int (Int32.ofNat (cs).length)), (.int (Int32.ofNat i))])
    refine og_icmpY X67 77 d6_70 (XT.ii_ge_t (own_onl (by omega) (by omega))) (by decide) (by decide) ?_
    refine og_iconst X67 78 (0 : Int32) d6_77 rfl rfl ?_
    refine own_retZ X67 d6_78 hret rfl (by decide) (by decide) ?_
    exact absurd ((own_skip_end hc8).symm.trans hp4) (by omega)
theorem rm_skE (l : Launch) (Z : State) (a0 : Array Value) (hw : ∀ d ∈ tables_1, d.before a0 Z = true) (n0 : Nat) (h0 : Heap) (hWd : OWorld Z a0) (wc : List Jvm.Cond) (O0 : Old Z n0 h0) (a : Addr) (u : Addr) (i0 : Nat) (kk : Nat) (cs : List Int32) (q0 : Exa Z h0 a "com/example/bote/bote/fields/FieldCursor") (q1 : Fld Z h0 a "com/example/bote/bote/fields/FieldCursor" "text" "Ljava/lang/String;" (.ref u)) (q2 : Fld Z h0 a "com/example/bote/bote/fields/FieldCursor" "at" "I" (.int (Int32.ofNat i0))) (q3 : OStr Z h0 u cs h0.size) (q4 : own_skip cs i0 = kk) (q5 : i0 ≤ (cs).length) (q6 : kk = (cs).length) (g0 : n0 ≤ a ∧ a < h0.size) :
    OMet l Z own_EL n0 (⟨"com/example/bote/bote/fields/FieldCursor", "skipWhitespace", "()Z"⟩ : MethodName) (Jvm.Cond.code (⟨"com/example/bote/bote/fields/FieldCursor", "skipWhitespace", "()Z"⟩ : MethodName) prog_2_method_2_code 1 (some .boolean) :: wc) ({ frames := 5, cells := 0, slots := 0, locals := 66 } : Room) #[(.ref a)] h0 [a] (fun vq hq => vq = some (.int 0) ∧ Fld Z hq a "com/example/bote/bote/fields/FieldCursor" "text" "Ljava/lang/String;" (.ref u) ∧ Fld Z hq a "com/example/bote/bote/fields/FieldCursor" "at" "I" (.int (Int32.ofNat kk))) := by
  refine own_enter #[.val (.ref a)] pn_com_example_bote_bote_fields_FieldCursor_skipWhitespace___Z (ef_rm_skE a u i0 kk cs) hWd.1 O0 (allS g0 all0) ?_
  intro p e s m below meth c T0 X0 hnm hret
  have hL := q3.len
  refine own_loop (fun (i : Nat) => (cs).length - i) 0 (fun i => #[.val (.ref a)]) (fun i hh => Fld Z hh a "com/example/bote/bote/fields/FieldCursor" "text" "Ljava/lang/String;" (.ref u) ∧ Fld Z hh a "com/example/bote/bote/fields/FieldCursor" "at" "I" (.int (Int32.ofNat i)) ∧ own_skip cs i = kk ∧ i ≤ (cs).length) [a] X0 i0 ⟨q1, q2, q4, q5⟩ ?_
  intro i IH T1 h1 X1 K1 ok1
  obtain ⟨f2, f3, hp4, hp5⟩ := ok1
  refine og_aloadN X1 1 d6_0 rfl rfl rfl ?_
  refine own_get X1 4 d6_1 (host := "") (Or.inl (ow hw 44 rfl)) Via.refl f3 rfl ?_
  intro T6 X7
  by_cases hc8 : i < (cs).length
  · -- i < (cs).length
    refine og_aloadN X7 5 d6_4 rfl rfl rfl ?_
    refine own_get X7 8 d6_5 (host := "") (Or.inl (ow hw 35 rfl)) Via.refl f2 rfl ?_
    intro T9 X10
    have f11 := q3.keep K1 (allS (Or.inr ⟨_, _, _, q0, by decide, (ow hw 7 rfl)⟩) all0)
    refine own_strLen X10 11 d6_8 f11 (own_wL hw) (ow hw 10 rfl) hWd.2.1.1 hWd.2.1.2 (ow hw 46 rfl) (ow hw 47 rfl) (ow hw 49 rfl) (ow hw 48 rfl) rfl (W := 1) rfl (by decide) (by decide) (by decide) (by decide) rfl ?_
    intro T12 X13
    show OGo _ _ _ _ T12 (mkF m 11 #[.val (.ref a)] [(.int (Int32.ofNat (cs).length)), (.int (Int32.ofNat i))])
    refine og_icmpN X13 14 d6_11 (XT.ii_ge_f (own_olt (by omega) (by omega))) rfl ?_
    refine og_aloadN X13 15 d6_14 rfl rfl rfl ?_
    refine own_get X13 18 d6_15 (host := "") (Or.inl (ow hw 35 rfl)) Via.refl f2 rfl ?_
    intro T14 X15
    refine og_aloadN X15 19 d6_18 rfl rfl rfl ?_
    refine own_get X15 22 d6_19 (host := "") (Or.inl (ow hw 44 rfl)) Via.refl f3 rfl ?_
    intro T16 X17
    have f18 := q3.exa.keep K1
    refine own_virt X17 25 (a := u) (argsL := [(.int (Int32.ofNat i))]) (rest := []) d6_22 f18 (fun _ hZ => notFace_of_selects (args := #[]) (mvT hZ (ow hw 80 rfl))) (rg_ch l Z a0 hw n0 h1 hWd [] X17.old u cs i f11.top hc8 ) (ow hw 77 rfl) (ow hw 78 rfl) (ow hw 80 rfl) (ow hw 79 rfl) (ow hw 11 rfl) (ow hw 81 rfl) (by decide) (lenOf pd__28I_29C rfl) rfl rfl rfl (W := 0) rfl (by decide) (by decide) (by decide) (by decide) all0 rfl ?_
    intro T19 h19 v19 X19 K19 hQ19
    obtain rfl := hQ19
    show OGo _ _ _ _ T19 (mkF m 25 #[.val (.ref a)] [(.int ((cs).getD i 0))])
    refine og_bipush X19 27 (32 : Int32) d6_25 rfl rfl ?_
    by_cases hc20 : ((cs).getD i 0) = (32 : Int32)
    · -- ((cs).getD i 0) = (32 : Int32)
      refine og_icmpY X19 46 d6_27 (XT.ii_eq_t hc20) (by decide) (by decide) ?_
      refine og_aloadN X19 47 d6_46 rfl rfl rfl ?_
      refine og_dup X19 48 d6_47 rfl rfl ?_
      have f21 := f3.keep K19 nin0
      refine own_get X19 51 d6_48 (host := "") (Or.inl (ow hw 44 rfl)) Via.refl f21 rfl ?_
      intro T22 X23
      refine og_iconst X23 52 (1 : Int32) d6_51 rfl rfl ?_
      refine og_iadd X23 53 d6_52 rfl ?_
      have f24 := q0.keep K1
      have f25 := f24.keep K19
      have f26 := f2.keep K19 nin0
      refine own_put X23 56 d6_53 (host := "") (Or.inl (ow hw 44 rfl)) Via.refl f21 f25 (Or.inl (ow hw 45 rfl)) (ow hw 7 rfl) (ty := .int) (by decide) rfl rfl (om 0 rfl) rfl ?_
      intro T27 h27 X27 W27 K27 F27
      have f28 := Fld.other W27 f26 (Or.inr (slot_ne (Or.inr (ow hw 36 rfl)) (Or.inl (ow hw 45 rfl)) (by decide) (t := (.object "java/lang/String")) (t' := .int) (by decide) (by decide)))
      refine og_goto X27 0 d6_56 (by decide) (by decide) ?_
      exact IH (i + 1) (by omega) _ _ X27 ((K1.trans K19 (fun _ q => nomatch q)).trans K27 (fun _ q => Or.inl q)) ⟨f28, (by have q := F27; rwa [own_o1] at q), ((own_skip_step hc8 (Or.inl hc20)).symm.trans hp4), (by omega)⟩
    · -- not
      refine og_icmpN X19 30 d6_27 (XT.ii_eq_f hc20) rfl ?_
      refine og_aloadN X19 31 d6_30 rfl rfl rfl ?_
      have f29 := f2.keep K19 nin0
      refine own_get X19 34 d6_31 (host := "") (Or.inl (ow hw 35 rfl)) Via.refl f29 rfl ?_
      intro T30 X31
      refine og_aloadN X31 35 d6_34 rfl rfl rfl ?_
      have f32 := f3.keep K19 nin0
      refine own_get X31 38 d6_35 (host := "") (Or.inl (ow hw 44 rfl)) Via.refl f32 rfl ?_
      intro T33 X34
      have f35 := f18.keep K19
      have f36 := f11.keep K19 all0
      refine own_virt X34 41 (a := u) (argsL := [(.int (Int32.ofNat i))]) (rest := []) d6_38 f35 (fun _ hZ => notFace_of_selects (args := #[]) (mvT hZ (ow hw 80 rfl))) (rg_ch l Z a0 hw n0 h19 hWd [] X34.old u cs i f36.top hc8 ) (ow hw 77 rfl) (ow hw 78 rfl) (ow hw 80 rfl) (ow hw 79 rfl) (ow hw 11 rfl) (ow hw 81 rfl) (by decide) (lenOf pd__28I_29C rfl) rfl rfl rfl (W := 0) rfl (by decide) (by decide) (by decide) (by decide) all0 rfl ?_
      intro T37 h37 v37 X37 K37 hQ37
      obtain rfl := hQ37
      show OGo _ _ _ _ T37 (mkF m 41 #[.val (.ref a)] [(.int ((cs).getD i 0))])
      refine og_bipush X37 43 (9 : Int32) d6_41 rfl rfl ?_
      by_cases hc38 : ((cs).getD i 0) = (9 : Int32)
      · -- ((cs).getD i 0) = (9 : Int32)
        refine og_icmpN X37 46 d6_43 (XT.ii_ne_f hc38) rfl ?_
        refine og_aloadN X37 47 d6_46 rfl rfl rfl ?_
        refine og_dup X37 48 d6_47 rfl rfl ?_
        have f39 := f32.keep K37 nin0
        refine own_get X37 51 d6_48 (host := "") (Or.inl (ow hw 44 rfl)) Via.refl f39 rfl ?_
        intro T40 X41
        refine og_iconst X41 52 (1 : Int32) d6_51 rfl rfl ?_
        refine og_iadd X41 53 d6_52 rfl ?_
        have f42 := q0.keep K1
        have f43 := f42.keep K19
        have f44 := f43.keep K37
        have f45 := f29.keep K37 nin0
        refine own_put X41 56 d6_53 (host := "") (Or.inl (ow hw 44 rfl)) Via.refl f39 f44 (Or.inl (ow hw 45 rfl)) (ow hw 7 rfl) (ty := .int) (by decide) rfl rfl (om 0 rfl) rfl ?_
        intro T46 h46 X46 W46 K46 F46
        have f47 := Fld.other W46 f45 (Or.inr (slot_ne (Or.inr (ow hw 36 rfl)) (Or.inl (ow hw 45 rfl)) (by decide) (t := (.object "java/lang/String")) (t' := .int) (by decide) (by decide)))
        refine og_goto X46 0 d6_56 (by decide) (by decide) ?_
        exact IH (i + 1) (by omega) _ _ X46 (((K1.trans K19 (fun _ q => nomatch q)).trans K37 (fun _ q => nomatch q)).trans K46 (fun _ q => Or.inl q)) ⟨f47, (by have q := F46; rwa [own_o1] at q), ((own_skip_step hc8 (Or.inr hc38)).symm.trans hp4), (by omega)⟩
      · -- not
        refine og_icmpY X37 59 d6_43 (XT.ii_ne_t hc38) (by decide) (by decide) ?_
        refine og_aloadN X37 60 d6_59 rfl rfl rfl ?_
        have f48 := f32.keep K37 nin0
        refine own_get X37 63 d6_60 (host := "") (Or.inl (ow hw 44 rfl)) Via.refl f48 rfl ?_
        intro T49 X50
        refine og_aloadN X50 64 d6_63 rfl rfl rfl ?_
        have f51 := f29.keep K37 nin0
        refine own_get X50 67 d6_64 (host := "") (Or.inl (ow hw 35 rfl)) Via.refl f51 rfl ?_
        intro T52 X53
        have f54 := f36.keep K37 all0
        refine own_strLen X53 70 d6_67 f54 (own_wL hw) (ow hw 10 rfl) hWd.2.1.1 hWd.2.1.2 (ow hw 46 rfl) (ow hw 47 rfl) (ow hw 49 rfl) (ow hw 48 rfl) rfl (W := 1) rfl (by decide) (by decide) (by decide) (by decide) rfl ?_
        intro T55 X56
        show OGo _ _ _ _ T55 (mkF m 70 #[.val (.ref a)] [(.int (Int32.ofNat (cs).length)), (.int (Int32.ofNat i))])
        refine og_icmpN X56 73 d6_70 (XT.ii_ge_f (own_olt (by omega) (by omega))) rfl ?_
        refine og_iconst X56 74 (1 : Int32) d6_73 rfl rfl ?_
        refine og_goto X56 78 d6_74 (by decide) (by decide) ?_
        refine own_retZ X56 d6_78 hret rfl (by decide) (by decide) ?_
        exact absurd ((own_skip_stop hc8 hc20 hc38).symm.trans hp4) (by omega)
  · -- not
    refine og_aloadN X7 5 d6_4 rfl rfl rfl ?_
    refine own_get X7 8 d6_5 (host := "") (Or.inl (ow hw 35 rfl)) Via.refl f2 rfl ?_
    intro T57 X58
    have f59 := q3.keep K1 (allS (Or.inr ⟨_, _, _, q0, by decide, (ow hw 7 rfl)⟩) all0)
    refine own_strLen X58 11 d6_8 f59 (own_wL hw) (ow hw 10 rfl) hWd.2.1.1 hWd.2.1.2 (ow hw 46 rfl) (ow hw 47 rfl) (ow hw 49 rfl) (ow hw 48 rfl) rfl (W := 1) rfl (by decide) (by decide) (by decide) (by decide) rfl ?_
    intro T60 X61
    show OGo _ _ _ _ T60 (mkF m 11 #[.val (.ref a)] [(.int (Int32.ofNat (cs).length)), (.int (Int32.ofNat i))])
    refine og_icmpY X61 59 d6_11 (XT.ii_ge_t (own_onl (by omega) (by omega))) (by decide) (by decide) ?_
    refine og_aloadN X61 60 d6_59 rfl rfl rfl ?_
    refine own_get X61 63 d6_60 (host := "") (Or.inl (ow hw 44 rfl)) Via.refl f3 rfl ?_
    intro T62 X63
    refine og_aloadN X63 64 d6_63 rfl rfl rfl ?_
    refine own_get X63 67 d6_64 (host := "") (Or.inl (ow hw 35 rfl)) Via.refl f2 rfl ?_
    intro T64 X65
    refine own_strLen X65 70 d6_67 f59 (own_wL hw) (ow hw 10 rfl) hWd.2.1.1 hWd.2.1.2 (ow hw 46 rfl) (ow hw 47 rfl) (ow hw 49 rfl) (ow hw 48 rfl) rfl (W := 1) rfl (by decide) (by decide) (by decide) (by decide) rfl ?_
    intro T66 X67
    show OGo _ _ _ _ T66 (mkF m 70 #[.val (.ref a)] [(.int (Int32.ofNat (cs).length)), (.int (Int32.ofNat i))])
    refine og_icmpY X67 77 d6_70 (XT.ii_ge_t (own_onl (by omega) (by omega))) (by decide) (by decide) ?_
    refine og_iconst X67 78 (0 : Int32) d6_77 rfl rfl ?_
    refine own_retZ X67 d6_78 hret rfl (by decide) (by decide) ?_
    exact ⟨rfl, f2, ((own_skip_end hc8).symm.trans hp4) ▸ f3⟩
theorem rm0 (l : Launch) (Z : State) (a0 : Array Value) (hw : ∀ d ∈ tables_1, d.before a0 Z = true) (n0 : Nat) (h0 : Heap) (hWd : OWorld Z a0) (wc : List Jvm.Cond) (O0 : Old Z n0 h0) (pa : Int32) (pb : Int32) (pc_ : Int32) (pd : Int32) (ps : Int32)  :
    OMet l Z own_EL n0 x (Jvm.Cond.code x code maxLocals ret :: wc) room_1 #[(.int pa), (.int pb), (.int pc_), (.int pd), (.int ps)] h0 [] (fun vq hq => vq = some (.int 1)) := by
  refine own_enter #[.val (.int pa), .val (.int pb), .val (.int pc_), .val (.int pd), .val (.int ps), .unset, .unset, .unset, .unset, .unset, .unset, .unset, .unset, .unset, .unset, .unset, .unset, .unset] pn_com_example_bote_bote_fields_FieldCursorSkipWhitespacePinLaw_law__IIIII_Z (ef_rm0 pa pb pc_ pd ps) hWd.1 O0 all0 ?_
  intro p e s m below meth c T0 X0 hnm hret
  refine og_iload X0 2 at_0 rfl rfl ?_
  refine og_iconst X0 3 (1 : Int32) at_2 rfl rfl ?_
  refine og_iushr X0 4 at_3 rfl ?_
  refine og_iconst X0 5 (5 : Int32) at_4 rfl rfl ?_
  refine og_irem X0 6 at_5 (by decide) rfl ?_
  refine og_istore X0 8 #[.val (.int pa), .val (.int pb), .val (.int pc_), .val (.int pd), .val (.int ps), .val (.int ((XT.ushr ps (1 : Int32)) % (5 : Int32))), .unset, .unset, .unset, .unset, .unset, .unset, .unset, .unset, .unset, .unset, .unset, .unset] at_6 rfl rfl ?_
  refine own_cut X0 22 (fun (fl : Int32) => #[.val (.int pa), .val (.int pb), .val (.int pc_), .val (.int pd), .val (.int ps), .val (.int ((XT.ushr ps (1 : Int32)) % (5 : Int32))), .val (.int fl), .unset, .unset, .unset, .unset, .unset, .unset, .unset, .unset, .unset, .unset, .unset]) (fun _ => []) (fun fl => True) ?_ ?_
  · -- the common way on
    intro T1 h1 X1 K1 fl ok1
    show OGo _ _ _ _ T1 (mkF m 22 #[.val (.int pa), .val (.int pb), .val (.int pc_), .val (.int pd), .val (.int ps), .val (.int ((XT.ushr ps (1 : Int32)) % (5 : Int32))), .val (.int fl), .unset, .unset, .unset, .unset, .unset, .unset, .unset, .unset, .unset, .unset, .unset] [])
    refine og_iloadN X1 23 at_22 rfl rfl ?_
    refine own_stat X1 26 (argsL := [(.int pa)]) (rest := []) at_23 (rm1 l Z a0 hw n0 h1 hWd [] X1.old pa  ) (ow hw 0 rfl) (ow hw 1 rfl) (ow hw 2 rfl) (ow hw 3 rfl) (by decide) (lenOf pd__28I_29C rfl) rfl rfl rfl (W := 0) rfl (by decide) (by decide) (by decide) (by decide) all0 rfl ?_
    intro T2 h2 v2 X2 K2 hQ2
    obtain ⟨r2, rfl, f3, f4⟩ := hQ2
    show OGo _ _ _ _ T2 (mkF m 26 #[.val (.int pa), .val (.int pb), .val (.int pc_), .val (.int pd), .val (.int ps), .val (.int ((XT.ushr ps (1 : Int32)) % (5 : Int32))), .val (.int fl), .unset, .unset, .unset, .unset, .unset, .unset, .unset, .unset, .unset, .unset, .unset] [(.int r2)])
    refine og_istore X2 28 #[.val (.int pa), .val (.int pb), .val (.int pc_), .val (.int pd), .val (.int ps), .val (.int ((XT.ushr ps (1 : Int32)) % (5 : Int32))), .val (.int fl), .val (.int r2), .unset, .unset, .unset, .unset, .unset, .unset, .unset, .unset, .unset, .unset] at_26 rfl rfl ?_
    refine og_iloadN X2 29 at_28 rfl rfl ?_
    refine own_stat X2 32 (argsL := [(.int pb)]) (rest := []) at_29 (rm1 l Z a0 hw n0 h2 hWd [] X2.old pb  ) (ow hw 0 rfl) (ow hw 1 rfl) (ow hw 2 rfl) (ow hw 3 rfl) (by decide) (lenOf pd__28I_29C rfl) rfl rfl rfl (W := 0) rfl (by decide) (by decide) (by decide) (by decide) all0 rfl ?_
    intro T5 h5 v5 X5 K5 hQ5
    obtain ⟨r5, rfl, f6, f7⟩ := hQ5
    show OGo _ _ _ _ T5 (mkF m 32 #[.val (.int pa), .val (.int pb), .val (.int pc_), .val (.int pd), .val (.int ps), .val (.int ((XT.ushr ps (1 : Int32)) % (5 : Int32))), .val (.int fl), .val (.int r2), .unset, .unset, .unset, .unset, .unset, .unset, .unset, .unset, .unset, .unset] [(.int r5)])
    refine og_istore X5 34 #[.val (.int pa), .val (.int pb), .val (.int pc_), .val (.int pd), .val (.int ps), .val (.int ((XT.ushr ps (1 : Int32)) % (5 : Int32))), .val (.int fl), .val (.int r2), .val (.int r5), .unset, .unset, .unset, .unset, .unset, .unset, .unset, .unset, .unset] at_32 rfl rfl ?_
    refine og_iloadN X5 35 at_34 rfl rfl ?_
    refine own_stat X5 38 (argsL := [(.int pc_)]) (rest := []) at_35 (rm1 l Z a0 hw n0 h5 hWd [] X5.old pc_  ) (ow hw 0 rfl) (ow hw 1 rfl) (ow hw 2 rfl) (ow hw 3 rfl) (by decide) (lenOf pd__28I_29C rfl) rfl rfl rfl (W := 0) rfl (by decide) (by decide) (by decide) (by decide) all0 rfl ?_
    intro T8 h8 v8 X8 K8 hQ8
    obtain ⟨r8, rfl, f9, f10⟩ := hQ8
    show OGo _ _ _ _ T8 (mkF m 38 #[.val (.int pa), .val (.int pb), .val (.int pc_), .val (.int pd), .val (.int ps), .val (.int ((XT.ushr ps (1 : Int32)) % (5 : Int32))), .val (.int fl), .val (.int r2), .val (.int r5), .unset, .unset, .unset, .unset, .unset, .unset, .unset, .unset, .unset] [(.int r8)])
    refine og_istore X8 40 #[.val (.int pa), .val (.int pb), .val (.int pc_), .val (.int pd), .val (.int ps), .val (.int ((XT.ushr ps (1 : Int32)) % (5 : Int32))), .val (.int fl), .val (.int r2), .val (.int r5), .val (.int r8), .unset, .unset, .unset, .unset, .unset, .unset, .unset, .unset] at_38 rfl rfl ?_
    refine og_iloadN X8 41 at_40 rfl rfl ?_
    refine own_stat X8 44 (argsL := [(.int pd)]) (rest := []) at_41 (rm1 l Z a0 hw n0 h8 hWd [] X8.old pd  ) (ow hw 0 rfl) (ow hw 1 rfl) (ow hw 2 rfl) (ow hw 3 rfl) (by decide) (lenOf pd__28I_29C rfl) rfl rfl rfl (W := 0) rfl (by decide) (by decide) (by decide) (by decide) all0 rfl ?_
    intro T11 h11 v11 X11 K11 hQ11
    obtain ⟨r11, rfl, f12, f13⟩ := hQ11
    show OGo _ _ _ _ T11 (mkF m 44 #[.val (.int pa), .val (.int pb), .val (.int pc_), .val (.int pd), .val (.int ps), .val (.int ((XT.ushr ps (1 : Int32)) % (5 : Int32))), .val (.int fl), .val (.int r2), .val (.int r5), .val (.int r8), .unset, .unset, .unset, .unset, .unset, .unset, .unset, .unset] [(.int r11)])
    refine og_istore X11 46 #[.val (.int pa), .val (.int pb), .val (.int pc_), .val (.int pd), .val (.int ps), .val (.int ((XT.ushr ps (1 : Int32)) % (5 : Int32))), .val (.int fl), .val (.int r2), .val (.int r5), .val (.int r8), .val (.int r11), .unset, .unset, .unset, .unset, .unset, .unset, .unset] at_44 rfl rfl ?_
    rcases own_mod5 ps with eQ | eQ | eQ | eQ | eQ
    · -- n is 0
      rw [eQ]
      refine og_iload X11 48 at_46 rfl rfl ?_
      refine og_ifN X11 51 at_48 (XT.i0_ne_f (by decide)) rfl ?_
      refine og_iconst X11 52 (0 : Int32) at_51 rfl rfl ?_
      refine own_arr X11 54 at_52 (ow hw 5 rfl) (by decide) (cap := 0) (by decide) (by decide) (by decide) (by decide) rfl ?_
      intro T14 h14 b14 kb14 X14 K14 G14 U14 A14
      have f15 : Arv Z h14 b14 kb14 .char (0 : Int32) [] (.int 0) := A14
      refine og_astore X14 56 #[.val (.int pa), .val (.int pb), .val (.int pc_), .val (.int pd), .val (.int ps), .val (.int 0), .val (.int fl), .val (.int r2), .val (.int r5), .val (.int r8), .val (.int r11), .val (.ref b14), .unset, .unset, .unset, .unset, .unset, .unset] at_54 rfl rfl rfl ?_
      refine og_goto X14 156 at_56 (by decide) (by decide) ?_
      refine own_new X14 159 at_156 (ow hw 6 rfl) (ow hw 7 rfl) (ow hw 8 rfl) (by decide) (by decide) rfl ?_
      intro T16 h16 b16 X16 K16 G16 U16 E16 D16
      have f17 : Fld Z h16 b16 "com/example/bote/bote/fields/FieldCursor" "text" "Ljava/lang/String;" .null := D16 (Or.inr (ow hw 36 rfl)) (ty := (.object "java/lang/String")) (by decide)
      have f18 : Fld Z h16 b16 "com/example/bote/bote/fields/FieldCursor" "shape" "Ljava/lang/String;" .null := D16 (Or.inr (ow hw 38 rfl)) (ty := (.object "java/lang/String")) (by decide)
      have f19 : Fld Z h16 b16 "com/example/bote/bote/fields/FieldCursor" "at" "I" (.int 0) := D16 (Or.inl (ow hw 45 rfl)) (ty := .int) (by decide)
      refine og_dup X16 160 at_159 rfl rfl ?_
      refine own_new X16 163 at_160 (ow hw 9 rfl) (ow hw 10 rfl) (ow hw 11 rfl) (by decide) (by decide) rfl ?_
      intro T20 h20 b20 X20 K20 G20 U20 E20 D20
      have f21 : Fld Z h20 b20 "java/lang/String" "value" "[B" .null := D20 (Or.inr (ow hw 24 rfl)) (ty := (.array .byte)) (by decide)
      have f22 : Fld Z h20 b20 "java/lang/String" "coder" "B" (.int 0) := D20 (Or.inr (ow hw 25 rfl)) (ty := .byte) (by decide)
      refine og_dup X20 164 at_163 rfl rfl ?_
      refine og_aload X20 166 at_164 rfl rfl rfl ?_
      have f23 := f15.keep K16 nin0
      have f24 := f23.keep K20 nin0
      refine own_spec X20 169 (a := b20) (argsL := [(.ref b14)]) (rest := [(.ref b20), (.ref b16), (.ref b16)]) at_166 rfl (rm_emp1 l Z a0 hw n0 h20 hWd [] X20.old b20 b14 .null (0 : Int32) kb14 E20 f21 f22 f24 (own_svb X20 (om 0 rfl))) (ow hw 12 rfl) (ow hw 13 rfl) (ow hw 11 rfl) (ow hw 14 rfl) (by decide) (lenOf pd__28_5bC_29V rfl) rfl rfl rfl (W := 3) rfl (by decide) (by decide) (by decide) (by decide) (allS (om 0 rfl) all0) rfl ?_
      intro T25 h25 v25 X25 K25 hQ25
      obtain ⟨rfl, f26⟩ := hQ25
      show OGo _ _ _ _ T25 (mkF m 169 #[.val (.int pa), .val (.int pb), .val (.int pc_), .val (.int pd), .val (.int ps), .val (.int 0), .val (.int fl), .val (.int r2), .val (.int r5), .val (.int r8), .val (.int r11), .val (.ref b14), .unset, .unset, .unset, .unset, .unset, .unset] [(.ref b20), (.ref b16), (.ref b16)])
      refine own_ldcO X25 171 (cap := 20) at_169 own_ELne (ow hw 30 rfl) (own_wS hw) (by decide) (by decide) (by decide) (by decide) rfl ?_
      intro T27 h27 a27 X27 K27
      have f28 := E16.keep K20
      have f29 := f28.keep K25
      have f30 := f29.keep K27
      have f31 := f17.keep K20 nin0
      have f32 := f31.keep K25 (ninS (Nat.ne_of_lt (Nat.lt_of_lt_of_le U16 G20)) nin0)
      have f33 := f32.keep K27 nin0
      have f34 := f18.keep K20 nin0
      have f35 := f34.keep K25 (ninS (Nat.ne_of_lt (Nat.lt_of_lt_of_le U16 G20)) nin0)
      have f36 := f35.keep K27 nin0
      have f37 := f19.keep K20 nin0
      have f38 := f37.keep K25 (ninS (Nat.ne_of_lt (Nat.lt_of_lt_of_le U16 G20)) nin0)
      have f39 := f38.keep K27 nin0
      refine own_spec X27 174 (a := b16) (argsL := [(.ref b20), (.ref a27)]) (rest := [(.ref b16)]) at_171 rfl (rm5 l Z a0 hw n0 h27 hWd [] X27.old b16 b20 a27 f30 f33 f36 f39 (own_svb X27 (om 1 rfl))) (ow hw 31 rfl) (ow hw 32 rfl) (ow hw 8 rfl) (ow hw 33 rfl) (by decide) (lenOf pd__28Ljava_2flang_2fString_3bLjava_2flang_2fString_3b_29V rfl) rfl rfl rfl (W := 1) rfl (by decide) (by decide) (by decide) (by decide) (allS (om 1 rfl) all0) rfl ?_
      intro T40 h40 v40 X40 K40 hQ40
      obtain ⟨rfl, f41, f42⟩ := hQ40
      show OGo _ _ _ _ T40 (mkF m 174 #[.val (.int pa), .val (.int pb), .val (.int pc_), .val (.int pd), .val (.int ps), .val (.int 0), .val (.int fl), .val (.int r2), .val (.int r5), .val (.int r8), .val (.int r11), .val (.ref b14), .unset, .unset, .unset, .unset, .unset, .unset] [(.ref b16)])
      refine og_astore X40 176 #[.val (.int pa), .val (.int pb), .val (.int pc_), .val (.int pd), .val (.int ps), .val (.int 0), .val (.int fl), .val (.int r2), .val (.int r5), .val (.int r8), .val (.int r11), .val (.ref b14), .val (.ref b16), .unset, .unset, .unset, .unset, .unset] at_174 rfl rfl rfl ?_
      refine og_iconst X40 177 (0 : Int32) at_176 rfl rfl ?_
      refine og_istore X40 179 #[.val (.int pa), .val (.int pb), .val (.int pc_), .val (.int pd), .val (.int ps), .val (.int 0), .val (.int fl), .val (.int r2), .val (.int r5), .val (.int r8), .val (.int r11), .val (.ref b14), .val (.ref b16), .val (.int 0), .unset, .unset, .unset, .unset] at_177 rfl rfl ?_
      refine og_iload X40 181 at_179 rfl rfl ?_
      by_cases hc43 : fl = 0
      · -- fl = 0
        refine og_ifY X40 218 at_181 (XT.i0_eq_t hc43) (by decide) (by decide) ?_
        refine og_iload X40 220 at_218 rfl rfl ?_
        refine og_istore X40 222 #[.val (.int pa), .val (.int pb), .val (.int pc_), .val (.int pd), .val (.int ps), .val (.int 0), .val (.int fl), .val (.int r2), .val (.int r5), .val (.int r8), .val (.int r11), .val (.ref b14), .val (.ref b16), .val (.int 0), .val (.int 0), .unset, .unset, .unset] at_220 rfl rfl ?_
        refine own_cut X40 294 (fun (kw : Int32) => #[.val (.int pa), .val (.int pb), .val (.int pc_), .val (.int pd), .val (.int ps), .val (.int 0), .val (.int fl), .val (.int r2), .val (.int r5), .val (.int r8), .val (.int r11), .val (.ref b14), .val (.ref b16), .val (.int 0), .val (.int kw), .unset, .unset, .unset]) (fun _ => []) (fun kw => (kw = 0)) ?_ ?_
        · -- the common ways on
          intro T44 h44 X44 K44 kw ok44
          rcases ok44 with rfl
          · -- 0
            show OGo _ _ _ _ T44 (mkF m 294 #[.val (.int pa), .val (.int pb), .val (.int pc_), .val (.int pd), .val (.int ps), .val (.int 0), .val (.int fl), .val (.int r2), .val (.int r5), .val (.int r8), .val (.int r11), .val (.ref b14), .val (.ref b16), .val (.int 0), .val (.int 0), .unset, .unset, .unset] [])
            refine og_aload X44 296 at_294 rfl rfl rfl ?_
            have f45 := f30.keep K40
            have f46 := f45.keep K44
            have f47 := f41.keep K44 nin0
            have f48 := f42.keep K44 nin0
            have f49 := f26.keep K27 all0
            have f50 := f49.keep K40 (allS (Or.inr ⟨_, _, _, f30, by decide, (ow hw 7 rfl)⟩) all0)
            have f51 := f50.keep K44 all0
            refine own_virt X44 299 (a := b16) (argsL := []) (rest := []) at_296 f46 (fun _ hZ => notFace_of_selects (args := #[]) (mvT hZ (ow hw 42 rfl))) (rm_skE l Z a0 hw n0 h44 hWd [] X44.old b16 b20 0 0 [] f46 f47 f48 f51.top (by simp [own_skip]) (Nat.le_of_ble_eq_true rfl) rfl (own_svb X44 (om 1 rfl))) (ow hw 39 rfl) (ow hw 40 rfl) (ow hw 42 rfl) (ow hw 41 rfl) (ow hw 8 rfl) (ow hw 43 rfl) (by decide) (lenOf pd__28_29Z rfl) rfl rfl rfl (W := 0) rfl (by decide) (by decide) (by decide) (by decide) (allS (om 1 rfl) all0) rfl ?_
            intro T52 h52 v52 X52 K52 hQ52
            obtain ⟨rfl, f53, f54⟩ := hQ52
            show OGo _ _ _ _ T52 (mkF m 299 #[.val (.int pa), .val (.int pb), .val (.int pc_), .val (.int pd), .val (.int ps), .val (.int 0), .val (.int fl), .val (.int r2), .val (.int r5), .val (.int r8), .val (.int r11), .val (.ref b14), .val (.ref b16), .val (.int 0), .val (.int 0), .unset, .unset, .unset] [(.int 0)])
            refine og_istore X52 301 #[.val (.int pa), .val (.int pb), .val (.int pc_), .val (.int pd), .val (.int ps), .val (.int 0), .val (.int fl), .val (.int r2), .val (.int r5), .val (.int r8), .val (.int r11), .val (.ref b14), .val (.ref b16), .val (.int 0), .val (.int 0), .val (.int 0), .unset, .unset] at_299 rfl rfl ?_
            refine og_aload X52 303 at_301 rfl rfl rfl ?_
            have f55 := f46.keep K52
            have f56 := f51.keep K52 (allS (Or.inr ⟨_, _, _, f46, by decide, (ow hw 7 rfl)⟩) all0)
            refine own_virt X52 306 (a := b16) (argsL := []) (rest := []) at_303 f55 (fun _ hZ => notFace_of_selects (args := #[]) (mvT hZ (ow hw 42 rfl))) (rm_skE l Z a0 hw n0 h52 hWd [] X52.old b16 b20 0 0 [] f55 f53 f54 f56.top (by simp [own_skip]) (Nat.le_of_ble_eq_true rfl) rfl (own_svb X52 (om 1 rfl))) (ow hw 39 rfl) (ow hw 40 rfl) (ow hw 42 rfl) (ow hw 41 rfl) (ow hw 8 rfl) (ow hw 43 rfl) (by decide) (lenOf pd__28_29Z rfl) rfl rfl rfl (W := 0) rfl (by decide) (by decide) (by decide) (by decide) (allS (om 1 rfl) all0) rfl ?_
            intro T57 h57 v57 X57 K57 hQ57
            obtain ⟨rfl, f58, f59⟩ := hQ57
            show OGo _ _ _ _ T57 (mkF m 306 #[.val (.int pa), .val (.int pb), .val (.int pc_), .val (.int pd), .val (.int ps), .val (.int 0), .val (.int fl), .val (.int r2), .val (.int r5), .val (.int r8), .val (.int r11), .val (.ref b14), .val (.ref b16), .val (.int 0), .val (.int 0), .val (.int 0), .unset, .unset] [(.int 0)])
            refine og_istore X57 308 #[.val (.int pa), .val (.int pb), .val (.int pc_), .val (.int pd), .val (.int ps), .val (.int 0), .val (.int fl), .val (.int r2), .val (.int r5), .val (.int r8), .val (.int r11), .val (.ref b14), .val (.ref b16), .val (.int 0), .val (.int 0), .val (.int 0), .val (.int 0), .unset] at_306 rfl rfl ?_
            refine og_iload X57 310 at_308 rfl rfl ?_
            refine og_iload X57 312 at_310 rfl rfl ?_
            refine og_iload X57 314 at_312 rfl rfl ?_
            refine og_icmpY X57 321 at_314 (XT.ii_ge_t (by decide)) (by decide) (by decide) ?_
            refine og_iconst X57 322 (0 : Int32) at_321 rfl rfl ?_
            refine og_icmpN X57 325 at_322 (XT.ii_ne_f (by decide)) rfl ?_
            refine og_iload X57 327 at_325 rfl rfl ?_
            refine og_iload X57 329 at_327 rfl rfl ?_
            refine og_icmpY X57 334 at_329 (XT.ii_eq_t (by decide)) (by decide) (by decide) ?_
            refine og_iload X57 336 at_334 rfl rfl ?_
            refine og_iload X57 338 at_336 rfl rfl ?_
            refine og_icmpY X57 385 at_338 (XT.ii_ge_t (by decide)) (by decide) (by decide) ?_
            refine og_iconst X57 386 (1 : Int32) at_385 rfl rfl ?_
            refine own_retZ X57 at_386 hret rfl (by decide) (by decide) ?_
            exact rfl
        · -- the ways to it
          intro J44
          refine og_iload X40 224 at_222 rfl rfl ?_
          refine og_iconst X40 225 (3 : Int32) at_224 rfl rfl ?_
          refine og_icmpY X40 239 at_225 (XT.ii_le_t (by decide)) (by decide) (by decide) ?_
          refine og_iload X40 241 at_239 rfl rfl ?_
          refine og_iconst X40 242 (2 : Int32) at_241 rfl rfl ?_
          refine og_icmpY X40 256 at_242 (XT.ii_le_t (by decide)) (by decide) (by decide) ?_
          refine og_iload X40 258 at_256 rfl rfl ?_
          refine og_iconst X40 259 (1 : Int32) at_258 rfl rfl ?_
          refine og_icmpY X40 273 at_259 (XT.ii_le_t (by decide)) (by decide) (by decide) ?_
          refine og_iload X40 275 at_273 rfl rfl ?_
          refine og_ifY X40 294 at_275 (XT.i0_le_t (by decide)) (by decide) (by decide) ?_
          exact J44 _ _ X40 (Keep.refl _ _) _ rfl
      · -- not
        refine og_ifN X40 184 at_181 (XT.i0_eq_f hc43) rfl ?_
        refine og_aload X40 186 at_184 rfl rfl rfl ?_
        refine og_iload X40 188 at_186 rfl rfl ?_
        have f60 := f30.keep K40
        have f61 := f26.keep K27 all0
        have f62 := f61.keep K40 (allS (Or.inr ⟨_, _, _, f30, by decide, (ow hw 7 rfl)⟩) all0)
        refine own_virt X40 191 (a := b16) (argsL := [(.int r2)]) (rest := []) at_188 f60 (fun _ hZ => notFace_of_selects (args := #[]) (mvT hZ (ow hw 70 rfl))) (rm_tkE l Z a0 hw n0 h40 hWd [] X40.old b16 b20 0 [] r2 f60 f41 f42 f62.top rfl (own_svb X40 (om 1 rfl))) (ow hw 67 rfl) (ow hw 68 rfl) (ow hw 70 rfl) (ow hw 69 rfl) (ow hw 8 rfl) (ow hw 71 rfl) (by decide) (lenOf pd__28C_29Z rfl) rfl rfl rfl (W := 0) rfl (by decide) (by decide) (by decide) (by decide) (allS (om 1 rfl) all0) rfl ?_
        intro T63 h63 v63 X63 K63 hQ63
        obtain ⟨rfl, f64, f65⟩ := hQ63
        show OGo _ _ _ _ T63 (mkF m 191 #[.val (.int pa), .val (.int pb), .val (.int pc_), .val (.int pd), .val (.int ps), .val (.int 0), .val (.int fl), .val (.int r2), .val (.int r5), .val (.int r8), .val (.int r11), .val (.ref b14), .val (.ref b16), .val (.int 0), .unset, .unset, .unset, .unset] [(.int 0)])
        refine og_istore X63 193 #[.val (.int pa), .val (.int pb), .val (.int pc_), .val (.int pd), .val (.int ps), .val (.int 0), .val (.int fl), .val (.int r2), .val (.int r5), .val (.int r8), .val (.int r11), .val (.ref b14), .val (.ref b16), .val (.int 0), .val (.int 0), .unset, .unset, .unset] at_191 rfl rfl ?_
        refine og_iload X63 195 at_193 rfl rfl ?_
        refine og_iload X63 197 at_195 rfl rfl ?_
        refine og_ifY X63 204 at_197 (XT.i0_le_t (by decide)) (by decide) (by decide) ?_
        refine og_iconst X63 205 (0 : Int32) at_204 rfl rfl ?_
        refine og_icmpY X63 210 at_205 (XT.ii_eq_t (by decide)) (by decide) (by decide) ?_
        refine og_iload X63 212 at_210 rfl rfl ?_
        refine og_ifY X63 218 at_212 (XT.i0_le_t (by decide)) (by decide) (by decide) ?_
        refine og_iload X63 220 at_218 rfl rfl ?_
        refine og_istore X63 222 #[.val (.int pa), .val (.int pb), .val (.int pc_), .val (.int pd), .val (.int ps), .val (.int 0), .val (.int fl), .val (.int r2), .val (.int r5), .val (.int r8), .val (.int r11), .val (.ref b14), .val (.ref b16), .val (.int 0), .val (.int 0), .unset, .unset, .unset] at_220 rfl rfl ?_
        refine own_cut X63 294 (fun (kw : Int32) => #[.val (.int pa), .val (.int pb), .val (.int pc_), .val (.int pd), .val (.int ps), .val (.int 0), .val (.int fl), .val (.int r2), .val (.int r5), .val (.int r8), .val (.int r11), .val (.ref b14), .val (.ref b16), .val (.int 0), .val (.int kw), .unset, .unset, .unset]) (fun _ => []) (fun kw => (kw = 0)) ?_ ?_
        · -- the common ways on
          intro T66 h66 X66 K66 kw ok66
          rcases ok66 with rfl
          · -- 0
            show OGo _ _ _ _ T66 (mkF m 294 #[.val (.int pa), .val (.int pb), .val (.int pc_), .val (.int pd), .val (.int ps), .val (.int 0), .val (.int fl), .val (.int r2), .val (.int r5), .val (.int r8), .val (.int r11), .val (.ref b14), .val (.ref b16), .val (.int 0), .val (.int 0), .unset, .unset, .unset] [])
            refine og_aload X66 296 at_294 rfl rfl rfl ?_
            have f67 := f60.keep K63
            have f68 := f67.keep K66
            have f69 := f64.keep K66 nin0
            have f70 := f65.keep K66 nin0
            have f71 := f62.keep K63 (allS (Or.inr ⟨_, _, _, f60, by decide, (ow hw 7 rfl)⟩) all0)
            have f72 := f71.keep K66 all0
            refine own_virt X66 299 (a := b16) (argsL := []) (rest := []) at_296 f68 (fun _ hZ => notFace_of_selects (args := #[]) (mvT hZ (ow hw 42 rfl))) (rm_skE l Z a0 hw n0 h66 hWd [] X66.old b16 b20 0 0 [] f68 f69 f70 f72.top (by simp [own_skip]) (Nat.le_of_ble_eq_true rfl) rfl (own_svb X66 (om 1 rfl))) (ow hw 39 rfl) (ow hw 40 rfl) (ow hw 42 rfl) (ow hw 41 rfl) (ow hw 8 rfl) (ow hw 43 rfl) (by decide) (lenOf pd__28_29Z rfl) rfl rfl rfl (W := 0) rfl (by decide) (by decide) (by decide) (by decide) (allS (om 1 rfl) all0) rfl ?_
            intro T73 h73 v73 X73 K73 hQ73
            obtain ⟨rfl, f74, f75⟩ := hQ73
            show OGo _ _ _ _ T73 (mkF m 299 #[.val (.int pa), .val (.int pb), .val (.int pc_), .val (.int pd), .val (.int ps), .val (.int 0), .val (.int fl), .val (.int r2), .val (.int r5), .val (.int r8), .val (.int r11), .val (.ref b14), .val (.ref b16), .val (.int 0), .val (.int 0), .unset, .unset, .unset] [(.int 0)])
            refine og_istore X73 301 #[.val (.int pa), .val (.int pb), .val (.int pc_), .val (.int pd), .val (.int ps), .val (.int 0), .val (.int fl), .val (.int r2), .val (.int r5), .val (.int r8), .val (.int r11), .val (.ref b14), .val (.ref b16), .val (.int 0), .val (.int 0), .val (.int 0), .unset, .unset] at_299 rfl rfl ?_
            refine og_aload X73 303 at_301 rfl rfl rfl ?_
            have f76 := f68.keep K73
            have f77 := f72.keep K73 (allS (Or.inr ⟨_, _, _, f68, by decide, (ow hw 7 rfl)⟩) all0)
            refine own_virt X73 306 (a := b16) (argsL := []) (rest := []) at_303 f76 (fun _ hZ => notFace_of_selects (args := #[]) (mvT hZ (ow hw 42 rfl))) (rm_skE l Z a0 hw n0 h73 hWd [] X73.old b16 b20 0 0 [] f76 f74 f75 f77.top (by simp [own_skip]) (Nat.le_of_ble_eq_true rfl) rfl (own_svb X73 (om 1 rfl))) (ow hw 39 rfl) (ow hw 40 rfl) (ow hw 42 rfl) (ow hw 41 rfl) (ow hw 8 rfl) (ow hw 43 rfl) (by decide) (lenOf pd__28_29Z rfl) rfl rfl rfl (W := 0) rfl (by decide) (by decide) (by decide) (by decide) (allS (om 1 rfl) all0) rfl ?_
            intro T78 h78 v78 X78 K78 hQ78
            obtain ⟨rfl, f79, f80⟩ := hQ78
            show OGo _ _ _ _ T78 (mkF m 306 #[.val (.int pa), .val (.int pb), .val (.int pc_), .val (.int pd), .val (.int ps), .val (.int 0), .val (.int fl), .val (.int r2), .val (.int r5), .val (.int r8), .val (.int r11), .val (.ref b14), .val (.ref b16), .val (.int 0), .val (.int 0), .val (.int 0), .unset, .unset] [(.int 0)])
            refine og_istore X78 308 #[.val (.int pa), .val (.int pb), .val (.int pc_), .val (.int pd), .val (.int ps), .val (.int 0), .val (.int fl), .val (.int r2), .val (.int r5), .val (.int r8), .val (.int r11), .val (.ref b14), .val (.ref b16), .val (.int 0), .val (.int 0), .val (.int 0), .val (.int 0), .unset] at_306 rfl rfl ?_
            refine og_iload X78 310 at_308 rfl rfl ?_
            refine og_iload X78 312 at_310 rfl rfl ?_
            refine og_iload X78 314 at_312 rfl rfl ?_
            refine og_icmpY X78 321 at_314 (XT.ii_ge_t (by decide)) (by decide) (by decide) ?_
            refine og_iconst X78 322 (0 : Int32) at_321 rfl rfl ?_
            refine og_icmpN X78 325 at_322 (XT.ii_ne_f (by decide)) rfl ?_
            refine og_iload X78 327 at_325 rfl rfl ?_
            refine og_iload X78 329 at_327 rfl rfl ?_
            refine og_icmpY X78 334 at_329 (XT.ii_eq_t (by decide)) (by decide) (by decide) ?_
            refine og_iload X78 336 at_334 rfl rfl ?_
            refine og_iload X78 338 at_336 rfl rfl ?_
            refine og_icmpY X78 385 at_338 (XT.ii_ge_t (by decide)) (by decide) (by decide) ?_
            refine og_iconst X78 386 (1 : Int32) at_385 rfl rfl ?_
            refine own_retZ X78 at_386 hret rfl (by decide) (by decide) ?_
            exact rfl
        · -- the ways to it
          intro J66
          refine og_iload X63 224 at_222 rfl rfl ?_
          refine og_iconst X63 225 (3 : Int32) at_224 rfl rfl ?_
          refine og_icmpY X63 239 at_225 (XT.ii_le_t (by decide)) (by decide) (by decide) ?_
          refine og_iload X63 241 at_239 rfl rfl ?_
          refine og_iconst X63 242 (2 : Int32) at_241 rfl rfl ?_
          refine og_icmpY X63 256 at_242 (XT.ii_le_t (by decide)) (by decide) (by decide) ?_
          refine og_iload X63 258 at_256 rfl rfl ?_
          refine og_iconst X63 259 (1 : Int32) at_258 rfl rfl ?_
          refine og_icmpY X63 273 at_259 (XT.ii_le_t (by decide)) (by decide) (by decide) ?_
          refine og_iload X63 275 at_273 rfl rfl ?_
          refine og_ifY X63 294 at_275 (XT.i0_le_t (by decide)) (by decide) (by decide) ?_
          exact J66 _ _ X63 (Keep.refl _ _) _ rfl
    · -- n is 1
      rw [eQ]
      refine og_iload X11 48 at_46 rfl rfl ?_
      refine og_ifY X11 59 at_48 (XT.i0_ne_t (by decide)) (by decide) (by decide) ?_
      refine og_iload X11 61 at_59 rfl rfl ?_
      refine og_iconst X11 62 (1 : Int32) at_61 rfl rfl ?_
      refine og_icmpN X11 65 at_62 (XT.ii_ne_f (by decide)) rfl ?_
      refine og_iconst X11 66 (1 : Int32) at_65 rfl rfl ?_
      refine own_arr X11 68 at_66 (ow hw 5 rfl) (by decide) (cap := 1) (by decide) (by decide) (by decide) (by decide) rfl ?_
      intro T81 h81 b81 kb81 X81 K81 G81 U81 A81
      have f82 : Arv Z h81 b81 kb81 .char (1 : Int32) [(.int 0)] (.int 0) := A81
      refine og_dup X81 69 at_68 rfl rfl ?_
      refine og_iconst X81 70 (0 : Int32) at_69 rfl rfl ?_
      refine og_iload X81 72 at_70 rfl rfl ?_
      refine own_stC X81 73 at_72 f82 (own_nch f3 f4) (by decide) (by decide) (i := 0) (by decide) (Nat.le_of_ble_eq_true rfl) (om 0 rfl) rfl ?_
      intro T83 h83 X83 W83 K83 A83
      have f84 : Arv Z h83 b81 kb81 .char (1 : Int32) [(.int r2)] (.int 0) := A83
      refine og_astore X83 75 #[.val (.int pa), .val (.int pb), .val (.int pc_), .val (.int pd), .val (.int ps), .val (.int 1), .val (.int fl), .val (.int r2), .val (.int r5), .val (.int r8), .val (.int r11), .val (.ref b81), .unset, .unset, .unset, .unset, .unset, .unset] at_73 rfl rfl rfl ?_
      refine og_goto X83 156 at_75 (by decide) (by decide) ?_
      refine own_new X83 159 at_156 (ow hw 6 rfl) (ow hw 7 rfl) (ow hw 8 rfl) (by decide) (by decide) rfl ?_
      intro T85 h85 b85 X85 K85 G85 U85 E85 D85
      have f86 : Fld Z h85 b85 "com/example/bote/bote/fields/FieldCursor" "text" "Ljava/lang/String;" .null := D85 (Or.inr (ow hw 36 rfl)) (ty := (.object "java/lang/String")) (by decide)
      have f87 : Fld Z h85 b85 "com/example/bote/bote/fields/FieldCursor" "shape" "Ljava/lang/String;" .null := D85 (Or.inr (ow hw 38 rfl)) (ty := (.object "java/lang/String")) (by decide)
      have f88 : Fld Z h85 b85 "com/example/bote/bote/fields/FieldCursor" "at" "I" (.int 0) := D85 (Or.inl (ow hw 45 rfl)) (ty := .int) (by decide)
      refine og_dup X85 160 at_159 rfl rfl ?_
      refine own_new X85 163 at_160 (ow hw 9 rfl) (ow hw 10 rfl) (ow hw 11 rfl) (by decide) (by decide) rfl ?_
      intro T89 h89 b89 X89 K89 G89 U89 E89 D89
      have f90 : Fld Z h89 b89 "java/lang/String" "value" "[B" .null := D89 (Or.inr (ow hw 24 rfl)) (ty := (.array .byte)) (by decide)
      have f91 : Fld Z h89 b89 "java/lang/String" "coder" "B" (.int 0) := D89 (Or.inr (ow hw 25 rfl)) (ty := .byte) (by decide)
      refine og_dup X89 164 at_163 rfl rfl ?_
      refine og_aload X89 166 at_164 rfl rfl rfl ?_
      have f92 := f84.keep K85 nin0
      have f93 := f92.keep K89 nin0
      refine own_spec X89 169 (a := b89) (argsL := [(.ref b81)]) (rest := [(.ref b89), (.ref b85), (.ref b85)]) at_166 rfl (ru_ini1 l Z a0 hw n0 h89 hWd [] X89.old b89 b81 .null (0 : Int32) kb81 (.int 0) r2 E89 f90 f91 f93 f3 f4 (own_svb X89 (om 0 rfl))) (ow hw 12 rfl) (ow hw 13 rfl) (ow hw 11 rfl) (ow hw 14 rfl) (by decide) (lenOf pd__28_5bC_29V rfl) rfl rfl rfl (W := 3) rfl (by decide) (by decide) (by decide) (by decide) (allS (om 0 rfl) all0) rfl ?_
      intro T94 h94 v94 X94 K94 hQ94
      obtain ⟨rfl, f95⟩ := hQ94
      show OGo _ _ _ _ T94 (mkF m 169 #[.val (.int pa), .val (.int pb), .val (.int pc_), .val (.int pd), .val (.int ps), .val (.int 1), .val (.int fl), .val (.int r2), .val (.int r5), .val (.int r8), .val (.int r11), .val (.ref b81), .unset, .unset, .unset, .unset, .unset, .unset] [(.ref b89), (.ref b85), (.ref b85)])
      refine own_ldcO X94 171 (cap := 20) at_169 own_ELne (ow hw 30 rfl) (own_wS hw) (by decide) (by decide) (by decide) (by decide) rfl ?_
      intro T96 h96 a96 X96 K96
      have f97 := E85.keep K89
      have f98 := f97.keep K94
      have f99 := f98.keep K96
      have f100 := f86.keep K89 nin0
      have f101 := f100.keep K94 (ninS (Nat.ne_of_lt (Nat.lt_of_lt_of_le U85 G89)) nin0)
      have f102 := f101.keep K96 nin0
      have f103 := f87.keep K89 nin0
      have f104 := f103.keep K94 (ninS (Nat.ne_of_lt (Nat.lt_of_lt_of_le U85 G89)) nin0)
      have f105 := f104.keep K96 nin0
      have f106 := f88.keep K89 nin0
      have f107 := f106.keep K94 (ninS (Nat.ne_of_lt (Nat.lt_of_lt_of_le U85 G89)) nin0)
      have f108 := f107.keep K96 nin0
      refine own_spec X96 174 (a := b85) (argsL := [(.ref b89), (.ref a96)]) (rest := [(.ref b85)]) at_171 rfl (rm5 l Z a0 hw n0 h96 hWd [] X96.old b85 b89 a96 f99 f102 f105 f108 (own_svb X96 (om 1 rfl))) (ow hw 31 rfl) (ow hw 32 rfl) (ow hw 8 rfl) (ow hw 33 rfl) (by decide) (lenOf pd__28Ljava_2flang_2fString_3bLjava_2flang_2fString_3b_29V rfl) rfl rfl rfl (W := 1) rfl (by decide) (by decide) (by decide) (by decide) (allS (om 1 rfl) all0) rfl ?_
      intro T109 h109 v109 X109 K109 hQ109
      obtain ⟨rfl, f110, f111⟩ := hQ109
      show OGo _ _ _ _ T109 (mkF m 174 #[.val (.int pa), .val (.int pb), .val (.int pc_), .val (.int pd), .val (.int ps), .val (.int 1), .val (.int fl), .val (.int r2), .val (.int r5), .val (.int r8), .val (.int r11), .val (.ref b81), .unset, .unset, .unset, .unset, .unset, .unset] [(.ref b85)])
      refine og_astore X109 176 #[.val (.int pa), .val (.int pb), .val (.int pc_), .val (.int pd), .val (.int ps), .val (.int 1), .val (.int fl), .val (.int r2), .val (.int r5), .val (.int r8), .val (.int r11), .val (.ref b81), .val (.ref b85), .unset, .unset, .unset, .unset, .unset] at_174 rfl rfl rfl ?_
      refine og_iconst X109 177 (0 : Int32) at_176 rfl rfl ?_
      refine og_istore X109 179 #[.val (.int pa), .val (.int pb), .val (.int pc_), .val (.int pd), .val (.int ps), .val (.int 1), .val (.int fl), .val (.int r2), .val (.int r5), .val (.int r8), .val (.int r11), .val (.ref b81), .val (.ref b85), .val (.int 0), .unset, .unset, .unset, .unset] at_177 rfl rfl ?_
      refine og_iload X109 181 at_179 rfl rfl ?_
      by_cases hc112 : fl = 0
      · -- fl = 0
        refine og_ifY X109 218 at_181 (XT.i0_eq_t hc112) (by decide) (by decide) ?_
        refine og_iload X109 220 at_218 rfl rfl ?_
        refine og_istore X109 222 #[.val (.int pa), .val (.int pb), .val (.int pc_), .val (.int pd), .val (.int ps), .val (.int 1), .val (.int fl), .val (.int r2), .val (.int r5), .val (.int r8), .val (.int r11), .val (.ref b81), .val (.ref b85), .val (.int 0), .val (.int 1), .unset, .unset, .unset] at_220 rfl rfl ?_
        refine own_cut X109 294 (fun (kw : Int32) => #[.val (.int pa), .val (.int pb), .val (.int pc_), .val (.int pd), .val (.int ps), .val (.int 1), .val (.int fl), .val (.int r2), .val (.int r5), .val (.int r8), .val (.int r11), .val (.ref b81), .val (.ref b85), .val (.int 0), .val (.int kw), .unset, .unset, .unset]) (fun _ => []) (fun kw => (kw = 1 ∧ ¬ (own_ws r2) = 0) ∨ (kw = 0 ∧ (own_ws r2) = 0)) ?_ ?_
        · -- the common ways on
          intro T113 h113 X113 K113 kw ok113
          rcases ok113 with ⟨rfl, ck0⟩ | ⟨rfl, ck0⟩
          · -- 1
            show OGo _ _ _ _ T113 (mkF m 294 #[.val (.int pa), .val (.int pb), .val (.int pc_), .val (.int pd), .val (.int ps), .val (.int 1), .val (.int fl), .val (.int r2), .val (.int r5), .val (.int r8), .val (.int r11), .val (.ref b81), .val (.ref b85), .val (.int 0), .val (.int 1), .unset, .unset, .unset] [])
            refine og_aload X113 296 at_294 rfl rfl rfl ?_
            have f114 := f99.keep K109
            have f115 := f114.keep K113
            have f116 := f110.keep K113 nin0
            have f117 := f111.keep K113 nin0
            have f118 := f95.keep K96 all0
            have f119 := f118.keep K109 (allS (Or.inr ⟨_, _, _, f99, by decide, (ow hw 7 rfl)⟩) all0)
            have f120 := f119.keep K113 all0
            refine own_virt X113 299 (a := b85) (argsL := []) (rest := []) at_296 f115 (fun _ hZ => notFace_of_selects (args := #[]) (mvT hZ (ow hw 42 rfl))) (rm_skE l Z a0 hw n0 h113 hWd [] X113.old b85 b89 0 1 [r2] f115 f116 f117 f120.top (by simp [own_skip, own_w1 ck0]) (Nat.le_of_ble_eq_true rfl) rfl (own_svb X113 (om 1 rfl))) (ow hw 39 rfl) (ow hw 40 rfl) (ow hw 42 rfl) (ow hw 41 rfl) (ow hw 8 rfl) (ow hw 43 rfl) (by decide) (lenOf pd__28_29Z rfl) rfl rfl rfl (W := 0) rfl (by decide) (by decide) (by decide) (by decide) (allS (om 1 rfl) all0) rfl ?_
            intro T121 h121 v121 X121 K121 hQ121
            obtain ⟨rfl, f122, f123⟩ := hQ121
            show OGo _ _ _ _ T121 (mkF m 299 #[.val (.int pa), .val (.int pb), .val (.int pc_), .val (.int pd), .val (.int ps), .val (.int 1), .val (.int fl), .val (.int r2), .val (.int r5), .val (.int r8), .val (.int r11), .val (.ref b81), .val (.ref b85), .val (.int 0), .val (.int 1), .unset, .unset, .unset] [(.int 0)])
            refine og_istore X121 301 #[.val (.int pa), .val (.int pb), .val (.int pc_), .val (.int pd), .val (.int ps), .val (.int 1), .val (.int fl), .val (.int r2), .val (.int r5), .val (.int r8), .val (.int r11), .val (.ref b81), .val (.ref b85), .val (.int 0), .val (.int 1), .val (.int 0), .unset, .unset] at_299 rfl rfl ?_
            refine og_aload X121 303 at_301 rfl rfl rfl ?_
            have f124 := f115.keep K121
            have f125 := f120.keep K121 (allS (Or.inr ⟨_, _, _, f115, by decide, (ow hw 7 rfl)⟩) all0)
            refine own_virt X121 306 (a := b85) (argsL := []) (rest := []) at_303 f124 (fun _ hZ => notFace_of_selects (args := #[]) (mvT hZ (ow hw 42 rfl))) (rm_skE l Z a0 hw n0 h121 hWd [] X121.old b85 b89 1 1 [r2] f124 f122 f123 f125.top (by simp [own_skip, own_w1 ck0]) (Nat.le_of_ble_eq_true rfl) rfl (own_svb X121 (om 1 rfl))) (ow hw 39 rfl) (ow hw 40 rfl) (ow hw 42 rfl) (ow hw 41 rfl) (ow hw 8 rfl) (ow hw 43 rfl) (by decide) (lenOf pd__28_29Z rfl) rfl rfl rfl (W := 0) rfl (by decide) (by decide) (by decide) (by decide) (allS (om 1 rfl) all0) rfl ?_
            intro T126 h126 v126 X126 K126 hQ126
            obtain ⟨rfl, f127, f128⟩ := hQ126
            show OGo _ _ _ _ T126 (mkF m 306 #[.val (.int pa), .val (.int pb), .val (.int pc_), .val (.int pd), .val (.int ps), .val (.int 1), .val (.int fl), .val (.int r2), .val (.int r5), .val (.int r8), .val (.int r11), .val (.ref b81), .val (.ref b85), .val (.int 0), .val (.int 1), .val (.int 0), .unset, .unset] [(.int 0)])
            refine og_istore X126 308 #[.val (.int pa), .val (.int pb), .val (.int pc_), .val (.int pd), .val (.int ps), .val (.int 1), .val (.int fl), .val (.int r2), .val (.int r5), .val (.int r8), .val (.int r11), .val (.ref b81), .val (.ref b85), .val (.int 0), .val (.int 1), .val (.int 0), .val (.int 0), .unset] at_306 rfl rfl ?_
            refine og_iload X126 310 at_308 rfl rfl ?_
            refine og_iload X126 312 at_310 rfl rfl ?_
            refine og_iload X126 314 at_312 rfl rfl ?_
            refine og_icmpY X126 321 at_314 (XT.ii_ge_t (by decide)) (by decide) (by decide) ?_
            refine og_iconst X126 322 (0 : Int32) at_321 rfl rfl ?_
            refine og_icmpN X126 325 at_322 (XT.ii_ne_f (by decide)) rfl ?_
            refine og_iload X126 327 at_325 rfl rfl ?_
            refine og_iload X126 329 at_327 rfl rfl ?_
            refine og_icmpY X126 334 at_329 (XT.ii_eq_t (by decide)) (by decide) (by decide) ?_
            refine og_iload X126 336 at_334 rfl rfl ?_
            refine og_iload X126 338 at_336 rfl rfl ?_
            refine og_icmpY X126 385 at_338 (XT.ii_ge_t (by decide)) (by decide) (by decide) ?_
            refine og_iconst X126 386 (1 : Int32) at_385 rfl rfl ?_
            refine own_retZ X126 at_386 hret rfl (by decide) (by decide) ?_
            exact rfl
          · -- 0
            show OGo _ _ _ _ T113 (mkF m 294 #[.val (.int pa), .val (.int pb), .val (.int pc_), .val (.int pd), .val (.int ps), .val (.int 1), .val (.int fl), .val (.int r2), .val (.int r5), .val (.int r8), .val (.int r11), .val (.ref b81), .val (.ref b85), .val (.int 0), .val (.int 0), .unset, .unset, .unset] [])
            refine og_aload X113 296 at_294 rfl rfl rfl ?_
            have f129 := f99.keep K109
            have f130 := f129.keep K113
            have f131 := f110.keep K113 nin0
            have f132 := f111.keep K113 nin0
            have f133 := f95.keep K96 all0
            have f134 := f133.keep K109 (allS (Or.inr ⟨_, _, _, f99, by decide, (ow hw 7 rfl)⟩) all0)
            have f135 := f134.keep K113 all0
            refine own_virt X113 299 (a := b85) (argsL := []) (rest := []) at_296 f130 (fun _ hZ => notFace_of_selects (args := #[]) (mvT hZ (ow hw 42 rfl))) (rm_skI l Z a0 hw n0 h113 hWd [] X113.old b85 b89 0 0 [r2] f130 f131 f132 f135.top (by simp [own_skip, own_w0 ck0]) (Nat.le_of_ble_eq_true rfl) (Nat.le_of_ble_eq_true rfl) (own_svb X113 (om 1 rfl))) (ow hw 39 rfl) (ow hw 40 rfl) (ow hw 42 rfl) (ow hw 41 rfl) (ow hw 8 rfl) (ow hw 43 rfl) (by decide) (lenOf pd__28_29Z rfl) rfl rfl rfl (W := 0) rfl (by decide) (by decide) (by decide) (by decide) (allS (om 1 rfl) all0) rfl ?_
            intro T136 h136 v136 X136 K136 hQ136
            obtain ⟨rfl, f137, f138⟩ := hQ136
            show OGo _ _ _ _ T136 (mkF m 299 #[.val (.int pa), .val (.int pb), .val (.int pc_), .val (.int pd), .val (.int ps), .val (.int 1), .val (.int fl), .val (.int r2), .val (.int r5), .val (.int r8), .val (.int r11), .val (.ref b81), .val (.ref b85), .val (.int 0), .val (.int 0), .unset, .unset, .unset] [(.int 1)])
            refine og_istore X136 301 #[.val (.int pa), .val (.int pb), .val (.int pc_), .val (.int pd), .val (.int ps), .val (.int 1), .val (.int fl), .val (.int r2), .val (.int r5), .val (.int r8), .val (.int r11), .val (.ref b81), .val (.ref b85), .val (.int 0), .val (.int 0), .val (.int 1), .unset, .unset] at_299 rfl rfl ?_
            refine og_aload X136 303 at_301 rfl rfl rfl ?_
            have f139 := f130.keep K136
            have f140 := f135.keep K136 (allS (Or.inr ⟨_, _, _, f130, by decide, (ow hw 7 rfl)⟩) all0)
            refine own_virt X136 306 (a := b85) (argsL := []) (rest := []) at_303 f139 (fun _ hZ => notFace_of_selects (args := #[]) (mvT hZ (ow hw 42 rfl))) (rm_skI l Z a0 hw n0 h136 hWd [] X136.old b85 b89 0 0 [r2] f139 f137 f138 f140.top (by simp [own_skip, own_w0 ck0]) (Nat.le_of_ble_eq_true rfl) (Nat.le_of_ble_eq_true rfl) (own_svb X136 (om 1 rfl))) (ow hw 39 rfl) (ow hw 40 rfl) (ow hw 42 rfl) (ow hw 41 rfl) (ow hw 8 rfl) (ow hw 43 rfl) (by decide) (lenOf pd__28_29Z rfl) rfl rfl rfl (W := 0) rfl (by decide) (by decide) (by decide) (by decide) (allS (om 1 rfl) all0) rfl ?_
            intro T141 h141 v141 X141 K141 hQ141
            obtain ⟨rfl, f142, f143⟩ := hQ141
            show OGo _ _ _ _ T141 (mkF m 306 #[.val (.int pa), .val (.int pb), .val (.int pc_), .val (.int pd), .val (.int ps), .val (.int 1), .val (.int fl), .val (.int r2), .val (.int r5), .val (.int r8), .val (.int r11), .val (.ref b81), .val (.ref b85), .val (.int 0), .val (.int 0), .val (.int 1), .unset, .unset] [(.int 1)])
            refine og_istore X141 308 #[.val (.int pa), .val (.int pb), .val (.int pc_), .val (.int pd), .val (.int ps), .val (.int 1), .val (.int fl), .val (.int r2), .val (.int r5), .val (.int r8), .val (.int r11), .val (.ref b81), .val (.ref b85), .val (.int 0), .val (.int 0), .val (.int 1), .val (.int 1), .unset] at_306 rfl rfl ?_
            refine og_iload X141 310 at_308 rfl rfl ?_
            refine og_iload X141 312 at_310 rfl rfl ?_
            refine og_iload X141 314 at_312 rfl rfl ?_
            refine og_icmpN X141 317 at_314 (XT.ii_ge_f (by decide)) rfl ?_
            refine og_iconst X141 318 (1 : Int32) at_317 rfl rfl ?_
            refine og_goto X141 322 at_318 (by decide) (by decide) ?_
            refine og_icmpN X141 325 at_322 (XT.ii_ne_f (by decide)) rfl ?_
            refine og_iload X141 327 at_325 rfl rfl ?_
            refine og_iload X141 329 at_327 rfl rfl ?_
            refine og_icmpY X141 334 at_329 (XT.ii_eq_t (by decide)) (by decide) (by decide) ?_
            refine og_iload X141 336 at_334 rfl rfl ?_
            refine og_iload X141 338 at_336 rfl rfl ?_
            refine og_icmpN X141 341 at_338 (XT.ii_ge_f (by decide)) rfl ?_
            refine og_iload X141 343 at_341 rfl rfl ?_
            refine og_ifN X141 346 at_343 (XT.i0_ne_f (by decide)) rfl ?_
            refine og_iload X141 348 at_346 rfl rfl ?_
            refine og_goto X141 375 at_348 (by decide) (by decide) ?_
            refine og_istore X141 377 #[.val (.int pa), .val (.int pb), .val (.int pc_), .val (.int pd), .val (.int ps), .val (.int 1), .val (.int fl), .val (.int r2), .val (.int r5), .val (.int r8), .val (.int r11), .val (.ref b81), .val (.ref b85), .val (.int 0), .val (.int 0), .val (.int 1), .val (.int 1), .val (.int r2)] at_375 rfl rfl ?_
            refine og_aload X141 379 at_377 rfl rfl rfl ?_
            refine og_iload X141 381 at_379 rfl rfl ?_
            have f144 := f139.keep K141
            have f145 := f140.keep K141 (allS (Or.inr ⟨_, _, _, f139, by decide, (ow hw 7 rfl)⟩) all0)
            refine own_virt X141 384 (a := b85) (argsL := [(.int r2)]) (rest := []) at_381 f144 (fun _ hZ => notFace_of_selects (args := #[]) (mvT hZ (ow hw 75 rfl))) (rm_nxI l Z a0 hw n0 h141 hWd [] X141.old b85 b89 0 [r2] r2 f142 f143 f145.top (Nat.le_of_ble_eq_true rfl) ) (ow hw 102 rfl) (ow hw 73 rfl) (ow hw 75 rfl) (ow hw 74 rfl) (ow hw 8 rfl) (ow hw 76 rfl) (by decide) (lenOf pd__28C_29Z rfl) rfl rfl rfl (W := 0) rfl (by decide) (by decide) (by decide) (by decide) all0 rfl ?_
            intro T146 h146 v146 X146 K146 hQ146
            obtain rfl := hQ146
            show OGo _ _ _ _ T146 (mkF m 384 #[.val (.int pa), .val (.int pb), .val (.int pc_), .val (.int pd), .val (.int ps), .val (.int 1), .val (.int fl), .val (.int r2), .val (.int r5), .val (.int r8), .val (.int r11), .val (.ref b81), .val (.ref b85), .val (.int 0), .val (.int 0), .val (.int 1), .val (.int 1), .val (.int r2)] [(.int (own_eq1 r2 r2))])
            refine own_retZ X146 at_384 hret (own_zb (Or.inr (show (own_eq1 r2 r2) = 1 from if_pos rfl))).1 (by decide) (by decide) ?_
            rw [own_eq1, if_pos rfl]
        · -- the ways to it
          intro J113
          refine og_iload X109 224 at_222 rfl rfl ?_
          refine og_iconst X109 225 (3 : Int32) at_224 rfl rfl ?_
          refine og_icmpY X109 239 at_225 (XT.ii_le_t (by decide)) (by decide) (by decide) ?_
          refine og_iload X109 241 at_239 rfl rfl ?_
          refine og_iconst X109 242 (2 : Int32) at_241 rfl rfl ?_
          refine og_icmpY X109 256 at_242 (XT.ii_le_t (by decide)) (by decide) (by decide) ?_
          refine og_iload X109 258 at_256 rfl rfl ?_
          refine og_iconst X109 259 (1 : Int32) at_258 rfl rfl ?_
          refine og_icmpY X109 273 at_259 (XT.ii_le_t (by decide)) (by decide) (by decide) ?_
          refine og_iload X109 275 at_273 rfl rfl ?_
          refine og_ifN X109 278 at_275 (XT.i0_le_f (by decide)) rfl ?_
          refine og_iload X109 280 at_278 rfl rfl ?_
          refine og_ifN X109 283 at_280 (XT.i0_ne_f (by decide)) rfl ?_
          refine og_iload X109 285 at_283 rfl rfl ?_
          refine own_stat X109 288 (argsL := [(.int r2)]) (rest := []) at_285 (rm19 l Z a0 hw n0 h109 hWd [] X109.old r2  ) (ow hw 99 rfl) (ow hw 100 rfl) (ow hw 2 rfl) (ow hw 101 rfl) (by decide) (lenOf pd__28C_29Z rfl) rfl rfl rfl (W := 0) rfl (by decide) (by decide) (by decide) (by decide) all0 rfl ?_
          intro T147 h147 v147 X147 K147 hQ147
          obtain rfl := hQ147
          show OGo _ _ _ _ T147 (mkF m 288 #[.val (.int pa), .val (.int pb), .val (.int pc_), .val (.int pd), .val (.int ps), .val (.int 1), .val (.int fl), .val (.int r2), .val (.int r5), .val (.int r8), .val (.int r11), .val (.ref b81), .val (.ref b85), .val (.int 0), .val (.int 1), .unset, .unset, .unset] [(.int (own_ws r2))])
          by_cases hc148 : (own_ws r2) = 0
          · -- (own_ws r2) = 0
            refine og_ifN X147 291 at_288 (XT.i0_ne_f hc148) rfl ?_
            refine og_iconst X147 292 (0 : Int32) at_291 rfl rfl ?_
            refine og_istore X147 294 #[.val (.int pa), .val (.int pb), .val (.int pc_), .val (.int pd), .val (.int ps), .val (.int 1), .val (.int fl), .val (.int r2), .val (.int r5), .val (.int r8), .val (.int r11), .val (.ref b81), .val (.ref b85), .val (.int 0), .val (.int 0), .unset, .unset, .unset] at_292 rfl rfl ?_
            exact J113 _ _ X147 K147 _ (Or.inr ⟨rfl, hc148⟩)
          · -- not
            refine og_ifY X147 294 at_288 (XT.i0_ne_t hc148) (by decide) (by decide) ?_
            exact J113 _ _ X147 K147 _ (Or.inl ⟨rfl, hc148⟩)
      · -- not
        refine og_ifN X109 184 at_181 (XT.i0_eq_f hc112) rfl ?_
        refine og_aload X109 186 at_184 rfl rfl rfl ?_
        refine og_iload X109 188 at_186 rfl rfl ?_
        have f149 := f99.keep K109
        have f150 := f95.keep K96 all0
        have f151 := f150.keep K109 (allS (Or.inr ⟨_, _, _, f99, by decide, (ow hw 7 rfl)⟩) all0)
        refine own_virt X109 191 (a := b85) (argsL := [(.int r2)]) (rest := []) at_188 f149 (fun _ hZ => notFace_of_selects (args := #[]) (mvT hZ (ow hw 70 rfl))) (rm_tkI l Z a0 hw n0 h109 hWd [] X109.old b85 b89 0 [r2] r2 f149 f110 f111 f151.top (Nat.le_of_ble_eq_true rfl) rfl (own_svb X109 (om 1 rfl))) (ow hw 67 rfl) (ow hw 68 rfl) (ow hw 70 rfl) (ow hw 69 rfl) (ow hw 8 rfl) (ow hw 71 rfl) (by decide) (lenOf pd__28C_29Z rfl) rfl rfl rfl (W := 0) rfl (by decide) (by decide) (by decide) (by decide) (allS (om 1 rfl) all0) rfl ?_
        intro T152 h152 v152 X152 K152 hQ152
        obtain ⟨rfl, f153, f154⟩ := hQ152
        show OGo _ _ _ _ T152 (mkF m 191 #[.val (.int pa), .val (.int pb), .val (.int pc_), .val (.int pd), .val (.int ps), .val (.int 1), .val (.int fl), .val (.int r2), .val (.int r5), .val (.int r8), .val (.int r11), .val (.ref b81), .val (.ref b85), .val (.int 0), .unset, .unset, .unset, .unset] [(.int 1)])
        refine og_istore X152 193 #[.val (.int pa), .val (.int pb), .val (.int pc_), .val (.int pd), .val (.int ps), .val (.int 1), .val (.int fl), .val (.int r2), .val (.int r5), .val (.int r8), .val (.int r11), .val (.ref b81), .val (.ref b85), .val (.int 0), .val (.int 1), .unset, .unset, .unset] at_191 rfl rfl ?_
        refine og_iload X152 195 at_193 rfl rfl ?_
        refine og_iload X152 197 at_195 rfl rfl ?_
        refine og_ifN X152 200 at_197 (XT.i0_le_f (by decide)) rfl ?_
        refine og_iconst X152 201 (1 : Int32) at_200 rfl rfl ?_
        refine og_goto X152 205 at_201 (by decide) (by decide) ?_
        refine og_icmpY X152 210 at_205 (XT.ii_eq_t (by decide)) (by decide) (by decide) ?_
        refine og_iload X152 212 at_210 rfl rfl ?_
        refine og_ifN X152 215 at_212 (XT.i0_le_f (by decide)) rfl ?_
        refine og_iconst X152 216 (1 : Int32) at_215 rfl rfl ?_
        refine og_istore X152 218 #[.val (.int pa), .val (.int pb), .val (.int pc_), .val (.int pd), .val (.int ps), .val (.int 1), .val (.int fl), .val (.int r2), .val (.int r5), .val (.int r8), .val (.int r11), .val (.ref b81), .val (.ref b85), .val (.int 1), .val (.int 1), .unset, .unset, .unset] at_216 rfl rfl ?_
        refine og_iload X152 220 at_218 rfl rfl ?_
        refine og_istore X152 222 #[.val (.int pa), .val (.int pb), .val (.int pc_), .val (.int pd), .val (.int ps), .val (.int 1), .val (.int fl), .val (.int r2), .val (.int r5), .val (.int r8), .val (.int r11), .val (.ref b81), .val (.ref b85), .val (.int 1), .val (.int 1), .unset, .unset, .unset] at_220 rfl rfl ?_
        refine own_cut X152 294 (fun (kw : Int32) => #[.val (.int pa), .val (.int pb), .val (.int pc_), .val (.int pd), .val (.int ps), .val (.int 1), .val (.int fl), .val (.int r2), .val (.int r5), .val (.int r8), .val (.int r11), .val (.ref b81), .val (.ref b85), .val (.int 1), .val (.int kw), .unset, .unset, .unset]) (fun _ => []) (fun kw => (kw = 1)) ?_ ?_
        · -- the common ways on
          intro T155 h155 X155 K155 kw ok155
          rcases ok155 with rfl
          · -- 1
            show OGo _ _ _ _ T155 (mkF m 294 #[.val (.int pa), .val (.int pb), .val (.int pc_), .val (.int pd), .val (.int ps), .val (.int 1), .val (.int fl), .val (.int r2), .val (.int r5), .val (.int r8), .val (.int r11), .val (.ref b81), .val (.ref b85), .val (.int 1), .val (.int 1), .unset, .unset, .unset] [])
            refine og_aload X155 296 at_294 rfl rfl rfl ?_
            have f156 := f149.keep K152
            have f157 := f156.keep K155
            have f158 := f153.keep K155 nin0
            have f159 := f154.keep K155 nin0
            have f160 := f151.keep K152 (allS (Or.inr ⟨_, _, _, f149, by decide, (ow hw 7 rfl)⟩) all0)
            have f161 := f160.keep K155 all0
            refine own_virt X155 299 (a := b85) (argsL := []) (rest := []) at_296 f157 (fun _ hZ => notFace_of_selects (args := #[]) (mvT hZ (ow hw 42 rfl))) (rm_skE l Z a0 hw n0 h155 hWd [] X155.old b85 b89 1 1 [r2] f157 f158 f159 f161.top (by simp [own_skip]) (Nat.le_of_ble_eq_true rfl) rfl (own_svb X155 (om 1 rfl))) (ow hw 39 rfl) (ow hw 40 rfl) (ow hw 42 rfl) (ow hw 41 rfl) (ow hw 8 rfl) (ow hw 43 rfl) (by decide) (lenOf pd__28_29Z rfl) rfl rfl rfl (W := 0) rfl (by decide) (by decide) (by decide) (by decide) (allS (om 1 rfl) all0) rfl ?_
            intro T162 h162 v162 X162 K162 hQ162
            obtain ⟨rfl, f163, f164⟩ := hQ162
            show OGo _ _ _ _ T162 (mkF m 299 #[.val (.int pa), .val (.int pb), .val (.int pc_), .val (.int pd), .val (.int ps), .val (.int 1), .val (.int fl), .val (.int r2), .val (.int r5), .val (.int r8), .val (.int r11), .val (.ref b81), .val (.ref b85), .val (.int 1), .val (.int 1), .unset, .unset, .unset] [(.int 0)])
            refine og_istore X162 301 #[.val (.int pa), .val (.int pb), .val (.int pc_), .val (.int pd), .val (.int ps), .val (.int 1), .val (.int fl), .val (.int r2), .val (.int r5), .val (.int r8), .val (.int r11), .val (.ref b81), .val (.ref b85), .val (.int 1), .val (.int 1), .val (.int 0), .unset, .unset] at_299 rfl rfl ?_
            refine og_aload X162 303 at_301 rfl rfl rfl ?_
            have f165 := f157.keep K162
            have f166 := f161.keep K162 (allS (Or.inr ⟨_, _, _, f157, by decide, (ow hw 7 rfl)⟩) all0)
            refine own_virt X162 306 (a := b85) (argsL := []) (rest := []) at_303 f165 (fun _ hZ => notFace_of_selects (args := #[]) (mvT hZ (ow hw 42 rfl))) (rm_skE l Z a0 hw n0 h162 hWd [] X162.old b85 b89 1 1 [r2] f165 f163 f164 f166.top (by simp [own_skip]) (Nat.le_of_ble_eq_true rfl) rfl (own_svb X162 (om 1 rfl))) (ow hw 39 rfl) (ow hw 40 rfl) (ow hw 42 rfl) (ow hw 41 rfl) (ow hw 8 rfl) (ow hw 43 rfl) (by decide) (lenOf pd__28_29Z rfl) rfl rfl rfl (W := 0) rfl (by decide) (by decide) (by decide) (by decide) (allS (om 1 rfl) all0) rfl ?_
            intro T167 h167 v167 X167 K167 hQ167
            obtain ⟨rfl, f168, f169⟩ := hQ167
            show OGo _ _ _ _ T167 (mkF m 306 #[.val (.int pa), .val (.int pb), .val (.int pc_), .val (.int pd), .val (.int ps), .val (.int 1), .val (.int fl), .val (.int r2), .val (.int r5), .val (.int r8), .val (.int r11), .val (.ref b81), .val (.ref b85), .val (.int 1), .val (.int 1), .val (.int 0), .unset, .unset] [(.int 0)])
            refine og_istore X167 308 #[.val (.int pa), .val (.int pb), .val (.int pc_), .val (.int pd), .val (.int ps), .val (.int 1), .val (.int fl), .val (.int r2), .val (.int r5), .val (.int r8), .val (.int r11), .val (.ref b81), .val (.ref b85), .val (.int 1), .val (.int 1), .val (.int 0), .val (.int 0), .unset] at_306 rfl rfl ?_
            refine og_iload X167 310 at_308 rfl rfl ?_
            refine og_iload X167 312 at_310 rfl rfl ?_
            refine og_iload X167 314 at_312 rfl rfl ?_
            refine og_icmpY X167 321 at_314 (XT.ii_ge_t (by decide)) (by decide) (by decide) ?_
            refine og_iconst X167 322 (0 : Int32) at_321 rfl rfl ?_
            refine og_icmpN X167 325 at_322 (XT.ii_ne_f (by decide)) rfl ?_
            refine og_iload X167 327 at_325 rfl rfl ?_
            refine og_iload X167 329 at_327 rfl rfl ?_
            refine og_icmpY X167 334 at_329 (XT.ii_eq_t (by decide)) (by decide) (by decide) ?_
            refine og_iload X167 336 at_334 rfl rfl ?_
            refine og_iload X167 338 at_336 rfl rfl ?_
            refine og_icmpY X167 385 at_338 (XT.ii_ge_t (by decide)) (by decide) (by decide) ?_
            refine og_iconst X167 386 (1 : Int32) at_385 rfl rfl ?_
            refine own_retZ X167 at_386 hret rfl (by decide) (by decide) ?_
            exact rfl
        · -- the ways to it
          intro J155
          refine og_iload X152 224 at_222 rfl rfl ?_
          refine og_iconst X152 225 (3 : Int32) at_224 rfl rfl ?_
          refine og_icmpY X152 239 at_225 (XT.ii_le_t (by decide)) (by decide) (by decide) ?_
          refine og_iload X152 241 at_239 rfl rfl ?_
          refine og_iconst X152 242 (2 : Int32) at_241 rfl rfl ?_
          refine og_icmpY X152 256 at_242 (XT.ii_le_t (by decide)) (by decide) (by decide) ?_
          refine og_iload X152 258 at_256 rfl rfl ?_
          refine og_iconst X152 259 (1 : Int32) at_258 rfl rfl ?_
          refine og_icmpY X152 273 at_259 (XT.ii_le_t (by decide)) (by decide) (by decide) ?_
          refine og_iload X152 275 at_273 rfl rfl ?_
          refine og_ifN X152 278 at_275 (XT.i0_le_f (by decide)) rfl ?_
          refine og_iload X152 280 at_278 rfl rfl ?_
          refine og_ifY X152 294 at_280 (XT.i0_ne_t (by decide)) (by decide) (by decide) ?_
          exact J155 _ _ X152 (Keep.refl _ _) _ rfl
    · -- n is 2
      rw [eQ]
      refine og_iload X11 48 at_46 rfl rfl ?_
      refine og_ifY X11 59 at_48 (XT.i0_ne_t (by decide)) (by decide) (by decide) ?_
      refine og_iload X11 61 at_59 rfl rfl ?_
      refine og_iconst X11 62 (1 : Int32) at_61 rfl rfl ?_
      refine og_icmpY X11 78 at_62 (XT.ii_ne_t (by decide)) (by decide) (by decide) ?_
      refine og_iload X11 80 at_78 rfl rfl ?_
      refine og_iconst X11 81 (2 : Int32) at_80 rfl rfl ?_
      refine og_icmpN X11 84 at_81 (XT.ii_ne_f (by decide)) rfl ?_
      refine og_iconst X11 85 (2 : Int32) at_84 rfl rfl ?_
      refine own_arr X11 87 at_85 (ow hw 5 rfl) (by decide) (cap := 2) (by decide) (by decide) (by decide) (by decide) rfl ?_
      intro T170 h170 b170 kb170 X170 K170 G170 U170 A170
      have f171 : Arv Z h170 b170 kb170 .char (2 : Int32) [(.int 0), (.int 0)] (.int 0) := A170
      refine og_dup X170 88 at_87 rfl rfl ?_
      refine og_iconst X170 89 (0 : Int32) at_88 rfl rfl ?_
      refine og_iload X170 91 at_89 rfl rfl ?_
      refine own_stC X170 92 at_91 f171 (own_nch f3 f4) (by decide) (by decide) (i := 0) (by decide) (Nat.le_of_ble_eq_true rfl) (om 0 rfl) rfl ?_
      intro T172 h172 X172 W172 K172 A172
      have f173 : Arv Z h172 b170 kb170 .char (2 : Int32) [(.int r2), (.int 0)] (.int 0) := A172
      refine og_dup X172 93 at_92 rfl rfl ?_
      refine og_iconst X172 94 (1 : Int32) at_93 rfl rfl ?_
      refine og_iload X172 96 at_94 rfl rfl ?_
      refine own_stC X172 97 at_96 f173 (own_nch f6 f7) (by decide) (by decide) (i := 1) (by decide) (Nat.le_of_ble_eq_true rfl) (om 0 rfl) rfl ?_
      intro T174 h174 X174 W174 K174 A174
      have f175 : Arv Z h174 b170 kb170 .char (2 : Int32) [(.int r2), (.int r5)] (.int 0) := A174
      refine og_astore X174 99 #[.val (.int pa), .val (.int pb), .val (.int pc_), .val (.int pd), .val (.int ps), .val (.int 2), .val (.int fl), .val (.int r2), .val (.int r5), .val (.int r8), .val (.int r11), .val (.ref b170), .unset, .unset, .unset, .unset, .unset, .unset] at_97 rfl rfl rfl ?_
      refine og_goto X174 156 at_99 (by decide) (by decide) ?_
      refine own_new X174 159 at_156 (ow hw 6 rfl) (ow hw 7 rfl) (ow hw 8 rfl) (by decide) (by decide) rfl ?_
      intro T176 h176 b176 X176 K176 G176 U176 E176 D176
      have f177 : Fld Z h176 b176 "com/example/bote/bote/fields/FieldCursor" "text" "Ljava/lang/String;" .null := D176 (Or.inr (ow hw 36 rfl)) (ty := (.object "java/lang/String")) (by decide)
      have f178 : Fld Z h176 b176 "com/example/bote/bote/fields/FieldCursor" "shape" "Ljava/lang/String;" .null := D176 (Or.inr (ow hw 38 rfl)) (ty := (.object "java/lang/String")) (by decide)
      have f179 : Fld Z h176 b176 "com/example/bote/bote/fields/FieldCursor" "at" "I" (.int 0) := D176 (Or.inl (ow hw 45 rfl)) (ty := .int) (by decide)
      refine og_dup X176 160 at_159 rfl rfl ?_
      refine own_new X176 163 at_160 (ow hw 9 rfl) (ow hw 10 rfl) (ow hw 11 rfl) (by decide) (by decide) rfl ?_
      intro T180 h180 b180 X180 K180 G180 U180 E180 D180
      have f181 : Fld Z h180 b180 "java/lang/String" "value" "[B" .null := D180 (Or.inr (ow hw 24 rfl)) (ty := (.array .byte)) (by decide)
      have f182 : Fld Z h180 b180 "java/lang/String" "coder" "B" (.int 0) := D180 (Or.inr (ow hw 25 rfl)) (ty := .byte) (by decide)
      refine og_dup X180 164 at_163 rfl rfl ?_
      refine og_aload X180 166 at_164 rfl rfl rfl ?_
      have f183 := f175.keep K176 nin0
      have f184 := f183.keep K180 nin0
      refine own_spec X180 169 (a := b180) (argsL := [(.ref b170)]) (rest := [(.ref b180), (.ref b176), (.ref b176)]) at_166 rfl (ru_ini2 l Z a0 hw n0 h180 hWd [] X180.old b180 b170 .null (0 : Int32) kb170 (.int 0) r2 r5 E180 f181 f182 f184 f3 f4 f6 f7 (own_svb X180 (om 0 rfl))) (ow hw 12 rfl) (ow hw 13 rfl) (ow hw 11 rfl) (ow hw 14 rfl) (by decide) (lenOf pd__28_5bC_29V rfl) rfl rfl rfl (W := 3) rfl (by decide) (by decide) (by decide) (by decide) (allS (om 0 rfl) all0) rfl ?_
      intro T185 h185 v185 X185 K185 hQ185
      obtain ⟨rfl, f186⟩ := hQ185
      show OGo _ _ _ _ T185 (mkF m 169 #[.val (.int pa), .val (.int pb), .val (.int pc_), .val (.int pd), .val (.int ps), .val (.int 2), .val (.int fl), .val (.int r2), .val (.int r5), .val (.int r8), .val (.int r11), .val (.ref b170), .unset, .unset, .unset, .unset, .unset, .unset] [(.ref b180), (.ref b176), (.ref b176)])
      refine own_ldcO X185 171 (cap := 20) at_169 own_ELne (ow hw 30 rfl) (own_wS hw) (by decide) (by decide) (by decide) (by decide) rfl ?_
      intro T187 h187 a187 X187 K187
      have f188 := E176.keep K180
      have f189 := f188.keep K185
      have f190 := f189.keep K187
      have f191 := f177.keep K180 nin0
      have f192 := f191.keep K185 (ninS (Nat.ne_of_lt (Nat.lt_of_lt_of_le U176 G180)) nin0)
      have f193 := f192.keep K187 nin0
      have f194 := f178.keep K180 nin0
      have f195 := f194.keep K185 (ninS (Nat.ne_of_lt (Nat.lt_of_lt_of_le U176 G180)) nin0)
      have f196 := f195.keep K187 nin0
      have f197 := f179.keep K180 nin0
      have f198 := f197.keep K185 (ninS (Nat.ne_of_lt (Nat.lt_of_lt_of_le U176 G180)) nin0)
      have f199 := f198.keep K187 nin0
      refine own_spec X187 174 (a := b176) (argsL := [(.ref b180), (.ref a187)]) (rest := [(.ref b176)]) at_171 rfl (rm5 l Z a0 hw n0 h187 hWd [] X187.old b176 b180 a187 f190 f193 f196 f199 (own_svb X187 (om 1 rfl))) (ow hw 31 rfl) (ow hw 32 rfl) (ow hw 8 rfl) (ow hw 33 rfl) (by decide) (lenOf pd__28Ljava_2flang_2fString_3bLjava_2flang_2fString_3b_29V rfl) rfl rfl rfl (W := 1) rfl (by decide) (by decide) (by decide) (by decide) (allS (om 1 rfl) all0) rfl ?_
      intro T200 h200 v200 X200 K200 hQ200
      obtain ⟨rfl, f201, f202⟩ := hQ200
      show OGo _ _ _ _ T200 (mkF m 174 #[.val (.int pa), .val (.int pb), .val (.int pc_), .val (.int pd), .val (.int ps), .val (.int 2), .val (.int fl), .val (.int r2), .val (.int r5), .val (.int r8), .val (.int r11), .val (.ref b170), .unset, .unset, .unset, .unset, .unset, .unset] [(.ref b176)])
      refine og_astore X200 176 #[.val (.int pa), .val (.int pb), .val (.int pc_), .val (.int pd), .val (.int ps), .val (.int 2), .val (.int fl), .val (.int r2), .val (.int r5), .val (.int r8), .val (.int r11), .val (.ref b170), .val (.ref b176), .unset, .unset, .unset, .unset, .unset] at_174 rfl rfl rfl ?_
      refine og_iconst X200 177 (0 : Int32) at_176 rfl rfl ?_
      refine og_istore X200 179 #[.val (.int pa), .val (.int pb), .val (.int pc_), .val (.int pd), .val (.int ps), .val (.int 2), .val (.int fl), .val (.int r2), .val (.int r5), .val (.int r8), .val (.int r11), .val (.ref b170), .val (.ref b176), .val (.int 0), .unset, .unset, .unset, .unset] at_177 rfl rfl ?_
      refine og_iload X200 181 at_179 rfl rfl ?_
      by_cases hc203 : fl = 0
      · -- fl = 0
        refine og_ifY X200 218 at_181 (XT.i0_eq_t hc203) (by decide) (by decide) ?_
        refine og_iload X200 220 at_218 rfl rfl ?_
        refine og_istore X200 222 #[.val (.int pa), .val (.int pb), .val (.int pc_), .val (.int pd), .val (.int ps), .val (.int 2), .val (.int fl), .val (.int r2), .val (.int r5), .val (.int r8), .val (.int r11), .val (.ref b170), .val (.ref b176), .val (.int 0), .val (.int 2), .unset, .unset, .unset] at_220 rfl rfl ?_
        refine own_cut X200 294 (fun (kw : Int32) => #[.val (.int pa), .val (.int pb), .val (.int pc_), .val (.int pd), .val (.int ps), .val (.int 2), .val (.int fl), .val (.int r2), .val (.int r5), .val (.int r8), .val (.int r11), .val (.ref b170), .val (.ref b176), .val (.int 0), .val (.int kw), .unset, .unset, .unset]) (fun _ => []) (fun kw => (kw = 2 ∧ ¬ (own_ws r2) = 0 ∧ ¬ (own_ws r5) = 0) ∨ (kw = 1 ∧ ¬ (own_ws r2) = 0 ∧ (own_ws r5) = 0) ∨ (kw = 0 ∧ (own_ws r2) = 0)) ?_ ?_
        · -- the common ways on
          intro T204 h204 X204 K204 kw ok204
          rcases ok204 with ⟨rfl, ck0, ck1⟩ | ⟨rfl, ck0, ck1⟩ | ⟨rfl, ck0⟩
          · -- 2
            show OGo _ _ _ _ T204 (mkF m 294 #[.val (.int pa), .val (.int pb), .val (.int pc_), .val (.int pd), .val (.int ps), .val (.int 2), .val (.int fl), .val (.int r2), .val (.int r5), .val (.int r8), .val (.int r11), .val (.ref b170), .val (.ref b176), .val (.int 0), .val (.int 2), .unset, .unset, .unset] [])
            refine og_aload X204 296 at_294 rfl rfl rfl ?_
            have f205 := f190.keep K200
            have f206 := f205.keep K204
            have f207 := f201.keep K204 nin0
            have f208 := f202.keep K204 nin0
            have f209 := f186.keep K187 all0
            have f210 := f209.keep K200 (allS (Or.inr ⟨_, _, _, f190, by decide, (ow hw 7 rfl)⟩) all0)
            have f211 := f210.keep K204 all0
            refine own_virt X204 299 (a := b176) (argsL := []) (rest := []) at_296 f206 (fun _ hZ => notFace_of_selects (args := #[]) (mvT hZ (ow hw 42 rfl))) (rm_skE l Z a0 hw n0 h204 hWd [] X204.old b176 b180 0 2 [r2, r5] f206 f207 f208 f211.top (by simp [own_skip, own_w1 ck0, own_w1 ck1]) (Nat.le_of_ble_eq_true rfl) rfl (own_svb X204 (om 1 rfl))) (ow hw 39 rfl) (ow hw 40 rfl) (ow hw 42 rfl) (ow hw 41 rfl) (ow hw 8 rfl) (ow hw 43 rfl) (by decide) (lenOf pd__28_29Z rfl) rfl rfl rfl (W := 0) rfl (by decide) (by decide) (by decide) (by decide) (allS (om 1 rfl) all0) rfl ?_
            intro T212 h212 v212 X212 K212 hQ212
            obtain ⟨rfl, f213, f214⟩ := hQ212
            show OGo _ _ _ _ T212 (mkF m 299 #[.val (.int pa), .val (.int pb), .val (.int pc_), .val (.int pd), .val (.int ps), .val (.int 2), .val (.int fl), .val (.int r2), .val (.int r5), .val (.int r8), .val (.int r11), .val (.ref b170), .val (.ref b176), .val (.int 0), .val (.int 2), .unset, .unset, .unset] [(.int 0)])
            refine og_istore X212 301 #[.val (.int pa), .val (.int pb), .val (.int pc_), .val (.int pd), .val (.int ps), .val (.int 2), .val (.int fl), .val (.int r2), .val (.int r5), .val (.int r8), .val (.int r11), .val (.ref b170), .val (.ref b176), .val (.int 0), .val (.int 2), .val (.int 0), .unset, .unset] at_299 rfl rfl ?_
            refine og_aload X212 303 at_301 rfl rfl rfl ?_
            have f215 := f206.keep K212
            have f216 := f211.keep K212 (allS (Or.inr ⟨_, _, _, f206, by decide, (ow hw 7 rfl)⟩) all0)
            refine own_virt X212 306 (a := b176) (argsL := []) (rest := []) at_303 f215 (fun _ hZ => notFace_of_selects (args := #[]) (mvT hZ (ow hw 42 rfl))) (rm_skE l Z a0 hw n0 h212 hWd [] X212.old b176 b180 2 2 [r2, r5] f215 f213 f214 f216.top (by simp [own_skip, own_w1 ck0, own_w1 ck1]) (Nat.le_of_ble_eq_true rfl) rfl (own_svb X212 (om 1 rfl))) (ow hw 39 rfl) (ow hw 40 rfl) (ow hw 42 rfl) (ow hw 41 rfl) (ow hw 8 rfl) (ow hw 43 rfl) (by decide) (lenOf pd__28_29Z rfl) rfl rfl rfl (W := 0) rfl (by decide) (by decide) (by decide) (by decide) (allS (om 1 rfl) all0) rfl ?_
            intro T217 h217 v217 X217 K217 hQ217
            obtain ⟨rfl, f218, f219⟩ := hQ217
            show OGo _ _ _ _ T217 (mkF m 306 #[.val (.int pa), .val (.int pb), .val (.int pc_), .val (.int pd), .val (.int ps), .val (.int 2), .val (.int fl), .val (.int r2), .val (.int r5), .val (.int r8), .val (.int r11), .val (.ref b170), .val (.ref b176), .val (.int 0), .val (.int 2), .val (.int 0), .unset, .unset] [(.int 0)])
            refine og_istore X217 308 #[.val (.int pa), .val (.int pb), .val (.int pc_), .val (.int pd), .val (.int ps), .val (.int 2), .val (.int fl), .val (.int r2), .val (.int r5), .val (.int r8), .val (.int r11), .val (.ref b170), .val (.ref b176), .val (.int 0), .val (.int 2), .val (.int 0), .val (.int 0), .unset] at_306 rfl rfl ?_
            refine og_iload X217 310 at_308 rfl rfl ?_
            refine og_iload X217 312 at_310 rfl rfl ?_
            refine og_iload X217 314 at_312 rfl rfl ?_
            refine og_icmpY X217 321 at_314 (XT.ii_ge_t (by decide)) (by decide) (by decide) ?_
            refine og_iconst X217 322 (0 : Int32) at_321 rfl rfl ?_
            refine og_icmpN X217 325 at_322 (XT.ii_ne_f (by decide)) rfl ?_
            refine og_iload X217 327 at_325 rfl rfl ?_
            refine og_iload X217 329 at_327 rfl rfl ?_
            refine og_icmpY X217 334 at_329 (XT.ii_eq_t (by decide)) (by decide) (by decide) ?_
            refine og_iload X217 336 at_334 rfl rfl ?_
            refine og_iload X217 338 at_336 rfl rfl ?_
            refine og_icmpY X217 385 at_338 (XT.ii_ge_t (by decide)) (by decide) (by decide) ?_
            refine og_iconst X217 386 (1 : Int32) at_385 rfl rfl ?_
            refine own_retZ X217 at_386 hret rfl (by decide) (by decide) ?_
            exact rfl
          · -- 1
            show OGo _ _ _ _ T204 (mkF m 294 #[.val (.int pa), .val (.int pb), .val (.int pc_), .val (.int pd), .val (.int ps), .val (.int 2), .val (.int fl), .val (.int r2), .val (.int r5), .val (.int r8), .val (.int r11), .val (.ref b170), .val (.ref b176), .val (.int 0), .val (.int 1), .unset, .unset, .unset] [])
            refine og_aload X204 296 at_294 rfl rfl rfl ?_
            have f220 := f190.keep K200
            have f221 := f220.keep K204
            have f222 := f201.keep K204 nin0
            have f223 := f202.keep K204 nin0
            have f224 := f186.keep K187 all0
            have f225 := f224.keep K200 (allS (Or.inr ⟨_, _, _, f190, by decide, (ow hw 7 rfl)⟩) all0)
            have f226 := f225.keep K204 all0
            refine own_virt X204 299 (a := b176) (argsL := []) (rest := []) at_296 f221 (fun _ hZ => notFace_of_selects (args := #[]) (mvT hZ (ow hw 42 rfl))) (rm_skI l Z a0 hw n0 h204 hWd [] X204.old b176 b180 0 1 [r2, r5] f221 f222 f223 f226.top (by simp [own_skip, own_w1 ck0, own_w0 ck1]) (Nat.le_of_ble_eq_true rfl) (Nat.le_of_ble_eq_true rfl) (own_svb X204 (om 1 rfl))) (ow hw 39 rfl) (ow hw 40 rfl) (ow hw 42 rfl) (ow hw 41 rfl) (ow hw 8 rfl) (ow hw 43 rfl) (by decide) (lenOf pd__28_29Z rfl) rfl rfl rfl (W := 0) rfl (by decide) (by decide) (by decide) (by decide) (allS (om 1 rfl) all0) rfl ?_
            intro T227 h227 v227 X227 K227 hQ227
            obtain ⟨rfl, f228, f229⟩ := hQ227
            show OGo _ _ _ _ T227 (mkF m 299 #[.val (.int pa), .val (.int pb), .val (.int pc_), .val (.int pd), .val (.int ps), .val (.int 2), .val (.int fl), .val (.int r2), .val (.int r5), .val (.int r8), .val (.int r11), .val (.ref b170), .val (.ref b176), .val (.int 0), .val (.int 1), .unset, .unset, .unset] [(.int 1)])
            refine og_istore X227 301 #[.val (.int pa), .val (.int pb), .val (.int pc_), .val (.int pd), .val (.int ps), .val (.int 2), .val (.int fl), .val (.int r2), .val (.int r5), .val (.int r8), .val (.int r11), .val (.ref b170), .val (.ref b176), .val (.int 0), .val (.int 1), .val (.int 1), .unset, .unset] at_299 rfl rfl ?_
            refine og_aload X227 303 at_301 rfl rfl rfl ?_
            have f230 := f221.keep K227
            have f231 := f226.keep K227 (allS (Or.inr ⟨_, _, _, f221, by decide, (ow hw 7 rfl)⟩) all0)
            refine own_virt X227 306 (a := b176) (argsL := []) (rest := []) at_303 f230 (fun _ hZ => notFace_of_selects (args := #[]) (mvT hZ (ow hw 42 rfl))) (rm_skI l Z a0 hw n0 h227 hWd [] X227.old b176 b180 1 1 [r2, r5] f230 f228 f229 f231.top (by simp [own_skip, own_w1 ck0, own_w0 ck1]) (Nat.le_of_ble_eq_true rfl) (Nat.le_of_ble_eq_true rfl) (own_svb X227 (om 1 rfl))) (ow hw 39 rfl) (ow hw 40 rfl) (ow hw 42 rfl) (ow hw 41 rfl) (ow hw 8 rfl) (ow hw 43 rfl) (by decide) (lenOf pd__28_29Z rfl) rfl rfl rfl (W := 0) rfl (by decide) (by decide) (by decide) (by decide) (allS (om 1 rfl) all0) rfl ?_
            intro T232 h232 v232 X232 K232 hQ232
            obtain ⟨rfl, f233, f234⟩ := hQ232
            show OGo _ _ _ _ T232 (mkF m 306 #[.val (.int pa), .val (.int pb), .val (.int pc_), .val (.int pd), .val (.int ps), .val (.int 2), .val (.int fl), .val (.int r2), .val (.int r5), .val (.int r8), .val (.int r11), .val (.ref b170), .val (.ref b176), .val (.int 0), .val (.int 1), .val (.int 1), .unset, .unset] [(.int 1)])
            refine og_istore X232 308 #[.val (.int pa), .val (.int pb), .val (.int pc_), .val (.int pd), .val (.int ps), .val (.int 2), .val (.int fl), .val (.int r2), .val (.int r5), .val (.int r8), .val (.int r11), .val (.ref b170), .val (.ref b176), .val (.int 0), .val (.int 1), .val (.int 1), .val (.int 1), .unset] at_306 rfl rfl ?_
            refine og_iload X232 310 at_308 rfl rfl ?_
            refine og_iload X232 312 at_310 rfl rfl ?_
            refine og_iload X232 314 at_312 rfl rfl ?_
            refine og_icmpN X232 317 at_314 (XT.ii_ge_f (by decide)) rfl ?_
            refine og_iconst X232 318 (1 : Int32) at_317 rfl rfl ?_
            refine og_goto X232 322 at_318 (by decide) (by decide) ?_
            refine og_icmpN X232 325 at_322 (XT.ii_ne_f (by decide)) rfl ?_
            refine og_iload X232 327 at_325 rfl rfl ?_
            refine og_iload X232 329 at_327 rfl rfl ?_
            refine og_icmpY X232 334 at_329 (XT.ii_eq_t (by decide)) (by decide) (by decide) ?_
            refine og_iload X232 336 at_334 rfl rfl ?_
            refine og_iload X232 338 at_336 rfl rfl ?_
            refine og_icmpN X232 341 at_338 (XT.ii_ge_f (by decide)) rfl ?_
            refine og_iload X232 343 at_341 rfl rfl ?_
            refine og_ifY X232 351 at_343 (XT.i0_ne_t (by decide)) (by decide) (by decide) ?_
            refine og_iload X232 353 at_351 rfl rfl ?_
            refine og_iconst X232 354 (1 : Int32) at_353 rfl rfl ?_
            refine og_icmpN X232 357 at_354 (XT.ii_ne_f (by decide)) rfl ?_
            refine og_iload X232 359 at_357 rfl rfl ?_
            refine og_goto X232 375 at_359 (by decide) (by decide) ?_
            refine og_istore X232 377 #[.val (.int pa), .val (.int pb), .val (.int pc_), .val (.int pd), .val (.int ps), .val (.int 2), .val (.int fl), .val (.int r2), .val (.int r5), .val (.int r8), .val (.int r11), .val (.ref b170), .val (.ref b176), .val (.int 0), .val (.int 1), .val (.int 1), .val (.int 1), .val (.int r5)] at_375 rfl rfl ?_
            refine og_aload X232 379 at_377 rfl rfl rfl ?_
            refine og_iload X232 381 at_379 rfl rfl ?_
            have f235 := f230.keep K232
            have f236 := f231.keep K232 (allS (Or.inr ⟨_, _, _, f230, by decide, (ow hw 7 rfl)⟩) all0)
            refine own_virt X232 384 (a := b176) (argsL := [(.int r5)]) (rest := []) at_381 f235 (fun _ hZ => notFace_of_selects (args := #[]) (mvT hZ (ow hw 75 rfl))) (rm_nxI l Z a0 hw n0 h232 hWd [] X232.old b176 b180 1 [r2, r5] r5 f233 f234 f236.top (Nat.le_of_ble_eq_true rfl) ) (ow hw 102 rfl) (ow hw 73 rfl) (ow hw 75 rfl) (ow hw 74 rfl) (ow hw 8 rfl) (ow hw 76 rfl) (by decide) (lenOf pd__28C_29Z rfl) rfl rfl rfl (W := 0) rfl (by decide) (by decide) (by decide) (by decide) all0 rfl ?_
            intro T237 h237 v237 X237 K237 hQ237
            obtain rfl := hQ237
            show OGo _ _ _ _ T237 (mkF m 384 #[.val (.int pa), .val (.int pb), .val (.int pc_), .val (.int pd), .val (.int ps), .val (.int 2), .val (.int fl), .val (.int r2), .val (.int r5), .val (.int r8), .val (.int r11), .val (.ref b170), .val (.ref b176), .val (.int 0), .val (.int 1), .val (.int 1), .val (.int 1), .val (.int r5)] [(.int (own_eq1 r5 r5))])
            refine own_retZ X237 at_384 hret (own_zb (Or.inr (show (own_eq1 r5 r5) = 1 from if_pos rfl))).1 (by decide) (by decide) ?_
            rw [own_eq1, if_pos rfl]
          · -- 0
            show OGo _ _ _ _ T204 (mkF m 294 #[.val (.int pa), .val (.int pb), .val (.int pc_), .val (.int pd), .val (.int ps), .val (.int 2), .val (.int fl), .val (.int r2), .val (.int r5), .val (.int r8), .val (.int r11), .val (.ref b170), .val (.ref b176), .val (.int 0), .val (.int 0), .unset, .unset, .unset] [])
            refine og_aload X204 296 at_294 rfl rfl rfl ?_
            have f238 := f190.keep K200
            have f239 := f238.keep K204
            have f240 := f201.keep K204 nin0
            have f241 := f202.keep K204 nin0
            have f242 := f186.keep K187 all0
            have f243 := f242.keep K200 (allS (Or.inr ⟨_, _, _, f190, by decide, (ow hw 7 rfl)⟩) all0)
            have f244 := f243.keep K204 all0
            refine own_virt X204 299 (a := b176) (argsL := []) (rest := []) at_296 f239 (fun _ hZ => notFace_of_selects (args := #[]) (mvT hZ (ow hw 42 rfl))) (rm_skI l Z a0 hw n0 h204 hWd [] X204.old b176 b180 0 0 [r2, r5] f239 f240 f241 f244.top (by simp [own_skip, own_w0 ck0]) (Nat.le_of_ble_eq_true rfl) (Nat.le_of_ble_eq_true rfl) (own_svb X204 (om 1 rfl))) (ow hw 39 rfl) (ow hw 40 rfl) (ow hw 42 rfl) (ow hw 41 rfl) (ow hw 8 rfl) (ow hw 43 rfl) (by decide) (lenOf pd__28_29Z rfl) rfl rfl rfl (W := 0) rfl (by decide) (by decide) (by decide) (by decide) (allS (om 1 rfl) all0) rfl ?_
            intro T245 h245 v245 X245 K245 hQ245
            obtain ⟨rfl, f246, f247⟩ := hQ245
            show OGo _ _ _ _ T245 (mkF m 299 #[.val (.int pa), .val (.int pb), .val (.int pc_), .val (.int pd), .val (.int ps), .val (.int 2), .val (.int fl), .val (.int r2), .val (.int r5), .val (.int r8), .val (.int r11), .val (.ref b170), .val (.ref b176), .val (.int 0), .val (.int 0), .unset, .unset, .unset] [(.int 1)])
            refine og_istore X245 301 #[.val (.int pa), .val (.int pb), .val (.int pc_), .val (.int pd), .val (.int ps), .val (.int 2), .val (.int fl), .val (.int r2), .val (.int r5), .val (.int r8), .val (.int r11), .val (.ref b170), .val (.ref b176), .val (.int 0), .val (.int 0), .val (.int 1), .unset, .unset] at_299 rfl rfl ?_
            refine og_aload X245 303 at_301 rfl rfl rfl ?_
            have f248 := f239.keep K245
            have f249 := f244.keep K245 (allS (Or.inr ⟨_, _, _, f239, by decide, (ow hw 7 rfl)⟩) all0)
            refine own_virt X245 306 (a := b176) (argsL := []) (rest := []) at_303 f248 (fun _ hZ => notFace_of_selects (args := #[]) (mvT hZ (ow hw 42 rfl))) (rm_skI l Z a0 hw n0 h245 hWd [] X245.old b176 b180 0 0 [r2, r5] f248 f246 f247 f249.top (by simp [own_skip, own_w0 ck0]) (Nat.le_of_ble_eq_true rfl) (Nat.le_of_ble_eq_true rfl) (own_svb X245 (om 1 rfl))) (ow hw 39 rfl) (ow hw 40 rfl) (ow hw 42 rfl) (ow hw 41 rfl) (ow hw 8 rfl) (ow hw 43 rfl) (by decide) (lenOf pd__28_29Z rfl) rfl rfl rfl (W := 0) rfl (by decide) (by decide) (by decide) (by decide) (allS (om 1 rfl) all0) rfl ?_
            intro T250 h250 v250 X250 K250 hQ250
            obtain ⟨rfl, f251, f252⟩ := hQ250
            show OGo _ _ _ _ T250 (mkF m 306 #[.val (.int pa), .val (.int pb), .val (.int pc_), .val (.int pd), .val (.int ps), .val (.int 2), .val (.int fl), .val (.int r2), .val (.int r5), .val (.int r8), .val (.int r11), .val (.ref b170), .val (.ref b176), .val (.int 0), .val (.int 0), .val (.int 1), .unset, .unset] [(.int 1)])
            refine og_istore X250 308 #[.val (.int pa), .val (.int pb), .val (.int pc_), .val (.int pd), .val (.int ps), .val (.int 2), .val (.int fl), .val (.int r2), .val (.int r5), .val (.int r8), .val (.int r11), .val (.ref b170), .val (.ref b176), .val (.int 0), .val (.int 0), .val (.int 1), .val (.int 1), .unset] at_306 rfl rfl ?_
            refine og_iload X250 310 at_308 rfl rfl ?_
            refine og_iload X250 312 at_310 rfl rfl ?_
            refine og_iload X250 314 at_312 rfl rfl ?_
            refine og_icmpN X250 317 at_314 (XT.ii_ge_f (by decide)) rfl ?_
            refine og_iconst X250 318 (1 : Int32) at_317 rfl rfl ?_
            refine og_goto X250 322 at_318 (by decide) (by decide) ?_
            refine og_icmpN X250 325 at_322 (XT.ii_ne_f (by decide)) rfl ?_
            refine og_iload X250 327 at_325 rfl rfl ?_
            refine og_iload X250 329 at_327 rfl rfl ?_
            refine og_icmpY X250 334 at_329 (XT.ii_eq_t (by decide)) (by decide) (by decide) ?_
            refine og_iload X250 336 at_334 rfl rfl ?_
            refine og_iload X250 338 at_336 rfl rfl ?_
            refine og_icmpN X250 341 at_338 (XT.ii_ge_f (by decide)) rfl ?_
            refine og_iload X250 343 at_341 rfl rfl ?_
            refine og_ifN X250 346 at_343 (XT.i0_ne_f (by decide)) rfl ?_
            refine og_iload X250 348 at_346 rfl rfl ?_
            refine og_goto X250 375 at_348 (by decide) (by decide) ?_
            refine og_istore X250 377 #[.val (.int pa), .val (.int pb), .val (.int pc_), .val (.int pd), .val (.int ps), .val (.int 2), .val (.int fl), .val (.int r2), .val (.int r5), .val (.int r8), .val (.int r11), .val (.ref b170), .val (.ref b176), .val (.int 0), .val (.int 0), .val (.int 1), .val (.int 1), .val (.int r2)] at_375 rfl rfl ?_
            refine og_aload X250 379 at_377 rfl rfl rfl ?_
            refine og_iload X250 381 at_379 rfl rfl ?_
            have f253 := f248.keep K250
            have f254 := f249.keep K250 (allS (Or.inr ⟨_, _, _, f248, by decide, (ow hw 7 rfl)⟩) all0)
            refine own_virt X250 384 (a := b176) (argsL := [(.int r2)]) (rest := []) at_381 f253 (fun _ hZ => notFace_of_selects (args := #[]) (mvT hZ (ow hw 75 rfl))) (rm_nxI l Z a0 hw n0 h250 hWd [] X250.old b176 b180 0 [r2, r5] r2 f251 f252 f254.top (Nat.le_of_ble_eq_true rfl) ) (ow hw 102 rfl) (ow hw 73 rfl) (ow hw 75 rfl) (ow hw 74 rfl) (ow hw 8 rfl) (ow hw 76 rfl) (by decide) (lenOf pd__28C_29Z rfl) rfl rfl rfl (W := 0) rfl (by decide) (by decide) (by decide) (by decide) all0 rfl ?_
            intro T255 h255 v255 X255 K255 hQ255
            obtain rfl := hQ255
            show OGo _ _ _ _ T255 (mkF m 384 #[.val (.int pa), .val (.int pb), .val (.int pc_), .val (.int pd), .val (.int ps), .val (.int 2), .val (.int fl), .val (.int r2), .val (.int r5), .val (.int r8), .val (.int r11), .val (.ref b170), .val (.ref b176), .val (.int 0), .val (.int 0), .val (.int 1), .val (.int 1), .val (.int r2)] [(.int (own_eq1 r2 r2))])
            refine own_retZ X255 at_384 hret (own_zb (Or.inr (show (own_eq1 r2 r2) = 1 from if_pos rfl))).1 (by decide) (by decide) ?_
            rw [own_eq1, if_pos rfl]
        · -- the ways to it
          intro J204
          refine og_iload X200 224 at_222 rfl rfl ?_
          refine og_iconst X200 225 (3 : Int32) at_224 rfl rfl ?_
          refine og_icmpY X200 239 at_225 (XT.ii_le_t (by decide)) (by decide) (by decide) ?_
          refine og_iload X200 241 at_239 rfl rfl ?_
          refine og_iconst X200 242 (2 : Int32) at_241 rfl rfl ?_
          refine og_icmpY X200 256 at_242 (XT.ii_le_t (by decide)) (by decide) (by decide) ?_
          refine og_iload X200 258 at_256 rfl rfl ?_
          refine og_iconst X200 259 (1 : Int32) at_258 rfl rfl ?_
          refine og_icmpN X200 262 at_259 (XT.ii_le_f (by decide)) rfl ?_
          refine og_iload X200 264 at_262 rfl rfl ?_
          refine own_stat X200 267 (argsL := [(.int r5)]) (rest := []) at_264 (rm19 l Z a0 hw n0 h200 hWd [] X200.old r5  ) (ow hw 99 rfl) (ow hw 100 rfl) (ow hw 2 rfl) (ow hw 101 rfl) (by decide) (lenOf pd__28C_29Z rfl) rfl rfl rfl (W := 0) rfl (by decide) (by decide) (by decide) (by decide) all0 rfl ?_
          intro T256 h256 v256 X256 K256 hQ256
          obtain rfl := hQ256
          show OGo _ _ _ _ T256 (mkF m 267 #[.val (.int pa), .val (.int pb), .val (.int pc_), .val (.int pd), .val (.int ps), .val (.int 2), .val (.int fl), .val (.int r2), .val (.int r5), .val (.int r8), .val (.int r11), .val (.ref b170), .val (.ref b176), .val (.int 0), .val (.int 2), .unset, .unset, .unset] [(.int (own_ws r5))])
          by_cases hc257 : (own_ws r5) = 0
          · -- (own_ws r5) = 0
            refine og_ifN X256 270 at_267 (XT.i0_ne_f hc257) rfl ?_
            refine og_iconst X256 271 (1 : Int32) at_270 rfl rfl ?_
            refine og_istore X256 273 #[.val (.int pa), .val (.int pb), .val (.int pc_), .val (.int pd), .val (.int ps), .val (.int 2), .val (.int fl), .val (.int r2), .val (.int r5), .val (.int r8), .val (.int r11), .val (.ref b170), .val (.ref b176), .val (.int 0), .val (.int 1), .unset, .unset, .unset] at_271 rfl rfl ?_
            refine og_iload X256 275 at_273 rfl rfl ?_
            refine og_ifN X256 278 at_275 (XT.i0_le_f (by decide)) rfl ?_
            refine og_iload X256 280 at_278 rfl rfl ?_
            refine og_ifN X256 283 at_280 (XT.i0_ne_f (by decide)) rfl ?_
            refine og_iload X256 285 at_283 rfl rfl ?_
            refine own_stat X256 288 (argsL := [(.int r2)]) (rest := []) at_285 (rm19 l Z a0 hw n0 h256 hWd [] X256.old r2  ) (ow hw 99 rfl) (ow hw 100 rfl) (ow hw 2 rfl) (ow hw 101 rfl) (by decide) (lenOf pd__28C_29Z rfl) rfl rfl rfl (W := 0) rfl (by decide) (by decide) (by decide) (by decide) all0 rfl ?_
            intro T258 h258 v258 X258 K258 hQ258
            obtain rfl := hQ258
            show OGo _ _ _ _ T258 (mkF m 288 #[.val (.int pa), .val (.int pb), .val (.int pc_), .val (.int pd), .val (.int ps), .val (.int 2), .val (.int fl), .val (.int r2), .val (.int r5), .val (.int r8), .val (.int r11), .val (.ref b170), .val (.ref b176), .val (.int 0), .val (.int 1), .unset, .unset, .unset] [(.int (own_ws r2))])
            by_cases hc259 : (own_ws r2) = 0
            · -- (own_ws r2) = 0
              refine og_ifN X258 291 at_288 (XT.i0_ne_f hc259) rfl ?_
              refine og_iconst X258 292 (0 : Int32) at_291 rfl rfl ?_
              refine og_istore X258 294 #[.val (.int pa), .val (.int pb), .val (.int pc_), .val (.int pd), .val (.int ps), .val (.int 2), .val (.int fl), .val (.int r2), .val (.int r5), .val (.int r8), .val (.int r11), .val (.ref b170), .val (.ref b176), .val (.int 0), .val (.int 0), .unset, .unset, .unset] at_292 rfl rfl ?_
              exact J204 _ _ X258 (K256.trans K258 (fun _ q => nomatch q)) _ (Or.inr (Or.inr ⟨rfl, hc259⟩))
            · -- not
              refine og_ifY X258 294 at_288 (XT.i0_ne_t hc259) (by decide) (by decide) ?_
              exact J204 _ _ X258 (K256.trans K258 (fun _ q => nomatch q)) _ (Or.inr (Or.inl ⟨rfl, hc259, hc257⟩))
          · -- not
            refine og_ifY X256 273 at_267 (XT.i0_ne_t hc257) (by decide) (by decide) ?_
            refine og_iload X256 275 at_273 rfl rfl ?_
            refine og_ifN X256 278 at_275 (XT.i0_le_f (by decide)) rfl ?_
            refine og_iload X256 280 at_278 rfl rfl ?_
            refine og_ifN X256 283 at_280 (XT.i0_ne_f (by decide)) rfl ?_
            refine og_iload X256 285 at_283 rfl rfl ?_
            refine own_stat X256 288 (argsL := [(.int r2)]) (rest := []) at_285 (rm19 l Z a0 hw n0 h256 hWd [] X256.old r2  ) (ow hw 99 rfl) (ow hw 100 rfl) (ow hw 2 rfl) (ow hw 101 rfl) (by decide) (lenOf pd__28C_29Z rfl) rfl rfl rfl (W := 0) rfl (by decide) (by decide) (by decide) (by decide) all0 rfl ?_
            intro T260 h260 v260 X260 K260 hQ260
            obtain rfl := hQ260
            show OGo _ _ _ _ T260 (mkF m 288 #[.val (.int pa), .val (.int pb), .val (.int pc_), .val (.int pd), .val (.int ps), .val (.int 2), .val (.int fl), .val (.int r2), .val (.int r5), .val (.int r8), .val (.int r11), .val (.ref b170), .val (.ref b176), .val (.int 0), .val (.int 2), .unset, .unset, .unset] [(.int (own_ws r2))])
            by_cases hc261 : (own_ws r2) = 0
            · -- (own_ws r2) = 0
              refine og_ifN X260 291 at_288 (XT.i0_ne_f hc261) rfl ?_
              refine og_iconst X260 292 (0 : Int32) at_291 rfl rfl ?_
              refine og_istore X260 294 #[.val (.int pa), .val (.int pb), .val (.int pc_), .val (.int pd), .val (.int ps), .val (.int 2), .val (.int fl), .val (.int r2), .val (.int r5), .val (.int r8), .val (.int r11), .val (.ref b170), .val (.ref b176), .val (.int 0), .val (.int 0), .unset, .unset, .unset] at_292 rfl rfl ?_
              exact J204 _ _ X260 (K256.trans K260 (fun _ q => nomatch q)) _ (Or.inr (Or.inr ⟨rfl, hc261⟩))
            · -- not
              refine og_ifY X260 294 at_288 (XT.i0_ne_t hc261) (by decide) (by decide) ?_
              exact J204 _ _ X260 (K256.trans K260 (fun _ q => nomatch q)) _ (Or.inl ⟨rfl, hc261, hc257⟩)
      · -- not
        refine og_ifN X200 184 at_181 (XT.i0_eq_f hc203) rfl ?_
        refine og_aload X200 186 at_184 rfl rfl rfl ?_
        refine og_iload X200 188 at_186 rfl rfl ?_
        have f262 := f190.keep K200
        have f263 := f186.keep K187 all0
        have f264 := f263.keep K200 (allS (Or.inr ⟨_, _, _, f190, by decide, (ow hw 7 rfl)⟩) all0)
        refine own_virt X200 191 (a := b176) (argsL := [(.int r2)]) (rest := []) at_188 f262 (fun _ hZ => notFace_of_selects (args := #[]) (mvT hZ (ow hw 70 rfl))) (rm_tkI l Z a0 hw n0 h200 hWd [] X200.old b176 b180 0 [r2, r5] r2 f262 f201 f202 f264.top (Nat.le_of_ble_eq_true rfl) rfl (own_svb X200 (om 1 rfl))) (ow hw 67 rfl) (ow hw 68 rfl) (ow hw 70 rfl) (ow hw 69 rfl) (ow hw 8 rfl) (ow hw 71 rfl) (by decide) (lenOf pd__28C_29Z rfl) rfl rfl rfl (W := 0) rfl (by decide) (by decide) (by decide) (by decide) (allS (om 1 rfl) all0) rfl ?_
        intro T265 h265 v265 X265 K265 hQ265
        obtain ⟨rfl, f266, f267⟩ := hQ265
        show OGo _ _ _ _ T265 (mkF m 191 #[.val (.int pa), .val (.int pb), .val (.int pc_), .val (.int pd), .val (.int ps), .val (.int 2), .val (.int fl), .val (.int r2), .val (.int r5), .val (.int r8), .val (.int r11), .val (.ref b170), .val (.ref b176), .val (.int 0), .unset, .unset, .unset, .unset] [(.int 1)])
        refine og_istore X265 193 #[.val (.int pa), .val (.int pb), .val (.int pc_), .val (.int pd), .val (.int ps), .val (.int 2), .val (.int fl), .val (.int r2), .val (.int r5), .val (.int r8), .val (.int r11), .val (.ref b170), .val (.ref b176), .val (.int 0), .val (.int 1), .unset, .unset, .unset] at_191 rfl rfl ?_
        refine og_iload X265 195 at_193 rfl rfl ?_
        refine og_iload X265 197 at_195 rfl rfl ?_
        refine og_ifN X265 200 at_197 (XT.i0_le_f (by decide)) rfl ?_
        refine og_iconst X265 201 (1 : Int32) at_200 rfl rfl ?_
        refine og_goto X265 205 at_201 (by decide) (by decide) ?_
        refine og_icmpY X265 210 at_205 (XT.ii_eq_t (by decide)) (by decide) (by decide) ?_
        refine og_iload X265 212 at_210 rfl rfl ?_
        refine og_ifN X265 215 at_212 (XT.i0_le_f (by decide)) rfl ?_
        refine og_iconst X265 216 (1 : Int32) at_215 rfl rfl ?_
        refine og_istore X265 218 #[.val (.int pa), .val (.int pb), .val (.int pc_), .val (.int pd), .val (.int ps), .val (.int 2), .val (.int fl), .val (.int r2), .val (.int r5), .val (.int r8), .val (.int r11), .val (.ref b170), .val (.ref b176), .val (.int 1), .val (.int 1), .unset, .unset, .unset] at_216 rfl rfl ?_
        refine og_iload X265 220 at_218 rfl rfl ?_
        refine og_istore X265 222 #[.val (.int pa), .val (.int pb), .val (.int pc_), .val (.int pd), .val (.int ps), .val (.int 2), .val (.int fl), .val (.int r2), .val (.int r5), .val (.int r8), .val (.int r11), .val (.ref b170), .val (.ref b176), .val (.int 1), .val (.int 2), .unset, .unset, .unset] at_220 rfl rfl ?_
        refine own_cut X265 294 (fun (kw : Int32) => #[.val (.int pa), .val (.int pb), .val (.int pc_), .val (.int pd), .val (.int ps), .val (.int 2), .val (.int fl), .val (.int r2), .val (.int r5), .val (.int r8), .val (.int r11), .val (.ref b170), .val (.ref b176), .val (.int 1), .val (.int kw), .unset, .unset, .unset]) (fun _ => []) (fun kw => (kw = 2 ∧ ¬ (own_ws r5) = 0) ∨ (kw = 1 ∧ (own_ws r5) = 0)) ?_ ?_
        · -- the common ways on
          intro T268 h268 X268 K268 kw ok268
          rcases ok268 with ⟨rfl, ck0⟩ | ⟨rfl, ck0⟩
          · -- 2
            show OGo _ _ _ _ T268 (mkF m 294 #[.val (.int pa), .val (.int pb), .val (.int pc_), .val (.int pd), .val (.int ps), .val (.int 2), .val (.int fl), .val (.int r2), .val (.int r5), .val (.int r8), .val (.int r11), .val (.ref b170), .val (.ref b176), .val (.int 1), .val (.int 2), .unset, .unset, .unset] [])
            refine og_aload X268 296 at_294 rfl rfl rfl ?_
            have f269 := f262.keep K265
            have f270 := f269.keep K268
            have f271 := f266.keep K268 nin0
            have f272 := f267.keep K268 nin0
            have f273 := f264.keep K265 (allS (Or.inr ⟨_, _, _, f262, by decide, (ow hw 7 rfl)⟩) all0)
            have f274 := f273.keep K268 all0
            refine own_virt X268 299 (a := b176) (argsL := []) (rest := []) at_296 f270 (fun _ hZ => notFace_of_selects (args := #[]) (mvT hZ (ow hw 42 rfl))) (rm_skE l Z a0 hw n0 h268 hWd [] X268.old b176 b180 1 2 [r2, r5] f270 f271 f272 f274.top (by simp [own_skip, own_w1 ck0]) (Nat.le_of_ble_eq_true rfl) rfl (own_svb X268 (om 1 rfl))) (ow hw 39 rfl) (ow hw 40 rfl) (ow hw 42 rfl) (ow hw 41 rfl) (ow hw 8 rfl) (ow hw 43 rfl) (by decide) (lenOf pd__28_29Z rfl) rfl rfl rfl (W := 0) rfl (by decide) (by decide) (by decide) (by decide) (allS (om 1 rfl) all0) rfl ?_
            intro T275 h275 v275 X275 K275 hQ275
            obtain ⟨rfl, f276, f277⟩ := hQ275
            show OGo _ _ _ _ T275 (mkF m 299 #[.val (.int pa), .val (.int pb), .val (.int pc_), .val (.int pd), .val (.int ps), .val (.int 2), .val (.int fl), .val (.int r2), .val (.int r5), .val (.int r8), .val (.int r11), .val (.ref b170), .val (.ref b176), .val (.int 1), .val (.int 2), .unset, .unset, .unset] [(.int 0)])
            refine og_istore X275 301 #[.val (.int pa), .val (.int pb), .val (.int pc_), .val (.int pd), .val (.int ps), .val (.int 2), .val (.int fl), .val (.int r2), .val (.int r5), .val (.int r8), .val (.int r11), .val (.ref b170), .val (.ref b176), .val (.int 1), .val (.int 2), .val (.int 0), .unset, .unset] at_299 rfl rfl ?_
            refine og_aload X275 303 at_301 rfl rfl rfl ?_
            have f278 := f270.keep K275
            have f279 := f274.keep K275 (allS (Or.inr ⟨_, _, _, f270, by decide, (ow hw 7 rfl)⟩) all0)
            refine own_virt X275 306 (a := b176) (argsL := []) (rest := []) at_303 f278 (fun _ hZ => notFace_of_selects (args := #[]) (mvT hZ (ow hw 42 rfl))) (rm_skE l Z a0 hw n0 h275 hWd [] X275.old b176 b180 2 2 [r2, r5] f278 f276 f277 f279.top (by simp [own_skip, own_w1 ck0]) (Nat.le_of_ble_eq_true rfl) rfl (own_svb X275 (om 1 rfl))) (ow hw 39 rfl) (ow hw 40 rfl) (ow hw 42 rfl) (ow hw 41 rfl) (ow hw 8 rfl) (ow hw 43 rfl) (by decide) (lenOf pd__28_29Z rfl) rfl rfl rfl (W := 0) rfl (by decide) (by decide) (by decide) (by decide) (allS (om 1 rfl) all0) rfl ?_
            intro T280 h280 v280 X280 K280 hQ280
            obtain ⟨rfl, f281, f282⟩ := hQ280
            show OGo _ _ _ _ T280 (mkF m 306 #[.val (.int pa), .val (.int pb), .val (.int pc_), .val (.int pd), .val (.int ps), .val (.int 2), .val (.int fl), .val (.int r2), .val (.int r5), .val (.int r8), .val (.int r11), .val (.ref b170), .val (.ref b176), .val (.int 1), .val (.int 2), .val (.int 0), .unset, .unset] [(.int 0)])
            refine og_istore X280 308 #[.val (.int pa), .val (.int pb), .val (.int pc_), .val (.int pd), .val (.int ps), .val (.int 2), .val (.int fl), .val (.int r2), .val (.int r5), .val (.int r8), .val (.int r11), .val (.ref b170), .val (.ref b176), .val (.int 1), .val (.int 2), .val (.int 0), .val (.int 0), .unset] at_306 rfl rfl ?_
            refine og_iload X280 310 at_308 rfl rfl ?_
            refine og_iload X280 312 at_310 rfl rfl ?_
            refine og_iload X280 314 at_312 rfl rfl ?_
            refine og_icmpY X280 321 at_314 (XT.ii_ge_t (by decide)) (by decide) (by decide) ?_
            refine og_iconst X280 322 (0 : Int32) at_321 rfl rfl ?_
            refine og_icmpN X280 325 at_322 (XT.ii_ne_f (by decide)) rfl ?_
            refine og_iload X280 327 at_325 rfl rfl ?_
            refine og_iload X280 329 at_327 rfl rfl ?_
            refine og_icmpY X280 334 at_329 (XT.ii_eq_t (by decide)) (by decide) (by decide) ?_
            refine og_iload X280 336 at_334 rfl rfl ?_
            refine og_iload X280 338 at_336 rfl rfl ?_
            refine og_icmpY X280 385 at_338 (XT.ii_ge_t (by decide)) (by decide) (by decide) ?_
            refine og_iconst X280 386 (1 : Int32) at_385 rfl rfl ?_
            refine own_retZ X280 at_386 hret rfl (by decide) (by decide) ?_
            exact rfl
          · -- 1
            show OGo _ _ _ _ T268 (mkF m 294 #[.val (.int pa), .val (.int pb), .val (.int pc_), .val (.int pd), .val (.int ps), .val (.int 2), .val (.int fl), .val (.int r2), .val (.int r5), .val (.int r8), .val (.int r11), .val (.ref b170), .val (.ref b176), .val (.int 1), .val (.int 1), .unset, .unset, .unset] [])
            refine og_aload X268 296 at_294 rfl rfl rfl ?_
            have f283 := f262.keep K265
            have f284 := f283.keep K268
            have f285 := f266.keep K268 nin0
            have f286 := f267.keep K268 nin0
            have f287 := f264.keep K265 (allS (Or.inr ⟨_, _, _, f262, by decide, (ow hw 7 rfl)⟩) all0)
            have f288 := f287.keep K268 all0
            refine own_virt X268 299 (a := b176) (argsL := []) (rest := []) at_296 f284 (fun _ hZ => notFace_of_selects (args := #[]) (mvT hZ (ow hw 42 rfl))) (rm_skI l Z a0 hw n0 h268 hWd [] X268.old b176 b180 1 1 [r2, r5] f284 f285 f286 f288.top (by simp [own_skip, own_w0 ck0]) (Nat.le_of_ble_eq_true rfl) (Nat.le_of_ble_eq_true rfl) (own_svb X268 (om 1 rfl))) (ow hw 39 rfl) (ow hw 40 rfl) (ow hw 42 rfl) (ow hw 41 rfl) (ow hw 8 rfl) (ow hw 43 rfl) (by decide) (lenOf pd__28_29Z rfl) rfl rfl rfl (W := 0) rfl (by decide) (by decide) (by decide) (by decide) (allS (om 1 rfl) all0) rfl ?_
            intro T289 h289 v289 X289 K289 hQ289
            obtain ⟨rfl, f290, f291⟩ := hQ289
            show OGo _ _ _ _ T289 (mkF m 299 #[.val (.int pa), .val (.int pb), .val (.int pc_), .val (.int pd), .val (.int ps), .val (.int 2), .val (.int fl), .val (.int r2), .val (.int r5), .val (.int r8), .val (.int r11), .val (.ref b170), .val (.ref b176), .val (.int 1), .val (.int 1), .unset, .unset, .unset] [(.int 1)])
            refine og_istore X289 301 #[.val (.int pa), .val (.int pb), .val (.int pc_), .val (.int pd), .val (.int ps), .val (.int 2), .val (.int fl), .val (.int r2), .val (.int r5), .val (.int r8), .val (.int r11), .val (.ref b170), .val (.ref b176), .val (.int 1), .val (.int 1), .val (.int 1), .unset, .unset] at_299 rfl rfl ?_
            refine og_aload X289 303 at_301 rfl rfl rfl ?_
            have f292 := f284.keep K289
            have f293 := f288.keep K289 (allS (Or.inr ⟨_, _, _, f284, by decide, (ow hw 7 rfl)⟩) all0)
            refine own_virt X289 306 (a := b176) (argsL := []) (rest := []) at_303 f292 (fun _ hZ => notFace_of_selects (args := #[]) (mvT hZ (ow hw 42 rfl))) (rm_skI l Z a0 hw n0 h289 hWd [] X289.old b176 b180 1 1 [r2, r5] f292 f290 f291 f293.top (by simp [own_skip, own_w0 ck0]) (Nat.le_of_ble_eq_true rfl) (Nat.le_of_ble_eq_true rfl) (own_svb X289 (om 1 rfl))) (ow hw 39 rfl) (ow hw 40 rfl) (ow hw 42 rfl) (ow hw 41 rfl) (ow hw 8 rfl) (ow hw 43 rfl) (by decide) (lenOf pd__28_29Z rfl) rfl rfl rfl (W := 0) rfl (by decide) (by decide) (by decide) (by decide) (allS (om 1 rfl) all0) rfl ?_
            intro T294 h294 v294 X294 K294 hQ294
            obtain ⟨rfl, f295, f296⟩ := hQ294
            show OGo _ _ _ _ T294 (mkF m 306 #[.val (.int pa), .val (.int pb), .val (.int pc_), .val (.int pd), .val (.int ps), .val (.int 2), .val (.int fl), .val (.int r2), .val (.int r5), .val (.int r8), .val (.int r11), .val (.ref b170), .val (.ref b176), .val (.int 1), .val (.int 1), .val (.int 1), .unset, .unset] [(.int 1)])
            refine og_istore X294 308 #[.val (.int pa), .val (.int pb), .val (.int pc_), .val (.int pd), .val (.int ps), .val (.int 2), .val (.int fl), .val (.int r2), .val (.int r5), .val (.int r8), .val (.int r11), .val (.ref b170), .val (.ref b176), .val (.int 1), .val (.int 1), .val (.int 1), .val (.int 1), .unset] at_306 rfl rfl ?_
            refine og_iload X294 310 at_308 rfl rfl ?_
            refine og_iload X294 312 at_310 rfl rfl ?_
            refine og_iload X294 314 at_312 rfl rfl ?_
            refine og_icmpN X294 317 at_314 (XT.ii_ge_f (by decide)) rfl ?_
            refine og_iconst X294 318 (1 : Int32) at_317 rfl rfl ?_
            refine og_goto X294 322 at_318 (by decide) (by decide) ?_
            refine og_icmpN X294 325 at_322 (XT.ii_ne_f (by decide)) rfl ?_
            refine og_iload X294 327 at_325 rfl rfl ?_
            refine og_iload X294 329 at_327 rfl rfl ?_
            refine og_icmpY X294 334 at_329 (XT.ii_eq_t (by decide)) (by decide) (by decide) ?_
            refine og_iload X294 336 at_334 rfl rfl ?_
            refine og_iload X294 338 at_336 rfl rfl ?_
            refine og_icmpN X294 341 at_338 (XT.ii_ge_f (by decide)) rfl ?_
            refine og_iload X294 343 at_341 rfl rfl ?_
            refine og_ifY X294 351 at_343 (XT.i0_ne_t (by decide)) (by decide) (by decide) ?_
            refine og_iload X294 353 at_351 rfl rfl ?_
            refine og_iconst X294 354 (1 : Int32) at_353 rfl rfl ?_
            refine og_icmpN X294 357 at_354 (XT.ii_ne_f (by decide)) rfl ?_
            refine og_iload X294 359 at_357 rfl rfl ?_
            refine og_goto X294 375 at_359 (by decide) (by decide) ?_
            refine og_istore X294 377 #[.val (.int pa), .val (.int pb), .val (.int pc_), .val (.int pd), .val (.int ps), .val (.int 2), .val (.int fl), .val (.int r2), .val (.int r5), .val (.int r8), .val (.int r11), .val (.ref b170), .val (.ref b176), .val (.int 1), .val (.int 1), .val (.int 1), .val (.int 1), .val (.int r5)] at_375 rfl rfl ?_
            refine og_aload X294 379 at_377 rfl rfl rfl ?_
            refine og_iload X294 381 at_379 rfl rfl ?_
            have f297 := f292.keep K294
            have f298 := f293.keep K294 (allS (Or.inr ⟨_, _, _, f292, by decide, (ow hw 7 rfl)⟩) all0)
            refine own_virt X294 384 (a := b176) (argsL := [(.int r5)]) (rest := []) at_381 f297 (fun _ hZ => notFace_of_selects (args := #[]) (mvT hZ (ow hw 75 rfl))) (rm_nxI l Z a0 hw n0 h294 hWd [] X294.old b176 b180 1 [r2, r5] r5 f295 f296 f298.top (Nat.le_of_ble_eq_true rfl) ) (ow hw 102 rfl) (ow hw 73 rfl) (ow hw 75 rfl) (ow hw 74 rfl) (ow hw 8 rfl) (ow hw 76 rfl) (by decide) (lenOf pd__28C_29Z rfl) rfl rfl rfl (W := 0) rfl (by decide) (by decide) (by decide) (by decide) all0 rfl ?_
            intro T299 h299 v299 X299 K299 hQ299
            obtain rfl := hQ299
            show OGo _ _ _ _ T299 (mkF m 384 #[.val (.int pa), .val (.int pb), .val (.int pc_), .val (.int pd), .val (.int ps), .val (.int 2), .val (.int fl), .val (.int r2), .val (.int r5), .val (.int r8), .val (.int r11), .val (.ref b170), .val (.ref b176), .val (.int 1), .val (.int 1), .val (.int 1), .val (.int 1), .val (.int r5)] [(.int (own_eq1 r5 r5))])
            refine own_retZ X299 at_384 hret (own_zb (Or.inr (show (own_eq1 r5 r5) = 1 from if_pos rfl))).1 (by decide) (by decide) ?_
            rw [own_eq1, if_pos rfl]
        · -- the ways to it
          intro J268
          refine og_iload X265 224 at_222 rfl rfl ?_
          refine og_iconst X265 225 (3 : Int32) at_224 rfl rfl ?_
          refine og_icmpY X265 239 at_225 (XT.ii_le_t (by decide)) (by decide) (by decide) ?_
          refine og_iload X265 241 at_239 rfl rfl ?_
          refine og_iconst X265 242 (2 : Int32) at_241 rfl rfl ?_
          refine og_icmpY X265 256 at_242 (XT.ii_le_t (by decide)) (by decide) (by decide) ?_
          refine og_iload X265 258 at_256 rfl rfl ?_
          refine og_iconst X265 259 (1 : Int32) at_258 rfl rfl ?_
          refine og_icmpN X265 262 at_259 (XT.ii_le_f (by decide)) rfl ?_
          refine og_iload X265 264 at_262 rfl rfl ?_
          refine own_stat X265 267 (argsL := [(.int r5)]) (rest := []) at_264 (rm19 l Z a0 hw n0 h265 hWd [] X265.old r5  ) (ow hw 99 rfl) (ow hw 100 rfl) (ow hw 2 rfl) (ow hw 101 rfl) (by decide) (lenOf pd__28C_29Z rfl) rfl rfl rfl (W := 0) rfl (by decide) (by decide) (by decide) (by decide) all0 rfl ?_
          intro T300 h300 v300 X300 K300 hQ300
          obtain rfl := hQ300
          show OGo _ _ _ _ T300 (mkF m 267 #[.val (.int pa), .val (.int pb), .val (.int pc_), .val (.int pd), .val (.int ps), .val (.int 2), .val (.int fl), .val (.int r2), .val (.int r5), .val (.int r8), .val (.int r11), .val (.ref b170), .val (.ref b176), .val (.int 1), .val (.int 2), .unset, .unset, .unset] [(.int (own_ws r5))])
          by_cases hc301 : (own_ws r5) = 0
          · -- (own_ws r5) = 0
            refine og_ifN X300 270 at_267 (XT.i0_ne_f hc301) rfl ?_
            refine og_iconst X300 271 (1 : Int32) at_270 rfl rfl ?_
            refine og_istore X300 273 #[.val (.int pa), .val (.int pb), .val (.int pc_), .val (.int pd), .val (.int ps), .val (.int 2), .val (.int fl), .val (.int r2), .val (.int r5), .val (.int r8), .val (.int r11), .val (.ref b170), .val (.ref b176), .val (.int 1), .val (.int 1), .unset, .unset, .unset] at_271 rfl rfl ?_
            refine og_iload X300 275 at_273 rfl rfl ?_
            refine og_ifN X300 278 at_275 (XT.i0_le_f (by decide)) rfl ?_
            refine og_iload X300 280 at_278 rfl rfl ?_
            refine og_ifY X300 294 at_280 (XT.i0_ne_t (by decide)) (by decide) (by decide) ?_
            exact J268 _ _ X300 K300 _ (Or.inr ⟨rfl, hc301⟩)
          · -- not
            refine og_ifY X300 273 at_267 (XT.i0_ne_t hc301) (by decide) (by decide) ?_
            refine og_iload X300 275 at_273 rfl rfl ?_
            refine og_ifN X300 278 at_275 (XT.i0_le_f (by decide)) rfl ?_
            refine og_iload X300 280 at_278 rfl rfl ?_
            refine og_ifY X300 294 at_280 (XT.i0_ne_t (by decide)) (by decide) (by decide) ?_
            exact J268 _ _ X300 K300 _ (Or.inl ⟨rfl, hc301⟩)
    · -- n is 3
      rw [eQ]
      refine og_iload X11 48 at_46 rfl rfl ?_
      refine og_ifY X11 59 at_48 (XT.i0_ne_t (by decide)) (by decide) (by decide) ?_
      refine og_iload X11 61 at_59 rfl rfl ?_
      refine og_iconst X11 62 (1 : Int32) at_61 rfl rfl ?_
      refine og_icmpY X11 78 at_62 (XT.ii_ne_t (by decide)) (by decide) (by decide) ?_
      refine og_iload X11 80 at_78 rfl rfl ?_
      refine og_iconst X11 81 (2 : Int32) at_80 rfl rfl ?_
      refine og_icmpY X11 102 at_81 (XT.ii_ne_t (by decide)) (by decide) (by decide) ?_
      refine og_iload X11 104 at_102 rfl rfl ?_
      refine og_iconst X11 105 (3 : Int32) at_104 rfl rfl ?_
      refine og_icmpN X11 108 at_105 (XT.ii_ne_f (by decide)) rfl ?_
      refine og_iconst X11 109 (3 : Int32) at_108 rfl rfl ?_
      refine own_arr X11 111 at_109 (ow hw 5 rfl) (by decide) (cap := 3) (by decide) (by decide) (by decide) (by decide) rfl ?_
      intro T302 h302 b302 kb302 X302 K302 G302 U302 A302
      have f303 : Arv Z h302 b302 kb302 .char (3 : Int32) [(.int 0), (.int 0), (.int 0)] (.int 0) := A302
      refine og_dup X302 112 at_111 rfl rfl ?_
      refine og_iconst X302 113 (0 : Int32) at_112 rfl rfl ?_
      refine og_iload X302 115 at_113 rfl rfl ?_
      refine own_stC X302 116 at_115 f303 (own_nch f3 f4) (by decide) (by decide) (i := 0) (by decide) (Nat.le_of_ble_eq_true rfl) (om 0 rfl) rfl ?_
      intro T304 h304 X304 W304 K304 A304
      have f305 : Arv Z h304 b302 kb302 .char (3 : Int32) [(.int r2), (.int 0), (.int 0)] (.int 0) := A304
      refine og_dup X304 117 at_116 rfl rfl ?_
      refine og_iconst X304 118 (1 : Int32) at_117 rfl rfl ?_
      refine og_iload X304 120 at_118 rfl rfl ?_
      refine own_stC X304 121 at_120 f305 (own_nch f6 f7) (by decide) (by decide) (i := 1) (by decide) (Nat.le_of_ble_eq_true rfl) (om 0 rfl) rfl ?_
      intro T306 h306 X306 W306 K306 A306
      have f307 : Arv Z h306 b302 kb302 .char (3 : Int32) [(.int r2), (.int r5), (.int 0)] (.int 0) := A306
      refine og_dup X306 122 at_121 rfl rfl ?_
      refine og_iconst X306 123 (2 : Int32) at_122 rfl rfl ?_
      refine og_iload X306 125 at_123 rfl rfl ?_
      refine own_stC X306 126 at_125 f307 (own_nch f9 f10) (by decide) (by decide) (i := 2) (by decide) (Nat.le_of_ble_eq_true rfl) (om 0 rfl) rfl ?_
      intro T308 h308 X308 W308 K308 A308
      have f309 : Arv Z h308 b302 kb302 .char (3 : Int32) [(.int r2), (.int r5), (.int r8)] (.int 0) := A308
      refine og_astore X308 128 #[.val (.int pa), .val (.int pb), .val (.int pc_), .val (.int pd), .val (.int ps), .val (.int 3), .val (.int fl), .val (.int r2), .val (.int r5), .val (.int r8), .val (.int r11), .val (.ref b302), .unset, .unset, .unset, .unset, .unset, .unset] at_126 rfl rfl rfl ?_
      refine og_goto X308 156 at_128 (by decide) (by decide) ?_
      refine own_new X308 159 at_156 (ow hw 6 rfl) (ow hw 7 rfl) (ow hw 8 rfl) (by decide) (by decide) rfl ?_
      intro T310 h310 b310 X310 K310 G310 U310 E310 D310
      have f311 : Fld Z h310 b310 "com/example/bote/bote/fields/FieldCursor" "text" "Ljava/lang/String;" .null := D310 (Or.inr (ow hw 36 rfl)) (ty := (.object "java/lang/String")) (by decide)
      have f312 : Fld Z h310 b310 "com/example/bote/bote/fields/FieldCursor" "shape" "Ljava/lang/String;" .null := D310 (Or.inr (ow hw 38 rfl)) (ty := (.object "java/lang/String")) (by decide)
      have f313 : Fld Z h310 b310 "com/example/bote/bote/fields/FieldCursor" "at" "I" (.int 0) := D310 (Or.inl (ow hw 45 rfl)) (ty := .int) (by decide)
      refine og_dup X310 160 at_159 rfl rfl ?_
      refine own_new X310 163 at_160 (ow hw 9 rfl) (ow hw 10 rfl) (ow hw 11 rfl) (by decide) (by decide) rfl ?_
      intro T314 h314 b314 X314 K314 G314 U314 E314 D314
      have f315 : Fld Z h314 b314 "java/lang/String" "value" "[B" .null := D314 (Or.inr (ow hw 24 rfl)) (ty := (.array .byte)) (by decide)
      have f316 : Fld Z h314 b314 "java/lang/String" "coder" "B" (.int 0) := D314 (Or.inr (ow hw 25 rfl)) (ty := .byte) (by decide)
      refine og_dup X314 164 at_163 rfl rfl ?_
      refine og_aload X314 166 at_164 rfl rfl rfl ?_
      have f317 := f309.keep K310 nin0
      have f318 := f317.keep K314 nin0
      refine own_spec X314 169 (a := b314) (argsL := [(.ref b302)]) (rest := [(.ref b314), (.ref b310), (.ref b310)]) at_166 rfl (ru_ini3 l Z a0 hw n0 h314 hWd [] X314.old b314 b302 .null (0 : Int32) kb302 (.int 0) r2 r5 r8 E314 f315 f316 f318 f3 f4 f6 f7 f9 f10 (own_svb X314 (om 0 rfl))) (ow hw 12 rfl) (ow hw 13 rfl) (ow hw 11 rfl) (ow hw 14 rfl) (by decide) (lenOf pd__28_5bC_29V rfl) rfl rfl rfl (W := 3) rfl (by decide) (by decide) (by decide) (by decide) (allS (om 0 rfl) all0) rfl ?_
      intro T319 h319 v319 X319 K319 hQ319
      obtain ⟨rfl, f320⟩ := hQ319
      show OGo _ _ _ _ T319 (mkF m 169 #[.val (.int pa), .val (.int pb), .val (.int pc_), .val (.int pd), .val (.int ps), .val (.int 3), .val (.int fl), .val (.int r2), .val (.int r5), .val (.int r8), .val (.int r11), .val (.ref b302), .unset, .unset, .unset, .unset, .unset, .unset] [(.ref b314), (.ref b310), (.ref b310)])
      refine own_ldcO X319 171 (cap := 20) at_169 own_ELne (ow hw 30 rfl) (own_wS hw) (by decide) (by decide) (by decide) (by decide) rfl ?_
      intro T321 h321 a321 X321 K321
      have f322 := E310.keep K314
      have f323 := f322.keep K319
      have f324 := f323.keep K321
      have f325 := f311.keep K314 nin0
      have f326 := f325.keep K319 (ninS (Nat.ne_of_lt (Nat.lt_of_lt_of_le U310 G314)) nin0)
      have f327 := f326.keep K321 nin0
      have f328 := f312.keep K314 nin0
      have f329 := f328.keep K319 (ninS (Nat.ne_of_lt (Nat.lt_of_lt_of_le U310 G314)) nin0)
      have f330 := f329.keep K321 nin0
      have f331 := f313.keep K314 nin0
      have f332 := f331.keep K319 (ninS (Nat.ne_of_lt (Nat.lt_of_lt_of_le U310 G314)) nin0)
      have f333 := f332.keep K321 nin0
      refine own_spec X321 174 (a := b310) (argsL := [(.ref b314), (.ref a321)]) (rest := [(.ref b310)]) at_171 rfl (rm5 l Z a0 hw n0 h321 hWd [] X321.old b310 b314 a321 f324 f327 f330 f333 (own_svb X321 (om 1 rfl))) (ow hw 31 rfl) (ow hw 32 rfl) (ow hw 8 rfl) (ow hw 33 rfl) (by decide) (lenOf pd__28Ljava_2flang_2fString_3bLjava_2flang_2fString_3b_29V rfl) rfl rfl rfl (W := 1) rfl (by decide) (by decide) (by decide) (by decide) (allS (om 1 rfl) all0) rfl ?_
      intro T334 h334 v334 X334 K334 hQ334
      obtain ⟨rfl, f335, f336⟩ := hQ334
      show OGo _ _ _ _ T334 (mkF m 174 #[.val (.int pa), .val (.int pb), .val (.int pc_), .val (.int pd), .val (.int ps), .val (.int 3), .val (.int fl), .val (.int r2), .val (.int r5), .val (.int r8), .val (.int r11), .val (.ref b302), .unset, .unset, .unset, .unset, .unset, .unset] [(.ref b310)])
      refine og_astore X334 176 #[.val (.int pa), .val (.int pb), .val (.int pc_), .val (.int pd), .val (.int ps), .val (.int 3), .val (.int fl), .val (.int r2), .val (.int r5), .val (.int r8), .val (.int r11), .val (.ref b302), .val (.ref b310), .unset, .unset, .unset, .unset, .unset] at_174 rfl rfl rfl ?_
      refine og_iconst X334 177 (0 : Int32) at_176 rfl rfl ?_
      refine og_istore X334 179 #[.val (.int pa), .val (.int pb), .val (.int pc_), .val (.int pd), .val (.int ps), .val (.int 3), .val (.int fl), .val (.int r2), .val (.int r5), .val (.int r8), .val (.int r11), .val (.ref b302), .val (.ref b310), .val (.int 0), .unset, .unset, .unset, .unset] at_177 rfl rfl ?_
      refine og_iload X334 181 at_179 rfl rfl ?_
      by_cases hc337 : fl = 0
      · -- fl = 0
        refine og_ifY X334 218 at_181 (XT.i0_eq_t hc337) (by decide) (by decide) ?_
        refine og_iload X334 220 at_218 rfl rfl ?_
        refine og_istore X334 222 #[.val (.int pa), .val (.int pb), .val (.int pc_), .val (.int pd), .val (.int ps), .val (.int 3), .val (.int fl), .val (.int r2), .val (.int r5), .val (.int r8), .val (.int r11), .val (.ref b302), .val (.ref b310), .val (.int 0), .val (.int 3), .unset, .unset, .unset] at_220 rfl rfl ?_
        refine own_cut X334 294 (fun (kw : Int32) => #[.val (.int pa), .val (.int pb), .val (.int pc_), .val (.int pd), .val (.int ps), .val (.int 3), .val (.int fl), .val (.int r2), .val (.int r5), .val (.int r8), .val (.int r11), .val (.ref b302), .val (.ref b310), .val (.int 0), .val (.int kw), .unset, .unset, .unset]) (fun _ => []) (fun kw => (kw = 3 ∧ ¬ (own_ws r2) = 0 ∧ ¬ (own_ws r5) = 0 ∧ ¬ (own_ws r8) = 0) ∨ (kw = 2 ∧ ¬ (own_ws r2) = 0 ∧ ¬ (own_ws r5) = 0 ∧ (own_ws r8) = 0) ∨ (kw = 1 ∧ ¬ (own_ws r2) = 0 ∧ (own_ws r5) = 0) ∨ (kw = 0 ∧ (own_ws r2) = 0)) ?_ ?_
        · -- the common ways on
          intro T338 h338 X338 K338 kw ok338
          rcases ok338 with ⟨rfl, ck0, ck1, ck2⟩ | ⟨rfl, ck0, ck1, ck2⟩ | ⟨rfl, ck0, ck1⟩ | ⟨rfl, ck0⟩
          · -- 3
            show OGo _ _ _ _ T338 (mkF m 294 #[.val (.int pa), .val (.int pb), .val (.int pc_), .val (.int pd), .val (.int ps), .val (.int 3), .val (.int fl), .val (.int r2), .val (.int r5), .val (.int r8), .val (.int r11), .val (.ref b302), .val (.ref b310), .val (.int 0), .val (.int 3), .unset, .unset, .unset] [])
            refine og_aload X338 296 at_294 rfl rfl rfl ?_
            have f339 := f324.keep K334
            have f340 := f339.keep K338
            have f341 := f335.keep K338 nin0
            have f342 := f336.keep K338 nin0
            have f343 := f320.keep K321 all0
            have f344 := f343.keep K334 (allS (Or.inr ⟨_, _, _, f324, by decide, (ow hw 7 rfl)⟩) all0)
            have f345 := f344.keep K338 all0
            refine own_virt X338 299 (a := b310) (argsL := []) (rest := []) at_296 f340 (fun _ hZ => notFace_of_selects (args := #[]) (mvT hZ (ow hw 42 rfl))) (rm_skE l Z a0 hw n0 h338 hWd [] X338.old b310 b314 0 3 [r2, r5, r8] f340 f341 f342 f345.top (by simp [own_skip, own_w1 ck0, own_w1 ck1, own_w1 ck2]) (Nat.le_of_ble_eq_true rfl) rfl (own_svb X338 (om 1 rfl))) (ow hw 39 rfl) (ow hw 40 rfl) (ow hw 42 rfl) (ow hw 41 rfl) (ow hw 8 rfl) (ow hw 43 rfl) (by decide) (lenOf pd__28_29Z rfl) rfl rfl rfl (W := 0) rfl (by decide) (by decide) (by decide) (by decide) (allS (om 1 rfl) all0) rfl ?_
            intro T346 h346 v346 X346 K346 hQ346
            obtain ⟨rfl, f347, f348⟩ := hQ346
            show OGo _ _ _ _ T346 (mkF m 299 #[.val (.int pa), .val (.int pb), .val (.int pc_), .val (.int pd), .val (.int ps), .val (.int 3), .val (.int fl), .val (.int r2), .val (.int r5), .val (.int r8), .val (.int r11), .val (.ref b302), .val (.ref b310), .val (.int 0), .val (.int 3), .unset, .unset, .unset] [(.int 0)])
            refine og_istore X346 301 #[.val (.int pa), .val (.int pb), .val (.int pc_), .val (.int pd), .val (.int ps), .val (.int 3), .val (.int fl), .val (.int r2), .val (.int r5), .val (.int r8), .val (.int r11), .val (.ref b302), .val (.ref b310), .val (.int 0), .val (.int 3), .val (.int 0), .unset, .unset] at_299 rfl rfl ?_
            refine og_aload X346 303 at_301 rfl rfl rfl ?_
            have f349 := f340.keep K346
            have f350 := f345.keep K346 (allS (Or.inr ⟨_, _, _, f340, by decide, (ow hw 7 rfl)⟩) all0)
            refine own_virt X346 306 (a := b310) (argsL := []) (rest := []) at_303 f349 (fun _ hZ => notFace_of_selects (args := #[]) (mvT hZ (ow hw 42 rfl))) (rm_skE l Z a0 hw n0 h346 hWd [] X346.old b310 b314 3 3 [r2, r5, r8] f349 f347 f348 f350.top (by simp [own_skip, own_w1 ck0, own_w1 ck1, own_w1 ck2]) (Nat.le_of_ble_eq_true rfl) rfl (own_svb X346 (om 1 rfl))) (ow hw 39 rfl) (ow hw 40 rfl) (ow hw 42 rfl) (ow hw 41 rfl) (ow hw 8 rfl) (ow hw 43 rfl) (by decide) (lenOf pd__28_29Z rfl) rfl rfl rfl (W := 0) rfl (by decide) (by decide) (by decide) (by decide) (allS (om 1 rfl) all0) rfl ?_
            intro T351 h351 v351 X351 K351 hQ351
            obtain ⟨rfl, f352, f353⟩ := hQ351
            show OGo _ _ _ _ T351 (mkF m 306 #[.val (.int pa), .val (.int pb), .val (.int pc_), .val (.int pd), .val (.int ps), .val (.int 3), .val (.int fl), .val (.int r2), .val (.int r5), .val (.int r8), .val (.int r11), .val (.ref b302), .val (.ref b310), .val (.int 0), .val (.int 3), .val (.int 0), .unset, .unset] [(.int 0)])
            refine og_istore X351 308 #[.val (.int pa), .val (.int pb), .val (.int pc_), .val (.int pd), .val (.int ps), .val (.int 3), .val (.int fl), .val (.int r2), .val (.int r5), .val (.int r8), .val (.int r11), .val (.ref b302), .val (.ref b310), .val (.int 0), .val (.int 3), .val (.int 0), .val (.int 0), .unset] at_306 rfl rfl ?_
            refine og_iload X351 310 at_308 rfl rfl ?_
            refine og_iload X351 312 at_310 rfl rfl ?_
            refine og_iload X351 314 at_312 rfl rfl ?_
            refine og_icmpY X351 321 at_314 (XT.ii_ge_t (by decide)) (by decide) (by decide) ?_
            refine og_iconst X351 322 (0 : Int32) at_321 rfl rfl ?_
            refine og_icmpN X351 325 at_322 (XT.ii_ne_f (by decide)) rfl ?_
            refine og_iload X351 327 at_325 rfl rfl ?_
            refine og_iload X351 329 at_327 rfl rfl ?_
            refine og_icmpY X351 334 at_329 (XT.ii_eq_t (by decide)) (by decide) (by decide) ?_
            refine og_iload X351 336 at_334 rfl rfl ?_
            refine og_iload X351 338 at_336 rfl rfl ?_
            refine og_icmpY X351 385 at_338 (XT.ii_ge_t (by decide)) (by decide) (by decide) ?_
            refine og_iconst X351 386 (1 : Int32) at_385 rfl rfl ?_
            refine own_retZ X351 at_386 hret rfl (by decide) (by decide) ?_
            exact rfl
          · -- 2
            show OGo _ _ _ _ T338 (mkF m 294 #[.val (.int pa), .val (.int pb), .val (.int pc_), .val (.int pd), .val (.int ps), .val (.int 3), .val (.int fl), .val (.int r2), .val (.int r5), .val (.int r8), .val (.int r11), .val (.ref b302), .val (.ref b310), .val (.int 0), .val (.int 2), .unset, .unset, .unset] [])
            refine og_aload X338 296 at_294 rfl rfl rfl ?_
            have f354 := f324.keep K334
            have f355 := f354.keep K338
            have f356 := f335.keep K338 nin0
            have f357 := f336.keep K338 nin0
            have f358 := f320.keep K321 all0
            have f359 := f358.keep K334 (allS (Or.inr ⟨_, _, _, f324, by decide, (ow hw 7 rfl)⟩) all0)
            have f360 := f359.keep K338 all0
            refine own_virt X338 299 (a := b310) (argsL := []) (rest := []) at_296 f355 (fun _ hZ => notFace_of_selects (args := #[]) (mvT hZ (ow hw 42 rfl))) (rm_skI l Z a0 hw n0 h338 hWd [] X338.old b310 b314 0 2 [r2, r5, r8] f355 f356 f357 f360.top (by simp [own_skip, own_w1 ck0, own_w1 ck1, own_w0 ck2]) (Nat.le_of_ble_eq_true rfl) (Nat.le_of_ble_eq_true rfl) (own_svb X338 (om 1 rfl))) (ow hw 39 rfl) (ow hw 40 rfl) (ow hw 42 rfl) (ow hw 41 rfl) (ow hw 8 rfl) (ow hw 43 rfl) (by decide) (lenOf pd__28_29Z rfl) rfl rfl rfl (W := 0) rfl (by decide) (by decide) (by decide) (by decide) (allS (om 1 rfl) all0) rfl ?_
            intro T361 h361 v361 X361 K361 hQ361
            obtain ⟨rfl, f362, f363⟩ := hQ361
            show OGo _ _ _ _ T361 (mkF m 299 #[.val (.int pa), .val (.int pb), .val (.int pc_), .val (.int pd), .val (.int ps), .val (.int 3), .val (.int fl), .val (.int r2), .val (.int r5), .val (.int r8), .val (.int r11), .val (.ref b302), .val (.ref b310), .val (.int 0), .val (.int 2), .unset, .unset, .unset] [(.int 1)])
            refine og_istore X361 301 #[.val (.int pa), .val (.int pb), .val (.int pc_), .val (.int pd), .val (.int ps), .val (.int 3), .val (.int fl), .val (.int r2), .val (.int r5), .val (.int r8), .val (.int r11), .val (.ref b302), .val (.ref b310), .val (.int 0), .val (.int 2), .val (.int 1), .unset, .unset] at_299 rfl rfl ?_
            refine og_aload X361 303 at_301 rfl rfl rfl ?_
            have f364 := f355.keep K361
            have f365 := f360.keep K361 (allS (Or.inr ⟨_, _, _, f355, by decide, (ow hw 7 rfl)⟩) all0)
            refine own_virt X361 306 (a := b310) (argsL := []) (rest := []) at_303 f364 (fun _ hZ => notFace_of_selects (args := #[]) (mvT hZ (ow hw 42 rfl))) (rm_skI l Z a0 hw n0 h361 hWd [] X361.old b310 b314 2 2 [r2, r5, r8] f364 f362 f363 f365.top (by simp [own_skip, own_w1 ck0, own_w1 ck1, own_w0 ck2]) (Nat.le_of_ble_eq_true rfl) (Nat.le_of_ble_eq_true rfl) (own_svb X361 (om 1 rfl))) (ow hw 39 rfl) (ow hw 40 rfl) (ow hw 42 rfl) (ow hw 41 rfl) (ow hw 8 rfl) (ow hw 43 rfl) (by decide) (lenOf pd__28_29Z rfl) rfl rfl rfl (W := 0) rfl (by decide) (by decide) (by decide) (by decide) (allS (om 1 rfl) all0) rfl ?_
            intro T366 h366 v366 X366 K366 hQ366
            obtain ⟨rfl, f367, f368⟩ := hQ366
            show OGo _ _ _ _ T366 (mkF m 306 #[.val (.int pa), .val (.int pb), .val (.int pc_), .val (.int pd), .val (.int ps), .val (.int 3), .val (.int fl), .val (.int r2), .val (.int r5), .val (.int r8), .val (.int r11), .val (.ref b302), .val (.ref b310), .val (.int 0), .val (.int 2), .val (.int 1), .unset, .unset] [(.int 1)])
            refine og_istore X366 308 #[.val (.int pa), .val (.int pb), .val (.int pc_), .val (.int pd), .val (.int ps), .val (.int 3), .val (.int fl), .val (.int r2), .val (.int r5), .val (.int r8), .val (.int r11), .val (.ref b302), .val (.ref b310), .val (.int 0), .val (.int 2), .val (.int 1), .val (.int 1), .unset] at_306 rfl rfl ?_
            refine og_iload X366 310 at_308 rfl rfl ?_
            refine og_iload X366 312 at_310 rfl rfl ?_
            refine og_iload X366 314 at_312 rfl rfl ?_
            refine og_icmpN X366 317 at_314 (XT.ii_ge_f (by decide)) rfl ?_
            refine og_iconst X366 318 (1 : Int32) at_317 rfl rfl ?_
            refine og_goto X366 322 at_318 (by decide) (by decide) ?_
            refine og_icmpN X366 325 at_322 (XT.ii_ne_f (by decide)) rfl ?_
            refine og_iload X366 327 at_325 rfl rfl ?_
            refine og_iload X366 329 at_327 rfl rfl ?_
            refine og_icmpY X366 334 at_329 (XT.ii_eq_t (by decide)) (by decide) (by decide) ?_
            refine og_iload X366 336 at_334 rfl rfl ?_
            refine og_iload X366 338 at_336 rfl rfl ?_
            refine og_icmpN X366 341 at_338 (XT.ii_ge_f (by decide)) rfl ?_
            refine og_iload X366 343 at_341 rfl rfl ?_
            refine og_ifY X366 351 at_343 (XT.i0_ne_t (by decide)) (by decide) (by decide) ?_
            refine og_iload X366 353 at_351 rfl rfl ?_
            refine og_iconst X366 354 (1 : Int32) at_353 rfl rfl ?_
            refine og_icmpY X366 362 at_354 (XT.ii_ne_t (by decide)) (by decide) (by decide) ?_
            refine og_iload X366 364 at_362 rfl rfl ?_
            refine og_iconst X366 365 (2 : Int32) at_364 rfl rfl ?_
            refine og_icmpN X366 368 at_365 (XT.ii_ne_f (by decide)) rfl ?_
            refine og_iload X366 370 at_368 rfl rfl ?_
            refine og_goto X366 375 at_370 (by decide) (by decide) ?_
            refine og_istore X366 377 #[.val (.int pa), .val (.int pb), .val (.int pc_), .val (.int pd), .val (.int ps), .val (.int 3), .val (.int fl), .val (.int r2), .val (.int r5), .val (.int r8), .val (.int r11), .val (.ref b302), .val (.ref b310), .val (.int 0), .val (.int 2), .val (.int 1), .val (.int 1), .val (.int r8)] at_375 rfl rfl ?_
            refine og_aload X366 379 at_377 rfl rfl rfl ?_
            refine og_iload X366 381 at_379 rfl rfl ?_
            have f369 := f364.keep K366
            have f370 := f365.keep K366 (allS (Or.inr ⟨_, _, _, f364, by decide, (ow hw 7 rfl)⟩) all0)
            refine own_virt X366 384 (a := b310) (argsL := [(.int r8)]) (rest := []) at_381 f369 (fun _ hZ => notFace_of_selects (args := #[]) (mvT hZ (ow hw 75 rfl))) (rm_nxI l Z a0 hw n0 h366 hWd [] X366.old b310 b314 2 [r2, r5, r8] r8 f367 f368 f370.top (Nat.le_of_ble_eq_true rfl) ) (ow hw 102 rfl) (ow hw 73 rfl) (ow hw 75 rfl) (ow hw 74 rfl) (ow hw 8 rfl) (ow hw 76 rfl) (by decide) (lenOf pd__28C_29Z rfl) rfl rfl rfl (W := 0) rfl (by decide) (by decide) (by decide) (by decide) all0 rfl ?_
            intro T371 h371 v371 X371 K371 hQ371
            obtain rfl := hQ371
            show OGo _ _ _ _ T371 (mkF m 384 #[.val (.int pa), .val (.int pb), .val (.int pc_), .val (.int pd), .val (.int ps), .val (.int 3), .val (.int fl), .val (.int r2), .val (.int r5), .val (.int r8), .val (.int r11), .val (.ref b302), .val (.ref b310), .val (.int 0), .val (.int 2), .val (.int 1), .val (.int 1), .val (.int r8)] [(.int (own_eq1 r8 r8))])
            refine own_retZ X371 at_384 hret (own_zb (Or.inr (show (own_eq1 r8 r8) = 1 from if_pos rfl))).1 (by decide) (by decide) ?_
            rw [own_eq1, if_pos rfl]
          · -- 1
            show OGo _ _ _ _ T338 (mkF m 294 #[.val (.int pa), .val (.int pb), .val (.int pc_), .val (.int pd), .val (.int ps), .val (.int 3), .val (.int fl), .val (.int r2), .val (.int r5), .val (.int r8), .val (.int r11), .val (.ref b302), .val (.ref b310), .val (.int 0), .val (.int 1), .unset, .unset, .unset] [])
            refine og_aload X338 296 at_294 rfl rfl rfl ?_
            have f372 := f324.keep K334
            have f373 := f372.keep K338
            have f374 := f335.keep K338 nin0
            have f375 := f336.keep K338 nin0
            have f376 := f320.keep K321 all0
            have f377 := f376.keep K334 (allS (Or.inr ⟨_, _, _, f324, by decide, (ow hw 7 rfl)⟩) all0)
            have f378 := f377.keep K338 all0
            refine own_virt X338 299 (a := b310) (argsL := []) (rest := []) at_296 f373 (fun _ hZ => notFace_of_selects (args := #[]) (mvT hZ (ow hw 42 rfl))) (rm_skI l Z a0 hw n0 h338 hWd [] X338.old b310 b314 0 1 [r2, r5, r8] f373 f374 f375 f378.top (by simp [own_skip, own_w1 ck0, own_w0 ck1]) (Nat.le_of_ble_eq_true rfl) (Nat.le_of_ble_eq_true rfl) (own_svb X338 (om 1 rfl))) (ow hw 39 rfl) (ow hw 40 rfl) (ow hw 42 rfl) (ow hw 41 rfl) (ow hw 8 rfl) (ow hw 43 rfl) (by decide) (lenOf pd__28_29Z rfl) rfl rfl rfl (W := 0) rfl (by decide) (by decide) (by decide) (by decide) (allS (om 1 rfl) all0) rfl ?_
            intro T379 h379 v379 X379 K379 hQ379
            obtain ⟨rfl, f380, f381⟩ := hQ379
            show OGo _ _ _ _ T379 (mkF m 299 #[.val (.int pa), .val (.int pb), .val (.int pc_), .val (.int pd), .val (.int ps), .val (.int 3), .val (.int fl), .val (.int r2), .val (.int r5), .val (.int r8), .val (.int r11), .val (.ref b302), .val (.ref b310), .val (.int 0), .val (.int 1), .unset, .unset, .unset] [(.int 1)])
            refine og_istore X379 301 #[.val (.int pa), .val (.int pb), .val (.int pc_), .val (.int pd), .val (.int ps), .val (.int 3), .val (.int fl), .val (.int r2), .val (.int r5), .val (.int r8), .val (.int r11), .val (.ref b302), .val (.ref b310), .val (.int 0), .val (.int 1), .val (.int 1), .unset, .unset] at_299 rfl rfl ?_
            refine og_aload X379 303 at_301 rfl rfl rfl ?_
            have f382 := f373.keep K379
            have f383 := f378.keep K379 (allS (Or.inr ⟨_, _, _, f373, by decide, (ow hw 7 rfl)⟩) all0)
            refine own_virt X379 306 (a := b310) (argsL := []) (rest := []) at_303 f382 (fun _ hZ => notFace_of_selects (args := #[]) (mvT hZ (ow hw 42 rfl))) (rm_skI l Z a0 hw n0 h379 hWd [] X379.old b310 b314 1 1 [r2, r5, r8] f382 f380 f381 f383.top (by simp [own_skip, own_w1 ck0, own_w0 ck1]) (Nat.le_of_ble_eq_true rfl) (Nat.le_of_ble_eq_true rfl) (own_svb X379 (om 1 rfl))) (ow hw 39 rfl) (ow hw 40 rfl) (ow hw 42 rfl) (ow hw 41 rfl) (ow hw 8 rfl) (ow hw 43 rfl) (by decide) (lenOf pd__28_29Z rfl) rfl rfl rfl (W := 0) rfl (by decide) (by decide) (by decide) (by decide) (allS (om 1 rfl) all0) rfl ?_
            intro T384 h384 v384 X384 K384 hQ384
            obtain ⟨rfl, f385, f386⟩ := hQ384
            show OGo _ _ _ _ T384 (mkF m 306 #[.val (.int pa), .val (.int pb), .val (.int pc_), .val (.int pd), .val (.int ps), .val (.int 3), .val (.int fl), .val (.int r2), .val (.int r5), .val (.int r8), .val (.int r11), .val (.ref b302), .val (.ref b310), .val (.int 0), .val (.int 1), .val (.int 1), .unset, .unset] [(.int 1)])
            refine og_istore X384 308 #[.val (.int pa), .val (.int pb), .val (.int pc_), .val (.int pd), .val (.int ps), .val (.int 3), .val (.int fl), .val (.int r2), .val (.int r5), .val (.int r8), .val (.int r11), .val (.ref b302), .val (.ref b310), .val (.int 0), .val (.int 1), .val (.int 1), .val (.int 1), .unset] at_306 rfl rfl ?_
            refine og_iload X384 310 at_308 rfl rfl ?_
            refine og_iload X384 312 at_310 rfl rfl ?_
            refine og_iload X384 314 at_312 rfl rfl ?_
            refine og_icmpN X384 317 at_314 (XT.ii_ge_f (by decide)) rfl ?_
            refine og_iconst X384 318 (1 : Int32) at_317 rfl rfl ?_
            refine og_goto X384 322 at_318 (by decide) (by decide) ?_
            refine og_icmpN X384 325 at_322 (XT.ii_ne_f (by decide)) rfl ?_
            refine og_iload X384 327 at_325 rfl rfl ?_
            refine og_iload X384 329 at_327 rfl rfl ?_
            refine og_icmpY X384 334 at_329 (XT.ii_eq_t (by decide)) (by decide) (by decide) ?_
            refine og_iload X384 336 at_334 rfl rfl ?_
            refine og_iload X384 338 at_336 rfl rfl ?_
            refine og_icmpN X384 341 at_338 (XT.ii_ge_f (by decide)) rfl ?_
            refine og_iload X384 343 at_341 rfl rfl ?_
            refine og_ifY X384 351 at_343 (XT.i0_ne_t (by decide)) (by decide) (by decide) ?_
            refine og_iload X384 353 at_351 rfl rfl ?_
            refine og_iconst X384 354 (1 : Int32) at_353 rfl rfl ?_
            refine og_icmpN X384 357 at_354 (XT.ii_ne_f (by decide)) rfl ?_
            refine og_iload X384 359 at_357 rfl rfl ?_
            refine og_goto X384 375 at_359 (by decide) (by decide) ?_
            refine og_istore X384 377 #[.val (.int pa), .val (.int pb), .val (.int pc_), .val (.int pd), .val (.int ps), .val (.int 3), .val (.int fl), .val (.int r2), .val (.int r5), .val (.int r8), .val (.int r11), .val (.ref b302), .val (.ref b310), .val (.int 0), .val (.int 1), .val (.int 1), .val (.int 1), .val (.int r5)] at_375 rfl rfl ?_
            refine og_aload X384 379 at_377 rfl rfl rfl ?_
            refine og_iload X384 381 at_379 rfl rfl ?_
            have f387 := f382.keep K384
            have f388 := f383.keep K384 (allS (Or.inr ⟨_, _, _, f382, by decide, (ow hw 7 rfl)⟩) all0)
            refine own_virt X384 384 (a := b310) (argsL := [(.int r5)]) (rest := []) at_381 f387 (fun _ hZ => notFace_of_selects (args := #[]) (mvT hZ (ow hw 75 rfl))) (rm_nxI l Z a0 hw n0 h384 hWd [] X384.old b310 b314 1 [r2, r5, r8] r5 f385 f386 f388.top (Nat.le_of_ble_eq_true rfl) ) (ow hw 102 rfl) (ow hw 73 rfl) (ow hw 75 rfl) (ow hw 74 rfl) (ow hw 8 rfl) (ow hw 76 rfl) (by decide) (lenOf pd__28C_29Z rfl) rfl rfl rfl (W := 0) rfl (by decide) (by decide) (by decide) (by decide) all0 rfl ?_
            intro T389 h389 v389 X389 K389 hQ389
            obtain rfl := hQ389
            show OGo _ _ _ _ T389 (mkF m 384 #[.val (.int pa), .val (.int pb), .val (.int pc_), .val (.int pd), .val (.int ps), .val (.int 3), .val (.int fl), .val (.int r2), .val (.int r5), .val (.int r8), .val (.int r11), .val (.ref b302), .val (.ref b310), .val (.int 0), .val (.int 1), .val (.int 1), .val (.int 1), .val (.int r5)] [(.int (own_eq1 r5 r5))])
            refine own_retZ X389 at_384 hret (own_zb (Or.inr (show (own_eq1 r5 r5) = 1 from if_pos rfl))).1 (by decide) (by decide) ?_
            rw [own_eq1, if_pos rfl]
          · -- 0
            show OGo _ _ _ _ T338 (mkF m 294 #[.val (.int pa), .val (.int pb), .val (.int pc_), .val (.int pd), .val (.int ps), .val (.int 3), .val (.int fl), .val (.int r2), .val (.int r5), .val (.int r8), .val (.int r11), .val (.ref b302), .val (.ref b310), .val (.int 0), .val (.int 0), .unset, .unset, .unset] [])
            refine og_aload X338 296 at_294 rfl rfl rfl ?_
            have f390 := f324.keep K334
            have f391 := f390.keep K338
            have f392 := f335.keep K338 nin0
            have f393 := f336.keep K338 nin0
            have f394 := f320.keep K321 all0
            have f395 := f394.keep K334 (allS (Or.inr ⟨_, _, _, f324, by decide, (ow hw 7 rfl)⟩) all0)
            have f396 := f395.keep K338 all0
            refine own_virt X338 299 (a := b310) (argsL := []) (rest := []) at_296 f391 (fun _ hZ => notFace_of_selects (args := #[]) (mvT hZ (ow hw 42 rfl))) (rm_skI l Z a0 hw n0 h338 hWd [] X338.old b310 b314 0 0 [r2, r5, r8] f391 f392 f393 f396.top (by simp [own_skip, own_w0 ck0]) (Nat.le_of_ble_eq_true rfl) (Nat.le_of_ble_eq_true rfl) (own_svb X338 (om 1 rfl))) (ow hw 39 rfl) (ow hw 40 rfl) (ow hw 42 rfl) (ow hw 41 rfl) (ow hw 8 rfl) (ow hw 43 rfl) (by decide) (lenOf pd__28_29Z rfl) rfl rfl rfl (W := 0) rfl (by decide) (by decide) (by decide) (by decide) (allS (om 1 rfl) all0) rfl ?_
            intro T397 h397 v397 X397 K397 hQ397
            obtain ⟨rfl, f398, f399⟩ := hQ397
            show OGo _ _ _ _ T397 (mkF m 299 #[.val (.int pa), .val (.int pb), .val (.int pc_), .val (.int pd), .val (.int ps), .val (.int 3), .val (.int fl), .val (.int r2), .val (.int r5), .val (.int r8), .val (.int r11), .val (.ref b302), .val (.ref b310), .val (.int 0), .val (.int 0), .unset, .unset, .unset] [(.int 1)])
            refine og_istore X397 301 #[.val (.int pa), .val (.int pb), .val (.int pc_), .val (.int pd), .val (.int ps), .val (.int 3), .val (.int fl), .val (.int r2), .val (.int r5), .val (.int r8), .val (.int r11), .val (.ref b302), .val (.ref b310), .val (.int 0), .val (.int 0), .val (.int 1), .unset, .unset] at_299 rfl rfl ?_
            refine og_aload X397 303 at_301 rfl rfl rfl ?_
            have f400 := f391.keep K397
            have f401 := f396.keep K397 (allS (Or.inr ⟨_, _, _, f391, by decide, (ow hw 7 rfl)⟩) all0)
            refine own_virt X397 306 (a := b310) (argsL := []) (rest := []) at_303 f400 (fun _ hZ => notFace_of_selects (args := #[]) (mvT hZ (ow hw 42 rfl))) (rm_skI l Z a0 hw n0 h397 hWd [] X397.old b310 b314 0 0 [r2, r5, r8] f400 f398 f399 f401.top (by simp [own_skip, own_w0 ck0]) (Nat.le_of_ble_eq_true rfl) (Nat.le_of_ble_eq_true rfl) (own_svb X397 (om 1 rfl))) (ow hw 39 rfl) (ow hw 40 rfl) (ow hw 42 rfl) (ow hw 41 rfl) (ow hw 8 rfl) (ow hw 43 rfl) (by decide) (lenOf pd__28_29Z rfl) rfl rfl rfl (W := 0) rfl (by decide) (by decide) (by decide) (by decide) (allS (om 1 rfl) all0) rfl ?_
            intro T402 h402 v402 X402 K402 hQ402
            obtain ⟨rfl, f403, f404⟩ := hQ402
            show OGo _ _ _ _ T402 (mkF m 306 #[.val (.int pa), .val (.int pb), .val (.int pc_), .val (.int pd), .val (.int ps), .val (.int 3), .val (.int fl), .val (.int r2), .val (.int r5), .val (.int r8), .val (.int r11), .val (.ref b302), .val (.ref b310), .val (.int 0), .val (.int 0), .val (.int 1), .unset, .unset] [(.int 1)])
            refine og_istore X402 308 #[.val (.int pa), .val (.int pb), .val (.int pc_), .val (.int pd), .val (.int ps), .val (.int 3), .val (.int fl), .val (.int r2), .val (.int r5), .val (.int r8), .val (.int r11), .val (.ref b302), .val (.ref b310), .val (.int 0), .val (.int 0), .val (.int 1), .val (.int 1), .unset] at_306 rfl rfl ?_
            refine og_iload X402 310 at_308 rfl rfl ?_
            refine og_iload X402 312 at_310 rfl rfl ?_
            refine og_iload X402 314 at_312 rfl rfl ?_
            refine og_icmpN X402 317 at_314 (XT.ii_ge_f (by decide)) rfl ?_
            refine og_iconst X402 318 (1 : Int32) at_317 rfl rfl ?_
            refine og_goto X402 322 at_318 (by decide) (by decide) ?_
            refine og_icmpN X402 325 at_322 (XT.ii_ne_f (by decide)) rfl ?_
            refine og_iload X402 327 at_325 rfl rfl ?_
            refine og_iload X402 329 at_327 rfl rfl ?_
            refine og_icmpY X402 334 at_329 (XT.ii_eq_t (by decide)) (by decide) (by decide) ?_
            refine og_iload X402 336 at_334 rfl rfl ?_
            refine og_iload X402 338 at_336 rfl rfl ?_
            refine og_icmpN X402 341 at_338 (XT.ii_ge_f (by decide)) rfl ?_
            refine og_iload X402 343 at_341 rfl rfl ?_
            refine og_ifN X402 346 at_343 (XT.i0_ne_f (by decide)) rfl ?_
            refine og_iload X402 348 at_346 rfl rfl ?_
            refine og_goto X402 375 at_348 (by decide) (by decide) ?_
            refine og_istore X402 377 #[.val (.int pa), .val (.int pb), .val (.int pc_), .val (.int pd), .val (.int ps), .val (.int 3), .val (.int fl), .val (.int r2), .val (.int r5), .val (.int r8), .val (.int r11), .val (.ref b302), .val (.ref b310), .val (.int 0), .val (.int 0), .val (.int 1), .val (.int 1), .val (.int r2)] at_375 rfl rfl ?_
            refine og_aload X402 379 at_377 rfl rfl rfl ?_
            refine og_iload X402 381 at_379 rfl rfl ?_
            have f405 := f400.keep K402
            have f406 := f401.keep K402 (allS (Or.inr ⟨_, _, _, f400, by decide, (ow hw 7 rfl)⟩) all0)
            refine own_virt X402 384 (a := b310) (argsL := [(.int r2)]) (rest := []) at_381 f405 (fun _ hZ => notFace_of_selects (args := #[]) (mvT hZ (ow hw 75 rfl))) (rm_nxI l Z a0 hw n0 h402 hWd [] X402.old b310 b314 0 [r2, r5, r8] r2 f403 f404 f406.top (Nat.le_of_ble_eq_true rfl) ) (ow hw 102 rfl) (ow hw 73 rfl) (ow hw 75 rfl) (ow hw 74 rfl) (ow hw 8 rfl) (ow hw 76 rfl) (by decide) (lenOf pd__28C_29Z rfl) rfl rfl rfl (W := 0) rfl (by decide) (by decide) (by decide) (by decide) all0 rfl ?_
            intro T407 h407 v407 X407 K407 hQ407
            obtain rfl := hQ407
            show OGo _ _ _ _ T407 (mkF m 384 #[.val (.int pa), .val (.int pb), .val (.int pc_), .val (.int pd), .val (.int ps), .val (.int 3), .val (.int fl), .val (.int r2), .val (.int r5), .val (.int r8), .val (.int r11), .val (.ref b302), .val (.ref b310), .val (.int 0), .val (.int 0), .val (.int 1), .val (.int 1), .val (.int r2)] [(.int (own_eq1 r2 r2))])
            refine own_retZ X407 at_384 hret (own_zb (Or.inr (show (own_eq1 r2 r2) = 1 from if_pos rfl))).1 (by decide) (by decide) ?_
            rw [own_eq1, if_pos rfl]
        · -- the ways to it
          intro J338
          refine og_iload X334 224 at_222 rfl rfl ?_
          refine og_iconst X334 225 (3 : Int32) at_224 rfl rfl ?_
          refine og_icmpY X334 239 at_225 (XT.ii_le_t (by decide)) (by decide) (by decide) ?_
          refine og_iload X334 241 at_239 rfl rfl ?_
          refine og_iconst X334 242 (2 : Int32) at_241 rfl rfl ?_
          refine og_icmpN X334 245 at_242 (XT.ii_le_f (by decide)) rfl ?_
          refine og_iload X334 247 at_245 rfl rfl ?_
          refine own_stat X334 250 (argsL := [(.int r8)]) (rest := []) at_247 (rm19 l Z a0 hw n0 h334 hWd [] X334.old r8  ) (ow hw 99 rfl) (ow hw 100 rfl) (ow hw 2 rfl) (ow hw 101 rfl) (by decide) (lenOf pd__28C_29Z rfl) rfl rfl rfl (W := 0) rfl (by decide) (by decide) (by decide) (by decide) all0 rfl ?_
          intro T408 h408 v408 X408 K408 hQ408
          obtain rfl := hQ408
          show OGo _ _ _ _ T408 (mkF m 250 #[.val (.int pa), .val (.int pb), .val (.int pc_), .val (.int pd), .val (.int ps), .val (.int 3), .val (.int fl), .val (.int r2), .val (.int r5), .val (.int r8), .val (.int r11), .val (.ref b302), .val (.ref b310), .val (.int 0), .val (.int 3), .unset, .unset, .unset] [(.int (own_ws r8))])
          by_cases hc409 : (own_ws r8) = 0
          · -- (own_ws r8) = 0
            refine og_ifN X408 253 at_250 (XT.i0_ne_f hc409) rfl ?_
            refine og_iconst X408 254 (2 : Int32) at_253 rfl rfl ?_
            refine og_istore X408 256 #[.val (.int pa), .val (.int pb), .val (.int pc_), .val (.int pd), .val (.int ps), .val (.int 3), .val (.int fl), .val (.int r2), .val (.int r5), .val (.int r8), .val (.int r11), .val (.ref b302), .val (.ref b310), .val (.int 0), .val (.int 2), .unset, .unset, .unset] at_254 rfl rfl ?_
            refine og_iload X408 258 at_256 rfl rfl ?_
            refine og_iconst X408 259 (1 : Int32) at_258 rfl rfl ?_
            refine og_icmpN X408 262 at_259 (XT.ii_le_f (by decide)) rfl ?_
            refine og_iload X408 264 at_262 rfl rfl ?_
            refine own_stat X408 267 (argsL := [(.int r5)]) (rest := []) at_264 (rm19 l Z a0 hw n0 h408 hWd [] X408.old r5  ) (ow hw 99 rfl) (ow hw 100 rfl) (ow hw 2 rfl) (ow hw 101 rfl) (by decide) (lenOf pd__28C_29Z rfl) rfl rfl rfl (W := 0) rfl (by decide) (by decide) (by decide) (by decide) all0 rfl ?_
            intro T410 h410 v410 X410 K410 hQ410
            obtain rfl := hQ410
            show OGo _ _ _ _ T410 (mkF m 267 #[.val (.int pa), .val (.int pb), .val (.int pc_), .val (.int pd), .val (.int ps), .val (.int 3), .val (.int fl), .val (.int r2), .val (.int r5), .val (.int r8), .val (.int r11), .val (.ref b302), .val (.ref b310), .val (.int 0), .val (.int 2), .unset, .unset, .unset] [(.int (own_ws r5))])
            by_cases hc411 : (own_ws r5) = 0
            · -- (own_ws r5) = 0
              refine og_ifN X410 270 at_267 (XT.i0_ne_f hc411) rfl ?_
              refine og_iconst X410 271 (1 : Int32) at_270 rfl rfl ?_
              refine og_istore X410 273 #[.val (.int pa), .val (.int pb), .val (.int pc_), .val (.int pd), .val (.int ps), .val (.int 3), .val (.int fl), .val (.int r2), .val (.int r5), .val (.int r8), .val (.int r11), .val (.ref b302), .val (.ref b310), .val (.int 0), .val (.int 1), .unset, .unset, .unset] at_271 rfl rfl ?_
              refine og_iload X410 275 at_273 rfl rfl ?_
              refine og_ifN X410 278 at_275 (XT.i0_le_f (by decide)) rfl ?_
              refine og_iload X410 280 at_278 rfl rfl ?_
              refine og_ifN X410 283 at_280 (XT.i0_ne_f (by decide)) rfl ?_
              refine og_iload X410 285 at_283 rfl rfl ?_
              refine own_stat X410 288 (argsL := [(.int r2)]) (rest := []) at_285 (rm19 l Z a0 hw n0 h410 hWd [] X410.old r2  ) (ow hw 99 rfl) (ow hw 100 rfl) (ow hw 2 rfl) (ow hw 101 rfl) (by decide) (lenOf pd__28C_29Z rfl) rfl rfl rfl (W := 0) rfl (by decide) (by decide) (by decide) (by decide) all0 rfl ?_
              intro T412 h412 v412 X412 K412 hQ412
              obtain rfl := hQ412
              show OGo _ _ _ _ T412 (mkF m 288 #[.val (.int pa), .val (.int pb), .val (.int pc_), .val (.int pd), .val (.int ps), .val (.int 3), .val (.int fl), .val (.int r2), .val (.int r5), .val (.int r8), .val (.int r11), .val (.ref b302), .val (.ref b310), .val (.int 0), .val (.int 1), .unset, .unset, .unset] [(.int (own_ws r2))])
              by_cases hc413 : (own_ws r2) = 0
              · -- (own_ws r2) = 0
                refine og_ifN X412 291 at_288 (XT.i0_ne_f hc413) rfl ?_
                refine og_iconst X412 292 (0 : Int32) at_291 rfl rfl ?_
                refine og_istore X412 294 #[.val (.int pa), .val (.int pb), .val (.int pc_), .val (.int pd), .val (.int ps), .val (.int 3), .val (.int fl), .val (.int r2), .val (.int r5), .val (.int r8), .val (.int r11), .val (.ref b302), .val (.ref b310), .val (.int 0), .val (.int 0), .unset, .unset, .unset] at_292 rfl rfl ?_
                exact J338 _ _ X412 ((K408.trans K410 (fun _ q => nomatch q)).trans K412 (fun _ q => nomatch q)) _ (Or.inr (Or.inr (Or.inr ⟨rfl, hc413⟩)))
              · -- not
                refine og_ifY X412 294 at_288 (XT.i0_ne_t hc413) (by decide) (by decide) ?_
                exact J338 _ _ X412 ((K408.trans K410 (fun _ q => nomatch q)).trans K412 (fun _ q => nomatch q)) _ (Or.inr (Or.inr (Or.inl ⟨rfl, hc413, hc411⟩)))
            · -- not
              refine og_ifY X410 273 at_267 (XT.i0_ne_t hc411) (by decide) (by decide) ?_
              refine og_iload X410 275 at_273 rfl rfl ?_
              refine og_ifN X410 278 at_275 (XT.i0_le_f (by decide)) rfl ?_
              refine og_iload X410 280 at_278 rfl rfl ?_
              refine og_ifN X410 283 at_280 (XT.i0_ne_f (by decide)) rfl ?_
              refine og_iload X410 285 at_283 rfl rfl ?_
              refine own_stat X410 288 (argsL := [(.int r2)]) (rest := []) at_285 (rm19 l Z a0 hw n0 h410 hWd [] X410.old r2  ) (ow hw 99 rfl) (ow hw 100 rfl) (ow hw 2 rfl) (ow hw 101 rfl) (by decide) (lenOf pd__28C_29Z rfl) rfl rfl rfl (W := 0) rfl (by decide) (by decide) (by decide) (by decide) all0 rfl ?_
              intro T414 h414 v414 X414 K414 hQ414
              obtain rfl := hQ414
              show OGo _ _ _ _ T414 (mkF m 288 #[.val (.int pa), .val (.int pb), .val (.int pc_), .val (.int pd), .val (.int ps), .val (.int 3), .val (.int fl), .val (.int r2), .val (.int r5), .val (.int r8), .val (.int r11), .val (.ref b302), .val (.ref b310), .val (.int 0), .val (.int 2), .unset, .unset, .unset] [(.int (own_ws r2))])
              by_cases hc415 : (own_ws r2) = 0
              · -- (own_ws r2) = 0
                refine og_ifN X414 291 at_288 (XT.i0_ne_f hc415) rfl ?_
                refine og_iconst X414 292 (0 : Int32) at_291 rfl rfl ?_
                refine og_istore X414 294 #[.val (.int pa), .val (.int pb), .val (.int pc_), .val (.int pd), .val (.int ps), .val (.int 3), .val (.int fl), .val (.int r2), .val (.int r5), .val (.int r8), .val (.int r11), .val (.ref b302), .val (.ref b310), .val (.int 0), .val (.int 0), .unset, .unset, .unset] at_292 rfl rfl ?_
                exact J338 _ _ X414 ((K408.trans K410 (fun _ q => nomatch q)).trans K414 (fun _ q => nomatch q)) _ (Or.inr (Or.inr (Or.inr ⟨rfl, hc415⟩)))
              · -- not
                refine og_ifY X414 294 at_288 (XT.i0_ne_t hc415) (by decide) (by decide) ?_
                exact J338 _ _ X414 ((K408.trans K410 (fun _ q => nomatch q)).trans K414 (fun _ q => nomatch q)) _ (Or.inr (Or.inl ⟨rfl, hc415, hc411, hc409⟩))
          · -- not
            refine og_ifY X408 256 at_250 (XT.i0_ne_t hc409) (by decide) (by decide) ?_
            refine og_iload X408 258 at_256 rfl rfl ?_
            refine og_iconst X408 259 (1 : Int32) at_258 rfl rfl ?_
            refine og_icmpN X408 262 at_259 (XT.ii_le_f (by decide)) rfl ?_
            refine og_iload X408 264 at_262 rfl rfl ?_
            refine own_stat X408 267 (argsL := [(.int r5)]) (rest := []) at_264 (rm19 l Z a0 hw n0 h408 hWd [] X408.old r5  ) (ow hw 99 rfl) (ow hw 100 rfl) (ow hw 2 rfl) (ow hw 101 rfl) (by decide) (lenOf pd__28C_29Z rfl) rfl rfl rfl (W := 0) rfl (by decide) (by decide) (by decide) (by decide) all0 rfl ?_
            intro T416 h416 v416 X416 K416 hQ416
            obtain rfl := hQ416
            show OGo _ _ _ _ T416 (mkF m 267 #[.val (.int pa), .val (.int pb), .val (.int pc_), .val (.int pd), .val (.int ps), .val (.int 3), .val (.int fl), .val (.int r2), .val (.int r5), .val (.int r8), .val (.int r11), .val (.ref b302), .val (.ref b310), .val (.int 0), .val (.int 3), .unset, .unset, .unset] [(.int (own_ws r5))])
            by_cases hc417 : (own_ws r5) = 0
            · -- (own_ws r5) = 0
              refine og_ifN X416 270 at_267 (XT.i0_ne_f hc417) rfl ?_
              refine og_iconst X416 271 (1 : Int32) at_270 rfl rfl ?_
              refine og_istore X416 273 #[.val (.int pa), .val (.int pb), .val (.int pc_), .val (.int pd), .val (.int ps), .val (.int 3), .val (.int fl), .val (.int r2), .val (.int r5), .val (.int r8), .val (.int r11), .val (.ref b302), .val (.ref b310), .val (.int 0), .val (.int 1), .unset, .unset, .unset] at_271 rfl rfl ?_
              refine og_iload X416 275 at_273 rfl rfl ?_
              refine og_ifN X416 278 at_275 (XT.i0_le_f (by decide)) rfl ?_
              refine og_iload X416 280 at_278 rfl rfl ?_
              refine og_ifN X416 283 at_280 (XT.i0_ne_f (by decide)) rfl ?_
              refine og_iload X416 285 at_283 rfl rfl ?_
              refine own_stat X416 288 (argsL := [(.int r2)]) (rest := []) at_285 (rm19 l Z a0 hw n0 h416 hWd [] X416.old r2  ) (ow hw 99 rfl) (ow hw 100 rfl) (ow hw 2 rfl) (ow hw 101 rfl) (by decide) (lenOf pd__28C_29Z rfl) rfl rfl rfl (W := 0) rfl (by decide) (by decide) (by decide) (by decide) all0 rfl ?_
              intro T418 h418 v418 X418 K418 hQ418
              obtain rfl := hQ418
              show OGo _ _ _ _ T418 (mkF m 288 #[.val (.int pa), .val (.int pb), .val (.int pc_), .val (.int pd), .val (.int ps), .val (.int 3), .val (.int fl), .val (.int r2), .val (.int r5), .val (.int r8), .val (.int r11), .val (.ref b302), .val (.ref b310), .val (.int 0), .val (.int 1), .unset, .unset, .unset] [(.int (own_ws r2))])
              by_cases hc419 : (own_ws r2) = 0
              · -- (own_ws r2) = 0
                refine og_ifN X418 291 at_288 (XT.i0_ne_f hc419) rfl ?_
                refine og_iconst X418 292 (0 : Int32) at_291 rfl rfl ?_
                refine og_istore X418 294 #[.val (.int pa), .val (.int pb), .val (.int pc_), .val (.int pd), .val (.int ps), .val (.int 3), .val (.int fl), .val (.int r2), .val (.int r5), .val (.int r8), .val (.int r11), .val (.ref b302), .val (.ref b310), .val (.int 0), .val (.int 0), .unset, .unset, .unset] at_292 rfl rfl ?_
                exact J338 _ _ X418 ((K408.trans K416 (fun _ q => nomatch q)).trans K418 (fun _ q => nomatch q)) _ (Or.inr (Or.inr (Or.inr ⟨rfl, hc419⟩)))
              · -- not
                refine og_ifY X418 294 at_288 (XT.i0_ne_t hc419) (by decide) (by decide) ?_
                exact J338 _ _ X418 ((K408.trans K416 (fun _ q => nomatch q)).trans K418 (fun _ q => nomatch q)) _ (Or.inr (Or.inr (Or.inl ⟨rfl, hc419, hc417⟩)))
            · -- not
              refine og_ifY X416 273 at_267 (XT.i0_ne_t hc417) (by decide) (by decide) ?_
              refine og_iload X416 275 at_273 rfl rfl ?_
              refine og_ifN X416 278 at_275 (XT.i0_le_f (by decide)) rfl ?_
              refine og_iload X416 280 at_278 rfl rfl ?_
              refine og_ifN X416 283 at_280 (XT.i0_ne_f (by decide)) rfl ?_
              refine og_iload X416 285 at_283 rfl rfl ?_
              refine own_stat X416 288 (argsL := [(.int r2)]) (rest := []) at_285 (rm19 l Z a0 hw n0 h416 hWd [] X416.old r2  ) (ow hw 99 rfl) (ow hw 100 rfl) (ow hw 2 rfl) (ow hw 101 rfl) (by decide) (lenOf pd__28C_29Z rfl) rfl rfl rfl (W := 0) rfl (by decide) (by decide) (by decide) (by decide) all0 rfl ?_
              intro T420 h420 v420 X420 K420 hQ420
              obtain rfl := hQ420
              show OGo _ _ _ _ T420 (mkF m 288 #[.val (.int pa), .val (.int pb), .val (.int pc_), .val (.int pd), .val (.int ps), .val (.int 3), .val (.int fl), .val (.int r2), .val (.int r5), .val (.int r8), .val (.int r11), .val (.ref b302), .val (.ref b310), .val (.int 0), .val (.int 3), .unset, .unset, .unset] [(.int (own_ws r2))])
              by_cases hc421 : (own_ws r2) = 0
              · -- (own_ws r2) = 0
                refine og_ifN X420 291 at_288 (XT.i0_ne_f hc421) rfl ?_
                refine og_iconst X420 292 (0 : Int32) at_291 rfl rfl ?_
                refine og_istore X420 294 #[.val (.int pa), .val (.int pb), .val (.int pc_), .val (.int pd), .val (.int ps), .val (.int 3), .val (.int fl), .val (.int r2), .val (.int r5), .val (.int r8), .val (.int r11), .val (.ref b302), .val (.ref b310), .val (.int 0), .val (.int 0), .unset, .unset, .unset] at_292 rfl rfl ?_
                exact J338 _ _ X420 ((K408.trans K416 (fun _ q => nomatch q)).trans K420 (fun _ q => nomatch q)) _ (Or.inr (Or.inr (Or.inr ⟨rfl, hc421⟩)))
              · -- not
                refine og_ifY X420 294 at_288 (XT.i0_ne_t hc421) (by decide) (by decide) ?_
                exact J338 _ _ X420 ((K408.trans K416 (fun _ q => nomatch q)).trans K420 (fun _ q => nomatch q)) _ (Or.inl ⟨rfl, hc421, hc417, hc409⟩)
      · -- not
        refine og_ifN X334 184 at_181 (XT.i0_eq_f hc337) rfl ?_
        refine og_aload X334 186 at_184 rfl rfl rfl ?_
        refine og_iload X334 188 at_186 rfl rfl ?_
        have f422 := f324.keep K334
        have f423 := f320.keep K321 all0
        have f424 := f423.keep K334 (allS (Or.inr ⟨_, _, _, f324, by decide, (ow hw 7 rfl)⟩) all0)
        refine own_virt X334 191 (a := b310) (argsL := [(.int r2)]) (rest := []) at_188 f422 (fun _ hZ => notFace_of_selects (args := #[]) (mvT hZ (ow hw 70 rfl))) (rm_tkI l Z a0 hw n0 h334 hWd [] X334.old b310 b314 0 [r2, r5, r8] r2 f422 f335 f336 f424.top (Nat.le_of_ble_eq_true rfl) rfl (own_svb X334 (om 1 rfl))) (ow hw 67 rfl) (ow hw 68 rfl) (ow hw 70 rfl) (ow hw 69 rfl) (ow hw 8 rfl) (ow hw 71 rfl) (by decide) (lenOf pd__28C_29Z rfl) rfl rfl rfl (W := 0) rfl (by decide) (by decide) (by decide) (by decide) (allS (om 1 rfl) all0) rfl ?_
        intro T425 h425 v425 X425 K425 hQ425
        obtain ⟨rfl, f426, f427⟩ := hQ425
        show OGo _ _ _ _ T425 (mkF m 191 #[.val (.int pa), .val (.int pb), .val (.int pc_), .val (.int pd), .val (.int ps), .val (.int 3), .val (.int fl), .val (.int r2), .val (.int r5), .val (.int r8), .val (.int r11), .val (.ref b302), .val (.ref b310), .val (.int 0), .unset, .unset, .unset, .unset] [(.int 1)])
        refine og_istore X425 193 #[.val (.int pa), .val (.int pb), .val (.int pc_), .val (.int pd), .val (.int ps), .val (.int 3), .val (.int fl), .val (.int r2), .val (.int r5), .val (.int r8), .val (.int r11), .val (.ref b302), .val (.ref b310), .val (.int 0), .val (.int 1), .unset, .unset, .unset] at_191 rfl rfl ?_
        refine og_iload X425 195 at_193 rfl rfl ?_
        refine og_iload X425 197 at_195 rfl rfl ?_
        refine og_ifN X425 200 at_197 (XT.i0_le_f (by decide)) rfl ?_
        refine og_iconst X425 201 (1 : Int32) at_200 rfl rfl ?_
        refine og_goto X425 205 at_201 (by decide) (by decide) ?_
        refine og_icmpY X425 210 at_205 (XT.ii_eq_t (by decide)) (by decide) (by decide) ?_
        refine og_iload X425 212 at_210 rfl rfl ?_
        refine og_ifN X425 215 at_212 (XT.i0_le_f (by decide)) rfl ?_
        refine og_iconst X425 216 (1 : Int32) at_215 rfl rfl ?_
        refine og_istore X425 218 #[.val (.int pa), .val (.int pb), .val (.int pc_), .val (.int pd), .val (.int ps), .val (.int 3), .val (.int fl), .val (.int r2), .val (.int r5), .val (.int r8), .val (.int r11), .val (.ref b302), .val (.ref b310), .val (.int 1), .val (.int 1), .unset, .unset, .unset] at_216 rfl rfl ?_
        refine og_iload X425 220 at_218 rfl rfl ?_
        refine og_istore X425 222 #[.val (.int pa), .val (.int pb), .val (.int pc_), .val (.int pd), .val (.int ps), .val (.int 3), .val (.int fl), .val (.int r2), .val (.int r5), .val (.int r8), .val (.int r11), .val (.ref b302), .val (.ref b310), .val (.int 1), .val (.int 3), .unset, .unset, .unset] at_220 rfl rfl ?_
        refine own_cut X425 294 (fun (kw : Int32) => #[.val (.int pa), .val (.int pb), .val (.int pc_), .val (.int pd), .val (.int ps), .val (.int 3), .val (.int fl), .val (.int r2), .val (.int r5), .val (.int r8), .val (.int r11), .val (.ref b302), .val (.ref b310), .val (.int 1), .val (.int kw), .unset, .unset, .unset]) (fun _ => []) (fun kw => (kw = 3 ∧ ¬ (own_ws r5) = 0 ∧ ¬ (own_ws r8) = 0) ∨ (kw = 2 ∧ ¬ (own_ws r5) = 0 ∧ (own_ws r8) = 0) ∨ (kw = 1 ∧ (own_ws r5) = 0)) ?_ ?_
        · -- the common ways on
          intro T428 h428 X428 K428 kw ok428
          rcases ok428 with ⟨rfl, ck0, ck1⟩ | ⟨rfl, ck0, ck1⟩ | ⟨rfl, ck0⟩
          · -- 3
            show OGo _ _ _ _ T428 (mkF m 294 #[.val (.int pa), .val (.int pb), .val (.int pc_), .val (.int pd), .val (.int ps), .val (.int 3), .val (.int fl), .val (.int r2), .val (.int r5), .val (.int r8), .val (.int r11), .val (.ref b302), .val (.ref b310), .val (.int 1), .val (.int 3), .unset, .unset, .unset] [])
            refine og_aload X428 296 at_294 rfl rfl rfl ?_
            have f429 := f422.keep K425
            have f430 := f429.keep K428
            have f431 := f426.keep K428 nin0
            have f432 := f427.keep K428 nin0
            have f433 := f424.keep K425 (allS (Or.inr ⟨_, _, _, f422, by decide, (ow hw 7 rfl)⟩) all0)
            have f434 := f433.keep K428 all0
            refine own_virt X428 299 (a := b310) (argsL := []) (rest := []) at_296 f430 (fun _ hZ => notFace_of_selects (args := #[]) (mvT hZ (ow hw 42 rfl))) (rm_skE l Z a0 hw n0 h428 hWd [] X428.old b310 b314 1 3 [r2, r5, r8] f430 f431 f432 f434.top (by simp [own_skip, own_w1 ck0, own_w1 ck1]) (Nat.le_of_ble_eq_true rfl) rfl (own_svb X428 (om 1 rfl))) (ow hw 39 rfl) (ow hw 40 rfl) (ow hw 42 rfl) (ow hw 41 rfl) (ow hw 8 rfl) (ow hw 43 rfl) (by decide) (lenOf pd__28_29Z rfl) rfl rfl rfl (W := 0) rfl (by decide) (by decide) (by decide) (by decide) (allS (om 1 rfl) all0) rfl ?_
            intro T435 h435 v435 X435 K435 hQ435
            obtain ⟨rfl, f436, f437⟩ := hQ435
            show OGo _ _ _ _ T435 (mkF m 299 #[.val (.int pa), .val (.int pb), .val (.int pc_), .val (.int pd), .val (.int ps), .val (.int 3), .val (.int fl), .val (.int r2), .val (.int r5), .val (.int r8), .val (.int r11), .val (.ref b302), .val (.ref b310), .val (.int 1), .val (.int 3), .unset, .unset, .unset] [(.int 0)])
            refine og_istore X435 301 #[.val (.int pa), .val (.int pb), .val (.int pc_), .val (.int pd), .val (.int ps), .val (.int 3), .val (.int fl), .val (.int r2), .val (.int r5), .val (.int r8), .val (.int r11), .val (.ref b302), .val (.ref b310), .val (.int 1), .val (.int 3), .val (.int 0), .unset, .unset] at_299 rfl rfl ?_
            refine og_aload X435 303 at_301 rfl rfl rfl ?_
            have f438 := f430.keep K435
            have f439 := f434.keep K435 (allS (Or.inr ⟨_, _, _, f430, by decide, (ow hw 7 rfl)⟩) all0)
            refine own_virt X435 306 (a := b310) (argsL := []) (rest := []) at_303 f438 (fun _ hZ => notFace_of_selects (args := #[]) (mvT hZ (ow hw 42 rfl))) (rm_skE l Z a0 hw n0 h435 hWd [] X435.old b310 b314 3 3 [r2, r5, r8] f438 f436 f437 f439.top (by simp [own_skip, own_w1 ck0, own_w1 ck1]) (Nat.le_of_ble_eq_true rfl) rfl (own_svb X435 (om 1 rfl))) (ow hw 39 rfl) (ow hw 40 rfl) (ow hw 42 rfl) (ow hw 41 rfl) (ow hw 8 rfl) (ow hw 43 rfl) (by decide) (lenOf pd__28_29Z rfl) rfl rfl rfl (W := 0) rfl (by decide) (by decide) (by decide) (by decide) (allS (om 1 rfl) all0) rfl ?_
            intro T440 h440 v440 X440 K440 hQ440
            obtain ⟨rfl, f441, f442⟩ := hQ440
            show OGo _ _ _ _ T440 (mkF m 306 #[.val (.int pa), .val (.int pb), .val (.int pc_), .val (.int pd), .val (.int ps), .val (.int 3), .val (.int fl), .val (.int r2), .val (.int r5), .val (.int r8), .val (.int r11), .val (.ref b302), .val (.ref b310), .val (.int 1), .val (.int 3), .val (.int 0), .unset, .unset] [(.int 0)])
            refine og_istore X440 308 #[.val (.int pa), .val (.int pb), .val (.int pc_), .val (.int pd), .val (.int ps), .val (.int 3), .val (.int fl), .val (.int r2), .val (.int r5), .val (.int r8), .val (.int r11), .val (.ref b302), .val (.ref b310), .val (.int 1), .val (.int 3), .val (.int 0), .val (.int 0), .unset] at_306 rfl rfl ?_
            refine og_iload X440 310 at_308 rfl rfl ?_
            refine og_iload X440 312 at_310 rfl rfl ?_
            refine og_iload X440 314 at_312 rfl rfl ?_
            refine og_icmpY X440 321 at_314 (XT.ii_ge_t (by decide)) (by decide) (by decide) ?_
            refine og_iconst X440 322 (0 : Int32) at_321 rfl rfl ?_
            refine og_icmpN X440 325 at_322 (XT.ii_ne_f (by decide)) rfl ?_
            refine og_iload X440 327 at_325 rfl rfl ?_
            refine og_iload X440 329 at_327 rfl rfl ?_
            refine og_icmpY X440 334 at_329 (XT.ii_eq_t (by decide)) (by decide) (by decide) ?_
            refine og_iload X440 336 at_334 rfl rfl ?_
            refine og_iload X440 338 at_336 rfl rfl ?_
            refine og_icmpY X440 385 at_338 (XT.ii_ge_t (by decide)) (by decide) (by decide) ?_
            refine og_iconst X440 386 (1 : Int32) at_385 rfl rfl ?_
            refine own_retZ X440 at_386 hret rfl (by decide) (by decide) ?_
            exact rfl
          · -- 2
            show OGo _ _ _ _ T428 (mkF m 294 #[.val (.int pa), .val (.int pb), .val (.int pc_), .val (.int pd), .val (.int ps), .val (.int 3), .val (.int fl), .val (.int r2), .val (.int r5), .val (.int r8), .val (.int r11), .val (.ref b302), .val (.ref b310), .val (.int 1), .val (.int 2), .unset, .unset, .unset] [])
            refine og_aload X428 296 at_294 rfl rfl rfl ?_
            have f443 := f422.keep K425
            have f444 := f443.keep K428
            have f445 := f426.keep K428 nin0
            have f446 := f427.keep K428 nin0
            have f447 := f424.keep K425 (allS (Or.inr ⟨_, _, _, f422, by decide, (ow hw 7 rfl)⟩) all0)
            have f448 := f447.keep K428 all0
            refine own_virt X428 299 (a := b310) (argsL := []) (rest := []) at_296 f444 (fun _ hZ => notFace_of_selects (args := #[]) (mvT hZ (ow hw 42 rfl))) (rm_skI l Z a0 hw n0 h428 hWd [] X428.old b310 b314 1 2 [r2, r5, r8] f444 f445 f446 f448.top (by simp [own_skip, own_w1 ck0, own_w0 ck1]) (Nat.le_of_ble_eq_true rfl) (Nat.le_of_ble_eq_true rfl) (own_svb X428 (om 1 rfl))) (ow hw 39 rfl) (ow hw 40 rfl) (ow hw 42 rfl) (ow hw 41 rfl) (ow hw 8 rfl) (ow hw 43 rfl) (by decide) (lenOf pd__28_29Z rfl) rfl rfl rfl (W := 0) rfl (by decide) (by decide) (by decide) (by decide) (allS (om 1 rfl) all0) rfl ?_
            intro T449 h449 v449 X449 K449 hQ449
            obtain ⟨rfl, f450, f451⟩ := hQ449
            show OGo _ _ _ _ T449 (mkF m 299 #[.val (.int pa), .val (.int pb), .val (.int pc_), .val (.int pd), .val (.int ps), .val (.int 3), .val (.int fl), .val (.int r2), .val (.int r5), .val (.int r8), .val (.int r11), .val (.ref b302), .val (.ref b310), .val (.int 1), .val (.int 2), .unset, .unset, .unset] [(.int 1)])
            refine og_istore X449 301 #[.val (.int pa), .val (.int pb), .val (.int pc_), .val (.int pd), .val (.int ps), .val (.int 3), .val (.int fl), .val (.int r2), .val (.int r5), .val (.int r8), .val (.int r11), .val (.ref b302), .val (.ref b310), .val (.int 1), .val (.int 2), .val (.int 1), .unset, .unset] at_299 rfl rfl ?_
            refine og_aload X449 303 at_301 rfl rfl rfl ?_
            have f452 := f444.keep K449
            have f453 := f448.keep K449 (allS (Or.inr ⟨_, _, _, f444, by decide, (ow hw 7 rfl)⟩) all0)
            refine own_virt X449 306 (a := b310) (argsL := []) (rest := []) at_303 f452 (fun _ hZ => notFace_of_selects (args := #[]) (mvT hZ (ow hw 42 rfl))) (rm_skI l Z a0 hw n0 h449 hWd [] X449.old b310 b314 2 2 [r2, r5, r8] f452 f450 f451 f453.top (by simp [own_skip, own_w1 ck0, own_w0 ck1]) (Nat.le_of_ble_eq_true rfl) (Nat.le_of_ble_eq_true rfl) (own_svb X449 (om 1 rfl))) (ow hw 39 rfl) (ow hw 40 rfl) (ow hw 42 rfl) (ow hw 41 rfl) (ow hw 8 rfl) (ow hw 43 rfl) (by decide) (lenOf pd__28_29Z rfl) rfl rfl rfl (W := 0) rfl (by decide) (by decide) (by decide) (by decide) (allS (om 1 rfl) all0) rfl ?_
            intro T454 h454 v454 X454 K454 hQ454
            obtain ⟨rfl, f455, f456⟩ := hQ454
            show OGo _ _ _ _ T454 (mkF m 306 #[.val (.int pa), .val (.int pb), .val (.int pc_), .val (.int pd), .val (.int ps), .val (.int 3), .val (.int fl), .val (.int r2), .val (.int r5), .val (.int r8), .val (.int r11), .val (.ref b302), .val (.ref b310), .val (.int 1), .val (.int 2), .val (.int 1), .unset, .unset] [(.int 1)])
            refine og_istore X454 308 #[.val (.int pa), .val (.int pb), .val (.int pc_), .val (.int pd), .val (.int ps), .val (.int 3), .val (.int fl), .val (.int r2), .val (.int r5), .val (.int r8), .val (.int r11), .val (.ref b302), .val (.ref b310), .val (.int 1), .val (.int 2), .val (.int 1), .val (.int 1), .unset] at_306 rfl rfl ?_
            refine og_iload X454 310 at_308 rfl rfl ?_
            refine og_iload X454 312 at_310 rfl rfl ?_
            refine og_iload X454 314 at_312 rfl rfl ?_
            refine og_icmpN X454 317 at_314 (XT.ii_ge_f (by decide)) rfl ?_
            refine og_iconst X454 318 (1 : Int32) at_317 rfl rfl ?_
            refine og_goto X454 322 at_318 (by decide) (by decide) ?_
            refine og_icmpN X454 325 at_322 (XT.ii_ne_f (by decide)) rfl ?_
            refine og_iload X454 327 at_325 rfl rfl ?_
            refine og_iload X454 329 at_327 rfl rfl ?_
            refine og_icmpY X454 334 at_329 (XT.ii_eq_t (by decide)) (by decide) (by decide) ?_
            refine og_iload X454 336 at_334 rfl rfl ?_
            refine og_iload X454 338 at_336 rfl rfl ?_
            refine og_icmpN X454 341 at_338 (XT.ii_ge_f (by decide)) rfl ?_
            refine og_iload X454 343 at_341 rfl rfl ?_
            refine og_ifY X454 351 at_343 (XT.i0_ne_t (by decide)) (by decide) (by decide) ?_
            refine og_iload X454 353 at_351 rfl rfl ?_
            refine og_iconst X454 354 (1 : Int32) at_353 rfl rfl ?_
            refine og_icmpY X454 362 at_354 (XT.ii_ne_t (by decide)) (by decide) (by decide) ?_
            refine og_iload X454 364 at_362 rfl rfl ?_
            refine og_iconst X454 365 (2 : Int32) at_364 rfl rfl ?_
            refine og_icmpN X454 368 at_365 (XT.ii_ne_f (by decide)) rfl ?_
            refine og_iload X454 370 at_368 rfl rfl ?_
            refine og_goto X454 375 at_370 (by decide) (by decide) ?_
            refine og_istore X454 377 #[.val (.int pa), .val (.int pb), .val (.int pc_), .val (.int pd), .val (.int ps), .val (.int 3), .val (.int fl), .val (.int r2), .val (.int r5), .val (.int r8), .val (.int r11), .val (.ref b302), .val (.ref b310), .val (.int 1), .val (.int 2), .val (.int 1), .val (.int 1), .val (.int r8)] at_375 rfl rfl ?_
            refine og_aload X454 379 at_377 rfl rfl rfl ?_
            refine og_iload X454 381 at_379 rfl rfl ?_
            have f457 := f452.keep K454
            have f458 := f453.keep K454 (allS (Or.inr ⟨_, _, _, f452, by decide, (ow hw 7 rfl)⟩) all0)
            refine own_virt X454 384 (a := b310) (argsL := [(.int r8)]) (rest := []) at_381 f457 (fun _ hZ => notFace_of_selects (args := #[]) (mvT hZ (ow hw 75 rfl))) (rm_nxI l Z a0 hw n0 h454 hWd [] X454.old b310 b314 2 [r2, r5, r8] r8 f455 f456 f458.top (Nat.le_of_ble_eq_true rfl) ) (ow hw 102 rfl) (ow hw 73 rfl) (ow hw 75 rfl) (ow hw 74 rfl) (ow hw 8 rfl) (ow hw 76 rfl) (by decide) (lenOf pd__28C_29Z rfl) rfl rfl rfl (W := 0) rfl (by decide) (by decide) (by decide) (by decide) all0 rfl ?_
            intro T459 h459 v459 X459 K459 hQ459
            obtain rfl := hQ459
            show OGo _ _ _ _ T459 (mkF m 384 #[.val (.int pa), .val (.int pb), .val (.int pc_), .val (.int pd), .val (.int ps), .val (.int 3), .val (.int fl), .val (.int r2), .val (.int r5), .val (.int r8), .val (.int r11), .val (.ref b302), .val (.ref b310), .val (.int 1), .val (.int 2), .val (.int 1), .val (.int 1), .val (.int r8)] [(.int (own_eq1 r8 r8))])
            refine own_retZ X459 at_384 hret (own_zb (Or.inr (show (own_eq1 r8 r8) = 1 from if_pos rfl))).1 (by decide) (by decide) ?_
            rw [own_eq1, if_pos rfl]
          · -- 1
            show OGo _ _ _ _ T428 (mkF m 294 #[.val (.int pa), .val (.int pb), .val (.int pc_), .val (.int pd), .val (.int ps), .val (.int 3), .val (.int fl), .val (.int r2), .val (.int r5), .val (.int r8), .val (.int r11), .val (.ref b302), .val (.ref b310), .val (.int 1), .val (.int 1), .unset, .unset, .unset] [])
            refine og_aload X428 296 at_294 rfl rfl rfl ?_
            have f460 := f422.keep K425
            have f461 := f460.keep K428
            have f462 := f426.keep K428 nin0
            have f463 := f427.keep K428 nin0
            have f464 := f424.keep K425 (allS (Or.inr ⟨_, _, _, f422, by decide, (ow hw 7 rfl)⟩) all0)
            have f465 := f464.keep K428 all0
            refine own_virt X428 299 (a := b310) (argsL := []) (rest := []) at_296 f461 (fun _ hZ => notFace_of_selects (args := #[]) (mvT hZ (ow hw 42 rfl))) (rm_skI l Z a0 hw n0 h428 hWd [] X428.old b310 b314 1 1 [r2, r5, r8] f461 f462 f463 f465.top (by simp [own_skip, own_w0 ck0]) (Nat.le_of_ble_eq_true rfl) (Nat.le_of_ble_eq_true rfl) (own_svb X428 (om 1 rfl))) (ow hw 39 rfl) (ow hw 40 rfl) (ow hw 42 rfl) (ow hw 41 rfl) (ow hw 8 rfl) (ow hw 43 rfl) (by decide) (lenOf pd__28_29Z rfl) rfl rfl rfl (W := 0) rfl (by decide) (by decide) (by decide) (by decide) (allS (om 1 rfl) all0) rfl ?_
            intro T466 h466 v466 X466 K466 hQ466
            obtain ⟨rfl, f467, f468⟩ := hQ466
            show OGo _ _ _ _ T466 (mkF m 299 #[.val (.int pa), .val (.int pb), .val (.int pc_), .val (.int pd), .val (.int ps), .val (.int 3), .val (.int fl), .val (.int r2), .val (.int r5), .val (.int r8), .val (.int r11), .val (.ref b302), .val (.ref b310), .val (.int 1), .val (.int 1), .unset, .unset, .unset] [(.int 1)])
            refine og_istore X466 301 #[.val (.int pa), .val (.int pb), .val (.int pc_), .val (.int pd), .val (.int ps), .val (.int 3), .val (.int fl), .val (.int r2), .val (.int r5), .val (.int r8), .val (.int r11), .val (.ref b302), .val (.ref b310), .val (.int 1), .val (.int 1), .val (.int 1), .unset, .unset] at_299 rfl rfl ?_
            refine og_aload X466 303 at_301 rfl rfl rfl ?_
            have f469 := f461.keep K466
            have f470 := f465.keep K466 (allS (Or.inr ⟨_, _, _, f461, by decide, (ow hw 7 rfl)⟩) all0)
            refine own_virt X466 306 (a := b310) (argsL := []) (rest := []) at_303 f469 (fun _ hZ => notFace_of_selects (args := #[]) (mvT hZ (ow hw 42 rfl))) (rm_skI l Z a0 hw n0 h466 hWd [] X466.old b310 b314 1 1 [r2, r5, r8] f469 f467 f468 f470.top (by simp [own_skip, own_w0 ck0]) (Nat.le_of_ble_eq_true rfl) (Nat.le_of_ble_eq_true rfl) (own_svb X466 (om 1 rfl))) (ow hw 39 rfl) (ow hw 40 rfl) (ow hw 42 rfl) (ow hw 41 rfl) (ow hw 8 rfl) (ow hw 43 rfl) (by decide) (lenOf pd__28_29Z rfl) rfl rfl rfl (W := 0) rfl (by decide) (by decide) (by decide) (by decide) (allS (om 1 rfl) all0) rfl ?_
            intro T471 h471 v471 X471 K471 hQ471
            obtain ⟨rfl, f472, f473⟩ := hQ471
            show OGo _ _ _ _ T471 (mkF m 306 #[.val (.int pa), .val (.int pb), .val (.int pc_), .val (.int pd), .val (.int ps), .val (.int 3), .val (.int fl), .val (.int r2), .val (.int r5), .val (.int r8), .val (.int r11), .val (.ref b302), .val (.ref b310), .val (.int 1), .val (.int 1), .val (.int 1), .unset, .unset] [(.int 1)])
            refine og_istore X471 308 #[.val (.int pa), .val (.int pb), .val (.int pc_), .val (.int pd), .val (.int ps), .val (.int 3), .val (.int fl), .val (.int r2), .val (.int r5), .val (.int r8), .val (.int r11), .val (.ref b302), .val (.ref b310), .val (.int 1), .val (.int 1), .val (.int 1), .val (.int 1), .unset] at_306 rfl rfl ?_
            refine og_iload X471 310 at_308 rfl rfl ?_
            refine og_iload X471 312 at_310 rfl rfl ?_
            refine og_iload X471 314 at_312 rfl rfl ?_
            refine og_icmpN X471 317 at_314 (XT.ii_ge_f (by decide)) rfl ?_
            refine og_iconst X471 318 (1 : Int32) at_317 rfl rfl ?_
            refine og_goto X471 322 at_318 (by decide) (by decide) ?_
            refine og_icmpN X471 325 at_322 (XT.ii_ne_f (by decide)) rfl ?_
            refine og_iload X471 327 at_325 rfl rfl ?_
            refine og_iload X471 329 at_327 rfl rfl ?_
            refine og_icmpY X471 334 at_329 (XT.ii_eq_t (by decide)) (by decide) (by decide) ?_
            refine og_iload X471 336 at_334 rfl rfl ?_
            refine og_iload X471 338 at_336 rfl rfl ?_
            refine og_icmpN X471 341 at_338 (XT.ii_ge_f (by decide)) rfl ?_
            refine og_iload X471 343 at_341 rfl rfl ?_
            refine og_ifY X471 351 at_343 (XT.i0_ne_t (by decide)) (by decide) (by decide) ?_
            refine og_iload X471 353 at_351 rfl rfl ?_
            refine og_iconst X471 354 (1 : Int32) at_353 rfl rfl ?_
            refine og_icmpN X471 357 at_354 (XT.ii_ne_f (by decide)) rfl ?_
            refine og_iload X471 359 at_357 rfl rfl ?_
            refine og_goto X471 375 at_359 (by decide) (by decide) ?_
            refine og_istore X471 377 #[.val (.int pa), .val (.int pb), .val (.int pc_), .val (.int pd), .val (.int ps), .val (.int 3), .val (.int fl), .val (.int r2), .val (.int r5), .val (.int r8), .val (.int r11), .val (.ref b302), .val (.ref b310), .val (.int 1), .val (.int 1), .val (.int 1), .val (.int 1), .val (.int r5)] at_375 rfl rfl ?_
            refine og_aload X471 379 at_377 rfl rfl rfl ?_
            refine og_iload X471 381 at_379 rfl rfl ?_
            have f474 := f469.keep K471
            have f475 := f470.keep K471 (allS (Or.inr ⟨_, _, _, f469, by decide, (ow hw 7 rfl)⟩) all0)
            refine own_virt X471 384 (a := b310) (argsL := [(.int r5)]) (rest := []) at_381 f474 (fun _ hZ => notFace_of_selects (args := #[]) (mvT hZ (ow hw 75 rfl))) (rm_nxI l Z a0 hw n0 h471 hWd [] X471.old b310 b314 1 [r2, r5, r8] r5 f472 f473 f475.top (Nat.le_of_ble_eq_true rfl) ) (ow hw 102 rfl) (ow hw 73 rfl) (ow hw 75 rfl) (ow hw 74 rfl) (ow hw 8 rfl) (ow hw 76 rfl) (by decide) (lenOf pd__28C_29Z rfl) rfl rfl rfl (W := 0) rfl (by decide) (by decide) (by decide) (by decide) all0 rfl ?_
            intro T476 h476 v476 X476 K476 hQ476
            obtain rfl := hQ476
            show OGo _ _ _ _ T476 (mkF m 384 #[.val (.int pa), .val (.int pb), .val (.int pc_), .val (.int pd), .val (.int ps), .val (.int 3), .val (.int fl), .val (.int r2), .val (.int r5), .val (.int r8), .val (.int r11), .val (.ref b302), .val (.ref b310), .val (.int 1), .val (.int 1), .val (.int 1), .val (.int 1), .val (.int r5)] [(.int (own_eq1 r5 r5))])
            refine own_retZ X476 at_384 hret (own_zb (Or.inr (show (own_eq1 r5 r5) = 1 from if_pos rfl))).1 (by decide) (by decide) ?_
            rw [own_eq1, if_pos rfl]
        · -- the ways to it
          intro J428
          refine og_iload X425 224 at_222 rfl rfl ?_
          refine og_iconst X425 225 (3 : Int32) at_224 rfl rfl ?_
          refine og_icmpY X425 239 at_225 (XT.ii_le_t (by decide)) (by decide) (by decide) ?_
          refine og_iload X425 241 at_239 rfl rfl ?_
          refine og_iconst X425 242 (2 : Int32) at_241 rfl rfl ?_
          refine og_icmpN X425 245 at_242 (XT.ii_le_f (by decide)) rfl ?_
          refine og_iload X425 247 at_245 rfl rfl ?_
          refine own_stat X425 250 (argsL := [(.int r8)]) (rest := []) at_247 (rm19 l Z a0 hw n0 h425 hWd [] X425.old r8  ) (ow hw 99 rfl) (ow hw 100 rfl) (ow hw 2 rfl) (ow hw 101 rfl) (by decide) (lenOf pd__28C_29Z rfl) rfl rfl rfl (W := 0) rfl (by decide) (by decide) (by decide) (by decide) all0 rfl ?_
          intro T477 h477 v477 X477 K477 hQ477
          obtain rfl := hQ477
          show OGo _ _ _ _ T477 (mkF m 250 #[.val (.int pa), .val (.int pb), .val (.int pc_), .val (.int pd), .val (.int ps), .val (.int 3), .val (.int fl), .val (.int r2), .val (.int r5), .val (.int r8), .val (.int r11), .val (.ref b302), .val (.ref b310), .val (.int 1), .val (.int 3), .unset, .unset, .unset] [(.int (own_ws r8))])
          by_cases hc478 : (own_ws r8) = 0
          · -- (own_ws r8) = 0
            refine og_ifN X477 253 at_250 (XT.i0_ne_f hc478) rfl ?_
            refine og_iconst X477 254 (2 : Int32) at_253 rfl rfl ?_
            refine og_istore X477 256 #[.val (.int pa), .val (.int pb), .val (.int pc_), .val (.int pd), .val (.int ps), .val (.int 3), .val (.int fl), .val (.int r2), .val (.int r5), .val (.int r8), .val (.int r11), .val (.ref b302), .val (.ref b310), .val (.int 1), .val (.int 2), .unset, .unset, .unset] at_254 rfl rfl ?_
            refine og_iload X477 258 at_256 rfl rfl ?_
            refine og_iconst X477 259 (1 : Int32) at_258 rfl rfl ?_
            refine og_icmpN X477 262 at_259 (XT.ii_le_f (by decide)) rfl ?_
            refine og_iload X477 264 at_262 rfl rfl ?_
            refine own_stat X477 267 (argsL := [(.int r5)]) (rest := []) at_264 (rm19 l Z a0 hw n0 h477 hWd [] X477.old r5  ) (ow hw 99 rfl) (ow hw 100 rfl) (ow hw 2 rfl) (ow hw 101 rfl) (by decide) (lenOf pd__28C_29Z rfl) rfl rfl rfl (W := 0) rfl (by decide) (by decide) (by decide) (by decide) all0 rfl ?_
            intro T479 h479 v479 X479 K479 hQ479
            obtain rfl := hQ479
            show OGo _ _ _ _ T479 (mkF m 267 #[.val (.int pa), .val (.int pb), .val (.int pc_), .val (.int pd), .val (.int ps), .val (.int 3), .val (.int fl), .val (.int r2), .val (.int r5), .val (.int r8), .val (.int r11), .val (.ref b302), .val (.ref b310), .val (.int 1), .val (.int 2), .unset, .unset, .unset] [(.int (own_ws r5))])
            by_cases hc480 : (own_ws r5) = 0
            · -- (own_ws r5) = 0
              refine og_ifN X479 270 at_267 (XT.i0_ne_f hc480) rfl ?_
              refine og_iconst X479 271 (1 : Int32) at_270 rfl rfl ?_
              refine og_istore X479 273 #[.val (.int pa), .val (.int pb), .val (.int pc_), .val (.int pd), .val (.int ps), .val (.int 3), .val (.int fl), .val (.int r2), .val (.int r5), .val (.int r8), .val (.int r11), .val (.ref b302), .val (.ref b310), .val (.int 1), .val (.int 1), .unset, .unset, .unset] at_271 rfl rfl ?_
              refine og_iload X479 275 at_273 rfl rfl ?_
              refine og_ifN X479 278 at_275 (XT.i0_le_f (by decide)) rfl ?_
              refine og_iload X479 280 at_278 rfl rfl ?_
              refine og_ifY X479 294 at_280 (XT.i0_ne_t (by decide)) (by decide) (by decide) ?_
              exact J428 _ _ X479 (K477.trans K479 (fun _ q => nomatch q)) _ (Or.inr (Or.inr ⟨rfl, hc480⟩))
            · -- not
              refine og_ifY X479 273 at_267 (XT.i0_ne_t hc480) (by decide) (by decide) ?_
              refine og_iload X479 275 at_273 rfl rfl ?_
              refine og_ifN X479 278 at_275 (XT.i0_le_f (by decide)) rfl ?_
              refine og_iload X479 280 at_278 rfl rfl ?_
              refine og_ifY X479 294 at_280 (XT.i0_ne_t (by decide)) (by decide) (by decide) ?_
              exact J428 _ _ X479 (K477.trans K479 (fun _ q => nomatch q)) _ (Or.inr (Or.inl ⟨rfl, hc480, hc478⟩))
          · -- not
            refine og_ifY X477 256 at_250 (XT.i0_ne_t hc478) (by decide) (by decide) ?_
            refine og_iload X477 258 at_256 rfl rfl ?_
            refine og_iconst X477 259 (1 : Int32) at_258 rfl rfl ?_
            refine og_icmpN X477 262 at_259 (XT.ii_le_f (by decide)) rfl ?_
            refine og_iload X477 264 at_262 rfl rfl ?_
            refine own_stat X477 267 (argsL := [(.int r5)]) (rest := []) at_264 (rm19 l Z a0 hw n0 h477 hWd [] X477.old r5  ) (ow hw 99 rfl) (ow hw 100 rfl) (ow hw 2 rfl) (ow hw 101 rfl) (by decide) (lenOf pd__28C_29Z rfl) rfl rfl rfl (W := 0) rfl (by decide) (by decide) (by decide) (by decide) all0 rfl ?_
            intro T481 h481 v481 X481 K481 hQ481
            obtain rfl := hQ481
            show OGo _ _ _ _ T481 (mkF m 267 #[.val (.int pa), .val (.int pb), .val (.int pc_), .val (.int pd), .val (.int ps), .val (.int 3), .val (.int fl), .val (.int r2), .val (.int r5), .val (.int r8), .val (.int r11), .val (.ref b302), .val (.ref b310), .val (.int 1), .val (.int 3), .unset, .unset, .unset] [(.int (own_ws r5))])
            by_cases hc482 : (own_ws r5) = 0
            · -- (own_ws r5) = 0
              refine og_ifN X481 270 at_267 (XT.i0_ne_f hc482) rfl ?_
              refine og_iconst X481 271 (1 : Int32) at_270 rfl rfl ?_
              refine og_istore X481 273 #[.val (.int pa), .val (.int pb), .val (.int pc_), .val (.int pd), .val (.int ps), .val (.int 3), .val (.int fl), .val (.int r2), .val (.int r5), .val (.int r8), .val (.int r11), .val (.ref b302), .val (.ref b310), .val (.int 1), .val (.int 1), .unset, .unset, .unset] at_271 rfl rfl ?_
              refine og_iload X481 275 at_273 rfl rfl ?_
              refine og_ifN X481 278 at_275 (XT.i0_le_f (by decide)) rfl ?_
              refine og_iload X481 280 at_278 rfl rfl ?_
              refine og_ifY X481 294 at_280 (XT.i0_ne_t (by decide)) (by decide) (by decide) ?_
              exact J428 _ _ X481 (K477.trans K481 (fun _ q => nomatch q)) _ (Or.inr (Or.inr ⟨rfl, hc482⟩))
            · -- not
              refine og_ifY X481 273 at_267 (XT.i0_ne_t hc482) (by decide) (by decide) ?_
              refine og_iload X481 275 at_273 rfl rfl ?_
              refine og_ifN X481 278 at_275 (XT.i0_le_f (by decide)) rfl ?_
              refine og_iload X481 280 at_278 rfl rfl ?_
              refine og_ifY X481 294 at_280 (XT.i0_ne_t (by decide)) (by decide) (by decide) ?_
              exact J428 _ _ X481 (K477.trans K481 (fun _ q => nomatch q)) _ (Or.inl ⟨rfl, hc482, hc478⟩)
    · -- n is 4
      rw [eQ]
      refine og_iload X11 48 at_46 rfl rfl ?_
      refine og_ifY X11 59 at_48 (XT.i0_ne_t (by decide)) (by decide) (by decide) ?_
      refine og_iload X11 61 at_59 rfl rfl ?_
      refine og_iconst X11 62 (1 : Int32) at_61 rfl rfl ?_
      refine og_icmpY X11 78 at_62 (XT.ii_ne_t (by decide)) (by decide) (by decide) ?_
      refine og_iload X11 80 at_78 rfl rfl ?_
      refine og_iconst X11 81 (2 : Int32) at_80 rfl rfl ?_
      refine og_icmpY X11 102 at_81 (XT.ii_ne_t (by decide)) (by decide) (by decide) ?_
      refine og_iload X11 104 at_102 rfl rfl ?_
      refine og_iconst X11 105 (3 : Int32) at_104 rfl rfl ?_
      refine og_icmpY X11 131 at_105 (XT.ii_ne_t (by decide)) (by decide) (by decide) ?_
      refine og_iconst X11 132 (4 : Int32) at_131 rfl rfl ?_
      refine own_arr X11 134 at_132 (ow hw 5 rfl) (by decide) (cap := 4) (by decide) (by decide) (by decide) (by decide) rfl ?_
      intro T483 h483 b483 kb483 X483 K483 G483 U483 A483
      have f484 : Arv Z h483 b483 kb483 .char (4 : Int32) [(.int 0), (.int 0), (.int 0), (.int 0)] (.int 0) := A483
      refine og_dup X483 135 at_134 rfl rfl ?_
      refine og_iconst X483 136 (0 : Int32) at_135 rfl rfl ?_
      refine og_iload X483 138 at_136 rfl rfl ?_
      refine own_stC X483 139 at_138 f484 (own_nch f3 f4) (by decide) (by decide) (i := 0) (by decide) (Nat.le_of_ble_eq_true rfl) (om 0 rfl) rfl ?_
      intro T485 h485 X485 W485 K485 A485
      have f486 : Arv Z h485 b483 kb483 .char (4 : Int32) [(.int r2), (.int 0), (.int 0), (.int 0)] (.int 0) := A485
      refine og_dup X485 140 at_139 rfl rfl ?_
      refine og_iconst X485 141 (1 : Int32) at_140 rfl rfl ?_
      refine og_iload X485 143 at_141 rfl rfl ?_
      refine own_stC X485 144 at_143 f486 (own_nch f6 f7) (by decide) (by decide) (i := 1) (by decide) (Nat.le_of_ble_eq_true rfl) (om 0 rfl) rfl ?_
      intro T487 h487 X487 W487 K487 A487
      have f488 : Arv Z h487 b483 kb483 .char (4 : Int32) [(.int r2), (.int r5), (.int 0), (.int 0)] (.int 0) := A487
      refine og_dup X487 145 at_144 rfl rfl ?_
      refine og_iconst X487 146 (2 : Int32) at_145 rfl rfl ?_
      refine og_iload X487 148 at_146 rfl rfl ?_
      refine own_stC X487 149 at_148 f488 (own_nch f9 f10) (by decide) (by decide) (i := 2) (by decide) (Nat.le_of_ble_eq_true rfl) (om 0 rfl) rfl ?_
      intro T489 h489 X489 W489 K489 A489
      have f490 : Arv Z h489 b483 kb483 .char (4 : Int32) [(.int r2), (.int r5), (.int r8), (.int 0)] (.int 0) := A489
      refine og_dup X489 150 at_149 rfl rfl ?_
      refine og_iconst X489 151 (3 : Int32) at_150 rfl rfl ?_
      refine og_iload X489 153 at_151 rfl rfl ?_
      refine own_stC X489 154 at_153 f490 (own_nch f12 f13) (by decide) (by decide) (i := 3) (by decide) (Nat.le_of_ble_eq_true rfl) (om 0 rfl) rfl ?_
      intro T491 h491 X491 W491 K491 A491
      have f492 : Arv Z h491 b483 kb483 .char (4 : Int32) [(.int r2), (.int r5), (.int r8), (.int r11)] (.int 0) := A491
      refine og_astore X491 156 #[.val (.int pa), .val (.int pb), .val (.int pc_), .val (.int pd), .val (.int ps), .val (.int 4), .val (.int fl), .val (.int r2), .val (.int r5), .val (.int r8), .val (.int r11), .val (.ref b483), .unset, .unset, .unset, .unset, .unset, .unset] at_154 rfl rfl rfl ?_
      refine own_new X491 159 at_156 (ow hw 6 rfl) (ow hw 7 rfl) (ow hw 8 rfl) (by decide) (by decide) rfl ?_
      intro T493 h493 b493 X493 K493 G493 U493 E493 D493
      have f494 : Fld Z h493 b493 "com/example/bote/bote/fields/FieldCursor" "text" "Ljava/lang/String;" .null := D493 (Or.inr (ow hw 36 rfl)) (ty := (.object "java/lang/String")) (by decide)
      have f495 : Fld Z h493 b493 "com/example/bote/bote/fields/FieldCursor" "shape" "Ljava/lang/String;" .null := D493 (Or.inr (ow hw 38 rfl)) (ty := (.object "java/lang/String")) (by decide)
      have f496 : Fld Z h493 b493 "com/example/bote/bote/fields/FieldCursor" "at" "I" (.int 0) := D493 (Or.inl (ow hw 45 rfl)) (ty := .int) (by decide)
      refine og_dup X493 160 at_159 rfl rfl ?_
      refine own_new X493 163 at_160 (ow hw 9 rfl) (ow hw 10 rfl) (ow hw 11 rfl) (by decide) (by decide) rfl ?_
      intro T497 h497 b497 X497 K497 G497 U497 E497 D497
      have f498 : Fld Z h497 b497 "java/lang/String" "value" "[B" .null := D497 (Or.inr (ow hw 24 rfl)) (ty := (.array .byte)) (by decide)
      have f499 : Fld Z h497 b497 "java/lang/String" "coder" "B" (.int 0) := D497 (Or.inr (ow hw 25 rfl)) (ty := .byte) (by decide)
      refine og_dup X497 164 at_163 rfl rfl ?_
      refine og_aload X497 166 at_164 rfl rfl rfl ?_
      have f500 := f492.keep K493 nin0
      have f501 := f500.keep K497 nin0
      refine own_spec X497 169 (a := b497) (argsL := [(.ref b483)]) (rest := [(.ref b497), (.ref b493), (.ref b493)]) at_166 rfl (ru_ini4 l Z a0 hw n0 h497 hWd [] X497.old b497 b483 .null (0 : Int32) kb483 (.int 0) r2 r5 r8 r11 E497 f498 f499 f501 f3 f4 f6 f7 f9 f10 f12 f13 (own_svb X497 (om 0 rfl))) (ow hw 12 rfl) (ow hw 13 rfl) (ow hw 11 rfl) (ow hw 14 rfl) (by decide) (lenOf pd__28_5bC_29V rfl) rfl rfl rfl (W := 3) rfl (by decide) (by decide) (by decide) (by decide) (allS (om 0 rfl) all0) rfl ?_
      intro T502 h502 v502 X502 K502 hQ502
      obtain ⟨rfl, f503⟩ := hQ502
      show OGo _ _ _ _ T502 (mkF m 169 #[.val (.int pa), .val (.int pb), .val (.int pc_), .val (.int pd), .val (.int ps), .val (.int 4), .val (.int fl), .val (.int r2), .val (.int r5), .val (.int r8), .val (.int r11), .val (.ref b483), .unset, .unset, .unset, .unset, .unset, .unset] [(.ref b497), (.ref b493), (.ref b493)])
      refine own_ldcO X502 171 (cap := 20) at_169 own_ELne (ow hw 30 rfl) (own_wS hw) (by decide) (by decide) (by decide) (by decide) rfl ?_
      intro T504 h504 a504 X504 K504
      have f505 := E493.keep K497
      have f506 := f505.keep K502
      have f507 := f506.keep K504
      have f508 := f494.keep K497 nin0
      have f509 := f508.keep K502 (ninS (Nat.ne_of_lt (Nat.lt_of_lt_of_le U493 G497)) nin0)
      have f510 := f509.keep K504 nin0
      have f511 := f495.keep K497 nin0
      have f512 := f511.keep K502 (ninS (Nat.ne_of_lt (Nat.lt_of_lt_of_le U493 G497)) nin0)
      have f513 := f512.keep K504 nin0
      have f514 := f496.keep K497 nin0
      have f515 := f514.keep K502 (ninS (Nat.ne_of_lt (Nat.lt_of_lt_of_le U493 G497)) nin0)
      have f516 := f515.keep K504 nin0
      refine own_spec X504 174 (a := b493) (argsL := [(.ref b497), (.ref a504)]) (rest := [(.ref b493)]) at_171 rfl (rm5 l Z a0 hw n0 h504 hWd [] X504.old b493 b497 a504 f507 f510 f513 f516 (own_svb X504 (om 1 rfl))) (ow hw 31 rfl) (ow hw 32 rfl) (ow hw 8 rfl) (ow hw 33 rfl) (by decide) (lenOf pd__28Ljava_2flang_2fString_3bLjava_2flang_2fString_3b_29V rfl) rfl rfl rfl (W := 1) rfl (by decide) (by decide) (by decide) (by decide) (allS (om 1 rfl) all0) rfl ?_
      intro T517 h517 v517 X517 K517 hQ517
      obtain ⟨rfl, f518, f519⟩ := hQ517
      show OGo _ _ _ _ T517 (mkF m 174 #[.val (.int pa), .val (.int pb), .val (.int pc_), .val (.int pd), .val (.int ps), .val (.int 4), .val (.int fl), .val (.int r2), .val (.int r5), .val (.int r8), .val (.int r11), .val (.ref b483), .unset, .unset, .unset, .unset, .unset, .unset] [(.ref b493)])
      refine og_astore X517 176 #[.val (.int pa), .val (.int pb), .val (.int pc_), .val (.int pd), .val (.int ps), .val (.int 4), .val (.int fl), .val (.int r2), .val (.int r5), .val (.int r8), .val (.int r11), .val (.ref b483), .val (.ref b493), .unset, .unset, .unset, .unset, .unset] at_174 rfl rfl rfl ?_
      refine og_iconst X517 177 (0 : Int32) at_176 rfl rfl ?_
      refine og_istore X517 179 #[.val (.int pa), .val (.int pb), .val (.int pc_), .val (.int pd), .val (.int ps), .val (.int 4), .val (.int fl), .val (.int r2), .val (.int r5), .val (.int r8), .val (.int r11), .val (.ref b483), .val (.ref b493), .val (.int 0), .unset, .unset, .unset, .unset] at_177 rfl rfl ?_
      refine og_iload X517 181 at_179 rfl rfl ?_
      by_cases hc520 : fl = 0
      · -- fl = 0
        refine og_ifY X517 218 at_181 (XT.i0_eq_t hc520) (by decide) (by decide) ?_
        refine og_iload X517 220 at_218 rfl rfl ?_
        refine og_istore X517 222 #[.val (.int pa), .val (.int pb), .val (.int pc_), .val (.int pd), .val (.int ps), .val (.int 4), .val (.int fl), .val (.int r2), .val (.int r5), .val (.int r8), .val (.int r11), .val (.ref b483), .val (.ref b493), .val (.int 0), .val (.int 4), .unset, .unset, .unset] at_220 rfl rfl ?_
        refine own_cut X517 294 (fun (kw : Int32) => #[.val (.int pa), .val (.int pb), .val (.int pc_), .val (.int pd), .val (.int ps), .val (.int 4), .val (.int fl), .val (.int r2), .val (.int r5), .val (.int r8), .val (.int r11), .val (.ref b483), .val (.ref b493), .val (.int 0), .val (.int kw), .unset, .unset, .unset]) (fun _ => []) (fun kw => (kw = 4 ∧ ¬ (own_ws r2) = 0 ∧ ¬ (own_ws r5) = 0 ∧ ¬ (own_ws r8) = 0 ∧ ¬ (own_ws r11) = 0) ∨ (kw = 3 ∧ ¬ (own_ws r2) = 0 ∧ ¬ (own_ws r5) = 0 ∧ ¬ (own_ws r8) = 0 ∧ (own_ws r11) = 0) ∨ (kw = 2 ∧ ¬ (own_ws r2) = 0 ∧ ¬ (own_ws r5) = 0 ∧ (own_ws r8) = 0) ∨ (kw = 1 ∧ ¬ (own_ws r2) = 0 ∧ (own_ws r5) = 0) ∨ (kw = 0 ∧ (own_ws r2) = 0)) ?_ ?_
        · -- the common ways on
          intro T521 h521 X521 K521 kw ok521
          rcases ok521 with ⟨rfl, ck0, ck1, ck2, ck3⟩ | ⟨rfl, ck0, ck1, ck2, ck3⟩ | ⟨rfl, ck0, ck1, ck2⟩ | ⟨rfl, ck0, ck1⟩ | ⟨rfl, ck0⟩
          · -- 4
            show OGo _ _ _ _ T521 (mkF m 294 #[.val (.int pa), .val (.int pb), .val (.int pc_), .val (.int pd), .val (.int ps), .val (.int 4), .val (.int fl), .val (.int r2), .val (.int r5), .val (.int r8), .val (.int r11), .val (.ref b483), .val (.ref b493), .val (.int 0), .val (.int 4), .unset, .unset, .unset] [])
            refine og_aload X521 296 at_294 rfl rfl rfl ?_
            have f522 := f507.keep K517
            have f523 := f522.keep K521
            have f524 := f518.keep K521 nin0
            have f525 := f519.keep K521 nin0
            have f526 := f503.keep K504 all0
            have f527 := f526.keep K517 (allS (Or.inr ⟨_, _, _, f507, by decide, (ow hw 7 rfl)⟩) all0)
            have f528 := f527.keep K521 all0
            refine own_virt X521 299 (a := b493) (argsL := []) (rest := []) at_296 f523 (fun _ hZ => notFace_of_selects (args := #[]) (mvT hZ (ow hw 42 rfl))) (rm_skE l Z a0 hw n0 h521 hWd [] X521.old b493 b497 0 4 [r2, r5, r8, r11] f523 f524 f525 f528.top (by simp [own_skip, own_w1 ck0, own_w1 ck1, own_w1 ck2, own_w1 ck3]) (Nat.le_of_ble_eq_true rfl) rfl (own_svb X521 (om 1 rfl))) (ow hw 39 rfl) (ow hw 40 rfl) (ow hw 42 rfl) (ow hw 41 rfl) (ow hw 8 rfl) (ow hw 43 rfl) (by decide) (lenOf pd__28_29Z rfl) rfl rfl rfl (W := 0) rfl (by decide) (by decide) (by decide) (by decide) (allS (om 1 rfl) all0) rfl ?_
            intro T529 h529 v529 X529 K529 hQ529
            obtain ⟨rfl, f530, f531⟩ := hQ529
            show OGo _ _ _ _ T529 (mkF m 299 #[.val (.int pa), .val (.int pb), .val (.int pc_), .val (.int pd), .val (.int ps), .val (.int 4), .val (.int fl), .val (.int r2), .val (.int r5), .val (.int r8), .val (.int r11), .val (.ref b483), .val (.ref b493), .val (.int 0), .val (.int 4), .unset, .unset, .unset] [(.int 0)])
            refine og_istore X529 301 #[.val (.int pa), .val (.int pb), .val (.int pc_), .val (.int pd), .val (.int ps), .val (.int 4), .val (.int fl), .val (.int r2), .val (.int r5), .val (.int r8), .val (.int r11), .val (.ref b483), .val (.ref b493), .val (.int 0), .val (.int 4), .val (.int 0), .unset, .unset] at_299 rfl rfl ?_
            refine og_aload X529 303 at_301 rfl rfl rfl ?_
            have f532 := f523.keep K529
            have f533 := f528.keep K529 (allS (Or.inr ⟨_, _, _, f523, by decide, (ow hw 7 rfl)⟩) all0)
            refine own_virt X529 306 (a := b493) (argsL := []) (rest := []) at_303 f532 (fun _ hZ => notFace_of_selects (args := #[]) (mvT hZ (ow hw 42 rfl))) (rm_skE l Z a0 hw n0 h529 hWd [] X529.old b493 b497 4 4 [r2, r5, r8, r11] f532 f530 f531 f533.top (by simp [own_skip, own_w1 ck0, own_w1 ck1, own_w1 ck2, own_w1 ck3]) (Nat.le_of_ble_eq_true rfl) rfl (own_svb X529 (om 1 rfl))) (ow hw 39 rfl) (ow hw 40 rfl) (ow hw 42 rfl) (ow hw 41 rfl) (ow hw 8 rfl) (ow hw 43 rfl) (by decide) (lenOf pd__28_29Z rfl) rfl rfl rfl (W := 0) rfl (by decide) (by decide) (by decide) (by decide) (allS (om 1 rfl) all0) rfl ?_
            intro T534 h534 v534 X534 K534 hQ534
            obtain ⟨rfl, f535, f536⟩ := hQ534
            show OGo _ _ _ _ T534 (mkF m 306 #[.val (.int pa), .val (.int pb), .val (.int pc_), .val (.int pd), .val (.int ps), .val (.int 4), .val (.int fl), .val (.int r2), .val (.int r5), .val (.int r8), .val (.int r11), .val (.ref b483), .val (.ref b493), .val (.int 0), .val (.int 4), .val (.int 0), .unset, .unset] [(.int 0)])
            refine og_istore X534 308 #[.val (.int pa), .val (.int pb), .val (.int pc_), .val (.int pd), .val (.int ps), .val (.int 4), .val (.int fl), .val (.int r2), .val (.int r5), .val (.int r8), .val (.int r11), .val (.ref b483), .val (.ref b493), .val (.int 0), .val (.int 4), .val (.int 0), .val (.int 0), .unset] at_306 rfl rfl ?_
            refine og_iload X534 310 at_308 rfl rfl ?_
            refine og_iload X534 312 at_310 rfl rfl ?_
            refine og_iload X534 314 at_312 rfl rfl ?_
            refine og_icmpY X534 321 at_314 (XT.ii_ge_t (by decide)) (by decide) (by decide) ?_
            refine og_iconst X534 322 (0 : Int32) at_321 rfl rfl ?_
            refine og_icmpN X534 325 at_322 (XT.ii_ne_f (by decide)) rfl ?_
            refine og_iload X534 327 at_325 rfl rfl ?_
            refine og_iload X534 329 at_327 rfl rfl ?_
            refine og_icmpY X534 334 at_329 (XT.ii_eq_t (by decide)) (by decide) (by decide) ?_
            refine og_iload X534 336 at_334 rfl rfl ?_
            refine og_iload X534 338 at_336 rfl rfl ?_
            refine og_icmpY X534 385 at_338 (XT.ii_ge_t (by decide)) (by decide) (by decide) ?_
            refine og_iconst X534 386 (1 : Int32) at_385 rfl rfl ?_
            refine own_retZ X534 at_386 hret rfl (by decide) (by decide) ?_
            exact rfl
          · -- 3
            show OGo _ _ _ _ T521 (mkF m 294 #[.val (.int pa), .val (.int pb), .val (.int pc_), .val (.int pd), .val (.int ps), .val (.int 4), .val (.int fl), .val (.int r2), .val (.int r5), .val (.int r8), .val (.int r11), .val (.ref b483), .val (.ref b493), .val (.int 0), .val (.int 3), .unset, .unset, .unset] [])
            refine og_aload X521 296 at_294 rfl rfl rfl ?_
            have f537 := f507.keep K517
            have f538 := f537.keep K521
            have f539 := f518.keep K521 nin0
            have f540 := f519.keep K521 nin0
            have f541 := f503.keep K504 all0
            have f542 := f541.keep K517 (allS (Or.inr ⟨_, _, _, f507, by decide, (ow hw 7 rfl)⟩) all0)
            have f543 := f542.keep K521 all0
            refine own_virt X521 299 (a := b493) (argsL := []) (rest := []) at_296 f538 (fun _ hZ => notFace_of_selects (args := #[]) (mvT hZ (ow hw 42 rfl))) (rm_skI l Z a0 hw n0 h521 hWd [] X521.old b493 b497 0 3 [r2, r5, r8, r11] f538 f539 f540 f543.top (by simp [own_skip, own_w1 ck0, own_w1 ck1, own_w1 ck2, own_w0 ck3]) (Nat.le_of_ble_eq_true rfl) (Nat.le_of_ble_eq_true rfl) (own_svb X521 (om 1 rfl))) (ow hw 39 rfl) (ow hw 40 rfl) (ow hw 42 rfl) (ow hw 41 rfl) (ow hw 8 rfl) (ow hw 43 rfl) (by decide) (lenOf pd__28_29Z rfl) rfl rfl rfl (W := 0) rfl (by decide) (by decide) (by decide) (by decide) (allS (om 1 rfl) all0) rfl ?_
            intro T544 h544 v544 X544 K544 hQ544
            obtain ⟨rfl, f545, f546⟩ := hQ544
            show OGo _ _ _ _ T544 (mkF m 299 #[.val (.int pa), .val (.int pb), .val (.int pc_), .val (.int pd), .val (.int ps), .val (.int 4), .val (.int fl), .val (.int r2), .val (.int r5), .val (.int r8), .val (.int r11), .val (.ref b483), .val (.ref b493), .val (.int 0), .val (.int 3), .unset, .unset, .unset] [(.int 1)])
            refine og_istore X544 301 #[.val (.int pa), .val (.int pb), .val (.int pc_), .val (.int pd), .val (.int ps), .val (.int 4), .val (.int fl), .val (.int r2), .val (.int r5), .val (.int r8), .val (.int r11), .val (.ref b483), .val (.ref b493), .val (.int 0), .val (.int 3), .val (.int 1), .unset, .unset] at_299 rfl rfl ?_
            refine og_aload X544 303 at_301 rfl rfl rfl ?_
            have f547 := f538.keep K544
            have f548 := f543.keep K544 (allS (Or.inr ⟨_, _, _, f538, by decide, (ow hw 7 rfl)⟩) all0)
            refine own_virt X544 306 (a := b493) (argsL := []) (rest := []) at_303 f547 (fun _ hZ => notFace_of_selects (args := #[]) (mvT hZ (ow hw 42 rfl))) (rm_skI l Z a0 hw n0 h544 hWd [] X544.old b493 b497 3 3 [r2, r5, r8, r11] f547 f545 f546 f548.top (by simp [own_skip, own_w1 ck0, own_w1 ck1, own_w1 ck2, own_w0 ck3]) (Nat.le_of_ble_eq_true rfl) (Nat.le_of_ble_eq_true rfl) (own_svb X544 (om 1 rfl))) (ow hw 39 rfl) (ow hw 40 rfl) (ow hw 42 rfl) (ow hw 41 rfl) (ow hw 8 rfl) (ow hw 43 rfl) (by decide) (lenOf pd__28_29Z rfl) rfl rfl rfl (W := 0) rfl (by decide) (by decide) (by decide) (by decide) (allS (om 1 rfl) all0) rfl ?_
            intro T549 h549 v549 X549 K549 hQ549
            obtain ⟨rfl, f550, f551⟩ := hQ549
            show OGo _ _ _ _ T549 (mkF m 306 #[.val (.int pa), .val (.int pb), .val (.int pc_), .val (.int pd), .val (.int ps), .val (.int 4), .val (.int fl), .val (.int r2), .val (.int r5), .val (.int r8), .val (.int r11), .val (.ref b483), .val (.ref b493), .val (.int 0), .val (.int 3), .val (.int 1), .unset, .unset] [(.int 1)])
            refine og_istore X549 308 #[.val (.int pa), .val (.int pb), .val (.int pc_), .val (.int pd), .val (.int ps), .val (.int 4), .val (.int fl), .val (.int r2), .val (.int r5), .val (.int r8), .val (.int r11), .val (.ref b483), .val (.ref b493), .val (.int 0), .val (.int 3), .val (.int 1), .val (.int 1), .unset] at_306 rfl rfl ?_
            refine og_iload X549 310 at_308 rfl rfl ?_
            refine og_iload X549 312 at_310 rfl rfl ?_
            refine og_iload X549 314 at_312 rfl rfl ?_
            refine og_icmpN X549 317 at_314 (XT.ii_ge_f (by decide)) rfl ?_
            refine og_iconst X549 318 (1 : Int32) at_317 rfl rfl ?_
            refine og_goto X549 322 at_318 (by decide) (by decide) ?_
            refine og_icmpN X549 325 at_322 (XT.ii_ne_f (by decide)) rfl ?_
            refine og_iload X549 327 at_325 rfl rfl ?_
            refine og_iload X549 329 at_327 rfl rfl ?_
            refine og_icmpY X549 334 at_329 (XT.ii_eq_t (by decide)) (by decide) (by decide) ?_
            refine og_iload X549 336 at_334 rfl rfl ?_
            refine og_iload X549 338 at_336 rfl rfl ?_
            refine og_icmpN X549 341 at_338 (XT.ii_ge_f (by decide)) rfl ?_
            refine og_iload X549 343 at_341 rfl rfl ?_
            refine og_ifY X549 351 at_343 (XT.i0_ne_t (by decide)) (by decide) (by decide) ?_
            refine og_iload X549 353 at_351 rfl rfl ?_
            refine og_iconst X549 354 (1 : Int32) at_353 rfl rfl ?_
            refine og_icmpY X549 362 at_354 (XT.ii_ne_t (by decide)) (by decide) (by decide) ?_
            refine og_iload X549 364 at_362 rfl rfl ?_
            refine og_iconst X549 365 (2 : Int32) at_364 rfl rfl ?_
            refine og_icmpY X549 373 at_365 (XT.ii_ne_t (by decide)) (by decide) (by decide) ?_
            refine og_iload X549 375 at_373 rfl rfl ?_
            refine og_istore X549 377 #[.val (.int pa), .val (.int pb), .val (.int pc_), .val (.int pd), .val (.int ps), .val (.int 4), .val (.int fl), .val (.int r2), .val (.int r5), .val (.int r8), .val (.int r11), .val (.ref b483), .val (.ref b493), .val (.int 0), .val (.int 3), .val (.int 1), .val (.int 1), .val (.int r11)] at_375 rfl rfl ?_
            refine og_aload X549 379 at_377 rfl rfl rfl ?_
            refine og_iload X549 381 at_379 rfl rfl ?_
            have f552 := f547.keep K549
            have f553 := f548.keep K549 (allS (Or.inr ⟨_, _, _, f547, by decide, (ow hw 7 rfl)⟩) all0)
            refine own_virt X549 384 (a := b493) (argsL := [(.int r11)]) (rest := []) at_381 f552 (fun _ hZ => notFace_of_selects (args := #[]) (mvT hZ (ow hw 75 rfl))) (rm_nxI l Z a0 hw n0 h549 hWd [] X549.old b493 b497 3 [r2, r5, r8, r11] r11 f550 f551 f553.top (Nat.le_of_ble_eq_true rfl) ) (ow hw 102 rfl) (ow hw 73 rfl) (ow hw 75 rfl) (ow hw 74 rfl) (ow hw 8 rfl) (ow hw 76 rfl) (by decide) (lenOf pd__28C_29Z rfl) rfl rfl rfl (W := 0) rfl (by decide) (by decide) (by decide) (by decide) all0 rfl ?_
            intro T554 h554 v554 X554 K554 hQ554
            obtain rfl := hQ554
            show OGo _ _ _ _ T554 (mkF m 384 #[.val (.int pa), .val (.int pb), .val (.int pc_), .val (.int pd), .val (.int ps), .val (.int 4), .val (.int fl), .val (.int r2), .val (.int r5), .val (.int r8), .val (.int r11), .val (.ref b483), .val (.ref b493), .val (.int 0), .val (.int 3), .val (.int 1), .val (.int 1), .val (.int r11)] [(.int (own_eq1 r11 r11))])
            refine own_retZ X554 at_384 hret (own_zb (Or.inr (show (own_eq1 r11 r11) = 1 from if_pos rfl))).1 (by decide) (by decide) ?_
            rw [own_eq1, if_pos rfl]
          · -- 2
            show OGo _ _ _ _ T521 (mkF m 294 #[.val (.int pa), .val (.int pb), .val (.int pc_), .val (.int pd), .val (.int ps), .val (.int 4), .val (.int fl), .val (.int r2), .val (.int r5), .val (.int r8), .val (.int r11), .val (.ref b483), .val (.ref b493), .val (.int 0), .val (.int 2), .unset, .unset, .unset] [])
            refine og_aload X521 296 at_294 rfl rfl rfl ?_
            have f555 := f507.keep K517
            have f556 := f555.keep K521
            have f557 := f518.keep K521 nin0
            have f558 := f519.keep K521 nin0
            have f559 := f503.keep K504 all0
            have f560 := f559.keep K517 (allS (Or.inr ⟨_, _, _, f507, by decide, (ow hw 7 rfl)⟩) all0)
            have f561 := f560.keep K521 all0
            refine own_virt X521 299 (a := b493) (argsL := []) (rest := []) at_296 f556 (fun _ hZ => notFace_of_selects (args := #[]) (mvT hZ (ow hw 42 rfl))) (rm_skI l Z a0 hw n0 h521 hWd [] X521.old b493 b497 0 2 [r2, r5, r8, r11] f556 f557 f558 f561.top (by simp [own_skip, own_w1 ck0, own_w1 ck1, own_w0 ck2]) (Nat.le_of_ble_eq_true rfl) (Nat.le_of_ble_eq_true rfl) (own_svb X521 (om 1 rfl))) (ow hw 39 rfl) (ow hw 40 rfl) (ow hw 42 rfl) (ow hw 41 rfl) (ow hw 8 rfl) (ow hw 43 rfl) (by decide) (lenOf pd__28_29Z rfl) rfl rfl rfl (W := 0) rfl (by decide) (by decide) (by decide) (by decide) (allS (om 1 rfl) all0) rfl ?_
            intro T562 h562 v562 X562 K562 hQ562
            obtain ⟨rfl, f563, f564⟩ := hQ562
            show OGo _ _ _ _ T562 (mkF m 299 #[.val (.int pa), .val (.int pb), .val (.int pc_), .val (.int pd), .val (.int ps), .val (.int 4), .val (.int fl), .val (.int r2), .val (.int r5), .val (.int r8), .val (.int r11), .val (.ref b483), .val (.ref b493), .val (.int 0), .val (.int 2), .unset, .unset, .unset] [(.int 1)])
            refine og_istore X562 301 #[.val (.int pa), .val (.int pb), .val (.int pc_), .val (.int pd), .val (.int ps), .val (.int 4), .val (.int fl), .val (.int r2), .val (.int r5), .val (.int r8), .val (.int r11), .val (.ref b483), .val (.ref b493), .val (.int 0), .val (.int 2), .val (.int 1), .unset, .unset] at_299 rfl rfl ?_
            refine og_aload X562 303 at_301 rfl rfl rfl ?_
            have f565 := f556.keep K562
            have f566 := f561.keep K562 (allS (Or.inr ⟨_, _, _, f556, by decide, (ow hw 7 rfl)⟩) all0)
            refine own_virt X562 306 (a := b493) (argsL := []) (rest := []) at_303 f565 (fun _ hZ => notFace_of_selects (args := #[]) (mvT hZ (ow hw 42 rfl))) (rm_skI l Z a0 hw n0 h562 hWd [] X562.old b493 b497 2 2 [r2, r5, r8, r11] f565 f563 f564 f566.top (by simp [own_skip, own_w1 ck0, own_w1 ck1, own_w0 ck2]) (Nat.le_of_ble_eq_true rfl) (Nat.le_of_ble_eq_true rfl) (own_svb X562 (om 1 rfl))) (ow hw 39 rfl) (ow hw 40 rfl) (ow hw 42 rfl) (ow hw 41 rfl) (ow hw 8 rfl) (ow hw 43 rfl) (by decide) (lenOf pd__28_29Z rfl) rfl rfl rfl (W := 0) rfl (by decide) (by decide) (by decide) (by decide) (allS (om 1 rfl) all0) rfl ?_
            intro T567 h567 v567 X567 K567 hQ567
            obtain ⟨rfl, f568, f569⟩ := hQ567
            show OGo _ _ _ _ T567 (mkF m 306 #[.val (.int pa), .val (.int pb), .val (.int pc_), .val (.int pd), .val (.int ps), .val (.int 4), .val (.int fl), .val (.int r2), .val (.int r5), .val (.int r8), .val (.int r11), .val (.ref b483), .val (.ref b493), .val (.int 0), .val (.int 2), .val (.int 1), .unset, .unset] [(.int 1)])
            refine og_istore X567 308 #[.val (.int pa), .val (.int pb), .val (.int pc_), .val (.int pd), .val (.int ps), .val (.int 4), .val (.int fl), .val (.int r2), .val (.int r5), .val (.int r8), .val (.int r11), .val (.ref b483), .val (.ref b493), .val (.int 0), .val (.int 2), .val (.int 1), .val (.int 1), .unset] at_306 rfl rfl ?_
            refine og_iload X567 310 at_308 rfl rfl ?_
            refine og_iload X567 312 at_310 rfl rfl ?_
            refine og_iload X567 314 at_312 rfl rfl ?_
            refine og_icmpN X567 317 at_314 (XT.ii_ge_f (by decide)) rfl ?_
            refine og_iconst X567 318 (1 : Int32) at_317 rfl rfl ?_
            refine og_goto X567 322 at_318 (by decide) (by decide) ?_
            refine og_icmpN X567 325 at_322 (XT.ii_ne_f (by decide)) rfl ?_
            refine og_iload X567 327 at_325 rfl rfl ?_
            refine og_iload X567 329 at_327 rfl rfl ?_
            refine og_icmpY X567 334 at_329 (XT.ii_eq_t (by decide)) (by decide) (by decide) ?_
            refine og_iload X567 336 at_334 rfl rfl ?_
            refine og_iload X567 338 at_336 rfl rfl ?_
            refine og_icmpN X567 341 at_338 (XT.ii_ge_f (by decide)) rfl ?_
            refine og_iload X567 343 at_341 rfl rfl ?_
            refine og_ifY X567 351 at_343 (XT.i0_ne_t (by decide)) (by decide) (by decide) ?_
            refine og_iload X567 353 at_351 rfl rfl ?_
            refine og_iconst X567 354 (1 : Int32) at_353 rfl rfl ?_
            refine og_icmpY X567 362 at_354 (XT.ii_ne_t (by decide)) (by decide) (by decide) ?_
            refine og_iload X567 364 at_362 rfl rfl ?_
            refine og_iconst X567 365 (2 : Int32) at_364 rfl rfl ?_
            refine og_icmpN X567 368 at_365 (XT.ii_ne_f (by decide)) rfl ?_
            refine og_iload X567 370 at_368 rfl rfl ?_
            refine og_goto X567 375 at_370 (by decide) (by decide) ?_
            refine og_istore X567 377 #[.val (.int pa), .val (.int pb), .val (.int pc_), .val (.int pd), .val (.int ps), .val (.int 4), .val (.int fl), .val (.int r2), .val (.int r5), .val (.int r8), .val (.int r11), .val (.ref b483), .val (.ref b493), .val (.int 0), .val (.int 2), .val (.int 1), .val (.int 1), .val (.int r8)] at_375 rfl rfl ?_
            refine og_aload X567 379 at_377 rfl rfl rfl ?_
            refine og_iload X567 381 at_379 rfl rfl ?_
            have f570 := f565.keep K567
            have f571 := f566.keep K567 (allS (Or.inr ⟨_, _, _, f565, by decide, (ow hw 7 rfl)⟩) all0)
            refine own_virt X567 384 (a := b493) (argsL := [(.int r8)]) (rest := []) at_381 f570 (fun _ hZ => notFace_of_selects (args := #[]) (mvT hZ (ow hw 75 rfl))) (rm_nxI l Z a0 hw n0 h567 hWd [] X567.old b493 b497 2 [r2, r5, r8, r11] r8 f568 f569 f571.top (Nat.le_of_ble_eq_true rfl) ) (ow hw 102 rfl) (ow hw 73 rfl) (ow hw 75 rfl) (ow hw 74 rfl) (ow hw 8 rfl) (ow hw 76 rfl) (by decide) (lenOf pd__28C_29Z rfl) rfl rfl rfl (W := 0) rfl (by decide) (by decide) (by decide) (by decide) all0 rfl ?_
            intro T572 h572 v572 X572 K572 hQ572
            obtain rfl := hQ572
            show OGo _ _ _ _ T572 (mkF m 384 #[.val (.int pa), .val (.int pb), .val (.int pc_), .val (.int pd), .val (.int ps), .val (.int 4), .val (.int fl), .val (.int r2), .val (.int r5), .val (.int r8), .val (.int r11), .val (.ref b483), .val (.ref b493), .val (.int 0), .val (.int 2), .val (.int 1), .val (.int 1), .val (.int r8)] [(.int (own_eq1 r8 r8))])
            refine own_retZ X572 at_384 hret (own_zb (Or.inr (show (own_eq1 r8 r8) = 1 from if_pos rfl))).1 (by decide) (by decide) ?_
            rw [own_eq1, if_pos rfl]
          · -- 1
            show OGo _ _ _ _ T521 (mkF m 294 #[.val (.int pa), .val (.int pb), .val (.int pc_), .val (.int pd), .val (.int ps), .val (.int 4), .val (.int fl), .val (.int r2), .val (.int r5), .val (.int r8), .val (.int r11), .val (.ref b483), .val (.ref b493), .val (.int 0), .val (.int 1), .unset, .unset, .unset] [])
            refine og_aload X521 296 at_294 rfl rfl rfl ?_
            have f573 := f507.keep K517
            have f574 := f573.keep K521
            have f575 := f518.keep K521 nin0
            have f576 := f519.keep K521 nin0
            have f577 := f503.keep K504 all0
            have f578 := f577.keep K517 (allS (Or.inr ⟨_, _, _, f507, by decide, (ow hw 7 rfl)⟩) all0)
            have f579 := f578.keep K521 all0
            refine own_virt X521 299 (a := b493) (argsL := []) (rest := []) at_296 f574 (fun _ hZ => notFace_of_selects (args := #[]) (mvT hZ (ow hw 42 rfl))) (rm_skI l Z a0 hw n0 h521 hWd [] X521.old b493 b497 0 1 [r2, r5, r8, r11] f574 f575 f576 f579.top (by simp [own_skip, own_w1 ck0, own_w0 ck1]) (Nat.le_of_ble_eq_true rfl) (Nat.le_of_ble_eq_true rfl) (own_svb X521 (om 1 rfl))) (ow hw 39 rfl) (ow hw 40 rfl) (ow hw 42 rfl) (ow hw 41 rfl) (ow hw 8 rfl) (ow hw 43 rfl) (by decide) (lenOf pd__28_29Z rfl) rfl rfl rfl (W := 0) rfl (by decide) (by decide) (by decide) (by decide) (allS (om 1 rfl) all0) rfl ?_
            intro T580 h580 v580 X580 K580 hQ580
            obtain ⟨rfl, f581, f582⟩ := hQ580
            show OGo _ _ _ _ T580 (mkF m 299 #[.val (.int pa), .val (.int pb), .val (.int pc_), .val (.int pd), .val (.int ps), .val (.int 4), .val (.int fl), .val (.int r2), .val (.int r5), .val (.int r8), .val (.int r11), .val (.ref b483), .val (.ref b493), .val (.int 0), .val (.int 1), .unset, .unset, .unset] [(.int 1)])
            refine og_istore X580 301 #[.val (.int pa), .val (.int pb), .val (.int pc_), .val (.int pd), .val (.int ps), .val (.int 4), .val (.int fl), .val (.int r2), .val (.int r5), .val (.int r8), .val (.int r11), .val (.ref b483), .val (.ref b493), .val (.int 0), .val (.int 1), .val (.int 1), .unset, .unset] at_299 rfl rfl ?_
            refine og_aload X580 303 at_301 rfl rfl rfl ?_
            have f583 := f574.keep K580
            have f584 := f579.keep K580 (allS (Or.inr ⟨_, _, _, f574, by decide, (ow hw 7 rfl)⟩) all0)
            refine own_virt X580 306 (a := b493) (argsL := []) (rest := []) at_303 f583 (fun _ hZ => notFace_of_selects (args := #[]) (mvT hZ (ow hw 42 rfl))) (rm_skI l Z a0 hw n0 h580 hWd [] X580.old b493 b497 1 1 [r2, r5, r8, r11] f583 f581 f582 f584.top (by simp [own_skip, own_w1 ck0, own_w0 ck1]) (Nat.le_of_ble_eq_true rfl) (Nat.le_of_ble_eq_true rfl) (own_svb X580 (om 1 rfl))) (ow hw 39 rfl) (ow hw 40 rfl) (ow hw 42 rfl) (ow hw 41 rfl) (ow hw 8 rfl) (ow hw 43 rfl) (by decide) (lenOf pd__28_29Z rfl) rfl rfl rfl (W := 0) rfl (by decide) (by decide) (by decide) (by decide) (allS (om 1 rfl) all0) rfl ?_
            intro T585 h585 v585 X585 K585 hQ585
            obtain ⟨rfl, f586, f587⟩ := hQ585
            show OGo _ _ _ _ T585 (mkF m 306 #[.val (.int pa), .val (.int pb), .val (.int pc_), .val (.int pd), .val (.int ps), .val (.int 4), .val (.int fl), .val (.int r2), .val (.int r5), .val (.int r8), .val (.int r11), .val (.ref b483), .val (.ref b493), .val (.int 0), .val (.int 1), .val (.int 1), .unset, .unset] [(.int 1)])
            refine og_istore X585 308 #[.val (.int pa), .val (.int pb), .val (.int pc_), .val (.int pd), .val (.int ps), .val (.int 4), .val (.int fl), .val (.int r2), .val (.int r5), .val (.int r8), .val (.int r11), .val (.ref b483), .val (.ref b493), .val (.int 0), .val (.int 1), .val (.int 1), .val (.int 1), .unset] at_306 rfl rfl ?_
            refine og_iload X585 310 at_308 rfl rfl ?_
            refine og_iload X585 312 at_310 rfl rfl ?_
            refine og_iload X585 314 at_312 rfl rfl ?_
            refine og_icmpN X585 317 at_314 (XT.ii_ge_f (by decide)) rfl ?_
            refine og_iconst X585 318 (1 : Int32) at_317 rfl rfl ?_
            refine og_goto X585 322 at_318 (by decide) (by decide) ?_
            refine og_icmpN X585 325 at_322 (XT.ii_ne_f (by decide)) rfl ?_
            refine og_iload X585 327 at_325 rfl rfl ?_
            refine og_iload X585 329 at_327 rfl rfl ?_
            refine og_icmpY X585 334 at_329 (XT.ii_eq_t (by decide)) (by decide) (by decide) ?_
            refine og_iload X585 336 at_334 rfl rfl ?_
            refine og_iload X585 338 at_336 rfl rfl ?_
            refine og_icmpN X585 341 at_338 (XT.ii_ge_f (by decide)) rfl ?_
            refine og_iload X585 343 at_341 rfl rfl ?_
            refine og_ifY X585 351 at_343 (XT.i0_ne_t (by decide)) (by decide) (by decide) ?_
            refine og_iload X585 353 at_351 rfl rfl ?_
            refine og_iconst X585 354 (1 : Int32) at_353 rfl rfl ?_
            refine og_icmpN X585 357 at_354 (XT.ii_ne_f (by decide)) rfl ?_
            refine og_iload X585 359 at_357 rfl rfl ?_
            refine og_goto X585 375 at_359 (by decide) (by decide) ?_
            refine og_istore X585 377 #[.val (.int pa), .val (.int pb), .val (.int pc_), .val (.int pd), .val (.int ps), .val (.int 4), .val (.int fl), .val (.int r2), .val (.int r5), .val (.int r8), .val (.int r11), .val (.ref b483), .val (.ref b493), .val (.int 0), .val (.int 1), .val (.int 1), .val (.int 1), .val (.int r5)] at_375 rfl rfl ?_
            refine og_aload X585 379 at_377 rfl rfl rfl ?_
            refine og_iload X585 381 at_379 rfl rfl ?_
            have f588 := f583.keep K585
            have f589 := f584.keep K585 (allS (Or.inr ⟨_, _, _, f583, by decide, (ow hw 7 rfl)⟩) all0)
            refine own_virt X585 384 (a := b493) (argsL := [(.int r5)]) (rest := []) at_381 f588 (fun _ hZ => notFace_of_selects (args := #[]) (mvT hZ (ow hw 75 rfl))) (rm_nxI l Z a0 hw n0 h585 hWd [] X585.old b493 b497 1 [r2, r5, r8, r11] r5 f586 f587 f589.top (Nat.le_of_ble_eq_true rfl) ) (ow hw 102 rfl) (ow hw 73 rfl) (ow hw 75 rfl) (ow hw 74 rfl) (ow hw 8 rfl) (ow hw 76 rfl) (by decide) (lenOf pd__28C_29Z rfl) rfl rfl rfl (W := 0) rfl (by decide) (by decide) (by decide) (by decide) all0 rfl ?_
            intro T590 h590 v590 X590 K590 hQ590
            obtain rfl := hQ590
            show OGo _ _ _ _ T590 (mkF m 384 #[.val (.int pa), .val (.int pb), .val (.int pc_), .val (.int pd), .val (.int ps), .val (.int 4), .val (.int fl), .val (.int r2), .val (.int r5), .val (.int r8), .val (.int r11), .val (.ref b483), .val (.ref b493), .val (.int 0), .val (.int 1), .val (.int 1), .val (.int 1), .val (.int r5)] [(.int (own_eq1 r5 r5))])
            refine own_retZ X590 at_384 hret (own_zb (Or.inr (show (own_eq1 r5 r5) = 1 from if_pos rfl))).1 (by decide) (by decide) ?_
            rw [own_eq1, if_pos rfl]
          · -- 0
            show OGo _ _ _ _ T521 (mkF m 294 #[.val (.int pa), .val (.int pb), .val (.int pc_), .val (.int pd), .val (.int ps), .val (.int 4), .val (.int fl), .val (.int r2), .val (.int r5), .val (.int r8), .val (.int r11), .val (.ref b483), .val (.ref b493), .val (.int 0), .val (.int 0), .unset, .unset, .unset] [])
            refine og_aload X521 296 at_294 rfl rfl rfl ?_
            have f591 := f507.keep K517
            have f592 := f591.keep K521
            have f593 := f518.keep K521 nin0
            have f594 := f519.keep K521 nin0
            have f595 := f503.keep K504 all0
            have f596 := f595.keep K517 (allS (Or.inr ⟨_, _, _, f507, by decide, (ow hw 7 rfl)⟩) all0)
            have f597 := f596.keep K521 all0
            refine own_virt X521 299 (a := b493) (argsL := []) (rest := []) at_296 f592 (fun _ hZ => notFace_of_selects (args := #[]) (mvT hZ (ow hw 42 rfl))) (rm_skI l Z a0 hw n0 h521 hWd [] X521.old b493 b497 0 0 [r2, r5, r8, r11] f592 f593 f594 f597.top (by simp [own_skip, own_w0 ck0]) (Nat.le_of_ble_eq_true rfl) (Nat.le_of_ble_eq_true rfl) (own_svb X521 (om 1 rfl))) (ow hw 39 rfl) (ow hw 40 rfl) (ow hw 42 rfl) (ow hw 41 rfl) (ow hw 8 rfl) (ow hw 43 rfl) (by decide) (lenOf pd__28_29Z rfl) rfl rfl rfl (W := 0) rfl (by decide) (by decide) (by decide) (by decide) (allS (om 1 rfl) all0) rfl ?_
            intro T598 h598 v598 X598 K598 hQ598
            obtain ⟨rfl, f599, f600⟩ := hQ598
            show OGo _ _ _ _ T598 (mkF m 299 #[.val (.int pa), .val (.int pb), .val (.int pc_), .val (.int pd), .val (.int ps), .val (.int 4), .val (.int fl), .val (.int r2), .val (.int r5), .val (.int r8), .val (.int r11), .val (.ref b483), .val (.ref b493), .val (.int 0), .val (.int 0), .unset, .unset, .unset] [(.int 1)])
            refine og_istore X598 301 #[.val (.int pa), .val (.int pb), .val (.int pc_), .val (.int pd), .val (.int ps), .val (.int 4), .val (.int fl), .val (.int r2), .val (.int r5), .val (.int r8), .val (.int r11), .val (.ref b483), .val (.ref b493), .val (.int 0), .val (.int 0), .val (.int 1), .unset, .unset] at_299 rfl rfl ?_
            refine og_aload X598 303 at_301 rfl rfl rfl ?_
            have f601 := f592.keep K598
            have f602 := f597.keep K598 (allS (Or.inr ⟨_, _, _, f592, by decide, (ow hw 7 rfl)⟩) all0)
            refine own_virt X598 306 (a := b493) (argsL := []) (rest := []) at_303 f601 (fun _ hZ => notFace_of_selects (args := #[]) (mvT hZ (ow hw 42 rfl))) (rm_skI l Z a0 hw n0 h598 hWd [] X598.old b493 b497 0 0 [r2, r5, r8, r11] f601 f599 f600 f602.top (by simp [own_skip, own_w0 ck0]) (Nat.le_of_ble_eq_true rfl) (Nat.le_of_ble_eq_true rfl) (own_svb X598 (om 1 rfl))) (ow hw 39 rfl) (ow hw 40 rfl) (ow hw 42 rfl) (ow hw 41 rfl) (ow hw 8 rfl) (ow hw 43 rfl) (by decide) (lenOf pd__28_29Z rfl) rfl rfl rfl (W := 0) rfl (by decide) (by decide) (by decide) (by decide) (allS (om 1 rfl) all0) rfl ?_
            intro T603 h603 v603 X603 K603 hQ603
            obtain ⟨rfl, f604, f605⟩ := hQ603
            show OGo _ _ _ _ T603 (mkF m 306 #[.val (.int pa), .val (.int pb), .val (.int pc_), .val (.int pd), .val (.int ps), .val (.int 4), .val (.int fl), .val (.int r2), .val (.int r5), .val (.int r8), .val (.int r11), .val (.ref b483), .val (.ref b493), .val (.int 0), .val (.int 0), .val (.int 1), .unset, .unset] [(.int 1)])
            refine og_istore X603 308 #[.val (.int pa), .val (.int pb), .val (.int pc_), .val (.int pd), .val (.int ps), .val (.int 4), .val (.int fl), .val (.int r2), .val (.int r5), .val (.int r8), .val (.int r11), .val (.ref b483), .val (.ref b493), .val (.int 0), .val (.int 0), .val (.int 1), .val (.int 1), .unset] at_306 rfl rfl ?_
            refine og_iload X603 310 at_308 rfl rfl ?_
            refine og_iload X603 312 at_310 rfl rfl ?_
            refine og_iload X603 314 at_312 rfl rfl ?_
            refine og_icmpN X603 317 at_314 (XT.ii_ge_f (by decide)) rfl ?_
            refine og_iconst X603 318 (1 : Int32) at_317 rfl rfl ?_
            refine og_goto X603 322 at_318 (by decide) (by decide) ?_
            refine og_icmpN X603 325 at_322 (XT.ii_ne_f (by decide)) rfl ?_
            refine og_iload X603 327 at_325 rfl rfl ?_
            refine og_iload X603 329 at_327 rfl rfl ?_
            refine og_icmpY X603 334 at_329 (XT.ii_eq_t (by decide)) (by decide) (by decide) ?_
            refine og_iload X603 336 at_334 rfl rfl ?_
            refine og_iload X603 338 at_336 rfl rfl ?_
            refine og_icmpN X603 341 at_338 (XT.ii_ge_f (by decide)) rfl ?_
            refine og_iload X603 343 at_341 rfl rfl ?_
            refine og_ifN X603 346 at_343 (XT.i0_ne_f (by decide)) rfl ?_
            refine og_iload X603 348 at_346 rfl rfl ?_
            refine og_goto X603 375 at_348 (by decide) (by decide) ?_
            refine og_istore X603 377 #[.val (.int pa), .val (.int pb), .val (.int pc_), .val (.int pd), .val (.int ps), .val (.int 4), .val (.int fl), .val (.int r2), .val (.int r5), .val (.int r8), .val (.int r11), .val (.ref b483), .val (.ref b493), .val (.int 0), .val (.int 0), .val (.int 1), .val (.int 1), .val (.int r2)] at_375 rfl rfl ?_
            refine og_aload X603 379 at_377 rfl rfl rfl ?_
            refine og_iload X603 381 at_379 rfl rfl ?_
            have f606 := f601.keep K603
            have f607 := f602.keep K603 (allS (Or.inr ⟨_, _, _, f601, by decide, (ow hw 7 rfl)⟩) all0)
            refine own_virt X603 384 (a := b493) (argsL := [(.int r2)]) (rest := []) at_381 f606 (fun _ hZ => notFace_of_selects (args := #[]) (mvT hZ (ow hw 75 rfl))) (rm_nxI l Z a0 hw n0 h603 hWd [] X603.old b493 b497 0 [r2, r5, r8, r11] r2 f604 f605 f607.top (Nat.le_of_ble_eq_true rfl) ) (ow hw 102 rfl) (ow hw 73 rfl) (ow hw 75 rfl) (ow hw 74 rfl) (ow hw 8 rfl) (ow hw 76 rfl) (by decide) (lenOf pd__28C_29Z rfl) rfl rfl rfl (W := 0) rfl (by decide) (by decide) (by decide) (by decide) all0 rfl ?_
            intro T608 h608 v608 X608 K608 hQ608
            obtain rfl := hQ608
            show OGo _ _ _ _ T608 (mkF m 384 #[.val (.int pa), .val (.int pb), .val (.int pc_), .val (.int pd), .val (.int ps), .val (.int 4), .val (.int fl), .val (.int r2), .val (.int r5), .val (.int r8), .val (.int r11), .val (.ref b483), .val (.ref b493), .val (.int 0), .val (.int 0), .val (.int 1), .val (.int 1), .val (.int r2)] [(.int (own_eq1 r2 r2))])
            refine own_retZ X608 at_384 hret (own_zb (Or.inr (show (own_eq1 r2 r2) = 1 from if_pos rfl))).1 (by decide) (by decide) ?_
            rw [own_eq1, if_pos rfl]
        · -- the ways to it
          intro J521
          refine og_iload X517 224 at_222 rfl rfl ?_
          refine og_iconst X517 225 (3 : Int32) at_224 rfl rfl ?_
          refine og_icmpN X517 228 at_225 (XT.ii_le_f (by decide)) rfl ?_
          refine og_iload X517 230 at_228 rfl rfl ?_
          refine own_stat X517 233 (argsL := [(.int r11)]) (rest := []) at_230 (rm19 l Z a0 hw n0 h517 hWd [] X517.old r11  ) (ow hw 99 rfl) (ow hw 100 rfl) (ow hw 2 rfl) (ow hw 101 rfl) (by decide) (lenOf pd__28C_29Z rfl) rfl rfl rfl (W := 0) rfl (by decide) (by decide) (by decide) (by decide) all0 rfl ?_
          intro T609 h609 v609 X609 K609 hQ609
          obtain rfl := hQ609
          show OGo _ _ _ _ T609 (mkF m 233 #[.val (.int pa), .val (.int pb), .val (.int pc_), .val (.int pd), .val (.int ps), .val (.int 4), .val (.int fl), .val (.int r2), .val (.int r5), .val (.int r8), .val (.int r11), .val (.ref b483), .val (.ref b493), .val (.int 0), .val (.int 4), .unset, .unset, .unset] [(.int (own_ws r11))])
          by_cases hc610 : (own_ws r11) = 0
          · -- (own_ws r11) = 0
            refine og_ifN X609 236 at_233 (XT.i0_ne_f hc610) rfl ?_
            refine og_iconst X609 237 (3 : Int32) at_236 rfl rfl ?_
            refine og_istore X609 239 #[.val (.int pa), .val (.int pb), .val (.int pc_), .val (.int pd), .val (.int ps), .val (.int 4), .val (.int fl), .val (.int r2), .val (.int r5), .val (.int r8), .val (.int r11), .val (.ref b483), .val (.ref b493), .val (.int 0), .val (.int 3), .unset, .unset, .unset] at_237 rfl rfl ?_
            refine og_iload X609 241 at_239 rfl rfl ?_
            refine og_iconst X609 242 (2 : Int32) at_241 rfl rfl ?_
            refine og_icmpN X609 245 at_242 (XT.ii_le_f (by decide)) rfl ?_
            refine og_iload X609 247 at_245 rfl rfl ?_
            refine own_stat X609 250 (argsL := [(.int r8)]) (rest := []) at_247 (rm19 l Z a0 hw n0 h609 hWd [] X609.old r8  ) (ow hw 99 rfl) (ow hw 100 rfl) (ow hw 2 rfl) (ow hw 101 rfl) (by decide) (lenOf pd__28C_29Z rfl) rfl rfl rfl (W := 0) rfl (by decide) (by decide) (by decide) (by decide) all0 rfl ?_
            intro T611 h611 v611 X611 K611 hQ611
            obtain rfl := hQ611
            show OGo _ _ _ _ T611 (mkF m 250 #[.val (.int pa), .val (.int pb), .val (.int pc_), .val (.int pd), .val (.int ps), .val (.int 4), .val (.int fl), .val (.int r2), .val (.int r5), .val (.int r8), .val (.int r11), .val (.ref b483), .val (.ref b493), .val (.int 0), .val (.int 3), .unset, .unset, .unset] [(.int (own_ws r8))])
            by_cases hc612 : (own_ws r8) = 0
            · -- (own_ws r8) = 0
              refine og_ifN X611 253 at_250 (XT.i0_ne_f hc612) rfl ?_
              refine og_iconst X611 254 (2 : Int32) at_253 rfl rfl ?_
              refine og_istore X611 256 #[.val (.int pa), .val (.int pb), .val (.int pc_), .val (.int pd), .val (.int ps), .val (.int 4), .val (.int fl), .val (.int r2), .val (.int r5), .val (.int r8), .val (.int r11), .val (.ref b483), .val (.ref b493), .val (.int 0), .val (.int 2), .unset, .unset, .unset] at_254 rfl rfl ?_
              refine og_iload X611 258 at_256 rfl rfl ?_
              refine og_iconst X611 259 (1 : Int32) at_258 rfl rfl ?_
              refine og_icmpN X611 262 at_259 (XT.ii_le_f (by decide)) rfl ?_
              refine og_iload X611 264 at_262 rfl rfl ?_
              refine own_stat X611 267 (argsL := [(.int r5)]) (rest := []) at_264 (rm19 l Z a0 hw n0 h611 hWd [] X611.old r5  ) (ow hw 99 rfl) (ow hw 100 rfl) (ow hw 2 rfl) (ow hw 101 rfl) (by decide) (lenOf pd__28C_29Z rfl) rfl rfl rfl (W := 0) rfl (by decide) (by decide) (by decide) (by decide) all0 rfl ?_
              intro T613 h613 v613 X613 K613 hQ613
              obtain rfl := hQ613
              show OGo _ _ _ _ T613 (mkF m 267 #[.val (.int pa), .val (.int pb), .val (.int pc_), .val (.int pd), .val (.int ps), .val (.int 4), .val (.int fl), .val (.int r2), .val (.int r5), .val (.int r8), .val (.int r11), .val (.ref b483), .val (.ref b493), .val (.int 0), .val (.int 2), .unset, .unset, .unset] [(.int (own_ws r5))])
              by_cases hc614 : (own_ws r5) = 0
              · -- (own_ws r5) = 0
                refine og_ifN X613 270 at_267 (XT.i0_ne_f hc614) rfl ?_
                refine og_iconst X613 271 (1 : Int32) at_270 rfl rfl ?_
                refine og_istore X613 273 #[.val (.int pa), .val (.int pb), .val (.int pc_), .val (.int pd), .val (.int ps), .val (.int 4), .val (.int fl), .val (.int r2), .val (.int r5), .val (.int r8), .val (.int r11), .val (.ref b483), .val (.ref b493), .val (.int 0), .val (.int 1), .unset, .unset, .unset] at_271 rfl rfl ?_
                refine og_iload X613 275 at_273 rfl rfl ?_
                refine og_ifN X613 278 at_275 (XT.i0_le_f (by decide)) rfl ?_
                refine og_iload X613 280 at_278 rfl rfl ?_
                refine og_ifN X613 283 at_280 (XT.i0_ne_f (by decide)) rfl ?_
                refine og_iload X613 285 at_283 rfl rfl ?_
                refine own_stat X613 288 (argsL := [(.int r2)]) (rest := []) at_285 (rm19 l Z a0 hw n0 h613 hWd [] X613.old r2  ) (ow hw 99 rfl) (ow hw 100 rfl) (ow hw 2 rfl) (ow hw 101 rfl) (by decide) (lenOf pd__28C_29Z rfl) rfl rfl rfl (W := 0) rfl (by decide) (by decide) (by decide) (by decide) all0 rfl ?_
                intro T615 h615 v615 X615 K615 hQ615
                obtain rfl := hQ615
                show OGo _ _ _ _ T615 (mkF m 288 #[.val (.int pa), .val (.int pb), .val (.int pc_), .val (.int pd), .val (.int ps), .val (.int 4), .val (.int fl), .val (.int r2), .val (.int r5), .val (.int r8), .val (.int r11), .val (.ref b483), .val (.ref b493), .val (.int 0), .val (.int 1), .unset, .unset, .unset] [(.int (own_ws r2))])
                by_cases hc616 : (own_ws r2) = 0
                · -- (own_ws r2) = 0
                  refine og_ifN X615 291 at_288 (XT.i0_ne_f hc616) rfl ?_
                  refine og_iconst X615 292 (0 : Int32) at_291 rfl rfl ?_
                  refine og_istore X615 294 #[.val (.int pa), .val (.int pb), .val (.int pc_), .val (.int pd), .val (.int ps), .val (.int 4), .val (.int fl), .val (.int r2), .val (.int r5), .val (.int r8), .val (.int r11), .val (.ref b483), .val (.ref b493), .val (.int 0), .val (.int 0), .unset, .unset, .unset] at_292 rfl rfl ?_
                  exact J521 _ _ X615 (((K609.trans K611 (fun _ q => nomatch q)).trans K613 (fun _ q => nomatch q)).trans K615 (fun _ q => nomatch q)) _ (Or.inr (Or.inr (Or.inr (Or.inr ⟨rfl, hc616⟩))))
                · -- not
                  refine og_ifY X615 294 at_288 (XT.i0_ne_t hc616) (by decide) (by decide) ?_
                  exact J521 _ _ X615 (((K609.trans K611 (fun _ q => nomatch q)).trans K613 (fun _ q => nomatch q)).trans K615 (fun _ q => nomatch q)) _ (Or.inr (Or.inr (Or.inr (Or.inl ⟨rfl, hc616, hc614⟩))))
              · -- not
                refine og_ifY X613 273 at_267 (XT.i0_ne_t hc614) (by decide) (by decide) ?_
                refine og_iload X613 275 at_273 rfl rfl ?_
                refine og_ifN X613 278 at_275 (XT.i0_le_f (by decide)) rfl ?_
                refine og_iload X613 280 at_278 rfl rfl ?_
                refine og_ifN X613 283 at_280 (XT.i0_ne_f (by decide)) rfl ?_
                refine og_iload X613 285 at_283 rfl rfl ?_
                refine own_stat X613 288 (argsL := [(.int r2)]) (rest := []) at_285 (rm19 l Z a0 hw n0 h613 hWd [] X613.old r2  ) (ow hw 99 rfl) (ow hw 100 rfl) (ow hw 2 rfl) (ow hw 101 rfl) (by decide) (lenOf pd__28C_29Z rfl) rfl rfl rfl (W := 0) rfl (by decide) (by decide) (by decide) (by decide) all0 rfl ?_
                intro T617 h617 v617 X617 K617 hQ617
                obtain rfl := hQ617
                show OGo _ _ _ _ T617 (mkF m 288 #[.val (.int pa), .val (.int pb), .val (.int pc_), .val (.int pd), .val (.int ps), .val (.int 4), .val (.int fl), .val (.int r2), .val (.int r5), .val (.int r8), .val (.int r11), .val (.ref b483), .val (.ref b493), .val (.int 0), .val (.int 2), .unset, .unset, .unset] [(.int (own_ws r2))])
                by_cases hc618 : (own_ws r2) = 0
                · -- (own_ws r2) = 0
                  refine og_ifN X617 291 at_288 (XT.i0_ne_f hc618) rfl ?_
                  refine og_iconst X617 292 (0 : Int32) at_291 rfl rfl ?_
                  refine og_istore X617 294 #[.val (.int pa), .val (.int pb), .val (.int pc_), .val (.int pd), .val (.int ps), .val (.int 4), .val (.int fl), .val (.int r2), .val (.int r5), .val (.int r8), .val (.int r11), .val (.ref b483), .val (.ref b493), .val (.int 0), .val (.int 0), .unset, .unset, .unset] at_292 rfl rfl ?_
                  exact J521 _ _ X617 (((K609.trans K611 (fun _ q => nomatch q)).trans K613 (fun _ q => nomatch q)).trans K617 (fun _ q => nomatch q)) _ (Or.inr (Or.inr (Or.inr (Or.inr ⟨rfl, hc618⟩))))
                · -- not
                  refine og_ifY X617 294 at_288 (XT.i0_ne_t hc618) (by decide) (by decide) ?_
                  exact J521 _ _ X617 (((K609.trans K611 (fun _ q => nomatch q)).trans K613 (fun _ q => nomatch q)).trans K617 (fun _ q => nomatch q)) _ (Or.inr (Or.inr (Or.inl ⟨rfl, hc618, hc614, hc612⟩)))
            · -- not
              refine og_ifY X611 256 at_250 (XT.i0_ne_t hc612) (by decide) (by decide) ?_
              refine og_iload X611 258 at_256 rfl rfl ?_
              refine og_iconst X611 259 (1 : Int32) at_258 rfl rfl ?_
              refine og_icmpN X611 262 at_259 (XT.ii_le_f (by decide)) rfl ?_
              refine og_iload X611 264 at_262 rfl rfl ?_
              refine own_stat X611 267 (argsL := [(.int r5)]) (rest := []) at_264 (rm19 l Z a0 hw n0 h611 hWd [] X611.old r5  ) (ow hw 99 rfl) (ow hw 100 rfl) (ow hw 2 rfl) (ow hw 101 rfl) (by decide) (lenOf pd__28C_29Z rfl) rfl rfl rfl (W := 0) rfl (by decide) (by decide) (by decide) (by decide) all0 rfl ?_
              intro T619 h619 v619 X619 K619 hQ619
              obtain rfl := hQ619
              show OGo _ _ _ _ T619 (mkF m 267 #[.val (.int pa), .val (.int pb), .val (.int pc_), .val (.int pd), .val (.int ps), .val (.int 4), .val (.int fl), .val (.int r2), .val (.int r5), .val (.int r8), .val (.int r11), .val (.ref b483), .val (.ref b493), .val (.int 0), .val (.int 3), .unset, .unset, .unset] [(.int (own_ws r5))])
              by_cases hc620 : (own_ws r5) = 0
              · -- (own_ws r5) = 0
                refine og_ifN X619 270 at_267 (XT.i0_ne_f hc620) rfl ?_
                refine og_iconst X619 271 (1 : Int32) at_270 rfl rfl ?_
                refine og_istore X619 273 #[.val (.int pa), .val (.int pb), .val (.int pc_), .val (.int pd), .val (.int ps), .val (.int 4), .val (.int fl), .val (.int r2), .val (.int r5), .val (.int r8), .val (.int r11), .val (.ref b483), .val (.ref b493), .val (.int 0), .val (.int 1), .unset, .unset, .unset] at_271 rfl rfl ?_
                refine og_iload X619 275 at_273 rfl rfl ?_
                refine og_ifN X619 278 at_275 (XT.i0_le_f (by decide)) rfl ?_
                refine og_iload X619 280 at_278 rfl rfl ?_
                refine og_ifN X619 283 at_280 (XT.i0_ne_f (by decide)) rfl ?_
                refine og_iload X619 285 at_283 rfl rfl ?_
                refine own_stat X619 288 (argsL := [(.int r2)]) (rest := []) at_285 (rm19 l Z a0 hw n0 h619 hWd [] X619.old r2  ) (ow hw 99 rfl) (ow hw 100 rfl) (ow hw 2 rfl) (ow hw 101 rfl) (by decide) (lenOf pd__28C_29Z rfl) rfl rfl rfl (W := 0) rfl (by decide) (by decide) (by decide) (by decide) all0 rfl ?_
                intro T621 h621 v621 X621 K621 hQ621
                obtain rfl := hQ621
                show OGo _ _ _ _ T621 (mkF m 288 #[.val (.int pa), .val (.int pb), .val (.int pc_), .val (.int pd), .val (.int ps), .val (.int 4), .val (.int fl), .val (.int r2), .val (.int r5), .val (.int r8), .val (.int r11), .val (.ref b483), .val (.ref b493), .val (.int 0), .val (.int 1), .unset, .unset, .unset] [(.int (own_ws r2))])
                by_cases hc622 : (own_ws r2) = 0
                · -- (own_ws r2) = 0
                  refine og_ifN X621 291 at_288 (XT.i0_ne_f hc622) rfl ?_
                  refine og_iconst X621 292 (0 : Int32) at_291 rfl rfl ?_
                  refine og_istore X621 294 #[.val (.int pa), .val (.int pb), .val (.int pc_), .val (.int pd), .val (.int ps), .val (.int 4), .val (.int fl), .val (.int r2), .val (.int r5), .val (.int r8), .val (.int r11), .val (.ref b483), .val (.ref b493), .val (.int 0), .val (.int 0), .unset, .unset, .unset] at_292 rfl rfl ?_
                  exact J521 _ _ X621 (((K609.trans K611 (fun _ q => nomatch q)).trans K619 (fun _ q => nomatch q)).trans K621 (fun _ q => nomatch q)) _ (Or.inr (Or.inr (Or.inr (Or.inr ⟨rfl, hc622⟩))))
                · -- not
                  refine og_ifY X621 294 at_288 (XT.i0_ne_t hc622) (by decide) (by decide) ?_
                  exact J521 _ _ X621 (((K609.trans K611 (fun _ q => nomatch q)).trans K619 (fun _ q => nomatch q)).trans K621 (fun _ q => nomatch q)) _ (Or.inr (Or.inr (Or.inr (Or.inl ⟨rfl, hc622, hc620⟩))))
              · -- not
                refine og_ifY X619 273 at_267 (XT.i0_ne_t hc620) (by decide) (by decide) ?_
                refine og_iload X619 275 at_273 rfl rfl ?_
                refine og_ifN X619 278 at_275 (XT.i0_le_f (by decide)) rfl ?_
                refine og_iload X619 280 at_278 rfl rfl ?_
                refine og_ifN X619 283 at_280 (XT.i0_ne_f (by decide)) rfl ?_
                refine og_iload X619 285 at_283 rfl rfl ?_
                refine own_stat X619 288 (argsL := [(.int r2)]) (rest := []) at_285 (rm19 l Z a0 hw n0 h619 hWd [] X619.old r2  ) (ow hw 99 rfl) (ow hw 100 rfl) (ow hw 2 rfl) (ow hw 101 rfl) (by decide) (lenOf pd__28C_29Z rfl) rfl rfl rfl (W := 0) rfl (by decide) (by decide) (by decide) (by decide) all0 rfl ?_
                intro T623 h623 v623 X623 K623 hQ623
                obtain rfl := hQ623
                show OGo _ _ _ _ T623 (mkF m 288 #[.val (.int pa), .val (.int pb), .val (.int pc_), .val (.int pd), .val (.int ps), .val (.int 4), .val (.int fl), .val (.int r2), .val (.int r5), .val (.int r8), .val (.int r11), .val (.ref b483), .val (.ref b493), .val (.int 0), .val (.int 3), .unset, .unset, .unset] [(.int (own_ws r2))])
                by_cases hc624 : (own_ws r2) = 0
                · -- (own_ws r2) = 0
                  refine og_ifN X623 291 at_288 (XT.i0_ne_f hc624) rfl ?_
                  refine og_iconst X623 292 (0 : Int32) at_291 rfl rfl ?_
                  refine og_istore X623 294 #[.val (.int pa), .val (.int pb), .val (.int pc_), .val (.int pd), .val (.int ps), .val (.int 4), .val (.int fl), .val (.int r2), .val (.int r5), .val (.int r8), .val (.int r11), .val (.ref b483), .val (.ref b493), .val (.int 0), .val (.int 0), .unset, .unset, .unset] at_292 rfl rfl ?_
                  exact J521 _ _ X623 (((K609.trans K611 (fun _ q => nomatch q)).trans K619 (fun _ q => nomatch q)).trans K623 (fun _ q => nomatch q)) _ (Or.inr (Or.inr (Or.inr (Or.inr ⟨rfl, hc624⟩))))
                · -- not
                  refine og_ifY X623 294 at_288 (XT.i0_ne_t hc624) (by decide) (by decide) ?_
                  exact J521 _ _ X623 (((K609.trans K611 (fun _ q => nomatch q)).trans K619 (fun _ q => nomatch q)).trans K623 (fun _ q => nomatch q)) _ (Or.inr (Or.inl ⟨rfl, hc624, hc620, hc612, hc610⟩))
          · -- not
            refine og_ifY X609 239 at_233 (XT.i0_ne_t hc610) (by decide) (by decide) ?_
            refine og_iload X609 241 at_239 rfl rfl ?_
            refine og_iconst X609 242 (2 : Int32) at_241 rfl rfl ?_
            refine og_icmpN X609 245 at_242 (XT.ii_le_f (by decide)) rfl ?_
            refine og_iload X609 247 at_245 rfl rfl ?_
            refine own_stat X609 250 (argsL := [(.int r8)]) (rest := []) at_247 (rm19 l Z a0 hw n0 h609 hWd [] X609.old r8  ) (ow hw 99 rfl) (ow hw 100 rfl) (ow hw 2 rfl) (ow hw 101 rfl) (by decide) (lenOf pd__28C_29Z rfl) rfl rfl rfl (W := 0) rfl (by decide) (by decide) (by decide) (by decide) all0 rfl ?_
            intro T625 h625 v625 X625 K625 hQ625
            obtain rfl := hQ625
            show OGo _ _ _ _ T625 (mkF m 250 #[.val (.int pa), .val (.int pb), .val (.int pc_), .val (.int pd), .val (.int ps), .val (.int 4), .val (.int fl), .val (.int r2), .val (.int r5), .val (.int r8), .val (.int r11), .val (.ref b483), .val (.ref b493), .val (.int 0), .val (.int 4), .unset, .unset, .unset] [(.int (own_ws r8))])
            by_cases hc626 : (own_ws r8) = 0
            · -- (own_ws r8) = 0
              refine og_ifN X625 253 at_250 (XT.i0_ne_f hc626) rfl ?_
              refine og_iconst X625 254 (2 : Int32) at_253 rfl rfl ?_
              refine og_istore X625 256 #[.val (.int pa), .val (.int pb), .val (.int pc_), .val (.int pd), .val (.int ps), .val (.int 4), .val (.int fl), .val (.int r2), .val (.int r5), .val (.int r8), .val (.int r11), .val (.ref b483), .val (.ref b493), .val (.int 0), .val (.int 2), .unset, .unset, .unset] at_254 rfl rfl ?_
              refine og_iload X625 258 at_256 rfl rfl ?_
              refine og_iconst X625 259 (1 : Int32) at_258 rfl rfl ?_
              refine og_icmpN X625 262 at_259 (XT.ii_le_f (by decide)) rfl ?_
              refine og_iload X625 264 at_262 rfl rfl ?_
              refine own_stat X625 267 (argsL := [(.int r5)]) (rest := []) at_264 (rm19 l Z a0 hw n0 h625 hWd [] X625.old r5  ) (ow hw 99 rfl) (ow hw 100 rfl) (ow hw 2 rfl) (ow hw 101 rfl) (by decide) (lenOf pd__28C_29Z rfl) rfl rfl rfl (W := 0) rfl (by decide) (by decide) (by decide) (by decide) all0 rfl ?_
              intro T627 h627 v627 X627 K627 hQ627
              obtain rfl := hQ627
              show OGo _ _ _ _ T627 (mkF m 267 #[.val (.int pa), .val (.int pb), .val (.int pc_), .val (.int pd), .val (.int ps), .val (.int 4), .val (.int fl), .val (.int r2), .val (.int r5), .val (.int r8), .val (.int r11), .val (.ref b483), .val (.ref b493), .val (.int 0), .val (.int 2), .unset, .unset, .unset] [(.int (own_ws r5))])
              by_cases hc628 : (own_ws r5) = 0
              · -- (own_ws r5) = 0
                refine og_ifN X627 270 at_267 (XT.i0_ne_f hc628) rfl ?_
                refine og_iconst X627 271 (1 : Int32) at_270 rfl rfl ?_
                refine og_istore X627 273 #[.val (.int pa), .val (.int pb), .val (.int pc_), .val (.int pd), .val (.int ps), .val (.int 4), .val (.int fl), .val (.int r2), .val (.int r5), .val (.int r8), .val (.int r11), .val (.ref b483), .val (.ref b493), .val (.int 0), .val (.int 1), .unset, .unset, .unset] at_271 rfl rfl ?_
                refine og_iload X627 275 at_273 rfl rfl ?_
                refine og_ifN X627 278 at_275 (XT.i0_le_f (by decide)) rfl ?_
                refine og_iload X627 280 at_278 rfl rfl ?_
                refine og_ifN X627 283 at_280 (XT.i0_ne_f (by decide)) rfl ?_
                refine og_iload X627 285 at_283 rfl rfl ?_
                refine own_stat X627 288 (argsL := [(.int r2)]) (rest := []) at_285 (rm19 l Z a0 hw n0 h627 hWd [] X627.old r2  ) (ow hw 99 rfl) (ow hw 100 rfl) (ow hw 2 rfl) (ow hw 101 rfl) (by decide) (lenOf pd__28C_29Z rfl) rfl rfl rfl (W := 0) rfl (by decide) (by decide) (by decide) (by decide) all0 rfl ?_
                intro T629 h629 v629 X629 K629 hQ629
                obtain rfl := hQ629
                show OGo _ _ _ _ T629 (mkF m 288 #[.val (.int pa), .val (.int pb), .val (.int pc_), .val (.int pd), .val (.int ps), .val (.int 4), .val (.int fl), .val (.int r2), .val (.int r5), .val (.int r8), .val (.int r11), .val (.ref b483), .val (.ref b493), .val (.int 0), .val (.int 1), .unset, .unset, .unset] [(.int (own_ws r2))])
                by_cases hc630 : (own_ws r2) = 0
                · -- (own_ws r2) = 0
                  refine og_ifN X629 291 at_288 (XT.i0_ne_f hc630) rfl ?_
                  refine og_iconst X629 292 (0 : Int32) at_291 rfl rfl ?_
                  refine og_istore X629 294 #[.val (.int pa), .val (.int pb), .val (.int pc_), .val (.int pd), .val (.int ps), .val (.int 4), .val (.int fl), .val (.int r2), .val (.int r5), .val (.int r8), .val (.int r11), .val (.ref b483), .val (.ref b493), .val (.int 0), .val (.int 0), .unset, .unset, .unset] at_292 rfl rfl ?_
                  exact J521 _ _ X629 (((K609.trans K625 (fun _ q => nomatch q)).trans K627 (fun _ q => nomatch q)).trans K629 (fun _ q => nomatch q)) _ (Or.inr (Or.inr (Or.inr (Or.inr ⟨rfl, hc630⟩))))
                · -- not
                  refine og_ifY X629 294 at_288 (XT.i0_ne_t hc630) (by decide) (by decide) ?_
                  exact J521 _ _ X629 (((K609.trans K625 (fun _ q => nomatch q)).trans K627 (fun _ q => nomatch q)).trans K629 (fun _ q => nomatch q)) _ (Or.inr (Or.inr (Or.inr (Or.inl ⟨rfl, hc630, hc628⟩))))
              · -- not
                refine og_ifY X627 273 at_267 (XT.i0_ne_t hc628) (by decide) (by decide) ?_
                refine og_iload X627 275 at_273 rfl rfl ?_
                refine og_ifN X627 278 at_275 (XT.i0_le_f (by decide)) rfl ?_
                refine og_iload X627 280 at_278 rfl rfl ?_
                refine og_ifN X627 283 at_280 (XT.i0_ne_f (by decide)) rfl ?_
                refine og_iload X627 285 at_283 rfl rfl ?_
                refine own_stat X627 288 (argsL := [(.int r2)]) (rest := []) at_285 (rm19 l Z a0 hw n0 h627 hWd [] X627.old r2  ) (ow hw 99 rfl) (ow hw 100 rfl) (ow hw 2 rfl) (ow hw 101 rfl) (by decide) (lenOf pd__28C_29Z rfl) rfl rfl rfl (W := 0) rfl (by decide) (by decide) (by decide) (by decide) all0 rfl ?_
                intro T631 h631 v631 X631 K631 hQ631
                obtain rfl := hQ631
                show OGo _ _ _ _ T631 (mkF m 288 #[.val (.int pa), .val (.int pb), .val (.int pc_), .val (.int pd), .val (.int ps), .val (.int 4), .val (.int fl), .val (.int r2), .val (.int r5), .val (.int r8), .val (.int r11), .val (.ref b483), .val (.ref b493), .val (.int 0), .val (.int 2), .unset, .unset, .unset] [(.int (own_ws r2))])
                by_cases hc632 : (own_ws r2) = 0
                · -- (own_ws r2) = 0
                  refine og_ifN X631 291 at_288 (XT.i0_ne_f hc632) rfl ?_
                  refine og_iconst X631 292 (0 : Int32) at_291 rfl rfl ?_
                  refine og_istore X631 294 #[.val (.int pa), .val (.int pb), .val (.int pc_), .val (.int pd), .val (.int ps), .val (.int 4), .val (.int fl), .val (.int r2), .val (.int r5), .val (.int r8), .val (.int r11), .val (.ref b483), .val (.ref b493), .val (.int 0), .val (.int 0), .unset, .unset, .unset] at_292 rfl rfl ?_
                  exact J521 _ _ X631 (((K609.trans K625 (fun _ q => nomatch q)).trans K627 (fun _ q => nomatch q)).trans K631 (fun _ q => nomatch q)) _ (Or.inr (Or.inr (Or.inr (Or.inr ⟨rfl, hc632⟩))))
                · -- not
                  refine og_ifY X631 294 at_288 (XT.i0_ne_t hc632) (by decide) (by decide) ?_
                  exact J521 _ _ X631 (((K609.trans K625 (fun _ q => nomatch q)).trans K627 (fun _ q => nomatch q)).trans K631 (fun _ q => nomatch q)) _ (Or.inr (Or.inr (Or.inl ⟨rfl, hc632, hc628, hc626⟩)))
            · -- not
              refine og_ifY X625 256 at_250 (XT.i0_ne_t hc626) (by decide) (by decide) ?_
              refine og_iload X625 258 at_256 rfl rfl ?_
              refine og_iconst X625 259 (1 : Int32) at_258 rfl rfl ?_
              refine og_icmpN X625 262 at_259 (XT.ii_le_f (by decide)) rfl ?_
              refine og_iload X625 264 at_262 rfl rfl ?_
              refine own_stat X625 267 (argsL := [(.int r5)]) (rest := []) at_264 (rm19 l Z a0 hw n0 h625 hWd [] X625.old r5  ) (ow hw 99 rfl) (ow hw 100 rfl) (ow hw 2 rfl) (ow hw 101 rfl) (by decide) (lenOf pd__28C_29Z rfl) rfl rfl rfl (W := 0) rfl (by decide) (by decide) (by decide) (by decide) all0 rfl ?_
              intro T633 h633 v633 X633 K633 hQ633
              obtain rfl := hQ633
              show OGo _ _ _ _ T633 (mkF m 267 #[.val (.int pa), .val (.int pb), .val (.int pc_), .val (.int pd), .val (.int ps), .val (.int 4), .val (.int fl), .val (.int r2), .val (.int r5), .val (.int r8), .val (.int r11), .val (.ref b483), .val (.ref b493), .val (.int 0), .val (.int 4), .unset, .unset, .unset] [(.int (own_ws r5))])
              by_cases hc634 : (own_ws r5) = 0
              · -- (own_ws r5) = 0
                refine og_ifN X633 270 at_267 (XT.i0_ne_f hc634) rfl ?_
                refine og_iconst X633 271 (1 : Int32) at_270 rfl rfl ?_
                refine og_istore X633 273 #[.val (.int pa), .val (.int pb), .val (.int pc_), .val (.int pd), .val (.int ps), .val (.int 4), .val (.int fl), .val (.int r2), .val (.int r5), .val (.int r8), .val (.int r11), .val (.ref b483), .val (.ref b493), .val (.int 0), .val (.int 1), .unset, .unset, .unset] at_271 rfl rfl ?_
                refine og_iload X633 275 at_273 rfl rfl ?_
                refine og_ifN X633 278 at_275 (XT.i0_le_f (by decide)) rfl ?_
                refine og_iload X633 280 at_278 rfl rfl ?_
                refine og_ifN X633 283 at_280 (XT.i0_ne_f (by decide)) rfl ?_
                refine og_iload X633 285 at_283 rfl rfl ?_
                refine own_stat X633 288 (argsL := [(.int r2)]) (rest := []) at_285 (rm19 l Z a0 hw n0 h633 hWd [] X633.old r2  ) (ow hw 99 rfl) (ow hw 100 rfl) (ow hw 2 rfl) (ow hw 101 rfl) (by decide) (lenOf pd__28C_29Z rfl) rfl rfl rfl (W := 0) rfl (by decide) (by decide) (by decide) (by decide) all0 rfl ?_
                intro T635 h635 v635 X635 K635 hQ635
                obtain rfl := hQ635
                show OGo _ _ _ _ T635 (mkF m 288 #[.val (.int pa), .val (.int pb), .val (.int pc_), .val (.int pd), .val (.int ps), .val (.int 4), .val (.int fl), .val (.int r2), .val (.int r5), .val (.int r8), .val (.int r11), .val (.ref b483), .val (.ref b493), .val (.int 0), .val (.int 1), .unset, .unset, .unset] [(.int (own_ws r2))])
                by_cases hc636 : (own_ws r2) = 0
                · -- (own_ws r2) = 0
                  refine og_ifN X635 291 at_288 (XT.i0_ne_f hc636) rfl ?_
                  refine og_iconst X635 292 (0 : Int32) at_291 rfl rfl ?_
                  refine og_istore X635 294 #[.val (.int pa), .val (.int pb), .val (.int pc_), .val (.int pd), .val (.int ps), .val (.int 4), .val (.int fl), .val (.int r2), .val (.int r5), .val (.int r8), .val (.int r11), .val (.ref b483), .val (.ref b493), .val (.int 0), .val (.int 0), .unset, .unset, .unset] at_292 rfl rfl ?_
                  exact J521 _ _ X635 (((K609.trans K625 (fun _ q => nomatch q)).trans K633 (fun _ q => nomatch q)).trans K635 (fun _ q => nomatch q)) _ (Or.inr (Or.inr (Or.inr (Or.inr ⟨rfl, hc636⟩))))
                · -- not
                  refine og_ifY X635 294 at_288 (XT.i0_ne_t hc636) (by decide) (by decide) ?_
                  exact J521 _ _ X635 (((K609.trans K625 (fun _ q => nomatch q)).trans K633 (fun _ q => nomatch q)).trans K635 (fun _ q => nomatch q)) _ (Or.inr (Or.inr (Or.inr (Or.inl ⟨rfl, hc636, hc634⟩))))
              · -- not
                refine og_ifY X633 273 at_267 (XT.i0_ne_t hc634) (by decide) (by decide) ?_
                refine og_iload X633 275 at_273 rfl rfl ?_
                refine og_ifN X633 278 at_275 (XT.i0_le_f (by decide)) rfl ?_
                refine og_iload X633 280 at_278 rfl rfl ?_
                refine og_ifN X633 283 at_280 (XT.i0_ne_f (by decide)) rfl ?_
                refine og_iload X633 285 at_283 rfl rfl ?_
                refine own_stat X633 288 (argsL := [(.int r2)]) (rest := []) at_285 (rm19 l Z a0 hw n0 h633 hWd [] X633.old r2  ) (ow hw 99 rfl) (ow hw 100 rfl) (ow hw 2 rfl) (ow hw 101 rfl) (by decide) (lenOf pd__28C_29Z rfl) rfl rfl rfl (W := 0) rfl (by decide) (by decide) (by decide) (by decide) all0 rfl ?_
                intro T637 h637 v637 X637 K637 hQ637
                obtain rfl := hQ637
                show OGo _ _ _ _ T637 (mkF m 288 #[.val (.int pa), .val (.int pb), .val (.int pc_), .val (.int pd), .val (.int ps), .val (.int 4), .val (.int fl), .val (.int r2), .val (.int r5), .val (.int r8), .val (.int r11), .val (.ref b483), .val (.ref b493), .val (.int 0), .val (.int 4), .unset, .unset, .unset] [(.int (own_ws r2))])
                by_cases hc638 : (own_ws r2) = 0
                · -- (own_ws r2) = 0
                  refine og_ifN X637 291 at_288 (XT.i0_ne_f hc638) rfl ?_
                  refine og_iconst X637 292 (0 : Int32) at_291 rfl rfl ?_
                  refine og_istore X637 294 #[.val (.int pa), .val (.int pb), .val (.int pc_), .val (.int pd), .val (.int ps), .val (.int 4), .val (.int fl), .val (.int r2), .val (.int r5), .val (.int r8), .val (.int r11), .val (.ref b483), .val (.ref b493), .val (.int 0), .val (.int 0), .unset, .unset, .unset] at_292 rfl rfl ?_
                  exact J521 _ _ X637 (((K609.trans K625 (fun _ q => nomatch q)).trans K633 (fun _ q => nomatch q)).trans K637 (fun _ q => nomatch q)) _ (Or.inr (Or.inr (Or.inr (Or.inr ⟨rfl, hc638⟩))))
                · -- not
                  refine og_ifY X637 294 at_288 (XT.i0_ne_t hc638) (by decide) (by decide) ?_
                  exact J521 _ _ X637 (((K609.trans K625 (fun _ q => nomatch q)).trans K633 (fun _ q => nomatch q)).trans K637 (fun _ q => nomatch q)) _ (Or.inl ⟨rfl, hc638, hc634, hc626, hc610⟩)
      · -- not
        refine og_ifN X517 184 at_181 (XT.i0_eq_f hc520) rfl ?_
        refine og_aload X517 186 at_184 rfl rfl rfl ?_
        refine og_iload X517 188 at_186 rfl rfl ?_
        have f639 := f507.keep K517
        have f640 := f503.keep K504 all0
        have f641 := f640.keep K517 (allS (Or.inr ⟨_, _, _, f507, by decide, (ow hw 7 rfl)⟩) all0)
        refine own_virt X517 191 (a := b493) (argsL := [(.int r2)]) (rest := []) at_188 f639 (fun _ hZ => notFace_of_selects (args := #[]) (mvT hZ (ow hw 70 rfl))) (rm_tkI l Z a0 hw n0 h517 hWd [] X517.old b493 b497 0 [r2, r5, r8, r11] r2 f639 f518 f519 f641.top (Nat.le_of_ble_eq_true rfl) rfl (own_svb X517 (om 1 rfl))) (ow hw 67 rfl) (ow hw 68 rfl) (ow hw 70 rfl) (ow hw 69 rfl) (ow hw 8 rfl) (ow hw 71 rfl) (by decide) (lenOf pd__28C_29Z rfl) rfl rfl rfl (W := 0) rfl (by decide) (by decide) (by decide) (by decide) (allS (om 1 rfl) all0) rfl ?_
        intro T642 h642 v642 X642 K642 hQ642
        obtain ⟨rfl, f643, f644⟩ := hQ642
        show OGo _ _ _ _ T642 (mkF m 191 #[.val (.int pa), .val (.int pb), .val (.int pc_), .val (.int pd), .val (.int ps), .val (.int 4), .val (.int fl), .val (.int r2), .val (.int r5), .val (.int r8), .val (.int r11), .val (.ref b483), .val (.ref b493), .val (.int 0), .unset, .unset, .unset, .unset] [(.int 1)])
        refine og_istore X642 193 #[.val (.int pa), .val (.int pb), .val (.int pc_), .val (.int pd), .val (.int ps), .val (.int 4), .val (.int fl), .val (.int r2), .val (.int r5), .val (.int r8), .val (.int r11), .val (.ref b483), .val (.ref b493), .val (.int 0), .val (.int 1), .unset, .unset, .unset] at_191 rfl rfl ?_
        refine og_iload X642 195 at_193 rfl rfl ?_
        refine og_iload X642 197 at_195 rfl rfl ?_
        refine og_ifN X642 200 at_197 (XT.i0_le_f (by decide)) rfl ?_
        refine og_iconst X642 201 (1 : Int32) at_200 rfl rfl ?_
        refine og_goto X642 205 at_201 (by decide) (by decide) ?_
        refine og_icmpY X642 210 at_205 (XT.ii_eq_t (by decide)) (by decide) (by decide) ?_
        refine og_iload X642 212 at_210 rfl rfl ?_
        refine og_ifN X642 215 at_212 (XT.i0_le_f (by decide)) rfl ?_
        refine og_iconst X642 216 (1 : Int32) at_215 rfl rfl ?_
        refine og_istore X642 218 #[.val (.int pa), .val (.int pb), .val (.int pc_), .val (.int pd), .val (.int ps), .val (.int 4), .val (.int fl), .val (.int r2), .val (.int r5), .val (.int r8), .val (.int r11), .val (.ref b483), .val (.ref b493), .val (.int 1), .val (.int 1), .unset, .unset, .unset] at_216 rfl rfl ?_
        refine og_iload X642 220 at_218 rfl rfl ?_
        refine og_istore X642 222 #[.val (.int pa), .val (.int pb), .val (.int pc_), .val (.int pd), .val (.int ps), .val (.int 4), .val (.int fl), .val (.int r2), .val (.int r5), .val (.int r8), .val (.int r11), .val (.ref b483), .val (.ref b493), .val (.int 1), .val (.int 4), .unset, .unset, .unset] at_220 rfl rfl ?_
        refine own_cut X642 294 (fun (kw : Int32) => #[.val (.int pa), .val (.int pb), .val (.int pc_), .val (.int pd), .val (.int ps), .val (.int 4), .val (.int fl), .val (.int r2), .val (.int r5), .val (.int r8), .val (.int r11), .val (.ref b483), .val (.ref b493), .val (.int 1), .val (.int kw), .unset, .unset, .unset]) (fun _ => []) (fun kw => (kw = 4 ∧ ¬ (own_ws r5) = 0 ∧ ¬ (own_ws r8) = 0 ∧ ¬ (own_ws r11) = 0) ∨ (kw = 3 ∧ ¬ (own_ws r5) = 0 ∧ ¬ (own_ws r8) = 0 ∧ (own_ws r11) = 0) ∨ (kw = 2 ∧ ¬ (own_ws r5) = 0 ∧ (own_ws r8) = 0) ∨ (kw = 1 ∧ (own_ws r5) = 0)) ?_ ?_
        · -- the common ways on
          intro T645 h645 X645 K645 kw ok645
          rcases ok645 with ⟨rfl, ck0, ck1, ck2⟩ | ⟨rfl, ck0, ck1, ck2⟩ | ⟨rfl, ck0, ck1⟩ | ⟨rfl, ck0⟩
          · -- 4
            show OGo _ _ _ _ T645 (mkF m 294 #[.val (.int pa), .val (.int pb), .val (.int pc_), .val (.int pd), .val (.int ps), .val (.int 4), .val (.int fl), .val (.int r2), .val (.int r5), .val (.int r8), .val (.int r11), .val (.ref b483), .val (.ref b493), .val (.int 1), .val (.int 4), .unset, .unset, .unset] [])
            refine og_aload X645 296 at_294 rfl rfl rfl ?_
            have f646 := f639.keep K642
            have f647 := f646.keep K645
            have f648 := f643.keep K645 nin0
            have f649 := f644.keep K645 nin0
            have f650 := f641.keep K642 (allS (Or.inr ⟨_, _, _, f639, by decide, (ow hw 7 rfl)⟩) all0)
            have f651 := f650.keep K645 all0
            refine own_virt X645 299 (a := b493) (argsL := []) (rest := []) at_296 f647 (fun _ hZ => notFace_of_selects (args := #[]) (mvT hZ (ow hw 42 rfl))) (rm_skE l Z a0 hw n0 h645 hWd [] X645.old b493 b497 1 4 [r2, r5, r8, r11] f647 f648 f649 f651.top (by simp [own_skip, own_w1 ck0, own_w1 ck1, own_w1 ck2]) (Nat.le_of_ble_eq_true rfl) rfl (own_svb X645 (om 1 rfl))) (ow hw 39 rfl) (ow hw 40 rfl) (ow hw 42 rfl) (ow hw 41 rfl) (ow hw 8 rfl) (ow hw 43 rfl) (by decide) (lenOf pd__28_29Z rfl) rfl rfl rfl (W := 0) rfl (by decide) (by decide) (by decide) (by decide) (allS (om 1 rfl) all0) rfl ?_
            intro T652 h652 v652 X652 K652 hQ652
            obtain ⟨rfl, f653, f654⟩ := hQ652
            show OGo _ _ _ _ T652 (mkF m 299 #[.val (.int pa), .val (.int pb), .val (.int pc_), .val (.int pd), .val (.int ps), .val (.int 4), .val (.int fl), .val (.int r2), .val (.int r5), .val (.int r8), .val (.int r11), .val (.ref b483), .val (.ref b493), .val (.int 1), .val (.int 4), .unset, .unset, .unset] [(.int 0)])
            refine og_istore X652 301 #[.val (.int pa), .val (.int pb), .val (.int pc_), .val (.int pd), .val (.int ps), .val (.int 4), .val (.int fl), .val (.int r2), .val (.int r5), .val (.int r8), .val (.int r11), .val (.ref b483), .val (.ref b493), .val (.int 1), .val (.int 4), .val (.int 0), .unset, .unset] at_299 rfl rfl ?_
            refine og_aload X652 303 at_301 rfl rfl rfl ?_
            have f655 := f647.keep K652
            have f656 := f651.keep K652 (allS (Or.inr ⟨_, _, _, f647, by decide, (ow hw 7 rfl)⟩) all0)
            refine own_virt X652 306 (a := b493) (argsL := []) (rest := []) at_303 f655 (fun _ hZ => notFace_of_selects (args := #[]) (mvT hZ (ow hw 42 rfl))) (rm_skE l Z a0 hw n0 h652 hWd [] X652.old b493 b497 4 4 [r2, r5, r8, r11] f655 f653 f654 f656.top (by simp [own_skip, own_w1 ck0, own_w1 ck1, own_w1 ck2]) (Nat.le_of_ble_eq_true rfl) rfl (own_svb X652 (om 1 rfl))) (ow hw 39 rfl) (ow hw 40 rfl) (ow hw 42 rfl) (ow hw 41 rfl) (ow hw 8 rfl) (ow hw 43 rfl) (by decide) (lenOf pd__28_29Z rfl) rfl rfl rfl (W := 0) rfl (by decide) (by decide) (by decide) (by decide) (allS (om 1 rfl) all0) rfl ?_
            intro T657 h657 v657 X657 K657 hQ657
            obtain ⟨rfl, f658, f659⟩ := hQ657
            show OGo _ _ _ _ T657 (mkF m 306 #[.val (.int pa), .val (.int pb), .val (.int pc_), .val (.int pd), .val (.int ps), .val (.int 4), .val (.int fl), .val (.int r2), .val (.int r5), .val (.int r8), .val (.int r11), .val (.ref b483), .val (.ref b493), .val (.int 1), .val (.int 4), .val (.int 0), .unset, .unset] [(.int 0)])
            refine og_istore X657 308 #[.val (.int pa), .val (.int pb), .val (.int pc_), .val (.int pd), .val (.int ps), .val (.int 4), .val (.int fl), .val (.int r2), .val (.int r5), .val (.int r8), .val (.int r11), .val (.ref b483), .val (.ref b493), .val (.int 1), .val (.int 4), .val (.int 0), .val (.int 0), .unset] at_306 rfl rfl ?_
            refine og_iload X657 310 at_308 rfl rfl ?_
            refine og_iload X657 312 at_310 rfl rfl ?_
            refine og_iload X657 314 at_312 rfl rfl ?_
            refine og_icmpY X657 321 at_314 (XT.ii_ge_t (by decide)) (by decide) (by decide) ?_
            refine og_iconst X657 322 (0 : Int32) at_321 rfl rfl ?_
            refine og_icmpN X657 325 at_322 (XT.ii_ne_f (by decide)) rfl ?_
            refine og_iload X657 327 at_325 rfl rfl ?_
            refine og_iload X657 329 at_327 rfl rfl ?_
            refine og_icmpY X657 334 at_329 (XT.ii_eq_t (by decide)) (by decide) (by decide) ?_
            refine og_iload X657 336 at_334 rfl rfl ?_
            refine og_iload X657 338 at_336 rfl rfl ?_
            refine og_icmpY X657 385 at_338 (XT.ii_ge_t (by decide)) (by decide) (by decide) ?_
            refine og_iconst X657 386 (1 : Int32) at_385 rfl rfl ?_
            refine own_retZ X657 at_386 hret rfl (by decide) (by decide) ?_
            exact rfl
          · -- 3
            show OGo _ _ _ _ T645 (mkF m 294 #[.val (.int pa), .val (.int pb), .val (.int pc_), .val (.int pd), .val (.int ps), .val (.int 4), .val (.int fl), .val (.int r2), .val (.int r5), .val (.int r8), .val (.int r11), .val (.ref b483), .val (.ref b493), .val (.int 1), .val (.int 3), .unset, .unset, .unset] [])
            refine og_aload X645 296 at_294 rfl rfl rfl ?_
            have f660 := f639.keep K642
            have f661 := f660.keep K645
            have f662 := f643.keep K645 nin0
            have f663 := f644.keep K645 nin0
            have f664 := f641.keep K642 (allS (Or.inr ⟨_, _, _, f639, by decide, (ow hw 7 rfl)⟩) all0)
            have f665 := f664.keep K645 all0
            refine own_virt X645 299 (a := b493) (argsL := []) (rest := []) at_296 f661 (fun _ hZ => notFace_of_selects (args := #[]) (mvT hZ (ow hw 42 rfl))) (rm_skI l Z a0 hw n0 h645 hWd [] X645.old b493 b497 1 3 [r2, r5, r8, r11] f661 f662 f663 f665.top (by simp [own_skip, own_w1 ck0, own_w1 ck1, own_w0 ck2]) (Nat.le_of_ble_eq_true rfl) (Nat.le_of_ble_eq_true rfl) (own_svb X645 (om 1 rfl))) (ow hw 39 rfl) (ow hw 40 rfl) (ow hw 42 rfl) (ow hw 41 rfl) (ow hw 8 rfl) (ow hw 43 rfl) (by decide) (lenOf pd__28_29Z rfl) rfl rfl rfl (W := 0) rfl (by decide) (by decide) (by decide) (by decide) (allS (om 1 rfl) all0) rfl ?_
            intro T666 h666 v666 X666 K666 hQ666
            obtain ⟨rfl, f667, f668⟩ := hQ666
            show OGo _ _ _ _ T666 (mkF m 299 #[.val (.int pa), .val (.int pb), .val (.int pc_), .val (.int pd), .val (.int ps), .val (.int 4), .val (.int fl), .val (.int r2), .val (.int r5), .val (.int r8), .val (.int r11), .val (.ref b483), .val (.ref b493), .val (.int 1), .val (.int 3), .unset, .unset, .unset] [(.int 1)])
            refine og_istore X666 301 #[.val (.int pa), .val (.int pb), .val (.int pc_), .val (.int pd), .val (.int ps), .val (.int 4), .val (.int fl), .val (.int r2), .val (.int r5), .val (.int r8), .val (.int r11), .val (.ref b483), .val (.ref b493), .val (.int 1), .val (.int 3), .val (.int 1), .unset, .unset] at_299 rfl rfl ?_
            refine og_aload X666 303 at_301 rfl rfl rfl ?_
            have f669 := f661.keep K666
            have f670 := f665.keep K666 (allS (Or.inr ⟨_, _, _, f661, by decide, (ow hw 7 rfl)⟩) all0)
            refine own_virt X666 306 (a := b493) (argsL := []) (rest := []) at_303 f669 (fun _ hZ => notFace_of_selects (args := #[]) (mvT hZ (ow hw 42 rfl))) (rm_skI l Z a0 hw n0 h666 hWd [] X666.old b493 b497 3 3 [r2, r5, r8, r11] f669 f667 f668 f670.top (by simp [own_skip, own_w1 ck0, own_w1 ck1, own_w0 ck2]) (Nat.le_of_ble_eq_true rfl) (Nat.le_of_ble_eq_true rfl) (own_svb X666 (om 1 rfl))) (ow hw 39 rfl) (ow hw 40 rfl) (ow hw 42 rfl) (ow hw 41 rfl) (ow hw 8 rfl) (ow hw 43 rfl) (by decide) (lenOf pd__28_29Z rfl) rfl rfl rfl (W := 0) rfl (by decide) (by decide) (by decide) (by decide) (allS (om 1 rfl) all0) rfl ?_
            intro T671 h671 v671 X671 K671 hQ671
            obtain ⟨rfl, f672, f673⟩ := hQ671
            show OGo _ _ _ _ T671 (mkF m 306 #[.val (.int pa), .val (.int pb), .val (.int pc_), .val (.int pd), .val (.int ps), .val (.int 4), .val (.int fl), .val (.int r2), .val (.int r5), .val (.int r8), .val (.int r11), .val (.ref b483), .val (.ref b493), .val (.int 1), .val (.int 3), .val (.int 1), .unset, .unset] [(.int 1)])
            refine og_istore X671 308 #[.val (.int pa), .val (.int pb), .val (.int pc_), .val (.int pd), .val (.int ps), .val (.int 4), .val (.int fl), .val (.int r2), .val (.int r5), .val (.int r8), .val (.int r11), .val (.ref b483), .val (.ref b493), .val (.int 1), .val (.int 3), .val (.int 1), .val (.int 1), .unset] at_306 rfl rfl ?_
            refine og_iload X671 310 at_308 rfl rfl ?_
            refine og_iload X671 312 at_310 rfl rfl ?_
            refine og_iload X671 314 at_312 rfl rfl ?_
            refine og_icmpN X671 317 at_314 (XT.ii_ge_f (by decide)) rfl ?_
            refine og_iconst X671 318 (1 : Int32) at_317 rfl rfl ?_
            refine og_goto X671 322 at_318 (by decide) (by decide) ?_
            refine og_icmpN X671 325 at_322 (XT.ii_ne_f (by decide)) rfl ?_
            refine og_iload X671 327 at_325 rfl rfl ?_
            refine og_iload X671 329 at_327 rfl rfl ?_
            refine og_icmpY X671 334 at_329 (XT.ii_eq_t (by decide)) (by decide) (by decide) ?_
            refine og_iload X671 336 at_334 rfl rfl ?_
            refine og_iload X671 338 at_336 rfl rfl ?_
            refine og_icmpN X671 341 at_338 (XT.ii_ge_f (by decide)) rfl ?_
            refine og_iload X671 343 at_341 rfl rfl ?_
            refine og_ifY X671 351 at_343 (XT.i0_ne_t (by decide)) (by decide) (by decide) ?_
            refine og_iload X671 353 at_351 rfl rfl ?_
            refine og_iconst X671 354 (1 : Int32) at_353 rfl rfl ?_
            refine og_icmpY X671 362 at_354 (XT.ii_ne_t (by decide)) (by decide) (by decide) ?_
            refine og_iload X671 364 at_362 rfl rfl ?_
            refine og_iconst X671 365 (2 : Int32) at_364 rfl rfl ?_
            refine og_icmpY X671 373 at_365 (XT.ii_ne_t (by decide)) (by decide) (by decide) ?_
            refine og_iload X671 375 at_373 rfl rfl ?_
            refine og_istore X671 377 #[.val (.int pa), .val (.int pb), .val (.int pc_), .val (.int pd), .val (.int ps), .val (.int 4), .val (.int fl), .val (.int r2), .val (.int r5), .val (.int r8), .val (.int r11), .val (.ref b483), .val (.ref b493), .val (.int 1), .val (.int 3), .val (.int 1), .val (.int 1), .val (.int r11)] at_375 rfl rfl ?_
            refine og_aload X671 379 at_377 rfl rfl rfl ?_
            refine og_iload X671 381 at_379 rfl rfl ?_
            have f674 := f669.keep K671
            have f675 := f670.keep K671 (allS (Or.inr ⟨_, _, _, f669, by decide, (ow hw 7 rfl)⟩) all0)
            refine own_virt X671 384 (a := b493) (argsL := [(.int r11)]) (rest := []) at_381 f674 (fun _ hZ => notFace_of_selects (args := #[]) (mvT hZ (ow hw 75 rfl))) (rm_nxI l Z a0 hw n0 h671 hWd [] X671.old b493 b497 3 [r2, r5, r8, r11] r11 f672 f673 f675.top (Nat.le_of_ble_eq_true rfl) ) (ow hw 102 rfl) (ow hw 73 rfl) (ow hw 75 rfl) (ow hw 74 rfl) (ow hw 8 rfl) (ow hw 76 rfl) (by decide) (lenOf pd__28C_29Z rfl) rfl rfl rfl (W := 0) rfl (by decide) (by decide) (by decide) (by decide) all0 rfl ?_
            intro T676 h676 v676 X676 K676 hQ676
            obtain rfl := hQ676
            show OGo _ _ _ _ T676 (mkF m 384 #[.val (.int pa), .val (.int pb), .val (.int pc_), .val (.int pd), .val (.int ps), .val (.int 4), .val (.int fl), .val (.int r2), .val (.int r5), .val (.int r8), .val (.int r11), .val (.ref b483), .val (.ref b493), .val (.int 1), .val (.int 3), .val (.int 1), .val (.int 1), .val (.int r11)] [(.int (own_eq1 r11 r11))])
            refine own_retZ X676 at_384 hret (own_zb (Or.inr (show (own_eq1 r11 r11) = 1 from if_pos rfl))).1 (by decide) (by decide) ?_
            rw [own_eq1, if_pos rfl]
          · -- 2
            show OGo _ _ _ _ T645 (mkF m 294 #[.val (.int pa), .val (.int pb), .val (.int pc_), .val (.int pd), .val (.int ps), .val (.int 4), .val (.int fl), .val (.int r2), .val (.int r5), .val (.int r8), .val (.int r11), .val (.ref b483), .val (.ref b493), .val (.int 1), .val (.int 2), .unset, .unset, .unset] [])
            refine og_aload X645 296 at_294 rfl rfl rfl ?_
            have f677 := f639.keep K642
            have f678 := f677.keep K645
            have f679 := f643.keep K645 nin0
            have f680 := f644.keep K645 nin0
            have f681 := f641.keep K642 (allS (Or.inr ⟨_, _, _, f639, by decide, (ow hw 7 rfl)⟩) all0)
            have f682 := f681.keep K645 all0
            refine own_virt X645 299 (a := b493) (argsL := []) (rest := []) at_296 f678 (fun _ hZ => notFace_of_selects (args := #[]) (mvT hZ (ow hw 42 rfl))) (rm_skI l Z a0 hw n0 h645 hWd [] X645.old b493 b497 1 2 [r2, r5, r8, r11] f678 f679 f680 f682.top (by simp [own_skip, own_w1 ck0, own_w0 ck1]) (Nat.le_of_ble_eq_true rfl) (Nat.le_of_ble_eq_true rfl) (own_svb X645 (om 1 rfl))) (ow hw 39 rfl) (ow hw 40 rfl) (ow hw 42 rfl) (ow hw 41 rfl) (ow hw 8 rfl) (ow hw 43 rfl) (by decide) (lenOf pd__28_29Z rfl) rfl rfl rfl (W := 0) rfl (by decide) (by decide) (by decide) (by decide) (allS (om 1 rfl) all0) rfl ?_
            intro T683 h683 v683 X683 K683 hQ683
            obtain ⟨rfl, f684, f685⟩ := hQ683
            show OGo _ _ _ _ T683 (mkF m 299 #[.val (.int pa), .val (.int pb), .val (.int pc_), .val (.int pd), .val (.int ps), .val (.int 4), .val (.int fl), .val (.int r2), .val (.int r5), .val (.int r8), .val (.int r11), .val (.ref b483), .val (.ref b493), .val (.int 1), .val (.int 2), .unset, .unset, .unset] [(.int 1)])
            refine og_istore X683 301 #[.val (.int pa), .val (.int pb), .val (.int pc_), .val (.int pd), .val (.int ps), .val (.int 4), .val (.int fl), .val (.int r2), .val (.int r5), .val (.int r8), .val (.int r11), .val (.ref b483), .val (.ref b493), .val (.int 1), .val (.int 2), .val (.int 1), .unset, .unset] at_299 rfl rfl ?_
            refine og_aload X683 303 at_301 rfl rfl rfl ?_
            have f686 := f678.keep K683
            have f687 := f682.keep K683 (allS (Or.inr ⟨_, _, _, f678, by decide, (ow hw 7 rfl)⟩) all0)
            refine own_virt X683 306 (a := b493) (argsL := []) (rest := []) at_303 f686 (fun _ hZ => notFace_of_selects (args := #[]) (mvT hZ (ow hw 42 rfl))) (rm_skI l Z a0 hw n0 h683 hWd [] X683.old b493 b497 2 2 [r2, r5, r8, r11] f686 f684 f685 f687.top (by simp [own_skip, own_w1 ck0, own_w0 ck1]) (Nat.le_of_ble_eq_true rfl) (Nat.le_of_ble_eq_true rfl) (own_svb X683 (om 1 rfl))) (ow hw 39 rfl) (ow hw 40 rfl) (ow hw 42 rfl) (ow hw 41 rfl) (ow hw 8 rfl) (ow hw 43 rfl) (by decide) (lenOf pd__28_29Z rfl) rfl rfl rfl (W := 0) rfl (by decide) (by decide) (by decide) (by decide) (allS (om 1 rfl) all0) rfl ?_
            intro T688 h688 v688 X688 K688 hQ688
            obtain ⟨rfl, f689, f690⟩ := hQ688
            show OGo _ _ _ _ T688 (mkF m 306 #[.val (.int pa), .val (.int pb), .val (.int pc_), .val (.int pd), .val (.int ps), .val (.int 4), .val (.int fl), .val (.int r2), .val (.int r5), .val (.int r8), .val (.int r11), .val (.ref b483), .val (.ref b493), .val (.int 1), .val (.int 2), .val (.int 1), .unset, .unset] [(.int 1)])
            refine og_istore X688 308 #[.val (.int pa), .val (.int pb), .val (.int pc_), .val (.int pd), .val (.int ps), .val (.int 4), .val (.int fl), .val (.int r2), .val (.int r5), .val (.int r8), .val (.int r11), .val (.ref b483), .val (.ref b493), .val (.int 1), .val (.int 2), .val (.int 1), .val (.int 1), .unset] at_306 rfl rfl ?_
            refine og_iload X688 310 at_308 rfl rfl ?_
            refine og_iload X688 312 at_310 rfl rfl ?_
            refine og_iload X688 314 at_312 rfl rfl ?_
            refine og_icmpN X688 317 at_314 (XT.ii_ge_f (by decide)) rfl ?_
            refine og_iconst X688 318 (1 : Int32) at_317 rfl rfl ?_
            refine og_goto X688 322 at_318 (by decide) (by decide) ?_
            refine og_icmpN X688 325 at_322 (XT.ii_ne_f (by decide)) rfl ?_
            refine og_iload X688 327 at_325 rfl rfl ?_
            refine og_iload X688 329 at_327 rfl rfl ?_
            refine og_icmpY X688 334 at_329 (XT.ii_eq_t (by decide)) (by decide) (by decide) ?_
            refine og_iload X688 336 at_334 rfl rfl ?_
            refine og_iload X688 338 at_336 rfl rfl ?_
            refine og_icmpN X688 341 at_338 (XT.ii_ge_f (by decide)) rfl ?_
            refine og_iload X688 343 at_341 rfl rfl ?_
            refine og_ifY X688 351 at_343 (XT.i0_ne_t (by decide)) (by decide) (by decide) ?_
            refine og_iload X688 353 at_351 rfl rfl ?_
            refine og_iconst X688 354 (1 : Int32) at_353 rfl rfl ?_
            refine og_icmpY X688 362 at_354 (XT.ii_ne_t (by decide)) (by decide) (by decide) ?_
            refine og_iload X688 364 at_362 rfl rfl ?_
            refine og_iconst X688 365 (2 : Int32) at_364 rfl rfl ?_
            refine og_icmpN X688 368 at_365 (XT.ii_ne_f (by decide)) rfl ?_
            refine og_iload X688 370 at_368 rfl rfl ?_
            refine og_goto X688 375 at_370 (by decide) (by decide) ?_
            refine og_istore X688 377 #[.val (.int pa), .val (.int pb), .val (.int pc_), .val (.int pd), .val (.int ps), .val (.int 4), .val (.int fl), .val (.int r2), .val (.int r5), .val (.int r8), .val (.int r11), .val (.ref b483), .val (.ref b493), .val (.int 1), .val (.int 2), .val (.int 1), .val (.int 1), .val (.int r8)] at_375 rfl rfl ?_
            refine og_aload X688 379 at_377 rfl rfl rfl ?_
            refine og_iload X688 381 at_379 rfl rfl ?_
            have f691 := f686.keep K688
            have f692 := f687.keep K688 (allS (Or.inr ⟨_, _, _, f686, by decide, (ow hw 7 rfl)⟩) all0)
            refine own_virt X688 384 (a := b493) (argsL := [(.int r8)]) (rest := []) at_381 f691 (fun _ hZ => notFace_of_selects (args := #[]) (mvT hZ (ow hw 75 rfl))) (rm_nxI l Z a0 hw n0 h688 hWd [] X688.old b493 b497 2 [r2, r5, r8, r11] r8 f689 f690 f692.top (Nat.le_of_ble_eq_true rfl) ) (ow hw 102 rfl) (ow hw 73 rfl) (ow hw 75 rfl) (ow hw 74 rfl) (ow hw 8 rfl) (ow hw 76 rfl) (by decide) (lenOf pd__28C_29Z rfl) rfl rfl rfl (W := 0) rfl (by decide) (by decide) (by decide) (by decide) all0 rfl ?_
            intro T693 h693 v693 X693 K693 hQ693
            obtain rfl := hQ693
            show OGo _ _ _ _ T693 (mkF m 384 #[.val (.int pa), .val (.int pb), .val (.int pc_), .val (.int pd), .val (.int ps), .val (.int 4), .val (.int fl), .val (.int r2), .val (.int r5), .val (.int r8), .val (.int r11), .val (.ref b483), .val (.ref b493), .val (.int 1), .val (.int 2), .val (.int 1), .val (.int 1), .val (.int r8)] [(.int (own_eq1 r8 r8))])
            refine own_retZ X693 at_384 hret (own_zb (Or.inr (show (own_eq1 r8 r8) = 1 from if_pos rfl))).1 (by decide) (by decide) ?_
            rw [own_eq1, if_pos rfl]
          · -- 1
            show OGo _ _ _ _ T645 (mkF m 294 #[.val (.int pa), .val (.int pb), .val (.int pc_), .val (.int pd), .val (.int ps), .val (.int 4), .val (.int fl), .val (.int r2), .val (.int r5), .val (.int r8), .val (.int r11), .val (.ref b483), .val (.ref b493), .val (.int 1), .val (.int 1), .unset, .unset, .unset] [])
            refine og_aload X645 296 at_294 rfl rfl rfl ?_
            have f694 := f639.keep K642
            have f695 := f694.keep K645
            have f696 := f643.keep K645 nin0
            have f697 := f644.keep K645 nin0
            have f698 := f641.keep K642 (allS (Or.inr ⟨_, _, _, f639, by decide, (ow hw 7 rfl)⟩) all0)
            have f699 := f698.keep K645 all0
            refine own_virt X645 299 (a := b493) (argsL := []) (rest := []) at_296 f695 (fun _ hZ => notFace_of_selects (args := #[]) (mvT hZ (ow hw 42 rfl))) (rm_skI l Z a0 hw n0 h645 hWd [] X645.old b493 b497 1 1 [r2, r5, r8, r11] f695 f696 f697 f699.top (by simp [own_skip, own_w0 ck0]) (Nat.le_of_ble_eq_true rfl) (Nat.le_of_ble_eq_true rfl) (own_svb X645 (om 1 rfl))) (ow hw 39 rfl) (ow hw 40 rfl) (ow hw 42 rfl) (ow hw 41 rfl) (ow hw 8 rfl) (ow hw 43 rfl) (by decide) (lenOf pd__28_29Z rfl) rfl rfl rfl (W := 0) rfl (by decide) (by decide) (by decide) (by decide) (allS (om 1 rfl) all0) rfl ?_
            intro T700 h700 v700 X700 K700 hQ700
            obtain ⟨rfl, f701, f702⟩ := hQ700
            show OGo _ _ _ _ T700 (mkF m 299 #[.val (.int pa), .val (.int pb), .val (.int pc_), .val (.int pd), .val (.int ps), .val (.int 4), .val (.int fl), .val (.int r2), .val (.int r5), .val (.int r8), .val (.int r11), .val (.ref b483), .val (.ref b493), .val (.int 1), .val (.int 1), .unset, .unset, .unset] [(.int 1)])
            refine og_istore X700 301 #[.val (.int pa), .val (.int pb), .val (.int pc_), .val (.int pd), .val (.int ps), .val (.int 4), .val (.int fl), .val (.int r2), .val (.int r5), .val (.int r8), .val (.int r11), .val (.ref b483), .val (.ref b493), .val (.int 1), .val (.int 1), .val (.int 1), .unset, .unset] at_299 rfl rfl ?_
            refine og_aload X700 303 at_301 rfl rfl rfl ?_
            have f703 := f695.keep K700
            have f704 := f699.keep K700 (allS (Or.inr ⟨_, _, _, f695, by decide, (ow hw 7 rfl)⟩) all0)
            refine own_virt X700 306 (a := b493) (argsL := []) (rest := []) at_303 f703 (fun _ hZ => notFace_of_selects (args := #[]) (mvT hZ (ow hw 42 rfl))) (rm_skI l Z a0 hw n0 h700 hWd [] X700.old b493 b497 1 1 [r2, r5, r8, r11] f703 f701 f702 f704.top (by simp [own_skip, own_w0 ck0]) (Nat.le_of_ble_eq_true rfl) (Nat.le_of_ble_eq_true rfl) (own_svb X700 (om 1 rfl))) (ow hw 39 rfl) (ow hw 40 rfl) (ow hw 42 rfl) (ow hw 41 rfl) (ow hw 8 rfl) (ow hw 43 rfl) (by decide) (lenOf pd__28_29Z rfl) rfl rfl rfl (W := 0) rfl (by decide) (by decide) (by decide) (by decide) (allS (om 1 rfl) all0) rfl ?_
            intro T705 h705 v705 X705 K705 hQ705
            obtain ⟨rfl, f706, f707⟩ := hQ705
            show OGo _ _ _ _ T705 (mkF m 306 #[.val (.int pa), .val (.int pb), .val (.int pc_), .val (.int pd), .val (.int ps), .val (.int 4), .val (.int fl), .val (.int r2), .val (.int r5), .val (.int r8), .val (.int r11), .val (.ref b483), .val (.ref b493), .val (.int 1), .val (.int 1), .val (.int 1), .unset, .unset] [(.int 1)])
            refine og_istore X705 308 #[.val (.int pa), .val (.int pb), .val (.int pc_), .val (.int pd), .val (.int ps), .val (.int 4), .val (.int fl), .val (.int r2), .val (.int r5), .val (.int r8), .val (.int r11), .val (.ref b483), .val (.ref b493), .val (.int 1), .val (.int 1), .val (.int 1), .val (.int 1), .unset] at_306 rfl rfl ?_
            refine og_iload X705 310 at_308 rfl rfl ?_
            refine og_iload X705 312 at_310 rfl rfl ?_
            refine og_iload X705 314 at_312 rfl rfl ?_
            refine og_icmpN X705 317 at_314 (XT.ii_ge_f (by decide)) rfl ?_
            refine og_iconst X705 318 (1 : Int32) at_317 rfl rfl ?_
            refine og_goto X705 322 at_318 (by decide) (by decide) ?_
            refine og_icmpN X705 325 at_322 (XT.ii_ne_f (by decide)) rfl ?_
            refine og_iload X705 327 at_325 rfl rfl ?_
            refine og_iload X705 329 at_327 rfl rfl ?_
            refine og_icmpY X705 334 at_329 (XT.ii_eq_t (by decide)) (by decide) (by decide) ?_
            refine og_iload X705 336 at_334 rfl rfl ?_
            refine og_iload X705 338 at_336 rfl rfl ?_
            refine og_icmpN X705 341 at_338 (XT.ii_ge_f (by decide)) rfl ?_
            refine og_iload X705 343 at_341 rfl rfl ?_
            refine og_ifY X705 351 at_343 (XT.i0_ne_t (by decide)) (by decide) (by decide) ?_
            refine og_iload X705 353 at_351 rfl rfl ?_
            refine og_iconst X705 354 (1 : Int32) at_353 rfl rfl ?_
            refine og_icmpN X705 357 at_354 (XT.ii_ne_f (by decide)) rfl ?_
            refine og_iload X705 359 at_357 rfl rfl ?_
            refine og_goto X705 375 at_359 (by decide) (by decide) ?_
            refine og_istore X705 377 #[.val (.int pa), .val (.int pb), .val (.int pc_), .val (.int pd), .val (.int ps), .val (.int 4), .val (.int fl), .val (.int r2), .val (.int r5), .val (.int r8), .val (.int r11), .val (.ref b483), .val (.ref b493), .val (.int 1), .val (.int 1), .val (.int 1), .val (.int 1), .val (.int r5)] at_375 rfl rfl ?_
            refine og_aload X705 379 at_377 rfl rfl rfl ?_
            refine og_iload X705 381 at_379 rfl rfl ?_
            have f708 := f703.keep K705
            have f709 := f704.keep K705 (allS (Or.inr ⟨_, _, _, f703, by decide, (ow hw 7 rfl)⟩) all0)
            refine own_virt X705 384 (a := b493) (argsL := [(.int r5)]) (rest := []) at_381 f708 (fun _ hZ => notFace_of_selects (args := #[]) (mvT hZ (ow hw 75 rfl))) (rm_nxI l Z a0 hw n0 h705 hWd [] X705.old b493 b497 1 [r2, r5, r8, r11] r5 f706 f707 f709.top (Nat.le_of_ble_eq_true rfl) ) (ow hw 102 rfl) (ow hw 73 rfl) (ow hw 75 rfl) (ow hw 74 rfl) (ow hw 8 rfl) (ow hw 76 rfl) (by decide) (lenOf pd__28C_29Z rfl) rfl rfl rfl (W := 0) rfl (by decide) (by decide) (by decide) (by decide) all0 rfl ?_
            intro T710 h710 v710 X710 K710 hQ710
            obtain rfl := hQ710
            show OGo _ _ _ _ T710 (mkF m 384 #[.val (.int pa), .val (.int pb), .val (.int pc_), .val (.int pd), .val (.int ps), .val (.int 4), .val (.int fl), .val (.int r2), .val (.int r5), .val (.int r8), .val (.int r11), .val (.ref b483), .val (.ref b493), .val (.int 1), .val (.int 1), .val (.int 1), .val (.int 1), .val (.int r5)] [(.int (own_eq1 r5 r5))])
            refine own_retZ X710 at_384 hret (own_zb (Or.inr (show (own_eq1 r5 r5) = 1 from if_pos rfl))).1 (by decide) (by decide) ?_
            rw [own_eq1, if_pos rfl]
        · -- the ways to it
          intro J645
          refine og_iload X642 224 at_222 rfl rfl ?_
          refine og_iconst X642 225 (3 : Int32) at_224 rfl rfl ?_
          refine og_icmpN X642 228 at_225 (XT.ii_le_f (by decide)) rfl ?_
          refine og_iload X642 230 at_228 rfl rfl ?_
          refine own_stat X642 233 (argsL := [(.int r11)]) (rest := []) at_230 (rm19 l Z a0 hw n0 h642 hWd [] X642.old r11  ) (ow hw 99 rfl) (ow hw 100 rfl) (ow hw 2 rfl) (ow hw 101 rfl) (by decide) (lenOf pd__28C_29Z rfl) rfl rfl rfl (W := 0) rfl (by decide) (by decide) (by decide) (by decide) all0 rfl ?_
          intro T711 h711 v711 X711 K711 hQ711
          obtain rfl := hQ711
          show OGo _ _ _ _ T711 (mkF m 233 #[.val (.int pa), .val (.int pb), .val (.int pc_), .val (.int pd), .val (.int ps), .val (.int 4), .val (.int fl), .val (.int r2), .val (.int r5), .val (.int r8), .val (.int r11), .val (.ref b483), .val (.ref b493), .val (.int 1), .val (.int 4), .unset, .unset, .unset] [(.int (own_ws r11))])
          by_cases hc712 : (own_ws r11) = 0
          · -- (own_ws r11) = 0
            refine og_ifN X711 236 at_233 (XT.i0_ne_f hc712) rfl ?_
            refine og_iconst X711 237 (3 : Int32) at_236 rfl rfl ?_
            refine og_istore X711 239 #[.val (.int pa), .val (.int pb), .val (.int pc_), .val (.int pd), .val (.int ps), .val (.int 4), .val (.int fl), .val (.int r2), .val (.int r5), .val (.int r8), .val (.int r11), .val (.ref b483), .val (.ref b493), .val (.int 1), .val (.int 3), .unset, .unset, .unset] at_237 rfl rfl ?_
            refine og_iload X711 241 at_239 rfl rfl ?_
            refine og_iconst X711 242 (2 : Int32) at_241 rfl rfl ?_
            refine og_icmpN X711 245 at_242 (XT.ii_le_f (by decide)) rfl ?_
            refine og_iload X711 247 at_245 rfl rfl ?_
            refine own_stat X711 250 (argsL := [(.int r8)]) (rest := []) at_247 (rm19 l Z a0 hw n0 h711 hWd [] X711.old r8  ) (ow hw 99 rfl) (ow hw 100 rfl) (ow hw 2 rfl) (ow hw 101 rfl) (by decide) (lenOf pd__28C_29Z rfl) rfl rfl rfl (W := 0) rfl (by decide) (by decide) (by decide) (by decide) all0 rfl ?_
            intro T713 h713 v713 X713 K713 hQ713
            obtain rfl := hQ713
            show OGo _ _ _ _ T713 (mkF m 250 #[.val (.int pa), .val (.int pb), .val (.int pc_), .val (.int pd), .val (.int ps), .val (.int 4), .val (.int fl), .val (.int r2), .val (.int r5), .val (.int r8), .val (.int r11), .val (.ref b483), .val (.ref b493), .val (.int 1), .val (.int 3), .unset, .unset, .unset] [(.int (own_ws r8))])
            by_cases hc714 : (own_ws r8) = 0
            · -- (own_ws r8) = 0
              refine og_ifN X713 253 at_250 (XT.i0_ne_f hc714) rfl ?_
              refine og_iconst X713 254 (2 : Int32) at_253 rfl rfl ?_
              refine og_istore X713 256 #[.val (.int pa), .val (.int pb), .val (.int pc_), .val (.int pd), .val (.int ps), .val (.int 4), .val (.int fl), .val (.int r2), .val (.int r5), .val (.int r8), .val (.int r11), .val (.ref b483), .val (.ref b493), .val (.int 1), .val (.int 2), .unset, .unset, .unset] at_254 rfl rfl ?_
              refine og_iload X713 258 at_256 rfl rfl ?_
              refine og_iconst X713 259 (1 : Int32) at_258 rfl rfl ?_
              refine og_icmpN X713 262 at_259 (XT.ii_le_f (by decide)) rfl ?_
              refine og_iload X713 264 at_262 rfl rfl ?_
              refine own_stat X713 267 (argsL := [(.int r5)]) (rest := []) at_264 (rm19 l Z a0 hw n0 h713 hWd [] X713.old r5  ) (ow hw 99 rfl) (ow hw 100 rfl) (ow hw 2 rfl) (ow hw 101 rfl) (by decide) (lenOf pd__28C_29Z rfl) rfl rfl rfl (W := 0) rfl (by decide) (by decide) (by decide) (by decide) all0 rfl ?_
              intro T715 h715 v715 X715 K715 hQ715
              obtain rfl := hQ715
              show OGo _ _ _ _ T715 (mkF m 267 #[.val (.int pa), .val (.int pb), .val (.int pc_), .val (.int pd), .val (.int ps), .val (.int 4), .val (.int fl), .val (.int r2), .val (.int r5), .val (.int r8), .val (.int r11), .val (.ref b483), .val (.ref b493), .val (.int 1), .val (.int 2), .unset, .unset, .unset] [(.int (own_ws r5))])
              by_cases hc716 : (own_ws r5) = 0
              · -- (own_ws r5) = 0
                refine og_ifN X715 270 at_267 (XT.i0_ne_f hc716) rfl ?_
                refine og_iconst X715 271 (1 : Int32) at_270 rfl rfl ?_
                refine og_istore X715 273 #[.val (.int pa), .val (.int pb), .val (.int pc_), .val (.int pd), .val (.int ps), .val (.int 4), .val (.int fl), .val (.int r2), .val (.int r5), .val (.int r8), .val (.int r11), .val (.ref b483), .val (.ref b493), .val (.int 1), .val (.int 1), .unset, .unset, .unset] at_271 rfl rfl ?_
                refine og_iload X715 275 at_273 rfl rfl ?_
                refine og_ifN X715 278 at_275 (XT.i0_le_f (by decide)) rfl ?_
                refine og_iload X715 280 at_278 rfl rfl ?_
                refine og_ifY X715 294 at_280 (XT.i0_ne_t (by decide)) (by decide) (by decide) ?_
                exact J645 _ _ X715 ((K711.trans K713 (fun _ q => nomatch q)).trans K715 (fun _ q => nomatch q)) _ (Or.inr (Or.inr (Or.inr ⟨rfl, hc716⟩)))
              · -- not
                refine og_ifY X715 273 at_267 (XT.i0_ne_t hc716) (by decide) (by decide) ?_
                refine og_iload X715 275 at_273 rfl rfl ?_
                refine og_ifN X715 278 at_275 (XT.i0_le_f (by decide)) rfl ?_
                refine og_iload X715 280 at_278 rfl rfl ?_
                refine og_ifY X715 294 at_280 (XT.i0_ne_t (by decide)) (by decide) (by decide) ?_
                exact J645 _ _ X715 ((K711.trans K713 (fun _ q => nomatch q)).trans K715 (fun _ q => nomatch q)) _ (Or.inr (Or.inr (Or.inl ⟨rfl, hc716, hc714⟩)))
            · -- not
              refine og_ifY X713 256 at_250 (XT.i0_ne_t hc714) (by decide) (by decide) ?_
              refine og_iload X713 258 at_256 rfl rfl ?_
              refine og_iconst X713 259 (1 : Int32) at_258 rfl rfl ?_
              refine og_icmpN X713 262 at_259 (XT.ii_le_f (by decide)) rfl ?_
              refine og_iload X713 264 at_262 rfl rfl ?_
              refine own_stat X713 267 (argsL := [(.int r5)]) (rest := []) at_264 (rm19 l Z a0 hw n0 h713 hWd [] X713.old r5  ) (ow hw 99 rfl) (ow hw 100 rfl) (ow hw 2 rfl) (ow hw 101 rfl) (by decide) (lenOf pd__28C_29Z rfl) rfl rfl rfl (W := 0) rfl (by decide) (by decide) (by decide) (by decide) all0 rfl ?_
              intro T717 h717 v717 X717 K717 hQ717
              obtain rfl := hQ717
              show OGo _ _ _ _ T717 (mkF m 267 #[.val (.int pa), .val (.int pb), .val (.int pc_), .val (.int pd), .val (.int ps), .val (.int 4), .val (.int fl), .val (.int r2), .val (.int r5), .val (.int r8), .val (.int r11), .val (.ref b483), .val (.ref b493), .val (.int 1), .val (.int 3), .unset, .unset, .unset] [(.int (own_ws r5))])
              by_cases hc718 : (own_ws r5) = 0
              · -- (own_ws r5) = 0
                refine og_ifN X717 270 at_267 (XT.i0_ne_f hc718) rfl ?_
                refine og_iconst X717 271 (1 : Int32) at_270 rfl rfl ?_
                refine og_istore X717 273 #[.val (.int pa), .val (.int pb), .val (.int pc_), .val (.int pd), .val (.int ps), .val (.int 4), .val (.int fl), .val (.int r2), .val (.int r5), .val (.int r8), .val (.int r11), .val (.ref b483), .val (.ref b493), .val (.int 1), .val (.int 1), .unset, .unset, .unset] at_271 rfl rfl ?_
                refine og_iload X717 275 at_273 rfl rfl ?_
                refine og_ifN X717 278 at_275 (XT.i0_le_f (by decide)) rfl ?_
                refine og_iload X717 280 at_278 rfl rfl ?_
                refine og_ifY X717 294 at_280 (XT.i0_ne_t (by decide)) (by decide) (by decide) ?_
                exact J645 _ _ X717 ((K711.trans K713 (fun _ q => nomatch q)).trans K717 (fun _ q => nomatch q)) _ (Or.inr (Or.inr (Or.inr ⟨rfl, hc718⟩)))
              · -- not
                refine og_ifY X717 273 at_267 (XT.i0_ne_t hc718) (by decide) (by decide) ?_
                refine og_iload X717 275 at_273 rfl rfl ?_
                refine og_ifN X717 278 at_275 (XT.i0_le_f (by decide)) rfl ?_
                refine og_iload X717 280 at_278 rfl rfl ?_
                refine og_ifY X717 294 at_280 (XT.i0_ne_t (by decide)) (by decide) (by decide) ?_
                exact J645 _ _ X717 ((K711.trans K713 (fun _ q => nomatch q)).trans K717 (fun _ q => nomatch q)) _ (Or.inr (Or.inl ⟨rfl, hc718, hc714, hc712⟩))
          · -- not
            refine og_ifY X711 239 at_233 (XT.i0_ne_t hc712) (by decide) (by decide) ?_
            refine og_iload X711 241 at_239 rfl rfl ?_
            refine og_iconst X711 242 (2 : Int32) at_241 rfl rfl ?_
            refine og_icmpN X711 245 at_242 (XT.ii_le_f (by decide)) rfl ?_
            refine og_iload X711 247 at_245 rfl rfl ?_
            refine own_stat X711 250 (argsL := [(.int r8)]) (rest := []) at_247 (rm19 l Z a0 hw n0 h711 hWd [] X711.old r8  ) (ow hw 99 rfl) (ow hw 100 rfl) (ow hw 2 rfl) (ow hw 101 rfl) (by decide) (lenOf pd__28C_29Z rfl) rfl rfl rfl (W := 0) rfl (by decide) (by decide) (by decide) (by decide) all0 rfl ?_
            intro T719 h719 v719 X719 K719 hQ719
            obtain rfl := hQ719
            show OGo _ _ _ _ T719 (mkF m 250 #[.val (.int pa), .val (.int pb), .val (.int pc_), .val (.int pd), .val (.int ps), .val (.int 4), .val (.int fl), .val (.int r2), .val (.int r5), .val (.int r8), .val (.int r11), .val (.ref b483), .val (.ref b493), .val (.int 1), .val (.int 4), .unset, .unset, .unset] [(.int (own_ws r8))])
            by_cases hc720 : (own_ws r8) = 0
            · -- (own_ws r8) = 0
              refine og_ifN X719 253 at_250 (XT.i0_ne_f hc720) rfl ?_
              refine og_iconst X719 254 (2 : Int32) at_253 rfl rfl ?_
              refine og_istore X719 256 #[.val (.int pa), .val (.int pb), .val (.int pc_), .val (.int pd), .val (.int ps), .val (.int 4), .val (.int fl), .val (.int r2), .val (.int r5), .val (.int r8), .val (.int r11), .val (.ref b483), .val (.ref b493), .val (.int 1), .val (.int 2), .unset, .unset, .unset] at_254 rfl rfl ?_
              refine og_iload X719 258 at_256 rfl rfl ?_
              refine og_iconst X719 259 (1 : Int32) at_258 rfl rfl ?_
              refine og_icmpN X719 262 at_259 (XT.ii_le_f (by decide)) rfl ?_
              refine og_iload X719 264 at_262 rfl rfl ?_
              refine own_stat X719 267 (argsL := [(.int r5)]) (rest := []) at_264 (rm19 l Z a0 hw n0 h719 hWd [] X719.old r5  ) (ow hw 99 rfl) (ow hw 100 rfl) (ow hw 2 rfl) (ow hw 101 rfl) (by decide) (lenOf pd__28C_29Z rfl) rfl rfl rfl (W := 0) rfl (by decide) (by decide) (by decide) (by decide) all0 rfl ?_
              intro T721 h721 v721 X721 K721 hQ721
              obtain rfl := hQ721
              show OGo _ _ _ _ T721 (mkF m 267 #[.val (.int pa), .val (.int pb), .val (.int pc_), .val (.int pd), .val (.int ps), .val (.int 4), .val (.int fl), .val (.int r2), .val (.int r5), .val (.int r8), .val (.int r11), .val (.ref b483), .val (.ref b493), .val (.int 1), .val (.int 2), .unset, .unset, .unset] [(.int (own_ws r5))])
              by_cases hc722 : (own_ws r5) = 0
              · -- (own_ws r5) = 0
                refine og_ifN X721 270 at_267 (XT.i0_ne_f hc722) rfl ?_
                refine og_iconst X721 271 (1 : Int32) at_270 rfl rfl ?_
                refine og_istore X721 273 #[.val (.int pa), .val (.int pb), .val (.int pc_), .val (.int pd), .val (.int ps), .val (.int 4), .val (.int fl), .val (.int r2), .val (.int r5), .val (.int r8), .val (.int r11), .val (.ref b483), .val (.ref b493), .val (.int 1), .val (.int 1), .unset, .unset, .unset] at_271 rfl rfl ?_
                refine og_iload X721 275 at_273 rfl rfl ?_
                refine og_ifN X721 278 at_275 (XT.i0_le_f (by decide)) rfl ?_
                refine og_iload X721 280 at_278 rfl rfl ?_
                refine og_ifY X721 294 at_280 (XT.i0_ne_t (by decide)) (by decide) (by decide) ?_
                exact J645 _ _ X721 ((K711.trans K719 (fun _ q => nomatch q)).trans K721 (fun _ q => nomatch q)) _ (Or.inr (Or.inr (Or.inr ⟨rfl, hc722⟩)))
              · -- not
                refine og_ifY X721 273 at_267 (XT.i0_ne_t hc722) (by decide) (by decide) ?_
                refine og_iload X721 275 at_273 rfl rfl ?_
                refine og_ifN X721 278 at_275 (XT.i0_le_f (by decide)) rfl ?_
                refine og_iload X721 280 at_278 rfl rfl ?_
                refine og_ifY X721 294 at_280 (XT.i0_ne_t (by decide)) (by decide) (by decide) ?_
                exact J645 _ _ X721 ((K711.trans K719 (fun _ q => nomatch q)).trans K721 (fun _ q => nomatch q)) _ (Or.inr (Or.inr (Or.inl ⟨rfl, hc722, hc720⟩)))
            · -- not
              refine og_ifY X719 256 at_250 (XT.i0_ne_t hc720) (by decide) (by decide) ?_
              refine og_iload X719 258 at_256 rfl rfl ?_
              refine og_iconst X719 259 (1 : Int32) at_258 rfl rfl ?_
              refine og_icmpN X719 262 at_259 (XT.ii_le_f (by decide)) rfl ?_
              refine og_iload X719 264 at_262 rfl rfl ?_
              refine own_stat X719 267 (argsL := [(.int r5)]) (rest := []) at_264 (rm19 l Z a0 hw n0 h719 hWd [] X719.old r5  ) (ow hw 99 rfl) (ow hw 100 rfl) (ow hw 2 rfl) (ow hw 101 rfl) (by decide) (lenOf pd__28C_29Z rfl) rfl rfl rfl (W := 0) rfl (by decide) (by decide) (by decide) (by decide) all0 rfl ?_
              intro T723 h723 v723 X723 K723 hQ723
              obtain rfl := hQ723
              show OGo _ _ _ _ T723 (mkF m 267 #[.val (.int pa), .val (.int pb), .val (.int pc_), .val (.int pd), .val (.int ps), .val (.int 4), .val (.int fl), .val (.int r2), .val (.int r5), .val (.int r8), .val (.int r11), .val (.ref b483), .val (.ref b493), .val (.int 1), .val (.int 4), .unset, .unset, .unset] [(.int (own_ws r5))])
              by_cases hc724 : (own_ws r5) = 0
              · -- (own_ws r5) = 0
                refine og_ifN X723 270 at_267 (XT.i0_ne_f hc724) rfl ?_
                refine og_iconst X723 271 (1 : Int32) at_270 rfl rfl ?_
                refine og_istore X723 273 #[.val (.int pa), .val (.int pb), .val (.int pc_), .val (.int pd), .val (.int ps), .val (.int 4), .val (.int fl), .val (.int r2), .val (.int r5), .val (.int r8), .val (.int r11), .val (.ref b483), .val (.ref b493), .val (.int 1), .val (.int 1), .unset, .unset, .unset] at_271 rfl rfl ?_
                refine og_iload X723 275 at_273 rfl rfl ?_
                refine og_ifN X723 278 at_275 (XT.i0_le_f (by decide)) rfl ?_
                refine og_iload X723 280 at_278 rfl rfl ?_
                refine og_ifY X723 294 at_280 (XT.i0_ne_t (by decide)) (by decide) (by decide) ?_
                exact J645 _ _ X723 ((K711.trans K719 (fun _ q => nomatch q)).trans K723 (fun _ q => nomatch q)) _ (Or.inr (Or.inr (Or.inr ⟨rfl, hc724⟩)))
              · -- not
                refine og_ifY X723 273 at_267 (XT.i0_ne_t hc724) (by decide) (by decide) ?_
                refine og_iload X723 275 at_273 rfl rfl ?_
                refine og_ifN X723 278 at_275 (XT.i0_le_f (by decide)) rfl ?_
                refine og_iload X723 280 at_278 rfl rfl ?_
                refine og_ifY X723 294 at_280 (XT.i0_ne_t (by decide)) (by decide) (by decide) ?_
                exact J645 _ _ X723 ((K711.trans K719 (fun _ q => nomatch q)).trans K723 (fun _ q => nomatch q)) _ (Or.inl ⟨rfl, hc724, hc720, hc712⟩)
  · -- the ways to it
    intro J1
    refine og_iload X0 10 at_8 rfl rfl ?_
    refine og_iconst X0 11 (1 : Int32) at_10 rfl rfl ?_
    refine og_iand X0 12 at_11 rfl ?_
    by_cases hc725 : (ps &&& (1 : Int32)) = 0
    · -- (ps &&& (1 : Int32)) = 0
      refine og_ifY X0 19 at_12 (XT.i0_eq_t hc725) (by decide) (by decide) ?_
      refine og_iconst X0 20 (0 : Int32) at_19 rfl rfl ?_
      refine og_istore X0 22 #[.val (.int pa), .val (.int pb), .val (.int pc_), .val (.int pd), .val (.int ps), .val (.int ((XT.ushr ps (1 : Int32)) % (5 : Int32))), .val (.int 0), .unset, .unset, .unset, .unset, .unset, .unset, .unset, .unset, .unset, .unset, .unset] at_20 rfl rfl ?_
      exact J1 _ _ X0 (Keep.refl _ _) (0 : Int32) trivial
    · -- not
      refine og_ifN X0 15 at_12 (XT.i0_eq_f hc725) rfl ?_
      refine og_iconst X0 16 (1 : Int32) at_15 rfl rfl ?_
      refine og_goto X0 20 at_16 (by decide) (by decide) ?_
      refine og_istore X0 22 #[.val (.int pa), .val (.int pb), .val (.int pc_), .val (.int pd), .val (.int ps), .val (.int ((XT.ushr ps (1 : Int32)) % (5 : Int32))), .val (.int 1), .unset, .unset, .unset, .unset, .unset, .unset, .unset, .unset, .unset, .unset, .unset] at_20 rfl rfl ?_
      exact J1 _ _ X0 (Keep.refl _ _) (1 : Int32) trivial
theorem own_held {s : State} {own : String} {i : Nat} (h : constHeld s own i) : Jvm.Lit.constHeld s own i := h
set_option maxRecDepth 65536 in
set_option maxHeartbeats 40000000 in
theorem comes_1 {Post : Tables → Env → Array Value → State → Outcome → State → Prop} (hpost : ∀ tb e args s v u, (limb_1_1.after args s (.returned v) u = true ∧ limb_1_2.after args s (.returned v) u = true ∧ True) → Jvm.ReturnedEndW s (.returned v) u (Jvm.fieldLocs frame_1_writes args s ++ Jvm.arrayLocs frame_1_arrays args s ++ Jvm.staticLocs frame_1_statics s) 24 2176 → Post tb e args s (.returned v) u) :
    ArmFor flags0 classFile x code maxLocals ret World_1 tables_1 room_1 Calls_1 rest_1 Pre_1 Post := by
  intro l hfl _ _ p e ha hc hk s m args below hf hA hF happ hP
  obtain ⟨hcalls, hrest, hpre⟩ := hP
  obtain ⟨-, -, -, hnamed, -, -, -, hat⟩ := (Spec.applies_iff hf).mp happ
  obtain ⟨hg, hn⟩ := and_e (Cond.before_iff.mp (show (Jvm.Cond.and given_1 narrow_1).before args s = true from hpre))
  obtain ⟨hcount, g0⟩ := and_e hg
  obtain ⟨i0, g1⟩ := and_e g0
  obtain ⟨i1, g2⟩ := and_e g1
  obtain ⟨i2, g3⟩ := and_e g2
  obtain ⟨i3, g4⟩ := and_e g3
  have i4 := g4
  obtain ⟨w0, w1, w2, w3, w4, rfl⟩ : ∃ w0 w1 w2 w3 w4 : Value, args = #[w0, w1, w2, w3, w4] := by
    have hs : args.size = 5 := by simpa [Cond.value, given_1] using hcount
    obtain ⟨L⟩ := args
    match L, hs with
    | [w0, w1, w2, w3, w4], _ => exact ⟨w0, w1, w2, w3, w4, rfl⟩
  have hw := fun d (hd : d ∈ tables_1) => atoms_spec (ws := Jvm.Cond.code x code maxLocals ret :: tables_1) hat d (List.mem_cons_of_mem _ hd)
  obtain ⟨hsets, hown0⟩ := atoms_of _ (rest_1_c_eq ▸ (show rest_1_c.before _ s = true from hrest))
  obtain ⟨x0, e0⟩ := is_v i0
  obtain rfl : w0 = (.int x0) := Option.some.inj e0
  obtain ⟨x1, e1⟩ := is_v i1
  obtain rfl : w1 = (.int x1) := Option.some.inj e1
  obtain ⟨x2, e2⟩ := is_v i2
  obtain rfl : w2 = (.int x2) := Option.some.inj e2
  obtain ⟨x3, e3⟩ := is_v i3
  obtain rfl : w3 = (.int x3) := Option.some.inj e3
  obtain ⟨x4, e4⟩ := is_v i4
  obtain rfl : w4 = (.int x4) := Option.some.inj e4
  have hEL : EW s #[(.int x0), (.int x1), (.int x2), (.int x3), (.int x4)] own_EL := (EW.cons (ow hw 30 rfl) (by decide) (EW.cons (ow hw 22 rfl) (by decide) EW.nil))
  obtain ⟨r0, f0⟩ := is_v (Cond.before_iff.mp (hsets _ (om 1 rfl)))
  have t0 : own_sti s "java/lang/String" "COMPACT_STRINGS" "Z" = r0 := own_sti_of f0
  have S0 := Sta.start f0 (Or.inl (hsets _ (om 0 rfl)))
  have c0 : ¬ (r0 = (0 : Int32)) := gotF (Cond.eq_ints f0 (Term.int_eval (0))) (not_v (Cond.before_iff.mp (hsets _ (om 2 rfl))))
  obtain ⟨r1, f1, k1⟩ := isR_v (Cond.before_iff.mp (hsets _ (om 8 rfl)))
  have t1 : own_stv s "jdk/internal/util/Preconditions" "SIOOBE_FORMATTER" "Ljava/util/function/BiFunction;" = r1 := own_stv_of f1
  have S1 := Sta.start f1 (Or.inl (hsets _ (om 7 rfl)))
  have hWd : OWorld s #[(.int x0), (.int x1), (.int x2), (.int x3), (.int x4)] := ⟨hEL, ⟨by rw [t0]; exact S0, by rw [t0]; exact c0⟩, ⟨by rw [t1]; exact S1, by rw [t1]; exact k1⟩, Sta.start (Cond.eq_int (hsets _ (om 12 rfl)) rfl) (Or.inl (hsets _ (om 11 rfl))), Sta.start (Cond.eq_int (hsets _ (om 15 rfl)) rfl) (Or.inl (hsets _ (om 14 rfl))), Sta.start (Cond.eq_int (hsets _ (om 18 rfl)) rfl) (Or.inl (hsets _ (om 17 rfl)))⟩
  have hCH : CHv s own_EL s.vm s.heap := CHv.start hEL (fun p hp => own_held (hcalls.1 p hp)) (by have := (hsets _ (om 2 rfl)); exact this) (ow hw 23 rfl) (ow hw 10 rfl)
  obtain ⟨n, o, h1, h2, h3, v, L, rfl, ⟨N, -, hQ⟩, -, hqW, hqN⟩ := rm0 l s _ hw s.heap.size s.heap hWd tables_1 (Old.start s) x0 x1 x2 x3 x4 p e ha hc hk s m _ below hf ((Spec.applies_iff_loose hf).mp happ).1 ⟨rfl, State.Warmed39.refl s, rfl, hCH, fun _ q => nomatch q⟩ trivial
  obtain rfl := hQ
  refine ⟨n, _, h1, h2, h3, hpost _ _ _ _ _ _ ⟨Cond.after_iff.mpr rfl, Cond.after_iff.mpr (eq_i res_at (Term.int_eval (1)) rfl), trivial⟩ ⟨hqW.1, hqW.2.1, hqW.2.2.1, (hqW.2.2.2.sift fun y hy => Or.inr (N y hy)).mono (by decide) (by decide)⟩⟩
theorem main_1_1 : Claimed_1_1 := comes_1 fun _ _ _ _ _ _ h hF => ⟨h.1, hF⟩
theorem main_1_2 : Claimed_1_2 := comes_1 fun _ _ _ _ _ _ h hF => ⟨h.2.1, hF⟩
end Jvm.Pilot.@@N@@
namespace Jvm.Pilot.@@N@@
open Jvm Jvm.ClassFile Sem Op Lib Jvm.Free Jvm.Stand Jvm.Pilot.@@N@@.Jvm.D
/-! MADE BY PROGRAM (witnessworld.py) out of the Statement's table words and the real class files: 20 classes; the members and pool entries that the words name. The judged class is class 1, her method 3. -/
namespace start1
open Jvm.ClassFile
def u (s : String) : CpInfo := .utf8 (stringToUtf16 s)
/-- a pool by its gaps: so many unusable entries, then the entry; so many at the end -/
def gap : Nat → List CpInfo → List CpInfo
  | 0, r => r
  | n + 1, r => .unusable :: gap n r
def poolList (es : List (Nat × CpInfo)) (last : Nat) : List CpInfo := es.foldr (fun e r => gap e.1 (e.2 :: r)) (gap last [])
def pool (es : List (Nat × CpInfo)) (last : Nat) : Array CpInfo := ⟨poolList es last⟩
def fileOf (pool : Array CpInfo) (this : Nat) (attrs : Array Attribute := #[]) (ms : Array MethodInfo := #[]) (fl : Nat := 33) (sup : Nat := 0) (ifs : Array Nat := #[]) (fds : Array FieldInfo := #[]) : ClassFile where
  minorVersion := 0
  majorVersion := 65
  constantPool := pool
  accessFlags := fl
  thisClass := this
  superClass := sup
  interfaces := ifs
  fields := fds
  methods := ms
  attributes := attrs
def plain (name : String) (sup : Option ClassId) : Class where
  name := name
  kind := .ordinary
  loader := none
  accessFlags := 33
  super := sup
  interfaces := #[]
  cf := none
  fields := #[]
  methods := #[]
  instanceTypes := #[]
  staticTypes := #[]
  resolved := #[]
  callSites := []
  init := .initialized
  statics := none
  mirror := none

def pool0 : Array CpInfo := pool [(5, u "<init>"), (0, u "()V"), (1, .class_ 10), (1, u "java/lang/Object")] 113

def k0c0 : Code := { maxStack := 0, maxLocals := 1, code := object_method_1_code, exceptionTable := #[], attributes := #[] }
def k0m0 : Method := { name := "<init>", desc := "()V", sig := { parameters := [], returnType := none }, accessFlags := 1, code := some k0c0 }
/-- java/lang/Object -/
def k0 : Class := { plain "java/lang/Object" none with
  accessFlags := 33
  interfaces := #[]
  cf := some (fileOf pool0 8 #[] #[{ accessFlags := 1, nameIndex := 5, descriptorIndex := 6, attributes := #[] }] 33 0 #[] #[])
  fields := #[]
  methods := #[k0m0]
  instanceTypes := #[]
  staticTypes := #[]
  resolved := Array.replicate 124 none
  statics := none }

def pool1 : Array CpInfo := pool [(2, .class_ 4), (1, u "java/lang/Object"), (0, u "<init>"), (0, u "()V"), (0, .integer 65535), (0, .methodref 9 10), (0, .class_ 11), (0, .nameAndType 12 13), (0, u "com/example/bote/bote/fields/FieldCursorSkipWhitespacePinLaw"), (0, u "draw"), (0, u "(I)C"), (0, .class_ 15), (0, u "com/example/bote/bote/fields/FieldCursor"), (0, .class_ 17), (0, u "java/lang/String"), (0, .methodref 16 19), (0, .nameAndType 5 20), (0, u "([C)V"), (0, .string 22), (0, u "shape"), (0, .methodref 14 24), (0, .nameAndType 5 25), (0, u "(Ljava/lang/String;Ljava/lang/String;)V"), (0, .methodref 14 27), (0, .nameAndType 28 29), (0, u "take"), (0, u "(C)Z"), (0, .methodref 9 31), (0, .nameAndType 32 29), (0, u "ws"), (0, .methodref 14 34), (0, .nameAndType 35 36), (0, u "skipWhitespace"), (0, u "()Z"), (0, .methodref 14 38), (0, .nameAndType 39 29), (0, u "isNext"), (3, u "law"), (0, u "(IIIII)Z")] 4

def k1m0 : Method := { name := "<init>", desc := "()V", sig := { parameters := [], returnType := none }, accessFlags := 1, code := none }
def k1c1 : Code := { maxStack := 2, maxLocals := 1, code := method_2_code, exceptionTable := #[], attributes := #[] }
def k1m1 : Method := { name := "ws", desc := "(C)Z", sig := { parameters := [.char], returnType := some .boolean }, accessFlags := 10, code := some k1c1 }
def k1c2 : Code := { maxStack := 2, maxLocals := 2, code := method_3_code, exceptionTable := #[], attributes := #[] }
def k1m2 : Method := { name := "draw", desc := "(I)C", sig := { parameters := [.int], returnType := some .char }, accessFlags := 10, code := some k1c2 }
def k1c3 : Code := { maxStack := 5, maxLocals := 18, code := code, exceptionTable := #[], attributes := #[] }
def k1m3 : Method := { name := "law", desc := "(IIIII)Z", sig := { parameters := [.int, .int, .int, .int, .int], returnType := some .boolean }, accessFlags := 9, code := some k1c3 }
/-- com/example/bote/bote/fields/FieldCursorSkipWhitespacePinLaw -/
def k1 : Class := { plain "com/example/bote/bote/fields/FieldCursorSkipWhitespacePinLaw" (some 0) with
  accessFlags := 49
  interfaces := #[]
  cf := some (fileOf pool1 9 #[] #[{ accessFlags := 1, nameIndex := 5, descriptorIndex := 6, attributes := #[] }, { accessFlags := 10, nameIndex := 32, descriptorIndex := 29, attributes := #[] }, { accessFlags := 10, nameIndex := 12, descriptorIndex := 13, attributes := #[] }, { accessFlags := 9, nameIndex := 43, descriptorIndex := 44, attributes := #[] }] 49 2 #[] #[])
  fields := #[]
  methods := #[k1m0, k1m1, k1m2, k1m3]
  instanceTypes := #[]
  staticTypes := #[]
  resolved := Array.replicate 49 none
  statics := none }

def pool2 : Array CpInfo := pool [(1, .methodref 2 3), (0, .class_ 4), (0, .nameAndType 5 6), (0, u "java/lang/Object"), (0, u "<init>"), (0, u "()V"), (0, .fieldref 8 9), (0, .class_ 10), (0, .nameAndType 11 12), (0, u "com/example/bote/bote/fields/FieldCursor"), (0, u "text"), (0, u "Ljava/lang/String;"), (0, .fieldref 8 14), (0, .nameAndType 15 12), (0, u "shape"), (0, .fieldref 8 17), (0, .nameAndType 18 19), (0, u "at"), (0, u "I"), (0, .methodref 21 22), (0, .class_ 23), (0, .nameAndType 24 25), (0, u "java/lang/String"), (0, u "length"), (0, u "()I"), (0, .methodref 21 27), (0, .nameAndType 28 29), (0, u "charAt"), (0, u "(I)C"), (2, u "skipWhitespace"), (0, u "()Z"), (2, u "take"), (0, u "(C)Z"), (0, .methodref 8 39), (0, .nameAndType 40 37), (0, u "isNext"), (44, u "TOKEN_SYMBOLS"), (1, u "(Ljava/lang/String;Ljava/lang/String;)V")] 11

def k2c0 : Code := { maxStack := 2, maxLocals := 3, code := prog_2_method_1_code, exceptionTable := #[], attributes := #[] }
def k2m0 : Method := { name := "<init>", desc := "(Ljava/lang/String;Ljava/lang/String;)V", sig := { parameters := [(.object "java/lang/String"), (.object "java/lang/String")], returnType := none }, accessFlags := 1, code := some k2c0 }
def k2c1 : Code := { maxStack := 3, maxLocals := 1, code := prog_2_method_2_code, exceptionTable := #[], attributes := #[] }
def k2m1 : Method := { name := "skipWhitespace", desc := "()Z", sig := { parameters := [], returnType := some .boolean }, accessFlags := 1, code := some k2c1 }
def k2c2 : Code := { maxStack := 2, maxLocals := 2, code := prog_2_method_5_code, exceptionTable := #[], attributes := #[] }
def k2m2 : Method := { name := "isNext", desc := "(C)Z", sig := { parameters := [.char], returnType := some .boolean }, accessFlags := 0, code := some k2c2 }
def k2c3 : Code := { maxStack := 3, maxLocals := 3, code := prog_2_method_6_code, exceptionTable := #[], attributes := #[] }
def k2m3 : Method := { name := "take", desc := "(C)Z", sig := { parameters := [.char], returnType := some .boolean }, accessFlags := 1, code := some k2c3 }
/-- com/example/bote/bote/fields/FieldCursor -/
def k2 : Class := { plain "com/example/bote/bote/fields/FieldCursor" (some 0) with
  accessFlags := 49
  interfaces := #[]
  cf := some (fileOf pool2 8 #[] #[{ accessFlags := 1, nameIndex := 5, descriptorIndex := 87, attributes := #[] }, { accessFlags := 1, nameIndex := 32, descriptorIndex := 33, attributes := #[] }, { accessFlags := 0, nameIndex := 40, descriptorIndex := 37, attributes := #[] }, { accessFlags := 1, nameIndex := 36, descriptorIndex := 37, attributes := #[] }] 49 2 #[] #[{ accessFlags := 26, nameIndex := 85, descriptorIndex := 12, attributes := #[] }, { accessFlags := 18, nameIndex := 11, descriptorIndex := 12, attributes := #[] }, { accessFlags := 18, nameIndex := 15, descriptorIndex := 12, attributes := #[] }, { accessFlags := 2, nameIndex := 18, descriptorIndex := 19, attributes := #[] }])
  fields := #[{ name := "TOKEN_SYMBOLS", type := (.object "java/lang/String"), accessFlags := 26, slot := 0, constantValue := 0 }, { name := "text", type := (.object "java/lang/String"), accessFlags := 18, slot := 0, constantValue := 0 }, { name := "shape", type := (.object "java/lang/String"), accessFlags := 18, slot := 1, constantValue := 0 }, { name := "at", type := .int, accessFlags := 2, slot := 2, constantValue := 0 }]
  methods := #[k2m0, k2m1, k2m2, k2m3]
  instanceTypes := #[(.object "java/lang/String"), (.object "java/lang/String"), .int]
  staticTypes := #[(.object "java/lang/String")]
  resolved := Array.replicate 99 none
  statics := none }

def pool3 : Array CpInfo := pool [(1, .class_ 2), (0, u "java/io/Serializable"), (0, .class_ 4), (0, u "java/lang/Object")] 2

/-- java/io/Serializable -/
def k3 : Class := { plain "java/io/Serializable" (some 0) with
  accessFlags := 1537
  interfaces := #[]
  cf := some (fileOf pool3 1 #[] #[] 1537 3 #[] #[])
  fields := #[]
  methods := #[]
  instanceTypes := #[]
  staticTypes := #[]
  resolved := Array.replicate 7 none
  statics := none }

def pool4 : Array CpInfo := pool [(1, .class_ 2), (0, u "java/lang/Comparable"), (0, .class_ 4), (0, u "java/lang/Object")] 7

/-- java/lang/Comparable -/
def k4 : Class := { plain "java/lang/Comparable" (some 0) with
  accessFlags := 1537
  interfaces := #[]
  cf := some (fileOf pool4 1 #[] #[] 1537 3 #[] #[])
  fields := #[]
  methods := #[]
  instanceTypes := #[]
  staticTypes := #[]
  resolved := Array.replicate 12 none
  statics := none }

def pool5 : Array CpInfo := pool [(2, .class_ 4), (1, u "java/lang/CharSequence"), (42, .class_ 48), (0, u "java/lang/CharSequence$1CodePointIterator"), (10, .class_ 60), (0, u "java/lang/CharSequence$1CharIterator"), (5, .class_ 67), (0, u "java/lang/Object")] 63

/-- java/lang/CharSequence -/
def k5 : Class := { plain "java/lang/CharSequence" (some 0) with
  accessFlags := 1537
  interfaces := #[]
  cf := some (fileOf pool5 2 #[.nestMembers #[47, 59]] #[] 1537 66 #[] #[])
  fields := #[]
  methods := #[]
  instanceTypes := #[]
  staticTypes := #[]
  resolved := Array.replicate 131 none
  statics := none }

def pool6 : Array CpInfo := pool [(1, .class_ 2), (0, u "java/lang/constant/Constable"), (0, .class_ 4), (0, u "java/lang/Object")] 6

/-- java/lang/constant/Constable -/
def k6 : Class := { plain "java/lang/constant/Constable" (some 0) with
  accessFlags := 1537
  interfaces := #[]
  cf := some (fileOf pool6 1 #[] #[] 1537 3 #[] #[])
  fields := #[]
  methods := #[]
  instanceTypes := #[]
  staticTypes := #[]
  resolved := Array.replicate 11 none
  statics := none }

def pool7 : Array CpInfo := pool [(1, .class_ 2), (0, u "java/lang/constant/ConstantDesc"), (0, .class_ 4), (0, u "java/lang/Object")] 32

/-- java/lang/constant/ConstantDesc -/
def k7 : Class := { plain "java/lang/constant/ConstantDesc" (some 0) with
  accessFlags := 1537
  interfaces := #[]
  cf := some (fileOf pool7 1 #[] #[] 1537 3 #[] #[])
  fields := #[]
  methods := #[]
  instanceTypes := #[]
  staticTypes := #[]
  resolved := Array.replicate 37 none
  statics := none }

def pool8 : Array CpInfo := pool [(1, .methodref 2 3), (0, .class_ 4), (0, .nameAndType 5 6), (0, u "java/lang/Object"), (0, u "<init>"), (0, u "()V"), (0, .string 8), (0, u ""), (0, .fieldref 10 11), (0, .class_ 12), (0, .nameAndType 13 14), (0, u "java/lang/String"), (0, u "value"), (0, u "[B"), (0, .fieldref 10 16), (0, .nameAndType 17 18), (0, u "coder"), (0, u "B"), (2, u "hash"), (0, u "I"), (2, u "hashIsZero"), (0, u "Z"), (0, .methodref 10 28), (0, .nameAndType 5 29), (0, u "([CIILjava/lang/Void;)V"), (8, .fieldref 10 39), (0, .nameAndType 40 26), (0, u "COMPACT_STRINGS"), (1, .class_ 44), (1, u "java/lang/StringUTF16"), (0, u "compress"), (1, .methodref 42 48), (0, .nameAndType 49 50), (0, u "coderFromArrayLen"), (0, u "([BI)B"), (56, .class_ 109), (1, u "java/lang/StringLatin1"), (32, u "()Z"), (34, .methodref 42 178), (0, .nameAndType 45 179), (0, u "([CII)[B"), (154, u "()I"), (0, .methodref 10 336), (0, .nameAndType 17 337), (0, u "()B"), (25, u "([BI)C"), (27, u "(II)V"), (35, u "(I)C"), (64, .methodref 10 493), (0, .nameAndType 494 142), (0, u "isLatin1"), (0, .methodref 107 496), (0, .nameAndType 497 363), (0, u "charAt"), (0, .methodref 42 496), (2, u "checkIndex"), (5, u "length"), (67, .class_ 576), (0, u "java/lang/CharSequence"), (22, u "CASE_INSENSITIVE_ORDER"), (0, u "Ljava/util/Comparator;"), (409, u "([C)V"), (42, .fieldref 1054 1055), (0, .class_ 1056), (0, .nameAndType 1057 1058), (0, u "jdk/internal/util/Preconditions"), (0, u "SIOOBE_FORMATTER"), (0, u "Ljava/util/function/BiFunction;"), (0, .methodref 1054 1060), (0, .nameAndType 501 1061), (0, u "(IILjava/util/function/BiFunction;)I"), (39, u "serialPersistentFields"), (0, u "[Ljava/io/ObjectStreamField;"), (0, .class_ 1104), (0, u "java/lang/String$CaseInsensitiveComparator"), (1, .class_ 1107), (0, u "java/io/Serializable"), (0, .class_ 1109), (0, u "java/lang/Comparable"), (0, .class_ 1111), (0, u "java/lang/constant/Constable"), (0, .class_ 1113), (0, u "java/lang/constant/ConstantDesc"), (2, u "serialVersionUID"), (0, u "J"), (3, u "REPL"), (0, u "C"), (2, u "LATIN1"), (1, u "UTF16")] 323

def k8m0 : Method := { name := "<init>", desc := "()V", sig := { parameters := [], returnType := none }, accessFlags := 1, code := none }
def k8c1 : Code := { maxStack := 5, maxLocals := 2, code := jdk_42_method_3_code, exceptionTable := #[], attributes := #[] }
def k8m1 : Method := { name := "<init>", desc := "([C)V", sig := { parameters := [(.array .char)], returnType := none }, accessFlags := 1, code := some k8c1 }
def k8c2 : Code := { maxStack := 2, maxLocals := 1, code := jdk_42_method_54_code, exceptionTable := #[], attributes := #[] }
def k8m2 : Method := { name := "length", desc := "()I", sig := { parameters := [], returnType := some .int }, accessFlags := 1, code := some k8c2 }
def k8c3 : Code := { maxStack := 2, maxLocals := 2, code := jdk_42_method_56_code, exceptionTable := #[], attributes := #[] }
def k8m3 : Method := { name := "charAt", desc := "(I)C", sig := { parameters := [.int], returnType := some .char }, accessFlags := 1, code := some k8c3 }
def k8c4 : Code := { maxStack := 4, maxLocals := 6, code := jdk_42_method_149_code, exceptionTable := #[], attributes := #[] }
def k8m4 : Method := { name := "<init>", desc := "([CIILjava/lang/Void;)V", sig := { parameters := [(.array .char), .int, .int, (.object "java/lang/Void")], returnType := none }, accessFlags := 2, code := some k8c4 }
def k8c5 : Code := { maxStack := 1, maxLocals := 1, code := jdk_42_method_152_code, exceptionTable := #[], attributes := #[] }
def k8m5 : Method := { name := "coder", desc := "()B", sig := { parameters := [], returnType := some .byte }, accessFlags := 0, code := some k8c5 }
def k8c6 : Code := { maxStack := 1, maxLocals := 1, code := jdk_42_method_154_code, exceptionTable := #[], attributes := #[] }
def k8m6 : Method := { name := "isLatin1", desc := "()Z", sig := { parameters := [], returnType := some .boolean }, accessFlags := 0, code := some k8c6 }
def k8c7 : Code := { maxStack := 3, maxLocals := 2, code := jdk_42_method_155_code, exceptionTable := #[], attributes := #[] }
def k8m7 : Method := { name := "checkIndex", desc := "(II)V", sig := { parameters := [.int, .int], returnType := none }, accessFlags := 8, code := some k8c7 }
/-- java/lang/String -/
def k8 : Class := { plain "java/lang/String" (some 0) with
  accessFlags := 49
  interfaces := #[3, 4, 5, 6, 7]
  cf := some (fileOf pool8 10 #[.nestMembers #[1103]] #[{ accessFlags := 1, nameIndex := 5, descriptorIndex := 6, attributes := #[] }, { accessFlags := 1, nameIndex := 5, descriptorIndex := 1010, attributes := #[] }, { accessFlags := 1, nameIndex := 507, descriptorIndex := 334, attributes := #[] }, { accessFlags := 1, nameIndex := 497, descriptorIndex := 427, attributes := #[] }, { accessFlags := 2, nameIndex := 5, descriptorIndex := 29, attributes := #[] }, { accessFlags := 0, nameIndex := 17, descriptorIndex := 337, attributes := #[] }, { accessFlags := 0, nameIndex := 494, descriptorIndex := 142, attributes := #[] }, { accessFlags := 8, nameIndex := 501, descriptorIndex := 391, attributes := #[] }] 49 2 #[1106, 1108, 575, 1110, 1112] #[{ accessFlags := 18, nameIndex := 13, descriptorIndex := 14, attributes := #[] }, { accessFlags := 18, nameIndex := 17, descriptorIndex := 18, attributes := #[] }, { accessFlags := 2, nameIndex := 21, descriptorIndex := 22, attributes := #[] }, { accessFlags := 2, nameIndex := 25, descriptorIndex := 26, attributes := #[] }, { accessFlags := 26, nameIndex := 1116, descriptorIndex := 1117, attributes := #[] }, { accessFlags := 24, nameIndex := 40, descriptorIndex := 26, attributes := #[] }, { accessFlags := 26, nameIndex := 1101, descriptorIndex := 1102, attributes := #[] }, { accessFlags := 26, nameIndex := 1121, descriptorIndex := 1122, attributes := #[] }, { accessFlags := 25, nameIndex := 599, descriptorIndex := 600, attributes := #[] }, { accessFlags := 24, nameIndex := 1125, descriptorIndex := 18, attributes := #[] }, { accessFlags := 24, nameIndex := 1127, descriptorIndex := 18, attributes := #[] }])
  fields := #[{ name := "value", type := (.array .byte), accessFlags := 18, slot := 0, constantValue := 0 }, { name := "coder", type := .byte, accessFlags := 18, slot := 1, constantValue := 0 }, { name := "hash", type := .int, accessFlags := 2, slot := 2, constantValue := 0 }, { name := "hashIsZero", type := .boolean, accessFlags := 2, slot := 3, constantValue := 0 }, { name := "serialVersionUID", type := .long, accessFlags := 26, slot := 0, constantValue := 0 }, { name := "COMPACT_STRINGS", type := .boolean, accessFlags := 24, slot := 1, constantValue := 0 }, { name := "serialPersistentFields", type := (.array (.object "java/io/ObjectStreamField")), accessFlags := 26, slot := 2, constantValue := 0 }, { name := "REPL", type := .char, accessFlags := 26, slot := 3, constantValue := 0 }, { name := "CASE_INSENSITIVE_ORDER", type := (.object "java/util/Comparator"), accessFlags := 25, slot := 4, constantValue := 0 }, { name := "LATIN1", type := .byte, accessFlags := 24, slot := 5, constantValue := 0 }, { name := "UTF16", type := .byte, accessFlags := 24, slot := 6, constantValue := 0 }]
  methods := #[k8m0, k8m1, k8m2, k8m3, k8m4, k8m5, k8m6, k8m7]
  instanceTypes := #[(.array .byte), .byte, .int, .boolean]
  staticTypes := #[.long, .boolean, (.array (.object "java/io/ObjectStreamField")), .char, (.object "java/util/Comparator"), .byte, .byte]
  resolved := Array.replicate 1451 none
  statics := some 0 }

def pool9 : Array CpInfo := pool [(3, .class_ 4), (0, u "java/lang/String"), (1, .class_ 8), (1, u "java/lang/Object"), (0, u "<init>"), (0, u "()V"), (0, .methodref 12 13), (0, .class_ 14), (0, .nameAndType 15 16), (0, u "java/lang/StringUTF16"), (0, u "newBytesLength"), (0, u "(I)I"), (3, .integer 1073741823), (23, .fieldref 12 45), (0, .nameAndType 46 47), (0, u "$assertionsDisabled"), (0, u "Z"), (0, .methodref 12 49), (0, .nameAndType 50 51), (0, u "length"), (0, u "([B)I"), (7, .fieldref 12 60), (0, .nameAndType 61 62), (0, u "HI_BYTE_SHIFT"), (0, u "I"), (0, .fieldref 12 64), (0, .nameAndType 65 62), (0, u "LO_BYTE_SHIFT"), (1, .methodref 12 68), (0, .nameAndType 69 70), (0, u "checkIndex"), (0, u "(I[B)V"), (0, .methodref 12 72), (0, .nameAndType 73 74), (0, u "getChar"), (0, u "([BI)C"), (32, .methodref 12 108), (0, .nameAndType 109 110), (0, u "newBytesFor"), (0, u "(I)[B"), (0, .methodref 12 112), (0, .nameAndType 113 114), (0, u "putChar"), (0, u "([BII)V"), (0, .methodref 12 116), (0, .nameAndType 117 118), (0, u "compress"), (0, u "([CI[BII)I"), (0, .methodref 12 120), (0, .nameAndType 121 122), (0, u "toBytes"), (0, u "([CII)[B"), (138, u "coderFromArrayLen"), (0, u "([BI)B"), (106, .class_ 371), (1, u "java/lang/StringUTF16$LinesSpliterator"), (20, u "charAt"), (21, .methodref 3 415), (0, .nameAndType 69 416), (0, u "(II)V"), (13, u "MAX_LENGTH"), (196, .class_ 628), (0, u "java/lang/StringUTF16$CodePointsSpliterator"), (0, .class_ 630), (0, u "java/lang/StringUTF16$CharsSpliterator")] 4

def k9m0 : Method := { name := "<init>", desc := "()V", sig := { parameters := [], returnType := none }, accessFlags := 0, code := none }
def k9c1 : Code := { maxStack := 1, maxLocals := 1, code := jdk_52_method_2_code, exceptionTable := #[], attributes := #[] }
def k9m1 : Method := { name := "newBytesFor", desc := "(I)[B", sig := { parameters := [.int], returnType := some (.array .byte) }, accessFlags := 9, code := some k9c1 }
def k9c2 : Code := { maxStack := 4, maxLocals := 1, code := jdk_52_method_3_code, exceptionTable := #[], attributes := #[] }
def k9m2 : Method := { name := "newBytesLength", desc := "(I)I", sig := { parameters := [.int], returnType := some .int }, accessFlags := 9, code := some k9c2 }
def k9c3 : Code := { maxStack := 4, maxLocals := 3, code := jdk_52_method_4_code, exceptionTable := #[], attributes := #[] }
def k9m3 : Method := { name := "putChar", desc := "([BII)V", sig := { parameters := [(.array .byte), .int, .int], returnType := none }, accessFlags := 8, code := some k9c3 }
def k9c4 : Code := { maxStack := 3, maxLocals := 2, code := jdk_52_method_5_code, exceptionTable := #[], attributes := #[] }
def k9m4 : Method := { name := "getChar", desc := "([BI)C", sig := { parameters := [(.array .byte), .int], returnType := some .char }, accessFlags := 8, code := some k9c4 }
def k9c5 : Code := { maxStack := 2, maxLocals := 1, code := jdk_52_method_6_code, exceptionTable := #[], attributes := #[] }
def k9m5 : Method := { name := "length", desc := "([B)I", sig := { parameters := [(.array .byte)], returnType := some .int }, accessFlags := 9, code := some k9c5 }
def k9c6 : Code := { maxStack := 4, maxLocals := 5, code := jdk_52_method_14_code, exceptionTable := #[], attributes := #[] }
def k9m6 : Method := { name := "toBytes", desc := "([CII)[B", sig := { parameters := [(.array .char), .int, .int], returnType := some (.array .byte) }, accessFlags := 9, code := some k9c6 }
def k9c7 : Code := { maxStack := 2, maxLocals := 2, code := jdk_52_method_15_code, exceptionTable := #[], attributes := #[] }
def k9m7 : Method := { name := "coderFromArrayLen", desc := "([BI)B", sig := { parameters := [(.array .byte), .int], returnType := some .byte }, accessFlags := 8, code := some k9c7 }
def k9c8 : Code := { maxStack := 5, maxLocals := 6, code := jdk_52_method_16_code, exceptionTable := #[], attributes := #[] }
def k9m8 : Method := { name := "compress", desc := "([CII)[B", sig := { parameters := [(.array .char), .int, .int], returnType := some (.array .byte) }, accessFlags := 9, code := some k9c8 }
def k9c9 : Code := { maxStack := 3, maxLocals := 7, code := jdk_52_method_21_code, exceptionTable := #[], attributes := #[] }
def k9m9 : Method := { name := "compress", desc := "([CI[BII)I", sig := { parameters := [(.array .char), .int, (.array .byte), .int, .int], returnType := some .int }, accessFlags := 9, code := some k9c9 }
def k9c10 : Code := { maxStack := 2, maxLocals := 2, code := jdk_52_method_83_code, exceptionTable := #[], attributes := #[] }
def k9m10 : Method := { name := "charAt", desc := "([BI)C", sig := { parameters := [(.array .byte), .int], returnType := some .char }, accessFlags := 9, code := some k9c10 }
def k9c11 : Code := { maxStack := 2, maxLocals := 2, code := jdk_52_method_91_code, exceptionTable := #[], attributes := #[] }
def k9m11 : Method := { name := "checkIndex", desc := "(I[B)V", sig := { parameters := [.int, (.array .byte)], returnType := none }, accessFlags := 9, code := some k9c11 }
/-- java/lang/StringUTF16 -/
def k9 : Class := { plain "java/lang/StringUTF16" (some 0) with
  accessFlags := 48
  interfaces := #[]
  cf := some (fileOf pool9 12 #[.nestMembers #[627, 629, 369]] #[{ accessFlags := 0, nameIndex := 9, descriptorIndex := 10, attributes := #[] }, { accessFlags := 9, nameIndex := 109, descriptorIndex := 110, attributes := #[] }, { accessFlags := 9, nameIndex := 15, descriptorIndex := 16, attributes := #[] }, { accessFlags := 8, nameIndex := 113, descriptorIndex := 114, attributes := #[] }, { accessFlags := 8, nameIndex := 73, descriptorIndex := 74, attributes := #[] }, { accessFlags := 9, nameIndex := 50, descriptorIndex := 51, attributes := #[] }, { accessFlags := 9, nameIndex := 121, descriptorIndex := 122, attributes := #[] }, { accessFlags := 8, nameIndex := 261, descriptorIndex := 262, attributes := #[] }, { accessFlags := 9, nameIndex := 117, descriptorIndex := 122, attributes := #[] }, { accessFlags := 9, nameIndex := 117, descriptorIndex := 118, attributes := #[] }, { accessFlags := 9, nameIndex := 392, descriptorIndex := 74, attributes := #[] }, { accessFlags := 9, nameIndex := 69, descriptorIndex := 70, attributes := #[] }] 48 6 #[] #[{ accessFlags := 26, nameIndex := 61, descriptorIndex := 62, attributes := #[] }, { accessFlags := 26, nameIndex := 65, descriptorIndex := 62, attributes := #[] }, { accessFlags := 24, nameIndex := 430, descriptorIndex := 62, attributes := #[] }, { accessFlags := 4120, nameIndex := 46, descriptorIndex := 47, attributes := #[] }])
  fields := #[{ name := "HI_BYTE_SHIFT", type := .int, accessFlags := 26, slot := 0, constantValue := 0 }, { name := "LO_BYTE_SHIFT", type := .int, accessFlags := 26, slot := 1, constantValue := 0 }, { name := "MAX_LENGTH", type := .int, accessFlags := 24, slot := 2, constantValue := 0 }, { name := "$assertionsDisabled", type := .boolean, accessFlags := 4120, slot := 3, constantValue := 0 }]
  methods := #[k9m0, k9m1, k9m2, k9m3, k9m4, k9m5, k9m6, k9m7, k9m8, k9m9, k9m10, k9m11]
  instanceTypes := #[]
  staticTypes := #[.int, .int, .int, .boolean]
  resolved := Array.replicate 635 none
  statics := some 1 }

def pool10 : Array CpInfo := pool [(1, .class_ 2), (0, u "java/lang/String"), (1, .class_ 6), (1, u "java/lang/Object"), (0, u "<init>"), (0, u "()V"), (0, .methodref 1 10), (0, .nameAndType 11 12), (0, u "checkIndex"), (0, u "(II)V"), (1, .class_ 16), (1, u "java/lang/StringLatin1"), (36, u "([BI)C"), (67, u "$assertionsDisabled"), (0, u "Z"), (98, .class_ 223), (1, u "java/lang/StringLatin1$LinesSpliterator"), (28, u "charAt"), (137, .class_ 391), (0, u "java/lang/StringLatin1$CharsSpliterator")] 3

def k10m0 : Method := { name := "<init>", desc := "()V", sig := { parameters := [], returnType := none }, accessFlags := 0, code := none }
def k10c1 : Code := { maxStack := 2, maxLocals := 2, code := jdk_43_method_2_code, exceptionTable := #[], attributes := #[] }
def k10m1 : Method := { name := "charAt", desc := "([BI)C", sig := { parameters := [(.array .byte), .int], returnType := some .char }, accessFlags := 9, code := some k10c1 }
/-- java/lang/StringLatin1 -/
def k10 : Class := { plain "java/lang/StringLatin1" (some 0) with
  accessFlags := 48
  interfaces := #[]
  cf := some (fileOf pool10 14 #[.nestMembers #[390, 221]] #[{ accessFlags := 0, nameIndex := 7, descriptorIndex := 8, attributes := #[] }, { accessFlags := 9, nameIndex := 252, descriptorIndex := 53, attributes := #[] }] 48 4 #[] #[{ accessFlags := 4120, nameIndex := 121, descriptorIndex := 122, attributes := #[] }])
  fields := #[{ name := "$assertionsDisabled", type := .boolean, accessFlags := 4120, slot := 0, constantValue := 0 }]
  methods := #[k10m0, k10m1]
  instanceTypes := #[]
  staticTypes := #[.boolean]
  resolved := Array.replicate 395 none
  statics := none }

def pool11 : Array CpInfo := pool [(2, .class_ 4), (1, u "java/lang/Object"), (0, u "<init>"), (0, u "()V"), (17, .class_ 26), (1, u "jdk/internal/util/Preconditions"), (6, u "checkIndex"), (21, .class_ 56), (0, u "jdk/internal/util/Preconditions$4"), (57, .class_ 115), (0, u "jdk/internal/util/Preconditions$1"), (7, u "SIOOBE_FORMATTER"), (0, u "Ljava/util/function/BiFunction;"), (0, .class_ 126), (0, u "jdk/internal/util/Preconditions$2"), (3, u "AIOOBE_FORMATTER"), (0, .class_ 132), (0, u "jdk/internal/util/Preconditions$3"), (3, u "IOOBE_FORMATTER"), (41, u "(IILjava/util/function/BiFunction;)I")] 15

def k11m0 : Method := { name := "<init>", desc := "()V", sig := { parameters := [], returnType := none }, accessFlags := 1, code := none }
def k11c1 : Code := { maxStack := 3, maxLocals := 3, code := jdk_41_method_11_code, exceptionTable := #[], attributes := #[] }
def k11m1 : Method := { name := "checkIndex", desc := "(IILjava/util/function/BiFunction;)I", sig := { parameters := [.int, .int, (.object "java/util/function/BiFunction")], returnType := some .int }, accessFlags := 9, code := some k11c1 }
/-- jdk/internal/util/Preconditions -/
def k11 : Class := { plain "jdk/internal/util/Preconditions" (some 0) with
  accessFlags := 33
  interfaces := #[]
  cf := some (fileOf pool11 24 #[.nestMembers #[55, 131, 125, 114]] #[{ accessFlags := 1, nameIndex := 5, descriptorIndex := 6, attributes := #[] }, { accessFlags := 9, nameIndex := 33, descriptorIndex := 178, attributes := #[] }] 33 2 #[] #[{ accessFlags := 25, nameIndex := 123, descriptorIndex := 124, attributes := #[] }, { accessFlags := 25, nameIndex := 130, descriptorIndex := 124, attributes := #[] }, { accessFlags := 25, nameIndex := 136, descriptorIndex := 124, attributes := #[] }])
  fields := #[{ name := "SIOOBE_FORMATTER", type := (.object "java/util/function/BiFunction"), accessFlags := 25, slot := 0, constantValue := 0 }, { name := "AIOOBE_FORMATTER", type := (.object "java/util/function/BiFunction"), accessFlags := 25, slot := 1, constantValue := 0 }, { name := "IOOBE_FORMATTER", type := (.object "java/util/function/BiFunction"), accessFlags := 25, slot := 2, constantValue := 0 }]
  methods := #[k11m0, k11m1]
  instanceTypes := #[]
  staticTypes := #[(.object "java/util/function/BiFunction"), (.object "java/util/function/BiFunction"), (.object "java/util/function/BiFunction")]
  resolved := Array.replicate 194 none
  statics := some 2 }

def pool12 : Array CpInfo := pool [(9, u "<init>"), (6, .class_ 18), (1, u "java/lang/Object"), (0, u "()V"), (1, .class_ 23), (1, u "jdk/internal/util/ArraysSupport"), (0, u "LOG2_ARRAY_LONG_INDEX_SCALE"), (0, u "I"), (2, u "U"), (0, u "Ljdk/internal/misc/Unsafe;"), (8, u "BIG_ENDIAN"), (0, u "Z"), (8, u "LOG2_BYTE_BIT_SIZE"), (4, u "LOG2_ARRAY_INT_INDEX_SCALE"), (54, u "JLA"), (0, u "Ljdk/internal/access/JavaLangAccess;"), (11, u "LOG2_ARRAY_BOOLEAN_INDEX_SCALE"), (9, u "LOG2_ARRAY_BYTE_INDEX_SCALE"), (5, u "LOG2_ARRAY_CHAR_INDEX_SCALE"), (5, u "LOG2_ARRAY_SHORT_INDEX_SCALE"), (18, u "LOG2_ARRAY_FLOAT_INDEX_SCALE"), (24, u "LOG2_ARRAY_DOUBLE_INDEX_SCALE"), (89, u "T_BOOLEAN"), (2, u "T_CHAR"), (1, u "T_FLOAT"), (1, u "T_DOUBLE"), (1, u "T_BYTE"), (1, u "T_SHORT"), (1, u "T_INT"), (1, u "T_LONG"), (1, u "SOFT_MAX_ARRAY_LENGTH")] 83

def k12m0 : Method := { name := "<init>", desc := "()V", sig := { parameters := [], returnType := none }, accessFlags := 2, code := none }
/-- jdk/internal/util/ArraysSupport -/
def k12 : Class := { plain "jdk/internal/util/ArraysSupport" (some 0) with
  accessFlags := 33
  interfaces := #[]
  cf := some (fileOf pool12 21 #[] #[{ accessFlags := 2, nameIndex := 9, descriptorIndex := 19, attributes := #[] }] 33 16 #[] #[{ accessFlags := 24, nameIndex := 28, descriptorIndex := 29, attributes := #[] }, { accessFlags := 26, nameIndex := 38, descriptorIndex := 39, attributes := #[] }, { accessFlags := 25, nameIndex := 121, descriptorIndex := 25, attributes := #[] }, { accessFlags := 25, nameIndex := 131, descriptorIndex := 25, attributes := #[] }, { accessFlags := 25, nameIndex := 137, descriptorIndex := 25, attributes := #[] }, { accessFlags := 25, nameIndex := 143, descriptorIndex := 25, attributes := #[] }, { accessFlags := 25, nameIndex := 53, descriptorIndex := 25, attributes := #[] }, { accessFlags := 25, nameIndex := 24, descriptorIndex := 25, attributes := #[] }, { accessFlags := 25, nameIndex := 162, descriptorIndex := 25, attributes := #[] }, { accessFlags := 25, nameIndex := 187, descriptorIndex := 25, attributes := #[] }, { accessFlags := 26, nameIndex := 48, descriptorIndex := 25, attributes := #[] }, { accessFlags := 25, nameIndex := 277, descriptorIndex := 25, attributes := #[] }, { accessFlags := 25, nameIndex := 280, descriptorIndex := 25, attributes := #[] }, { accessFlags := 25, nameIndex := 282, descriptorIndex := 25, attributes := #[] }, { accessFlags := 25, nameIndex := 284, descriptorIndex := 25, attributes := #[] }, { accessFlags := 25, nameIndex := 286, descriptorIndex := 25, attributes := #[] }, { accessFlags := 25, nameIndex := 288, descriptorIndex := 25, attributes := #[] }, { accessFlags := 25, nameIndex := 290, descriptorIndex := 25, attributes := #[] }, { accessFlags := 25, nameIndex := 292, descriptorIndex := 25, attributes := #[] }, { accessFlags := 26, nameIndex := 108, descriptorIndex := 109, attributes := #[] }, { accessFlags := 25, nameIndex := 294, descriptorIndex := 25, attributes := #[] }])
  fields := #[{ name := "U", type := (.object "jdk/internal/misc/Unsafe"), accessFlags := 24, slot := 0, constantValue := 0 }, { name := "BIG_ENDIAN", type := .boolean, accessFlags := 26, slot := 1, constantValue := 0 }, { name := "LOG2_ARRAY_BOOLEAN_INDEX_SCALE", type := .int, accessFlags := 25, slot := 2, constantValue := 0 }, { name := "LOG2_ARRAY_BYTE_INDEX_SCALE", type := .int, accessFlags := 25, slot := 3, constantValue := 0 }, { name := "LOG2_ARRAY_CHAR_INDEX_SCALE", type := .int, accessFlags := 25, slot := 4, constantValue := 0 }, { name := "LOG2_ARRAY_SHORT_INDEX_SCALE", type := .int, accessFlags := 25, slot := 5, constantValue := 0 }, { name := "LOG2_ARRAY_INT_INDEX_SCALE", type := .int, accessFlags := 25, slot := 6, constantValue := 0 }, { name := "LOG2_ARRAY_LONG_INDEX_SCALE", type := .int, accessFlags := 25, slot := 7, constantValue := 0 }, { name := "LOG2_ARRAY_FLOAT_INDEX_SCALE", type := .int, accessFlags := 25, slot := 8, constantValue := 0 }, { name := "LOG2_ARRAY_DOUBLE_INDEX_SCALE", type := .int, accessFlags := 25, slot := 9, constantValue := 0 }, { name := "LOG2_BYTE_BIT_SIZE", type := .int, accessFlags := 26, slot := 10, constantValue := 0 }, { name := "T_BOOLEAN", type := .int, accessFlags := 25, slot := 11, constantValue := 0 }, { name := "T_CHAR", type := .int, accessFlags := 25, slot := 12, constantValue := 0 }, { name := "T_FLOAT", type := .int, accessFlags := 25, slot := 13, constantValue := 0 }, { name := "T_DOUBLE", type := .int, accessFlags := 25, slot := 14, constantValue := 0 }, { name := "T_BYTE", type := .int, accessFlags := 25, slot := 15, constantValue := 0 }, { name := "T_SHORT", type := .int, accessFlags := 25, slot := 16, constantValue := 0 }, { name := "T_INT", type := .int, accessFlags := 25, slot := 17, constantValue := 0 }, { name := "T_LONG", type := .int, accessFlags := 25, slot := 18, constantValue := 0 }, { name := "JLA", type := (.object "jdk/internal/access/JavaLangAccess"), accessFlags := 26, slot := 19, constantValue := 0 }, { name := "SOFT_MAX_ARRAY_LENGTH", type := .int, accessFlags := 25, slot := 20, constantValue := 0 }]
  methods := #[k12m0]
  instanceTypes := #[]
  staticTypes := #[(.object "jdk/internal/misc/Unsafe"), .boolean, .int, .int, .int, .int, .int, .int, .int, .int, .int, .int, .int, .int, .int, .int, .int, .int, .int, (.object "jdk/internal/access/JavaLangAccess"), .int]
  resolved := Array.replicate 378 none
  statics := none }

def pool13 : Array CpInfo := pool [(1, u "java/lang/Cloneable"), (0, .class_ 1), (0, u "java/lang/Object"), (0, .class_ 3)] 3

/-- java/lang/Cloneable -/
def k13 : Class := { plain "java/lang/Cloneable" (some 0) with
  accessFlags := 1537
  interfaces := #[]
  cf := some (fileOf pool13 2 #[] #[] 1537 4 #[] #[])
  fields := #[]
  methods := #[]
  instanceTypes := #[]
  staticTypes := #[]
  resolved := Array.replicate 8 none
  statics := none }

/-- the primitive byte -/
def k14 : Class := { plain "byte" none with kind := .primitive 'B', accessFlags := 0x411 }
/-- [B -/
def k15 : Class := { plain "[B" (some 0) with kind := .array 14 .byte, interfaces := #[13, 3], accessFlags := 1041 }

/-- the primitive char -/
def k16 : Class := { plain "char" none with kind := .primitive 'C', accessFlags := 0x411 }
/-- [C -/
def k17 : Class := { plain "[C" (some 0) with kind := .array 16 .char, interfaces := #[13, 3], accessFlags := 1041 }

/-- the primitive int -/
def k18 : Class := { plain "int" none with kind := .primitive 'I', accessFlags := 0x411 }
/-- [I -/
def k19 : Class := { plain "[I" (some 0) with kind := .array 18 .int, interfaces := #[13, 3], accessFlags := 1041 }

def heap : Heap := #[{ cls := 8, slots := #[.long 0, .int 1, .null, .int 0, .null, .int 0, .int 0], vm := .statics 8 },
  { cls := 9, slots := #[.int 0, .int 8, .int 0, .int 1], vm := .statics 9 },
  { cls := 11, slots := #[.null, .null, .null], vm := .statics 11 }]
def classes : Array Class := #[k0, k1, k2, k3, k4, k5, k6, k7, k8, k9, k10, k11, k12, k13, k14, k15, k16, k17, k18, k19]
def interned : List (Array UInt16 × Addr) := []
def slotsUsed : Nat := 14
def theMethod : MethodId := ⟨1, 3⟩
def args0 : Array Value := #[.int 5, .int 6, .int 7, .int 8, .int 9]
def aboutOver (below : List Frame) : State where
  vm := { classes := classes, interned := interned.toArray }
  heap := heap
  slotsUsed := slotsUsed
  threads := #[{ frames := .invoking theMethod args0 :: below }]
def below0 : List Frame := [.native { method := ⟨0, 0⟩, args := #[] }]
def about1 : State := aboutOver below0
def p0 : Program := .bare "" "" ""
def e0 : Env := launch0.env 0 0 0
theorem w_frames : about1.frames = Frame.invoking theMethod args0 :: below0 := rfl
set_option maxRecDepth 65536 in
theorem w_args : argsFit about1.vm theMethod args0 = true := by decide +kernel
set_option maxRecDepth 65536 in
theorem w_heap : heapFits about1 = true := by decide +kernel
set_option maxRecDepth 65536 in
theorem w_runnable : about1.curStatus? = some .runnable := by decide +kernel
set_option maxRecDepth 65536 in
theorem w_alone : about1.alone = true := by decide +kernel
set_option maxRecDepth 65536 in
theorem w_named : about1.methodNamed? x = some theMethod := by decide +kernel
set_option maxRecDepth 65536 in
theorem w_hears : about1.hears theMethod below0 = true := by decide +kernel
set_option maxRecDepth 65536 in
theorem w_ripe : about1.ripe theMethod args0 below0 = true := by decide +kernel
theorem w_running : about1.status = .running := rfl
set_option maxRecDepth 65536 in
theorem w_room : about1.hasRoom e0.platform room_1 = true :=
  launch0.hasRoom_least _ room_1 (by decide +kernel) (by decide +kernel) (by decide +kernel) (by decide +kernel) (by decide +kernel) (by decide +kernel)
theorem allAtoms_all (ts : List Jvm.Cond) (a : Array Jvm.Value) (st : Jvm.State) : (allAtoms ts).before a st = ts.all (fun c => c.before a st) := by
  induction ts with
  | nil => rfl
  | cons c t ih =>
    show (Jvm.Cond.and c (allAtoms t)).before a st = _
    rw [Jvm.Cond.before_and, ih, List.all_cons]
def words1 : List Jvm.Cond := Jvm.Cond.code x code maxLocals ret :: tables_1
/-- a 'code' word, met by the world's own term for the bytes: nothing is compared byte by byte -/
theorem code_word {y : MethodName} {bytes : ByteArray} {mx : Nat} {rt : Option FieldType} {a : Array Value} {s : State} {m : MethodId} {meth : Method} {c : Code} (h1 : s.methodNamed? y = some m) (h2 : s.vm.method? m = some meth) (h3 : meth.code = some c) (h4 : c.code = bytes)
    (h5 : (c.maxLocals == mx && c.exceptionTable.isEmpty && decide (c.maxStack ≤ mostOperands) && decide (meth.sig.returnType = rt) && !meth.locks && decide (parseMethodDescriptor y.desc = some meth.sig)) = true) : (Jvm.Cond.code y bytes mx rt).before a s = true := by
  simp only [Bool.and_eq_true, beq_iff_eq, Bool.not_eq_true', decide_eq_true_eq] at h5
  obtain ⟨⟨⟨⟨⟨g1, g2⟩, g3⟩, g4⟩, g5⟩, g6⟩ := h5
  simp [Cond.before, Cond.holds, Cond.value, h1, h2, h3, h4, g1, g2, g3, g4, g5, g6]
def isCode : Jvm.Cond → Bool
  | .code _ _ _ _ => true
  | _ => false
theorem all_split {L : List Jvm.Cond} {P : Jvm.Cond → Bool} (h1 : L.all (fun c => isCode c || P c) = true) (h2 : ∀ c ∈ L.filter isCode, P c = true) : L.all P = true := by
  refine List.all_eq_true.mpr fun c hc => ?_
  have h := List.all_eq_true.mp h1 c hc
  rcases Bool.eq_false_or_eq_true (isCode c) with hi | hi
  · exact h2 c (List.mem_filter.mpr ⟨hc, hi⟩)
  · simpa [hi] using h
set_option maxRecDepth 65536 in
theorem w_c0 : (Jvm.Cond.code x code maxLocals ret).before args0 about1 = true := code_word (m := ⟨1, 3⟩) (meth := k1m3) (c := k1c3) (by decide +kernel) rfl rfl rfl (by decide +kernel)
set_option maxRecDepth 65536 in
theorem w_c1 : (Jvm.Cond.code ({ cls := "com/example/bote/bote/fields/FieldCursorSkipWhitespacePinLaw", name := "draw", desc := "(I)C" } : Jvm.MethodName) method_3_code (2 : Nat) (Option.some Jvm.ClassFile.FieldType.char)).before args0 about1 = true := code_word (m := ⟨1, 2⟩) (meth := k1m2) (c := k1c2) (by decide +kernel) rfl rfl rfl (by decide +kernel)
set_option maxRecDepth 65536 in
theorem w_c2 : (Jvm.Cond.code ({ cls := "java/lang/String", name := "<init>", desc := "([C)V" } : Jvm.MethodName) jdk_42_method_3_code (2 : Nat) (Option.none : Option Jvm.ClassFile.FieldType)).before args0 about1 = true := code_word (m := ⟨8, 1⟩) (meth := k8m1) (c := k8c1) (by decide +kernel) rfl rfl rfl (by decide +kernel)
set_option maxRecDepth 65536 in
theorem w_c3 : (Jvm.Cond.code ({ cls := "java/lang/String", name := "<init>", desc := "([CIILjava/lang/Void;)V" } : Jvm.MethodName) jdk_42_method_149_code (6 : Nat) (Option.none : Option Jvm.ClassFile.FieldType)).before args0 about1 = true := code_word (m := ⟨8, 4⟩) (meth := k8m4) (c := k8c4) (by decide +kernel) rfl rfl rfl (by decide +kernel)
set_option maxRecDepth 65536 in
theorem w_c4 : (Jvm.Cond.code ({ cls := "java/lang/Object", name := "<init>", desc := "()V" } : Jvm.MethodName) object_method_1_code (1 : Nat) (Option.none : Option Jvm.ClassFile.FieldType)).before args0 about1 = true := code_word (m := ⟨0, 0⟩) (meth := k0m0) (c := k0c0) (by decide +kernel) rfl rfl rfl (by decide +kernel)
set_option maxRecDepth 65536 in
theorem w_c5 : (Jvm.Cond.code ({ cls := "com/example/bote/bote/fields/FieldCursor", name := "<init>", desc := "(Ljava/lang/String;Ljava/lang/String;)V" } : Jvm.MethodName) prog_2_method_1_code (3 : Nat) (Option.none : Option Jvm.ClassFile.FieldType)).before args0 about1 = true := code_word (m := ⟨2, 0⟩) (meth := k2m0) (c := k2c0) (by decide +kernel) rfl rfl rfl (by decide +kernel)
set_option maxRecDepth 65536 in
theorem w_c6 : (Jvm.Cond.code ({ cls := "com/example/bote/bote/fields/FieldCursor", name := "skipWhitespace", desc := "()Z" } : Jvm.MethodName) prog_2_method_2_code (1 : Nat) (Option.some Jvm.ClassFile.FieldType.boolean)).before args0 about1 = true := code_word (m := ⟨2, 1⟩) (meth := k2m1) (c := k2c1) (by decide +kernel) rfl rfl rfl (by decide +kernel)
set_option maxRecDepth 65536 in
theorem w_c7 : (Jvm.Cond.code ({ cls := "java/lang/String", name := "length", desc := "()I" } : Jvm.MethodName) jdk_42_method_54_code (1 : Nat) (Option.some Jvm.ClassFile.FieldType.int)).before args0 about1 = true := code_word (m := ⟨8, 2⟩) (meth := k8m2) (c := k8c2) (by decide +kernel) rfl rfl rfl (by decide +kernel)
set_option maxRecDepth 65536 in
theorem w_c8 : (Jvm.Cond.code ({ cls := "java/lang/String", name := "coder", desc := "()B" } : Jvm.MethodName) jdk_42_method_152_code (1 : Nat) (Option.some Jvm.ClassFile.FieldType.byte)).before args0 about1 = true := code_word (m := ⟨8, 5⟩) (meth := k8m5) (c := k8c5) (by decide +kernel) rfl rfl rfl (by decide +kernel)
set_option maxRecDepth 65536 in
theorem w_c9 : (Jvm.Cond.code ({ cls := "java/lang/StringUTF16", name := "compress", desc := "([CII)[B" } : Jvm.MethodName) jdk_52_method_16_code (6 : Nat) (Option.some (Jvm.ClassFile.FieldType.array Jvm.ClassFile.FieldType.byte))).before args0 about1 = true := code_word (m := ⟨9, 8⟩) (meth := k9m8) (c := k9c8) (by decide +kernel) rfl rfl rfl (by decide +kernel)
set_option maxRecDepth 65536 in
theorem w_c10 : (Jvm.Cond.code ({ cls := "java/lang/StringUTF16", name := "compress", desc := "([CI[BII)I" } : Jvm.MethodName) jdk_52_method_21_code (7 : Nat) (Option.some Jvm.ClassFile.FieldType.int)).before args0 about1 = true := code_word (m := ⟨9, 9⟩) (meth := k9m9) (c := k9c9) (by decide +kernel) rfl rfl rfl (by decide +kernel)
set_option maxRecDepth 65536 in
theorem w_c11 : (Jvm.Cond.code ({ cls := "java/lang/StringUTF16", name := "coderFromArrayLen", desc := "([BI)B" } : Jvm.MethodName) jdk_52_method_15_code (2 : Nat) (Option.some Jvm.ClassFile.FieldType.byte)).before args0 about1 = true := code_word (m := ⟨9, 7⟩) (meth := k9m7) (c := k9c7) (by decide +kernel) rfl rfl rfl (by decide +kernel)
set_option maxRecDepth 65536 in
theorem w_c12 : (Jvm.Cond.code ({ cls := "com/example/bote/bote/fields/FieldCursor", name := "take", desc := "(C)Z" } : Jvm.MethodName) prog_2_method_6_code (3 : Nat) (Option.some Jvm.ClassFile.FieldType.boolean)).before args0 about1 = true := code_word (m := ⟨2, 3⟩) (meth := k2m3) (c := k2c3) (by decide +kernel) rfl rfl rfl (by decide +kernel)
set_option maxRecDepth 65536 in
theorem w_c13 : (Jvm.Cond.code ({ cls := "com/example/bote/bote/fields/FieldCursor", name := "isNext", desc := "(C)Z" } : Jvm.MethodName) prog_2_method_5_code (2 : Nat) (Option.some Jvm.ClassFile.FieldType.boolean)).before args0 about1 = true := code_word (m := ⟨2, 2⟩) (meth := k2m2) (c := k2c2) (by decide +kernel) rfl rfl rfl (by decide +kernel)
set_option maxRecDepth 65536 in
theorem w_c14 : (Jvm.Cond.code ({ cls := "java/lang/String", name := "charAt", desc := "(I)C" } : Jvm.MethodName) jdk_42_method_56_code (2 : Nat) (Option.some Jvm.ClassFile.FieldType.char)).before args0 about1 = true := code_word (m := ⟨8, 3⟩) (meth := k8m3) (c := k8c3) (by decide +kernel) rfl rfl rfl (by decide +kernel)
set_option maxRecDepth 65536 in
theorem w_c15 : (Jvm.Cond.code ({ cls := "java/lang/String", name := "isLatin1", desc := "()Z" } : Jvm.MethodName) jdk_42_method_154_code (1 : Nat) (Option.some Jvm.ClassFile.FieldType.boolean)).before args0 about1 = true := code_word (m := ⟨8, 6⟩) (meth := k8m6) (c := k8c6) (by decide +kernel) rfl rfl rfl (by decide +kernel)
set_option maxRecDepth 65536 in
theorem w_c16 : (Jvm.Cond.code ({ cls := "java/lang/StringLatin1", name := "charAt", desc := "([BI)C" } : Jvm.MethodName) jdk_43_method_2_code (2 : Nat) (Option.some Jvm.ClassFile.FieldType.char)).before args0 about1 = true := code_word (m := ⟨10, 1⟩) (meth := k10m1) (c := k10c1) (by decide +kernel) rfl rfl rfl (by decide +kernel)
set_option maxRecDepth 65536 in
theorem w_c17 : (Jvm.Cond.code ({ cls := "java/lang/String", name := "checkIndex", desc := "(II)V" } : Jvm.MethodName) jdk_42_method_155_code (2 : Nat) (Option.none : Option Jvm.ClassFile.FieldType)).before args0 about1 = true := code_word (m := ⟨8, 7⟩) (meth := k8m7) (c := k8c7) (by decide +kernel) rfl rfl rfl (by decide +kernel)
set_option maxRecDepth 65536 in
theorem w_c18 : (Jvm.Cond.code ({ cls := "jdk/internal/util/Preconditions", name := "checkIndex", desc := "(IILjava/util/function/BiFunction;)I" } : Jvm.MethodName) jdk_41_method_11_code (3 : Nat) (Option.some Jvm.ClassFile.FieldType.int)).before args0 about1 = true := code_word (m := ⟨11, 1⟩) (meth := k11m1) (c := k11c1) (by decide +kernel) rfl rfl rfl (by decide +kernel)
set_option maxRecDepth 65536 in
theorem w_c19 : (Jvm.Cond.code ({ cls := "com/example/bote/bote/fields/FieldCursorSkipWhitespacePinLaw", name := "ws", desc := "(C)Z" } : Jvm.MethodName) method_2_code (1 : Nat) (Option.some Jvm.ClassFile.FieldType.boolean)).before args0 about1 = true := code_word (m := ⟨1, 1⟩) (meth := k1m1) (c := k1c1) (by decide +kernel) rfl rfl rfl (by decide +kernel)
set_option maxRecDepth 65536 in
theorem w_c20 : (Jvm.Cond.code ({ cls := "java/lang/StringUTF16", name := "toBytes", desc := "([CII)[B" } : Jvm.MethodName) jdk_52_method_14_code (5 : Nat) (Option.some (Jvm.ClassFile.FieldType.array Jvm.ClassFile.FieldType.byte))).before args0 about1 = true := code_word (m := ⟨9, 6⟩) (meth := k9m6) (c := k9c6) (by decide +kernel) rfl rfl rfl (by decide +kernel)
set_option maxRecDepth 65536 in
theorem w_c21 : (Jvm.Cond.code ({ cls := "java/lang/StringUTF16", name := "newBytesFor", desc := "(I)[B" } : Jvm.MethodName) jdk_52_method_2_code (1 : Nat) (Option.some (Jvm.ClassFile.FieldType.array Jvm.ClassFile.FieldType.byte))).before args0 about1 = true := code_word (m := ⟨9, 1⟩) (meth := k9m1) (c := k9c1) (by decide +kernel) rfl rfl rfl (by decide +kernel)
set_option maxRecDepth 65536 in
theorem w_c22 : (Jvm.Cond.code ({ cls := "java/lang/StringUTF16", name := "newBytesLength", desc := "(I)I" } : Jvm.MethodName) jdk_52_method_3_code (1 : Nat) (Option.some Jvm.ClassFile.FieldType.int)).before args0 about1 = true := code_word (m := ⟨9, 2⟩) (meth := k9m2) (c := k9c2) (by decide +kernel) rfl rfl rfl (by decide +kernel)
set_option maxRecDepth 65536 in
theorem w_c23 : (Jvm.Cond.code ({ cls := "java/lang/StringUTF16", name := "putChar", desc := "([BII)V" } : Jvm.MethodName) jdk_52_method_4_code (3 : Nat) (Option.none : Option Jvm.ClassFile.FieldType)).before args0 about1 = true := code_word (m := ⟨9, 3⟩) (meth := k9m3) (c := k9c3) (by decide +kernel) rfl rfl rfl (by decide +kernel)
set_option maxRecDepth 65536 in
theorem w_c24 : (Jvm.Cond.code ({ cls := "java/lang/StringUTF16", name := "getChar", desc := "([BI)C" } : Jvm.MethodName) jdk_52_method_5_code (2 : Nat) (Option.some Jvm.ClassFile.FieldType.char)).before args0 about1 = true := code_word (m := ⟨9, 4⟩) (meth := k9m4) (c := k9c4) (by decide +kernel) rfl rfl rfl (by decide +kernel)
set_option maxRecDepth 65536 in
theorem w_c25 : (Jvm.Cond.code ({ cls := "java/lang/StringUTF16", name := "charAt", desc := "([BI)C" } : Jvm.MethodName) jdk_52_method_83_code (2 : Nat) (Option.some Jvm.ClassFile.FieldType.char)).before args0 about1 = true := code_word (m := ⟨9, 10⟩) (meth := k9m10) (c := k9c10) (by decide +kernel) rfl rfl rfl (by decide +kernel)
set_option maxRecDepth 65536 in
theorem w_c26 : (Jvm.Cond.code ({ cls := "java/lang/StringUTF16", name := "checkIndex", desc := "(I[B)V" } : Jvm.MethodName) jdk_52_method_91_code (2 : Nat) (Option.none : Option Jvm.ClassFile.FieldType)).before args0 about1 = true := code_word (m := ⟨9, 11⟩) (meth := k9m11) (c := k9c11) (by decide +kernel) rfl rfl rfl (by decide +kernel)
set_option maxRecDepth 65536 in
theorem w_c27 : (Jvm.Cond.code ({ cls := "java/lang/StringUTF16", name := "length", desc := "([B)I" } : Jvm.MethodName) jdk_52_method_6_code (1 : Nat) (Option.some Jvm.ClassFile.FieldType.int)).before args0 about1 = true := code_word (m := ⟨9, 5⟩) (meth := k9m5) (c := k9c5) (by decide +kernel) rfl rfl rfl (by decide +kernel)
def codes1 : List Jvm.Cond := [Jvm.Cond.code x code maxLocals ret, Jvm.Cond.code ({ cls := "com/example/bote/bote/fields/FieldCursorSkipWhitespacePinLaw", name := "draw", desc := "(I)C" } : Jvm.MethodName) method_3_code (2 : Nat) (Option.some Jvm.ClassFile.FieldType.char), Jvm.Cond.code ({ cls := "java/lang/String", name := "<init>", desc := "([C)V" } : Jvm.MethodName) jdk_42_method_3_code (2 : Nat) (Option.none : Option Jvm.ClassFile.FieldType), Jvm.Cond.code ({ cls := "java/lang/String", name := "<init>", desc := "([CIILjava/lang/Void;)V" } : Jvm.MethodName) jdk_42_method_149_code (6 : Nat) (Option.none : Option Jvm.ClassFile.FieldType), Jvm.Cond.code ({ cls := "java/lang/Object", name := "<init>", desc := "()V" } : Jvm.MethodName) object_method_1_code (1 : Nat) (Option.none : Option Jvm.ClassFile.FieldType), Jvm.Cond.code ({ cls := "com/example/bote/bote/fields/FieldCursor", name := "<init>", desc := "(Ljava/lang/String;Ljava/lang/String;)V" } : Jvm.MethodName) prog_2_method_1_code (3 : Nat) (Option.none : Option Jvm.ClassFile.FieldType), Jvm.Cond.code ({ cls := "com/example/bote/bote/fields/FieldCursor", name := "skipWhitespace", desc := "()Z" } : Jvm.MethodName) prog_2_method_2_code (1 : Nat) (Option.some Jvm.ClassFile.FieldType.boolean), Jvm.Cond.code ({ cls := "java/lang/String", name := "length", desc := "()I" } : Jvm.MethodName) jdk_42_method_54_code (1 : Nat) (Option.some Jvm.ClassFile.FieldType.int), Jvm.Cond.code ({ cls := "java/lang/String", name := "coder", desc := "()B" } : Jvm.MethodName) jdk_42_method_152_code (1 : Nat) (Option.some Jvm.ClassFile.FieldType.byte), Jvm.Cond.code ({ cls := "java/lang/StringUTF16", name := "compress", desc := "([CII)[B" } : Jvm.MethodName) jdk_52_method_16_code (6 : Nat) (Option.some (Jvm.ClassFile.FieldType.array Jvm.ClassFile.FieldType.byte)), Jvm.Cond.code ({ cls := "java/lang/StringUTF16", name := "compress", desc := "([CI[BII)I" } : Jvm.MethodName) jdk_52_method_21_code (7 : Nat) (Option.some Jvm.ClassFile.FieldType.int), Jvm.Cond.code ({ cls := "java/lang/StringUTF16", name := "coderFromArrayLen", desc := "([BI)B" } : Jvm.MethodName) jdk_52_method_15_code (2 : Nat) (Option.some Jvm.ClassFile.FieldType.byte), Jvm.Cond.code ({ cls := "com/example/bote/bote/fields/FieldCursor", name := "take", desc := "(C)Z" } : Jvm.MethodName) prog_2_method_6_code (3 : Nat) (Option.some Jvm.ClassFile.FieldType.boolean), Jvm.Cond.code ({ cls := "com/example/bote/bote/fields/FieldCursor", name := "isNext", desc := "(C)Z" } : Jvm.MethodName) prog_2_method_5_code (2 : Nat) (Option.some Jvm.ClassFile.FieldType.boolean), Jvm.Cond.code ({ cls := "java/lang/String", name := "charAt", desc := "(I)C" } : Jvm.MethodName) jdk_42_method_56_code (2 : Nat) (Option.some Jvm.ClassFile.FieldType.char), Jvm.Cond.code ({ cls := "java/lang/String", name := "isLatin1", desc := "()Z" } : Jvm.MethodName) jdk_42_method_154_code (1 : Nat) (Option.some Jvm.ClassFile.FieldType.boolean), Jvm.Cond.code ({ cls := "java/lang/StringLatin1", name := "charAt", desc := "([BI)C" } : Jvm.MethodName) jdk_43_method_2_code (2 : Nat) (Option.some Jvm.ClassFile.FieldType.char), Jvm.Cond.code ({ cls := "java/lang/String", name := "checkIndex", desc := "(II)V" } : Jvm.MethodName) jdk_42_method_155_code (2 : Nat) (Option.none : Option Jvm.ClassFile.FieldType), Jvm.Cond.code ({ cls := "jdk/internal/util/Preconditions", name := "checkIndex", desc := "(IILjava/util/function/BiFunction;)I" } : Jvm.MethodName) jdk_41_method_11_code (3 : Nat) (Option.some Jvm.ClassFile.FieldType.int), Jvm.Cond.code ({ cls := "com/example/bote/bote/fields/FieldCursorSkipWhitespacePinLaw", name := "ws", desc := "(C)Z" } : Jvm.MethodName) method_2_code (1 : Nat) (Option.some Jvm.ClassFile.FieldType.boolean), Jvm.Cond.code ({ cls := "java/lang/StringUTF16", name := "toBytes", desc := "([CII)[B" } : Jvm.MethodName) jdk_52_method_14_code (5 : Nat) (Option.some (Jvm.ClassFile.FieldType.array Jvm.ClassFile.FieldType.byte)), Jvm.Cond.code ({ cls := "java/lang/StringUTF16", name := "newBytesFor", desc := "(I)[B" } : Jvm.MethodName) jdk_52_method_2_code (1 : Nat) (Option.some (Jvm.ClassFile.FieldType.array Jvm.ClassFile.FieldType.byte)), Jvm.Cond.code ({ cls := "java/lang/StringUTF16", name := "newBytesLength", desc := "(I)I" } : Jvm.MethodName) jdk_52_method_3_code (1 : Nat) (Option.some Jvm.ClassFile.FieldType.int), Jvm.Cond.code ({ cls := "java/lang/StringUTF16", name := "putChar", desc := "([BII)V" } : Jvm.MethodName) jdk_52_method_4_code (3 : Nat) (Option.none : Option Jvm.ClassFile.FieldType), Jvm.Cond.code ({ cls := "java/lang/StringUTF16", name := "getChar", desc := "([BI)C" } : Jvm.MethodName) jdk_52_method_5_code (2 : Nat) (Option.some Jvm.ClassFile.FieldType.char), Jvm.Cond.code ({ cls := "java/lang/StringUTF16", name := "charAt", desc := "([BI)C" } : Jvm.MethodName) jdk_52_method_83_code (2 : Nat) (Option.some Jvm.ClassFile.FieldType.char), Jvm.Cond.code ({ cls := "java/lang/StringUTF16", name := "checkIndex", desc := "(I[B)V" } : Jvm.MethodName) jdk_52_method_91_code (2 : Nat) (Option.none : Option Jvm.ClassFile.FieldType), Jvm.Cond.code ({ cls := "java/lang/StringUTF16", name := "length", desc := "([B)I" } : Jvm.MethodName) jdk_52_method_6_code (1 : Nat) (Option.some Jvm.ClassFile.FieldType.int)]
set_option maxRecDepth 65536 in
theorem codes_eq : words1.filter isCode = codes1 := rfl
theorem w_codes : ∀ c ∈ words1.filter isCode, c.before args0 about1 = true := by
  rw [codes_eq]
  intro c hc
  simp only [codes1, List.mem_cons, List.not_mem_nil, or_false] at hc
  rcases hc with rfl | rfl | rfl | rfl | rfl | rfl | rfl | rfl | rfl | rfl | rfl | rfl | rfl | rfl | rfl | rfl | rfl | rfl | rfl | rfl | rfl | rfl | rfl | rfl | rfl | rfl | rfl | rfl
  · exact w_c0
  · exact w_c1
  · exact w_c2
  · exact w_c3
  · exact w_c4
  · exact w_c5
  · exact w_c6
  · exact w_c7
  · exact w_c8
  · exact w_c9
  · exact w_c10
  · exact w_c11
  · exact w_c12
  · exact w_c13
  · exact w_c14
  · exact w_c15
  · exact w_c16
  · exact w_c17
  · exact w_c18
  · exact w_c19
  · exact w_c20
  · exact w_c21
  · exact w_c22
  · exact w_c23
  · exact w_c24
  · exact w_c25
  · exact w_c26
  · exact w_c27
set_option maxRecDepth 65536 in
theorem w_t1 : (words1.take 24).all (fun c => isCode c || c.before args0 about1) = true := by decide +kernel
set_option maxRecDepth 65536 in
theorem w_t2 : ((words1.drop 24).take 24).all (fun c => isCode c || c.before args0 about1) = true := by decide +kernel
set_option maxRecDepth 65536 in
theorem w_t3 : (((words1.drop 24).drop 24).take 24).all (fun c => isCode c || c.before args0 about1) = true := by decide +kernel
set_option maxRecDepth 65536 in
theorem w_t4 : ((((words1.drop 24).drop 24).drop 24).take 24).all (fun c => isCode c || c.before args0 about1) = true := by decide +kernel
set_option maxRecDepth 65536 in
theorem w_t5 : (((((words1.drop 24).drop 24).drop 24).drop 24).take 24).all (fun c => isCode c || c.before args0 about1) = true := by decide +kernel
set_option maxRecDepth 65536 in
theorem w_t6 : (((((words1.drop 24).drop 24).drop 24).drop 24).drop 24).all (fun c => isCode c || c.before args0 about1) = true := by decide +kernel
theorem w_tables : (allAtoms (Jvm.Cond.code x code maxLocals ret :: tables_1)).before args0 about1 = true := by
  rw [allAtoms_all]
  show words1.all (fun c => c.before args0 about1) = true
  refine all_split ?_ w_codes
  rw [← List.take_append_drop 24 words1, List.all_append, w_t1, ← List.take_append_drop 24 (words1.drop 24), List.all_append, w_t2, ← List.take_append_drop 24 ((words1.drop 24).drop 24), List.all_append, w_t3, ← List.take_append_drop 24 (((words1.drop 24).drop 24).drop 24), List.all_append, w_t4, ← List.take_append_drop 24 ((((words1.drop 24).drop 24).drop 24).drop 24), List.all_append, w_t5, w_t6]
  rfl
set_option maxRecDepth 65536 in
theorem w_rest : rest_1_c.before args0 about1 = true := by decide +kernel
set_option maxRecDepth 65536 in
theorem w_case : (Jvm.Cond.and given_1 narrow_1).before args0 about1 = true := by decide +kernel
set_option maxRecDepth 65536 in
theorem w_consts : constsHeld consts_1 about1 := Jvm.Lit.constsHeldB_iff.mp (by decide +kernel)
theorem w_applies : (headSpec (Jvm.Cond.code x code maxLocals ret :: tables_1) room_1).applies x e0.platform about1 = true :=
  (Spec.applies_iff w_frames).mpr ⟨w_running, w_runnable, w_alone, w_named, w_hears, w_ripe, w_room, w_tables⟩
theorem atStart : AtStart classFile x code maxLocals ret World_1 tables_1 room_1 Calls_1 rest_1 Pre_1 launch0 p0 e0 about1 theMethod args0 below0 :=
  ⟨lists_1, trivial, launch0.admits_env _ _ _, launch0.least_env, fairChoices_fair.cas, fairChoices_fair.clock, w_frames, w_args, w_heap, w_applies, ⟨w_consts, trivial⟩, w_rest, w_case⟩
end start1
theorem witness_1 : WitnessClaimed_1 := ⟨start1.p0, start1.e0, start1.about1, start1.theMethod, start1.args0, start1.below0, start1.atStart⟩
end Jvm.Pilot.@@N@@
