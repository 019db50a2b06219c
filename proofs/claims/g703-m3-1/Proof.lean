import JvmDerived
import JvmDerived.Pilot.@@N@@Statement
import JvmDerived.Pilot.@@N@@Code
set_option linter.unusedVariables false
set_option linter.unusedSimpArgs false
/- laws to paste: Road.lenW, Road.codOf, pair_says, lo8_mask, shr0, Road.wide_lo, Road.wide_hi, Road.low_at (cut by pick.py; bodies as the Statement names them) -/
namespace Jvm.Pilot.@@N@@
namespace StrChars
open Jvm Sem ClassFile Op Lib Jvm.Stand Jvm.Free.XT Jvm.Free.ALB Jvm.Free.JM Jvm.Free
open Jvm.Lib.Cold (StaticIs)
/-- a char array whose places are chars -/
def Ch (a : Addr) (A : Cell) (U : State) : Prop := Arr .char a A U ∧ Typed .char A
theorem Ch.mv {a : Addr} {A : Cell} {U U' : State} (h : Ch a A U) (hal : U.vm.Alike U'.vm) (hh : U'.heap = U.heap) : Ch a A U' := ⟨h.1.mv hal hh, h.2⟩
theorem Ch.keep {a : Addr} {A : Cell} {U U' : State} (h : Ch a A U) (hal : U.vm.Alike U'.vm) (hk : U'.heap[a]? = some A) : Ch a A U' := ⟨h.1.keep hal hk, h.2⟩
/-- what place i of a char[]'s cell holds -/
def cv (A : Cell) (i : Nat) : Int32 := match A.slots[i]? with | some (.int x) => x | _ => 0
theorem Ch.get {a : Addr} {A : Cell} {U : State} (h : Ch a A U) {i : Nat} (hi : i < A.slots.size) : A.slots[i]? = some (.int (cv A i)) := by
  have e := Array.getElem?_eq_getElem hi
  have f := h.2 i _ e
  unfold cv; rw [e]
  generalize A.slots[i] = v at f
  cases v <;> simp [fits] at f ⊢
/-- the byte that i2b leaves of a char -/
def lo8 (x : Int32) : Int32 := x.toInt8.toInt32
theorem fits_lo8 (y : Int32) : fits .byte (.int (lo8 y)) = true := by
  have h1 := y.toInt8.le_toInt
  have h2 := y.toInt8.toInt_lt
  simp only [lo8, fits, Bool.and_eq_true, decide_eq_true_eq, Int32.le_iff_toInt_le, Int8.toInt_toInt32, show (-128 : Int32).toInt = -128 from by decide, show (127 : Int32).toInt = 127 from by decide]
  omega
/-- A' is A but that each place j of lo .. hi - 1 holds f j -/
def Laid (A A' : Cell) (lo hi : Nat) (f : Nat → Value) : Prop := A'.cls = A.cls ∧ A'.vm = A.vm ∧ A'.slots.size = A.slots.size ∧ ∀ i, A'.slots[i]? = if lo ≤ i ∧ i < hi then some (f i) else A.slots[i]?
theorem Laid.zero (A : Cell) (lo : Nat) (f : Nat → Value) : Laid A A lo (lo + 0) f := ⟨rfl, rfl, rfl, fun i => by rw [if_neg (by omega)]⟩
theorem Laid.step {A Ak : Cell} {lo k : Nat} {f : Nat → Value} {v : Value} (h : Laid A Ak lo k f) (hlo : lo ≤ k) (hk : k < Ak.slots.size) (hv : v = f k) : Laid A (Ak.setSlot k v) lo (k + 1) f := by
  refine ⟨h.1, h.2.1, by simpa [Cell.setSlot] using h.2.2.1, fun i => ?_⟩
  by_cases e : k = i
  · subst e; rw [Cell.slots_setSlot_self v hk, if_pos (by omega), hv]
  · rw [Cell.slots_setSlot_ne v e, h.2.2.2 i]
    by_cases q : lo ≤ i ∧ i < k
    · rw [if_pos q, if_pos (by omega)]
    · rw [if_neg q, if_neg (by omega)]
def U16 : String := "java/lang/StringUTF16"
namespace Cmp5
def yN : MethodName := ⟨"java/lang/StringUTF16", "compress", "([CI[BII)I"⟩
abbrev yB : ByteArray := jdk_52_method_21_code
theorem d0 : decode yB 0 = .ok (.iconst 0, 1) := by decide +kernel
theorem d1 : decode yB 1 = .ok (.istore 5, 2) := by decide +kernel
theorem d3 : decode yB 3 = .ok (.iload 5, 2) := by decide +kernel
theorem d5 : decode yB 5 = .ok (.iload 4, 2) := by decide +kernel
theorem d7 : decode yB 7 = .ok (.if_icmp (.ge) 37, 3) := by decide +kernel
theorem d10 : decode yB 10 = .ok (.aload_n 0, 1) := by decide +kernel
theorem d11 : decode yB 11 = .ok (.iload_n 1, 1) := by decide +kernel
theorem d12 : decode yB 12 = .ok (.caload, 1) := by decide +kernel
theorem d13 : decode yB 13 = .ok (.istore 6, 2) := by decide +kernel
theorem d15 : decode yB 15 = .ok (.iload 6, 2) := by decide +kernel
theorem d17 : decode yB 17 = .ok (.sipush 255, 3) := by decide +kernel
theorem d20 : decode yB 20 = .ok (.if_icmp (.le) 6, 3) := by decide +kernel
theorem d26 : decode yB 26 = .ok (.aload_n 2, 1) := by decide +kernel
theorem d27 : decode yB 27 = .ok (.iload_n 3, 1) := by decide +kernel
theorem d28 : decode yB 28 = .ok (.iload 6, 2) := by decide +kernel
theorem d30 : decode yB 30 = .ok (.i2b, 1) := by decide +kernel
theorem d31 : decode yB 31 = .ok (.bastore, 1) := by decide +kernel
theorem d32 : decode yB 32 = .ok (.iinc 1 1, 3) := by decide +kernel
theorem d35 : decode yB 35 = .ok (.iinc 3 1, 3) := by decide +kernel
theorem d38 : decode yB 38 = .ok (.iinc 5 1, 3) := by decide +kernel
theorem d41 : decode yB 41 = .ok (.goto (-38), 3) := by decide +kernel
theorem d44 : decode yB 44 = .ok (.iload 4, 2) := by decide +kernel
theorem d46 : decode yB 46 = .ok (.ireturn, 1) := by decide +kernel
def site : List Cond := []
def tab : Cond := tabOf yN yB 7 (some .int) site
def P (b : Addr) (A : Cell) (d : Addr) (B : Cell) (o q len : Nat) (args : Array Value) (s : State) : Prop := args = #[.ref b, .int (Int32.ofNat o), .ref d, .int (Int32.ofNat q), .int (Int32.ofNat len)] ∧ Ch b A s ∧ Arr .byte d B s ∧ b ≠ d ∧ o + len ≤ A.slots.size ∧ q + len ≤ B.slots.size ∧ ∀ i, i < len → ¬ 255 < cv A (o + i)
def E (b : Addr) (A : Cell) (d : Addr) (B : Cell) (o q len : Nat) (r : Option Value) (s u : State) : Prop := r = some (.int (Int32.ofNat len)) ∧ ∃ B', Put d B' s u ∧ Laid B B' q (q + len) (fun j => Value.int (lo8 (cv A (o + (j - q)))))
/-- no char of the range above 255: len; the places written hold each char's low byte -/
theorem law (l : Launch) (b : Addr) (A : Cell) (d : Addr) (B : Cell) (o q len : Nat) : Law l yN 5 5 0 0 yB 7 (some .int) site (P b A d B o q len) (E b A d B o q len) (copyLocs d q len) 0 0 := by
  refine Law.of_walk (plainFor_of_name (by decide +kernel)) (by decide +kernel) (by decide +kernel) (by decide) (fun _ _ h => by rw [h.1]; rfl) (fun _ U U' hal hh h => ⟨h.1, h.2.1.mv hal hh, h.2.2.1.mv hal hh, h.2.2.2⟩) (fun r U U' V V' h1 hal h2 h => ⟨h.1, h.2.elim fun B' q => ⟨B', q.1.mv h1 h2, q.2⟩⟩) ?_
  intro p e s m args below meth c s₁ X0 hexec hbytes hml hret hlk hnm hown hh0 W hP
  obtain ⟨rfl, hA, hB, hne, l1, l2, hp⟩ := hP
  have c1 : Steps p.tables e below (s₁.setTop (entryFrame m #[.ref b, .int (Int32.ofNat o), .ref d, .int (Int32.ofNat q), .int (Int32.ofNat len)] 7)) (s₁.setTop (mkF m 0 #[.val (.ref b), .val (.int (Int32.ofNat o)), .val (.ref d), .val (.int (Int32.ofNat q)), .val (.int (Int32.ofNat len)), .unset, .unset] [])) := entry rfl
  have hA0 := hA.1.mv X0.warmed.alike hh0
  have hB0 := hB.mv X0.warmed.alike hh0
  have a31 := hA.1.2.2.2
  have c2 : Steps p.tables e below (s₁.setTop (entryFrame m #[.ref b, .int (Int32.ofNat o), .ref d, .int (Int32.ofNat q), .int (Int32.ofNat len)] 7)) (s₁.setTop (mkF m 3 #[.val (.ref b), .val (.int (Int32.ofNat o)), .val (.ref d), .val (.int (Int32.ofNat q)), .val (.int (Int32.ofNat len)), .val (.int 0), .unset] [])) := c1.trans (by
    refine iconstV X0.here hexec rfl 0 (hb hbytes d0) (by decide) ?_
    refine XS.istore X0.here hexec rfl (hb hbytes d1) rfl rfl ?_
    exact Steps.refl _)
  have loop : ∀ (r i : Nat), i + r = len → ∀ (z : Slot), (z = .unset ∨ ∃ w, z = .val w ∧ w.category = 1) → ∀ (Tl : State) (Bk : Cell), Stand p l e { frames := 0, locals := 0, cells := 0, slots := 0 } s m #[.ref b, .int (Int32.ofNat o), .ref d, .int (Int32.ofNat q), .int (Int32.ofNat len)] below meth c Tl ([] ++ copyLocs d q i) 0 0 → Put d Bk s₁ Tl → Laid B Bk q (q + i) (fun j => Value.int (lo8 (cv A (o + (j - q))))) →
      Steps p.tables e below (s₁.setTop (entryFrame m #[.ref b, .int (Int32.ofNat o), .ref d, .int (Int32.ofNat q), .int (Int32.ofNat len)] 7)) (Tl.setTop (mkF m 3 #[.val (.ref b), .val (.int (Int32.ofNat (o + i))), .val (.ref d), .val (.int (Int32.ofNat (q + i))), .val (.int (Int32.ofNat len)), .val (.int (Int32.ofNat i)), z] [])) → ∃ (T' : State) (B' : Cell) (z' : Slot), Stand p l e { frames := 0, locals := 0, cells := 0, slots := 0 } s m #[.ref b, .int (Int32.ofNat o), .ref d, .int (Int32.ofNat q), .int (Int32.ofNat len)] below meth c T' ([] ++ copyLocs d q len) 0 0 ∧ Put d B' s₁ T' ∧ Laid B B' q (q + len) (fun j => Value.int (lo8 (cv A (o + (j - q))))) ∧
      Steps p.tables e below (s₁.setTop (entryFrame m #[.ref b, .int (Int32.ofNat o), .ref d, .int (Int32.ofNat q), .int (Int32.ofNat len)] 7)) (T'.setTop (mkF m 3 #[.val (.ref b), .val (.int (Int32.ofNat (o + len))), .val (.ref d), .val (.int (Int32.ofNat (q + len))), .val (.int (Int32.ofNat len)), .val (.int (Int32.ofNat len)), z'] [])) := by
    intro r
    induction r with
    | zero =>
      intro i hi z hz Tl Bk Xl pl fl cl
      have hil : i = len := by omega
      rw [hil] at Xl fl cl
      exact ⟨Tl, Bk, z, Xl, pl, fl, cl⟩
    | succ r ih =>
      intro i hi z hz Tl Bk Xl pl fl cl
      have all := X0.warmed.alike.symm.trans Xl.warmed.alike
      have hAl := hA0.keep all (pl.other hne hA0.1)
      have hBk := hB0.like all pl.1 fl.1 fl.2.1 fl.2.2.1
      have hlt : q + i < Bk.slots.size := by rw [fl.2.2.1]; omega
      have c3 : Steps p.tables e below (s₁.setTop (entryFrame m #[.ref b, .int (Int32.ofNat o), .ref d, .int (Int32.ofNat q), .int (Int32.ofNat len)] 7)) (Tl.setTop (mkF m 12 #[.val (.ref b), .val (.int (Int32.ofNat (o + i))), .val (.ref d), .val (.int (Int32.ofNat (q + i))), .val (.int (Int32.ofNat len)), .val (.int (Int32.ofNat i)), z] [.int (Int32.ofNat (o + i)), .ref b])) := cl.trans (by
        refine XS.iload Xl.here hexec rfl (hb hbytes d3) rfl ?_
        refine XS.iload Xl.here hexec rfl (hb hbytes d5) rfl ?_
        refine XS.icmpNo Xl.here hexec rfl (hb hbytes d7) rfl (ii_ge_f (lt32 (by omega) (by omega))) ?_
        refine XS.aloadN Xl.here hexec rfl (hb hbytes d10) rfl rfl ?_
        refine XS.iloadN Xl.here hexec rfl (hb hbytes d11) rfl ?_
        exact Steps.refl _)
      have c4 : Steps p.tables e below (s₁.setTop (entryFrame m #[.ref b, .int (Int32.ofNat o), .ref d, .int (Int32.ofNat q), .int (Int32.ofNat len)] 7)) (Tl.setTop (mkF m 13 #[.val (.ref b), .val (.int (Int32.ofNat (o + i))), .val (.ref d), .val (.int (Int32.ofNat (q + i))), .val (.int (Int32.ofNat len)), .val (.int (Int32.ofNat i)), z] [.int (cv A (o + i))])) := c3.trans (by
        refine Xl.aget hexec hAl rfl (hA.get (i := o + i) (by omega)) rfl rfl (hb hbytes d12) ?_
        exact Steps.refl _)
      have c5 : Steps p.tables e below (s₁.setTop (entryFrame m #[.ref b, .int (Int32.ofNat o), .ref d, .int (Int32.ofNat q), .int (Int32.ofNat len)] 7)) (Tl.setTop (mkF m 15 #[.val (.ref b), .val (.int (Int32.ofNat (o + i))), .val (.ref d), .val (.int (Int32.ofNat (q + i))), .val (.int (Int32.ofNat len)), .val (.int (Int32.ofNat i)), .val (.int (cv A (o + i)))] [])) := c4.trans (by
        refine XS.istoreS Xl.here hexec rfl (hb hbytes d13) rfl rfl hz ?_
        exact Steps.refl _)
      have c6 : Steps p.tables e below (s₁.setTop (entryFrame m #[.ref b, .int (Int32.ofNat o), .ref d, .int (Int32.ofNat q), .int (Int32.ofNat len)] 7)) (Tl.setTop (mkF m 31 #[.val (.ref b), .val (.int (Int32.ofNat (o + i))), .val (.ref d), .val (.int (Int32.ofNat (q + i))), .val (.int (Int32.ofNat len)), .val (.int (Int32.ofNat i)), .val (.int (cv A (o + i)))] [.int (lo8 (cv A (o + i))), .int (Int32.ofNat (q + i)), .ref d])) := c5.trans (by
        refine XS.iload Xl.here hexec rfl (hb hbytes d15) rfl ?_
        refine sipushV Xl.here hexec rfl 255 (hb hbytes d17) (by decide) ?_
        refine XS.icmpYes Xl.here hexec rfl (pc0 := 20) rfl (hb hbytes d20) rfl (ii_le_t (hp i (by omega))) (by decide) rfl ?_
        refine XS.aloadN Xl.here hexec rfl (hb hbytes d26) rfl rfl ?_
        refine XS.iloadN Xl.here hexec rfl (hb hbytes d27) rfl ?_
        refine XS.iload Xl.here hexec rfl (hb hbytes d28) rfl ?_
        refine i2b Xl.here hexec rfl (hb hbytes d30) rfl ?_
        exact Steps.refl _)
      obtain ⟨T7, X7, p7, st7⟩ := Xl.aput hexec hBk rfl hlt rfl (fits_lo8 (cv A (o + i))) (g := (mkF m 31 #[.val (.ref b), .val (.int (Int32.ofNat (o + i))), .val (.ref d), .val (.int (Int32.ofNat (q + i))), .val (.int (Int32.ofNat len)), .val (.int (Int32.ofNat i)), .val (.int (cv A (o + i)))] [.int (lo8 (cv A (o + i))), .int (Int32.ofNat (q + i)), .ref d])) rfl (rest := []) rfl (hb hbytes d31)
      have c8 : Steps p.tables e below (s₁.setTop (entryFrame m #[.ref b, .int (Int32.ofNat o), .ref d, .int (Int32.ofNat q), .int (Int32.ofNat len)] 7)) (T7.setTop (mkF m 32 #[.val (.ref b), .val (.int (Int32.ofNat (o + i))), .val (.ref d), .val (.int (Int32.ofNat (q + i))), .val (.int (Int32.ofNat len)), .val (.int (Int32.ofNat i)), .val (.int (cv A (o + i)))] [])) := c6.trans (st7 _ (Steps.refl _))
      have c9 : Steps p.tables e below (s₁.setTop (entryFrame m #[.ref b, .int (Int32.ofNat o), .ref d, .int (Int32.ofNat q), .int (Int32.ofNat len)] 7)) (T7.setTop (mkF m 3 #[.val (.ref b), .val (.int (Int32.ofNat (o + i) + 1)), .val (.ref d), .val (.int (Int32.ofNat (q + i) + 1)), .val (.int (Int32.ofNat len)), .val (.int (Int32.ofNat i + 1)), .val (.int (cv A (o + i)))] [])) := c8.trans (by
        refine iincV X7.here hexec rfl 1 (hb hbytes d32) (by decide) rfl rfl ?_
        refine iincV X7.here hexec rfl 1 (hb hbytes d35) (by decide) rfl rfl ?_
        refine iincV X7.here hexec rfl 1 (hb hbytes d38) (by decide) rfl rfl ?_
        refine XS.goto X7.here hexec rfl (pc0 := 41) rfl (hb hbytes d41) (by decide) rfl ?_
        exact Steps.refl _)
      have c10 : Steps p.tables e below (s₁.setTop (entryFrame m #[.ref b, .int (Int32.ofNat o), .ref d, .int (Int32.ofNat q), .int (Int32.ofNat len)] 7)) (T7.setTop (mkF m 3 #[.val (.ref b), .val (.int (Int32.ofNat (o + (i + 1)))), .val (.ref d), .val (.int (Int32.ofNat (q + (i + 1)))), .val (.int (Int32.ofNat len)), .val (.int (Int32.ofNat (i + 1))), .val (.int (cv A (o + i)))] [])) := by
        have := c9
        rw [succ32, succ32, succ32] at this
        exact this
      exact ih (i + 1) (by omega) _ (Or.inr ⟨_, rfl, rfl⟩) T7 _ (by rw [copyLocs_step, ← List.append_assoc]; exact X7) (pl.trans p7) (fl.step (by omega) hlt (by simp)) c10
  obtain ⟨T9, B9, z9, X9, p9, f9, g9⟩ := loop len 0 (by omega) .unset (Or.inl rfl) s₁ B (by simpa [copyLocs] using X0) ⟨hB0.1, fun _ _ => rfl, rfl⟩ (Laid.zero _ _ _) c2
  have c11 : Steps p.tables e below (s₁.setTop (entryFrame m #[.ref b, .int (Int32.ofNat o), .ref d, .int (Int32.ofNat q), .int (Int32.ofNat len)] 7)) (T9.setTop (mkF m 46 #[.val (.ref b), .val (.int (Int32.ofNat (o + len))), .val (.ref d), .val (.int (Int32.ofNat (q + len))), .val (.int (Int32.ofNat len)), .val (.int (Int32.ofNat len)), z9] [.int (Int32.ofNat len)])) := g9.trans (by
    refine XS.iload X9.here hexec rfl (hb hbytes d3) rfl ?_
    refine XS.iload X9.here hexec rfl (hb hbytes d5) rfl ?_
    refine XS.icmpYes X9.here hexec rfl (pc0 := 7) rfl (hb hbytes d7) rfl (ii_ge_t (nlt32 (by omega) (Nat.le_refl _))) (by decide) rfl ?_
    refine XS.iload X9.here hexec rfl (hb hbytes d44) rfl ?_
    exact Steps.refl _)
  exact ⟨T9, some (.int (Int32.ofNat len)), _, _, _, X9, by simp, rfl, rfl, (fun h => by cases h), ⟨rfl, B9, p9.from hh0, f9⟩, fun fs hl => c11.trans (X9.ireturnOut hexec hret rfl (Or.inl rfl) (hb hbytes d46) hl)⟩
end Cmp5
namespace Cmp3
def yN : MethodName := ⟨"java/lang/StringUTF16", "compress", "([CII)[B"⟩
abbrev yB : ByteArray := jdk_52_method_16_code
theorem d0 : decode yB 0 = .ok (.iload_n 2, 1) := by decide +kernel
theorem d1 : decode yB 1 = .ok (.newarray .byte, 2) := by decide +kernel
theorem d3 : decode yB 3 = .ok (.astore_n 3, 1) := by decide +kernel
theorem d4 : decode yB 4 = .ok (.aload_n 0, 1) := by decide +kernel
theorem d5 : decode yB 5 = .ok (.iload_n 1, 1) := by decide +kernel
theorem d6 : decode yB 6 = .ok (.aload_n 3, 1) := by decide +kernel
theorem d7 : decode yB 7 = .ok (.iconst 0, 1) := by decide +kernel
theorem d8 : decode yB 8 = .ok (.iload_n 2, 1) := by decide +kernel
theorem d9 : decode yB 9 = .ok (.invokestatic 115, 3) := by decide +kernel
theorem d12 : decode yB 12 = .ok (.istore 4, 2) := by decide +kernel
theorem d14 : decode yB 14 = .ok (.iload 4, 2) := by decide +kernel
theorem d16 : decode yB 16 = .ok (.iload_n 2, 1) := by decide +kernel
theorem d17 : decode yB 17 = .ok (.if_icmp (.eq) 40, 3) := by decide +kernel
theorem d57 : decode yB 57 = .ok (.aload_n 3, 1) := by decide +kernel
theorem d58 : decode yB 58 = .ok (.areturn, 1) := by decide +kernel
def site : List Cond := [.arrayClass .byte, Cmp5.tab] ++ staticW U16 115 Cmp5.yN
def tab : Cond := tabOf yN yB 6 (some (.array .byte)) site
def P (b : Addr) (A : Cell) (o len : Nat) (args : Array Value) (s : State) : Prop := args = #[.ref b, .int (Int32.ofNat o), .int (Int32.ofNat len)] ∧ Ch b A s ∧ o + len ≤ A.slots.size ∧ len ≤ 536870912 ∧ ∀ i, i < len → ¬ 255 < cv A (o + i)
def E (b : Addr) (A : Cell) (o len : Nat) (r : Option Value) (s u : State) : Prop := NewArr .byte "[B" len (fun j => .int (lo8 (cv A (o + j)))) r s u ∧ u.heap.size = s.heap.size + 1
/-- no char of the range above 255: a new byte[] of their low bytes -/
theorem law (l : Launch) (b : Addr) (A : Cell) (o len : Nat) : Law l yN 3 3 1 18 yB 6 (some (.array .byte)) site (P b A o len) (E b A o len) [] 1 len := by
  refine Law.of_walk (plainFor_of_name (by decide +kernel)) (by decide +kernel) (by decide +kernel) (by decide) (fun _ _ h => by rw [h.1]; rfl) (fun _ U U' hal hh h => ⟨h.1, h.2.1.mv hal hh, h.2.2⟩) (fun r U U' V V' h1 hal h2 h => ⟨NewArr.mv r U U' V V' h1 hal h2 h.1, by rw [h1, h2]; exact h.2⟩) ?_
  intro p e s m args below meth c s₁ X0 hexec hbytes hml hret hlk hnm hown hh0 W hP
  obtain ⟨rfl, hA, l1, l2, hp⟩ := hP
  have a31 := hA.1.2.2.2
  have c1 : Steps p.tables e below (s₁.setTop (entryFrame m #[.ref b, .int (Int32.ofNat o), .int (Int32.ofNat len)] 6)) (s₁.setTop (mkF m 0 #[.val (.ref b), .val (.int (Int32.ofNat o)), .val (.int (Int32.ofNat len)), .unset, .unset, .unset] [])) := entry rfl
  have c2 : Steps p.tables e below (s₁.setTop (entryFrame m #[.ref b, .int (Int32.ofNat o), .int (Int32.ofNat len)] 6)) (s₁.setTop (mkF m 1 #[.val (.ref b), .val (.int (Int32.ofNat o)), .val (.int (Int32.ofNat len)), .unset, .unset, .unset] [.int (Int32.ofNat len)])) := c1.trans (by
    refine XS.iloadN X0.here hexec rfl (hb hbytes d0) rfl ?_
    exact Steps.refl _)
  obtain ⟨T3, B3, X3, ba3, bs3, bv3, bh3, bf3, st3⟩ := X0.anew hexec (atype := .byte) (wk W (.arrayClass .byte)) rfl (by show len * 1 ≤ _; omega) (by omega) (g := (mkF m 1 #[.val (.ref b), .val (.int (Int32.ofNat o)), .val (.int (Int32.ofNat len)), .unset, .unset, .unset] [.int (Int32.ofNat len)])) rfl (hb hbytes d1) (rest := []) rfl (Nat.le_refl _) (by show 0 + len ≤ len; omega)
  rw [hh0] at ba3 st3
  have kp3 : XT.Kept s T3 := (XT.Kept.of_eq hh0).push bh3
  have hA3 := hA.keep X3.warmed.alike (kp3 _ _ hA.1.1)
  have hne : b ≠ s.heap.size := hA.1.ne
  have c4 : Steps p.tables e below (s₁.setTop (entryFrame m #[.ref b, .int (Int32.ofNat o), .int (Int32.ofNat len)] 6)) (T3.setTop (mkF m 3 #[.val (.ref b), .val (.int (Int32.ofNat o)), .val (.int (Int32.ofNat len)), .unset, .unset, .unset] [.ref s.heap.size])) := c2.trans (st3 _ (Steps.refl _))
  have c5 : Steps p.tables e below (s₁.setTop (entryFrame m #[.ref b, .int (Int32.ofNat o), .int (Int32.ofNat len)] 6)) (T3.setTop (mkF m 9 #[.val (.ref b), .val (.int (Int32.ofNat o)), .val (.int (Int32.ofNat len)), .val (.ref s.heap.size), .unset, .unset] [.int (Int32.ofNat len), .int 0, .ref s.heap.size, .int (Int32.ofNat o), .ref b])) := c4.trans (by
    refine XS.astoreN X3.here hexec rfl (hb hbytes d3) rfl rfl rfl ?_
    refine XS.aloadN X3.here hexec rfl (hb hbytes d4) rfl rfl ?_
    refine XS.iloadN X3.here hexec rfl (hb hbytes d5) rfl ?_
    refine XS.aloadN X3.here hexec rfl (hb hbytes d6) rfl rfl ?_
    refine iconstV X3.here hexec rfl 0 (hb hbytes d7) (by decide) ?_
    refine XS.iloadN X3.here hexec rfl (hb hbytes d8) rfl ?_
    exact Steps.refl _)
  obtain ⟨v6, T6, X6, E6, g6⟩ := X3.callS hexec (Cmp5.law l b A s.heap.size B3 o 0 len) hown (wks W (staticW U16 115 Cmp5.yN)) (wk W Cmp5.tab) (W := 0) (Nat.le_of_ble_eq_true rfl) (Nat.le_of_ble_eq_true rfl) (Nat.le_refl _) (by show 0 + len + 0 ≤ len; omega) (g := (mkF m 9 #[.val (.ref b), .val (.int (Int32.ofNat o)), .val (.int (Int32.ofNat len)), .val (.ref s.heap.size), .unset, .unset] [.int (Int32.ofNat len), .int (Int32.ofNat 0), .ref s.heap.size, .int (Int32.ofNat o), .ref b])) rfl (by rw [hml]; rfl) c5 (argsL := [.ref b, .int (Int32.ofNat o), .ref s.heap.size, .int (Int32.ofNat 0), .int (Int32.ofNat len)]) (rest := []) rfl rfl (by show 2 * 0 + 0 ≤ _; decide) (hb hbytes d9) (⟨rfl, hA3, ba3, hne, l1, by rw [bs3]; simp, hp⟩)
  obtain ⟨rfl, B6, p6, f6⟩ := E6
  have c7 : Steps p.tables e below (s₁.setTop (entryFrame m #[.ref b, .int (Int32.ofNat o), .int (Int32.ofNat len)] 6)) (T6.setTop (mkF m 12 #[.val (.ref b), .val (.int (Int32.ofNat o)), .val (.int (Int32.ofNat len)), .val (.ref s.heap.size), .unset, .unset] [.int (Int32.ofNat len)])) := g6
  have c8 : Steps p.tables e below (s₁.setTop (entryFrame m #[.ref b, .int (Int32.ofNat o), .int (Int32.ofNat len)] 6)) (T6.setTop (mkF m 58 #[.val (.ref b), .val (.int (Int32.ofNat o)), .val (.int (Int32.ofNat len)), .val (.ref s.heap.size), .val (.int (Int32.ofNat len)), .unset] [.ref s.heap.size])) := c7.trans (by
    refine XS.istore X6.here hexec rfl (hb hbytes d12) rfl rfl ?_
    refine XS.iload X6.here hexec rfl (hb hbytes d14) rfl ?_
    refine XS.iloadN X6.here hexec rfl (hb hbytes d16) rfl ?_
    refine XS.icmpYes X6.here hexec rfl (pc0 := 17) rfl (hb hbytes d17) rfl (ii_eq_t rfl) (by decide) rfl ?_
    refine XS.aloadN X6.here hexec rfl (hb hbytes d57) rfl rfl ?_
    exact Steps.refl _)
  have X8 := X6.wide (L' := []) (cells' := 1) (slots' := len) (fun x hx hlt => by
    simp only [List.nil_append, copyLocs, List.mem_map, List.mem_range] at hx
    obtain ⟨i, -, rfl⟩ := hx
    exact absurd hlt (Nat.lt_irrefl _)) (Nat.le_refl _) (by omega)
  exact ⟨T6, some (.ref s.heap.size), _, _, _, X8, rfl, rfl, rfl, (fun h => by cases h), ⟨⟨rfl, B6, ba3.like (X3.warmed.alike.symm.trans X6.warmed.alike) p6.1 f6.1 f6.2.1 f6.2.2.1, f6.2.1.trans bv3, by rw [X6.warmed.alike.findClass, f6.1]; exact bf3, by rw [f6.2.2.1, bs3]; simp, fun j hj => by rw [f6.2.2.2 j, if_pos (by omega)]; rfl, kp3.put p6 (Nat.le_refl _)⟩, by rw [p6.2.2, bh3, hh0]; simp⟩, fun fs hl => c8.trans (X8.areturnOut hexec rfl hret rfl (hb hbytes d58) hl)⟩
end Cmp3
namespace CodL
def yN : MethodName := ⟨"java/lang/StringUTF16", "coderFromArrayLen", "([BI)B"⟩
abbrev yB : ByteArray := jdk_52_method_15_code
theorem d0 : decode yB 0 = .ok (.iload_n 1, 1) := by decide +kernel
theorem d1 : decode yB 1 = .ok (.aload_n 0, 1) := by decide +kernel
theorem d2 : decode yB 2 = .ok (.arraylength, 1) := by decide +kernel
theorem d3 : decode yB 3 = .ok (.isub, 1) := by decide +kernel
theorem d4 : decode yB 4 = .ok (.bipush 31, 2) := by decide +kernel
theorem d6 : decode yB 6 = .ok (.iushr, 1) := by decide +kernel
theorem d7 : decode yB 7 = .ok (.i2b, 1) := by decide +kernel
theorem d8 : decode yB 8 = .ok (.ireturn, 1) := by decide +kernel
def site : List Cond := []
def tab : Cond := tabOf yN yB 2 (some .byte) site
def P (d : Addr) (B : Cell) (args : Array Value) (s : State) : Prop := args = #[.ref d, .int (Int32.ofNat B.slots.size)] ∧ Arr .byte d B s
def E (r : Option Value) (s u : State) : Prop := XT.PureE (some (.int 0)) r s u
/-- an array as long as the number of chars: LATIN1 -/
theorem law (l : Launch) (d : Addr) (B : Cell) : Law l yN 2 2 0 0 yB 2 (some .byte) site (P d B) E [] 0 0 := by
  refine Law.of_walk (plainFor_of_name (by decide +kernel)) (by decide +kernel) (by decide +kernel) (by decide) (fun _ _ h => by rw [h.1]; rfl) (fun _ U U' hal hh h => ⟨h.1, h.2.mv hal hh⟩) (fun r U U' V V' h1 hal h2 h => XT.PureE.mv r U U' V V' h1 hal h2 h) ?_
  intro p e s m args below meth c s₁ X0 hexec hbytes hml hret hlk hnm hown hh0 W hP
  obtain ⟨rfl, hB⟩ := hP
  have hB0 := hB.mv X0.warmed.alike hh0
  have c1 : Steps p.tables e below (s₁.setTop (entryFrame m #[.ref d, .int (Int32.ofNat B.slots.size)] 2)) (s₁.setTop (mkF m 0 #[.val (.ref d), .val (.int (Int32.ofNat B.slots.size))] [])) := entry rfl
  have c2 : Steps p.tables e below (s₁.setTop (entryFrame m #[.ref d, .int (Int32.ofNat B.slots.size)] 2)) (s₁.setTop (mkF m 2 #[.val (.ref d), .val (.int (Int32.ofNat B.slots.size))] [.ref d, .int (Int32.ofNat B.slots.size)])) := c1.trans (by
    refine XS.iloadN X0.here hexec rfl (hb hbytes d0) rfl ?_
    refine XS.aloadN X0.here hexec rfl (hb hbytes d1) rfl rfl ?_
    exact Steps.refl _)
  have c3 : Steps p.tables e below (s₁.setTop (entryFrame m #[.ref d, .int (Int32.ofNat B.slots.size)] 2)) (s₁.setTop (mkF m 8 #[.val (.ref d), .val (.int (Int32.ofNat B.slots.size))] [.int (lo8 (ushr (Int32.ofNat B.slots.size - Int32.ofNat B.slots.size) 31))])) := c2.trans (by
    refine X0.alen hexec hB0 rfl rfl (hb hbytes d2) ?_
    refine XS.isub X0.here hexec rfl (hb hbytes d3) rfl ?_
    refine bipushV X0.here hexec rfl 31 (hb hbytes d4) (by decide) ?_
    refine iushr X0.here hexec rfl (hb hbytes d6) rfl ?_
    refine i2b X0.here hexec rfl (hb hbytes d7) rfl ?_
    exact Steps.refl _)
  have e0 : lo8 (ushr (Int32.ofNat B.slots.size - Int32.ofNat B.slots.size) 31) = 0 := by rw [Int32.sub_self]; decide
  rw [e0] at c3
  exact ⟨s₁, some (.int 0), _, _, _, X0, rfl, rfl, rfl, (fun h => by cases h), ⟨rfl, hh0⟩, fun fs hl => c3.trans (X0.ireturnOut hexec hret rfl (Or.inr (Or.inr (Or.inl rfl))) (hb hbytes d8) hl)⟩
end CodL
/-- the String at a is Latin-1 over a new byte[] (the heap's one new cell): the low bytes of the len chars of A from o on; every cell but a is kept -/
def Got (a : Addr) (D : Cell) (fV fC : Field) (A : Cell) (o len : Nat) (r : Option Value) (s u : State) : Prop := r = none ∧ ∃ D' V : Cell, Blank "java/lang/String" a D' u ∧ Same D D' [fV.slot, fC.slot] ∧ D'.slots[fV.slot]? = some (.ref s.heap.size) ∧ D'.slots[fC.slot]? = some (.int 0) ∧ Arr .byte s.heap.size V u ∧ V.vm = .none ∧ u.vm.findClass "[B" = some V.cls ∧ V.slots.size = len ∧ (∀ j, j < len → V.slots[j]? = some (.int (lo8 (cv A (o + j))))) ∧ (∀ (y : Addr) (c : Cell), y ≠ a → s.heap[y]? = some c → u.heap[y]? = some c) ∧ u.heap.size = s.heap.size + 1
theorem Got.mv {a : Addr} {D A : Cell} {fV fC : Field} {o len : Nat} : ∀ r (U U' V V' : State), U'.heap = U.heap → V.vm.Alike V'.vm → V'.heap = V.heap → Got a D fV fC A o len r U V → Got a D fV fC A o len r U' V' :=
  fun r U U' V V' h1 hal h2 ⟨e0, D', X, a1, a2, a3, a4, a5, a6, a7, a8, a9, a10, a11⟩ => ⟨e0, D', X, a1.mv hal h2, a2, by rw [h1]; exact a3, a4, by rw [h1]; exact a5.mv hal h2, a6, by rw [hal.findClass]; exact a7, a8, a9, by rw [h1, h2]; exact a10, by rw [h1, h2]; exact a11⟩
namespace New4
def yN : MethodName := ⟨"java/lang/String", "<init>", "([CIILjava/lang/Void;)V"⟩
abbrev yB : ByteArray := jdk_42_method_149_code
theorem d0 : decode yB 0 = .ok (.aload_n 0, 1) := by decide +kernel
theorem d1 : decode yB 1 = .ok (.invokespecial 1, 3) := by decide +kernel
theorem d4 : decode yB 4 = .ok (.iload_n 3, 1) := by decide +kernel
theorem d5 : decode yB 5 = .ok (.ifCond (.ne) 22, 3) := by decide +kernel
theorem d27 : decode yB 27 = .ok (.getstatic 38, 3) := by decide +kernel
theorem d30 : decode yB 30 = .ok (.ifCond (.eq) 28, 3) := by decide +kernel
theorem d33 : decode yB 33 = .ok (.aload_n 1, 1) := by decide +kernel
theorem d34 : decode yB 34 = .ok (.iload_n 2, 1) := by decide +kernel
theorem d35 : decode yB 35 = .ok (.iload_n 3, 1) := by decide +kernel
theorem d36 : decode yB 36 = .ok (.invokestatic 177, 3) := by decide +kernel
theorem d39 : decode yB 39 = .ok (.astore 5, 2) := by decide +kernel
theorem d41 : decode yB 41 = .ok (.aload_n 0, 1) := by decide +kernel
theorem d42 : decode yB 42 = .ok (.aload 5, 2) := by decide +kernel
theorem d44 : decode yB 44 = .ok (.iload_n 3, 1) := by decide +kernel
theorem d45 : decode yB 45 = .ok (.invokestatic 47, 3) := by decide +kernel
theorem d48 : decode yB 48 = .ok (.putfield 15, 3) := by decide +kernel
theorem d51 : decode yB 51 = .ok (.aload_n 0, 1) := by decide +kernel
theorem d52 : decode yB 52 = .ok (.aload 5, 2) := by decide +kernel
theorem d54 : decode yB 54 = .ok (.putfield 9, 3) := by decide +kernel
theorem d57 : decode yB 57 = .ok (.return_, 1) := by decide +kernel
def site : List Cond := [.fieldLink "java/lang/String" 38 "java/lang/String" "COMPACT_STRINGS" "Z", Cmp3.tab, CodL.tab, .laysFinal "java/lang/String" "java/lang/String" "value" "[B", .fieldLink "java/lang/String" 9 "java/lang/String" "value" "[B", .laysFinal "java/lang/String" "java/lang/String" "coder" "B", .fieldLink "java/lang/String" 15 "java/lang/String" "coder" "B"] ++ objW "java/lang/String" 1 ++ staticW "java/lang/String" 177 Cmp3.yN ++ staticW "java/lang/String" 47 CodL.yN
def tab : Cond := tabOf yN yB 6 none site
def P (a : Addr) (D : Cell) (fV fC : Field) (b : Addr) (A : Cell) (z : Int32) (o len : Nat) (args : Array Value) (s : State) : Prop := args = #[.ref a, .ref b, .int (Int32.ofNat o), .int (Int32.ofNat len), .null] ∧ Blank "java/lang/String" a D s ∧ Found "java/lang/String" "value" "[B" fV s ∧ Found "java/lang/String" "coder" "B" fC s ∧ Ch b A s ∧ StaticIs s "java/lang/String" "COMPACT_STRINGS" "Z" (.int z) ∧ ¬ z = 0 ∧ 0 < len ∧ o + len ≤ A.slots.size ∧ len ≤ 536870912 ∧ ∀ i, i < len → ¬ 255 < cv A (o + i)
def E (a : Addr) (D : Cell) (fV fC : Field) (A : Cell) (o len : Nat) (r : Option Value) (s u : State) : Prop := Got a D fV fC A o len r s u
/-- len > 0, no char of the range above 255: a Latin-1 String of their low bytes -/
theorem law (l : Launch) (a : Addr) (D : Cell) (fV fC : Field) (b : Addr) (A : Cell) (z : Int32) (o len : Nat) : Law l yN 5 4 2 35 yB 6 none site (P a D fV fC b A z o len) (E a D fV fC A o len) [⟨a, fC.slot⟩, ⟨a, fV.slot⟩] 1 len := by
  refine Law.of_walk (plainFor_of_name (by decide +kernel)) (by decide +kernel) (by decide +kernel) (by decide) (fun _ _ h => by rw [h.1]; rfl) (fun _ U U' hal hh h => ⟨h.1, h.2.1.mv hal hh, h.2.2.1.al hal, h.2.2.2.1.al hal, h.2.2.2.2.1.mv hal hh, h.2.2.2.2.2.1.there hal hh, h.2.2.2.2.2.2⟩) (fun r U U' V V' h1 hal h2 h => Got.mv r U U' V V' h1 hal h2 h) ?_
  intro p e s m args below meth c s₁ X0 hexec hbytes hml hret hlk hnm hown hh0 W hP
  obtain ⟨rfl, hB, f1, f2, hA, s1, hz, l0, l1, l2, hp⟩ := hP
  have a31 := hA.1.2.2.2
  have c1 : Steps p.tables e below (s₁.setTop (entryFrame m #[.ref a, .ref b, .int (Int32.ofNat o), .int (Int32.ofNat len), .null] 6)) (s₁.setTop (mkF m 0 #[.val (.ref a), .val (.ref b), .val (.int (Int32.ofNat o)), .val (.int (Int32.ofNat len)), .val .null, .unset] [])) := entry rfl
  have c2 : Steps p.tables e below (s₁.setTop (entryFrame m #[.ref a, .ref b, .int (Int32.ofNat o), .int (Int32.ofNat len), .null] 6)) (s₁.setTop (mkF m 1 #[.val (.ref a), .val (.ref b), .val (.int (Int32.ofNat o)), .val (.int (Int32.ofNat len)), .val .null, .unset] [.ref a])) := c1.trans (by
    refine XS.aloadN X0.here hexec rfl (hb hbytes d0) rfl rfl ?_
    exact Steps.refl _)
  obtain ⟨T3, X3, q3, st3⟩ := X0.oinit hexec hown (wks W (objW "java/lang/String" 1)) (g := (mkF m 1 #[.val (.ref a), .val (.ref b), .val (.int (Int32.ofNat o)), .val (.int (Int32.ofNat len)), .val .null, .unset] [.ref a])) rfl (by rw [hml]; rfl) (rest := []) rfl (hb hbytes d1) (W := 0) (by show 2 * 0 + 0 ≤ _; decide) (Nat.le_of_ble_eq_true rfl) (Nat.le_of_ble_eq_true rfl)
  have hh3 := q3.trans hh0
  have c4 : Steps p.tables e below (s₁.setTop (entryFrame m #[.ref a, .ref b, .int (Int32.ofNat o), .int (Int32.ofNat len), .null] 6)) (T3.setTop (mkF m 27 #[.val (.ref a), .val (.ref b), .val (.int (Int32.ofNat o)), .val (.int (Int32.ofNat len)), .val .null, .unset] [])) := (c2.trans (st3 _ (Steps.refl _))).trans (by
    refine XS.iloadN X3.here hexec rfl (hb hbytes d4) rfl ?_
    refine XS.ifYes X3.here hexec rfl (pc0 := 5) rfl (hb hbytes d5) rfl (i0_ne_t (nz32 (by omega) l0)) (by decide) rfl ?_
    exact Steps.refl _)
  obtain ⟨T5, X5, q5, st5⟩ := X3.sget hexec hown (wk W (.fieldLink "java/lang/String" 38 "java/lang/String" "COMPACT_STRINGS" "Z")) s1 (fun _ _ h => by rw [hh3]; exact h) (g := (mkF m 27 #[.val (.ref a), .val (.ref b), .val (.int (Int32.ofNat o)), .val (.int (Int32.ofNat len)), .val .null, .unset] [])) rfl (hb hbytes d27)
  have hh5 := q5.trans hh3
  have c6 : Steps p.tables e below (s₁.setTop (entryFrame m #[.ref a, .ref b, .int (Int32.ofNat o), .int (Int32.ofNat len), .null] 6)) (T5.setTop (mkF m 30 #[.val (.ref a), .val (.ref b), .val (.int (Int32.ofNat o)), .val (.int (Int32.ofNat len)), .val .null, .unset] [.int z])) := c4.trans (st5 _ (Steps.refl _))
  have c7 : Steps p.tables e below (s₁.setTop (entryFrame m #[.ref a, .ref b, .int (Int32.ofNat o), .int (Int32.ofNat len), .null] 6)) (T5.setTop (mkF m 36 #[.val (.ref a), .val (.ref b), .val (.int (Int32.ofNat o)), .val (.int (Int32.ofNat len)), .val .null, .unset] [.int (Int32.ofNat len), .int (Int32.ofNat o), .ref b])) := c6.trans (by
    refine XS.ifNo X5.here hexec rfl (hb hbytes d30) rfl (i0_eq_f hz) ?_
    refine XS.aloadN X5.here hexec rfl (hb hbytes d33) rfl rfl ?_
    refine XS.iloadN X5.here hexec rfl (hb hbytes d34) rfl ?_
    refine XS.iloadN X5.here hexec rfl (hb hbytes d35) rfl ?_
    exact Steps.refl _)
  obtain ⟨v8, T8, X8, E8, g8⟩ := X5.callS hexec (Cmp3.law l b A o len) hown (wks W (staticW "java/lang/String" 177 Cmp3.yN)) (wk W Cmp3.tab) (W := 0) (Nat.le_of_ble_eq_true rfl) (Nat.le_of_ble_eq_true rfl) (Nat.le_refl _) (by show 0 + len ≤ len; omega) (g := (mkF m 36 #[.val (.ref a), .val (.ref b), .val (.int (Int32.ofNat o)), .val (.int (Int32.ofNat len)), .val .null, .unset] [.int (Int32.ofNat len), .int (Int32.ofNat o), .ref b])) rfl (by rw [hml]; rfl) c7 (argsL := [.ref b, .int (Int32.ofNat o), .int (Int32.ofNat len)]) (rest := []) rfl rfl (by show 2 * 0 + 0 ≤ _; decide) (hb hbytes d36) (⟨rfl, hA.mv X5.warmed.alike hh5, l1, l2, hp⟩)
  obtain ⟨e8, z8⟩ := E8
  obtain ⟨rfl, N, n1, n2, n3, n4, n5, n6⟩ := NewArr.mv _ T5 s _ _ hh5.symm (Vm.Alike.refl _) rfl e8
  rw [hh5] at z8
  have hB1 := hB.keep X8.warmed.alike (n6 _ _ hB.1)
  have hne : s.heap.size ≠ a := (Nat.ne_of_lt (Array.getElem?_eq_some_iff.mp hB.1).1).symm
  have c9 : Steps p.tables e below (s₁.setTop (entryFrame m #[.ref a, .ref b, .int (Int32.ofNat o), .int (Int32.ofNat len), .null] 6)) (T8.setTop (mkF m 39 #[.val (.ref a), .val (.ref b), .val (.int (Int32.ofNat o)), .val (.int (Int32.ofNat len)), .val .null, .unset] [.ref s.heap.size])) := g8
  have c10 : Steps p.tables e below (s₁.setTop (entryFrame m #[.ref a, .ref b, .int (Int32.ofNat o), .int (Int32.ofNat len), .null] 6)) (T8.setTop (mkF m 45 #[.val (.ref a), .val (.ref b), .val (.int (Int32.ofNat o)), .val (.int (Int32.ofNat len)), .val .null, .val (.ref s.heap.size)] [.int (Int32.ofNat N.slots.size), .ref s.heap.size, .ref a])) := by
    have hc : Steps p.tables e below (s₁.setTop (entryFrame m #[.ref a, .ref b, .int (Int32.ofNat o), .int (Int32.ofNat len), .null] 6)) (T8.setTop (mkF m 45 #[.val (.ref a), .val (.ref b), .val (.int (Int32.ofNat o)), .val (.int (Int32.ofNat len)), .val .null, .val (.ref s.heap.size)] [.int (Int32.ofNat len), .ref s.heap.size, .ref a])) := c9.trans (by
      refine XS.astore X8.here hexec rfl (hb hbytes d39) rfl rfl rfl ?_
      refine XS.aloadN X8.here hexec rfl (hb hbytes d41) rfl rfl ?_
      refine XS.aload X8.here hexec rfl (hb hbytes d42) rfl rfl ?_
      refine XS.iloadN X8.here hexec rfl (hb hbytes d44) rfl ?_
      exact Steps.refl _)
    rw [n4]; exact hc
  obtain ⟨v11, T11, X11, E11, g11⟩ := X8.callS hexec (CodL.law l s.heap.size N) hown (wks W (staticW "java/lang/String" 47 CodL.yN)) (wk W CodL.tab) (W := 1) (Nat.le_of_ble_eq_true rfl) (Nat.le_of_ble_eq_true rfl) (Nat.le_refl _) (by show 0 + len + 0 ≤ len; omega) (g := (mkF m 45 #[.val (.ref a), .val (.ref b), .val (.int (Int32.ofNat o)), .val (.int (Int32.ofNat len)), .val .null, .val (.ref s.heap.size)] [.int (Int32.ofNat N.slots.size), .ref s.heap.size, .ref a])) rfl (by rw [hml]; rfl) c10 (argsL := [.ref s.heap.size, .int (Int32.ofNat N.slots.size)]) (rest := [.ref a]) rfl rfl (by show 2 * 0 + (1 + 0) ≤ _; decide) (hb hbytes d45) (⟨rfl, n1⟩)
  obtain ⟨rfl, q11⟩ := E11
  have hB11 := hB1.mv (X8.warmed.alike.symm.trans X11.warmed.alike) q11
  have c12 : Steps p.tables e below (s₁.setTop (entryFrame m #[.ref a, .ref b, .int (Int32.ofNat o), .int (Int32.ofNat len), .null] 6)) (T11.setTop (mkF m 48 #[.val (.ref a), .val (.ref b), .val (.int (Int32.ofNat o)), .val (.int (Int32.ofNat len)), .val .null, .val (.ref s.heap.size)] [.int 0, .ref a])) := g11
  obtain ⟨T13, X13, p13, bl13, sl13, st13⟩ := X11.finit hexec hown (wk W (.fieldLink "java/lang/String" 15 "java/lang/String" "coder" "B")) (Or.inr ⟨_, (wk W (.laysFinal "java/lang/String" "java/lang/String" "coder" "B"))⟩) (Or.inl ⟨rfl, hnm⟩) f2 (Or.inl rfl) hB11 (t := .byte) (by decide +kernel) rfl (g := (mkF m 48 #[.val (.ref a), .val (.ref b), .val (.int (Int32.ofNat o)), .val (.int (Int32.ofNat len)), .val .null, .val (.ref s.heap.size)] [.int 0, .ref a])) rfl (rest := []) rfl (hb hbytes d48)
  have c14 : Steps p.tables e below (s₁.setTop (entryFrame m #[.ref a, .ref b, .int (Int32.ofNat o), .int (Int32.ofNat len), .null] 6)) (T13.setTop (mkF m 54 #[.val (.ref a), .val (.ref b), .val (.int (Int32.ofNat o)), .val (.int (Int32.ofNat len)), .val .null, .val (.ref s.heap.size)] [.ref s.heap.size, .ref a])) := (c12.trans (st13 _ (Steps.refl _))).trans (by
    refine XS.aloadN X13.here hexec rfl (hb hbytes d51) rfl rfl ?_
    refine XS.aload X13.here hexec rfl (hb hbytes d52) rfl rfl ?_
    exact Steps.refl _)
  obtain ⟨T15, X15, p15, bl15, sl15, st15⟩ := X13.finit hexec hown (wk W (.fieldLink "java/lang/String" 9 "java/lang/String" "value" "[B")) (Or.inr ⟨_, (wk W (.laysFinal "java/lang/String" "java/lang/String" "value" "[B"))⟩) (Or.inl ⟨rfl, hnm⟩) f1 (Or.inl rfl) bl13 (t := (.array .byte)) (by decide +kernel) rfl (g := (mkF m 54 #[.val (.ref a), .val (.ref b), .val (.int (Int32.ofNat o)), .val (.int (Int32.ofNat len)), .val .null, .val (.ref s.heap.size)] [.ref s.heap.size, .ref a])) rfl (rest := []) rfl (hb hbytes d54)
  have c16 : Steps p.tables e below (s₁.setTop (entryFrame m #[.ref a, .ref b, .int (Int32.ofNat o), .int (Int32.ofNat len), .null] 6)) (T15.setTop (mkF m 57 #[.val (.ref a), .val (.ref b), .val (.int (Int32.ofNat o)), .val (.int (Int32.ofNat len)), .val .null, .val (.ref s.heap.size)] [])) := c14.trans (st15 _ (Steps.refl _))
  have ap := apart (Or.inr ⟨_, (wk W (.laysFinal "java/lang/String" "java/lang/String" "value" "[B"))⟩) (Or.inr ⟨_, (wk W (.laysFinal "java/lang/String" "java/lang/String" "coder" "B"))⟩) f1 f2 (t₁ := .array .byte) (t₂ := .byte) (by decide +kernel) (by decide +kernel) (by decide)
  have al := X8.warmed.alike.symm.trans X15.warmed.alike
  have n7 : T11.heap[s.heap.size]? = some N := by rw [q11]; exact n1.1
  exact ⟨T15, none, _, _, _, X15, by simp, rfl, by omega, (fun _ => rfl), ⟨rfl, _, N, bl15, ((Same.refl D _).set _ (by simp)).set _ (by simp), sl15, (Cell.slots_setSlot_ne _ ap).trans sl13, n1.keep al (p15.other hne (p13.other hne n7)), n2, by rw [al.findClass]; exact n3, n4, n5, fun y c h1 h2 => p15.other h1 (p13.other h1 (by rw [q11]; exact n6 y c h2)), by rw [p15.2.2, p13.2.2, q11]; exact z8⟩, fun fs hl => c16.trans (X15.returnOut hexec hret (hb hbytes d57) hl)⟩
end New4
namespace New1
def yN : MethodName := ⟨"java/lang/String", "<init>", "([C)V"⟩
abbrev yB : ByteArray := jdk_42_method_3_code
theorem d0 : decode yB 0 = .ok (.aload_n 0, 1) := by decide +kernel
theorem d1 : decode yB 1 = .ok (.aload_n 1, 1) := by decide +kernel
theorem d2 : decode yB 2 = .ok (.iconst 0, 1) := by decide +kernel
theorem d3 : decode yB 3 = .ok (.aload_n 1, 1) := by decide +kernel
theorem d4 : decode yB 4 = .ok (.arraylength, 1) := by decide +kernel
theorem d5 : decode yB 5 = .ok (.aconst_null, 1) := by decide +kernel
theorem d6 : decode yB 6 = .ok (.invokespecial 27, 3) := by decide +kernel
theorem d9 : decode yB 9 = .ok (.return_, 1) := by decide +kernel
def site : List Cond := [New4.tab] ++ initW "java/lang/String" 27 New4.yN
def tab : Cond := tabOf yN yB 2 none site
def P (a : Addr) (D : Cell) (fV fC : Field) (b : Addr) (A : Cell) (z : Int32) (args : Array Value) (s : State) : Prop := args = #[.ref a, .ref b] ∧ Blank "java/lang/String" a D s ∧ Found "java/lang/String" "value" "[B" fV s ∧ Found "java/lang/String" "coder" "B" fC s ∧ Ch b A s ∧ StaticIs s "java/lang/String" "COMPACT_STRINGS" "Z" (.int z) ∧ ¬ z = 0 ∧ 0 < A.slots.size ∧ A.slots.size ≤ 536870912 ∧ ∀ i, i < A.slots.size → ¬ 255 < cv A i
def E (a : Addr) (D : Cell) (fV fC : Field) (A : Cell) (r : Option Value) (s u : State) : Prop := Got a D fV fC A 0 A.slots.size r s u
/-- new String(chars), not empty, no char above 255: a Latin-1 String of their low bytes -/
theorem law (l : Launch) (a : Addr) (D : Cell) (fV fC : Field) (b : Addr) (A : Cell) (z : Int32) : Law l yN 2 1 3 52 yB 2 none site (P a D fV fC b A z) (E a D fV fC A) [⟨a, fC.slot⟩, ⟨a, fV.slot⟩] 1 A.slots.size := by
  refine Law.of_walk (plainFor_of_name (by decide +kernel)) (by decide +kernel) (by decide +kernel) (by decide) (fun _ _ h => by rw [h.1]; rfl) (fun _ U U' hal hh h => ⟨h.1, h.2.1.mv hal hh, h.2.2.1.al hal, h.2.2.2.1.al hal, h.2.2.2.2.1.mv hal hh, h.2.2.2.2.2.1.there hal hh, h.2.2.2.2.2.2⟩) (fun r U U' V V' h1 hal h2 h => Got.mv r U U' V V' h1 hal h2 h) ?_
  intro p e s m args below meth c s₁ X0 hexec hbytes hml hret hlk hnm hown hh0 W hP
  obtain ⟨rfl, hB, f1, f2, hA, s1, hz, l0, l2, hp⟩ := hP
  have c1 : Steps p.tables e below (s₁.setTop (entryFrame m #[.ref a, .ref b] 2)) (s₁.setTop (mkF m 0 #[.val (.ref a), .val (.ref b)] [])) := entry rfl
  have c2 : Steps p.tables e below (s₁.setTop (entryFrame m #[.ref a, .ref b] 2)) (s₁.setTop (mkF m 6 #[.val (.ref a), .val (.ref b)] [.null, .int (Int32.ofNat A.slots.size), .int 0, .ref b, .ref a])) := c1.trans (by
    refine XS.aloadN X0.here hexec rfl (hb hbytes d0) rfl rfl ?_
    refine XS.aloadN X0.here hexec rfl (hb hbytes d1) rfl rfl ?_
    refine iconstV X0.here hexec rfl 0 (hb hbytes d2) (by decide) ?_
    refine XS.aloadN X0.here hexec rfl (hb hbytes d3) rfl rfl ?_
    refine X0.alen hexec (hA.1.mv X0.warmed.alike hh0) rfl rfl (hb hbytes d4) ?_
    refine XS.aconstNull X0.here hexec rfl (hb hbytes d5) ?_
    exact Steps.refl _)
  obtain ⟨v3, T3, X3, E3, g3⟩ := X0.callN hexec (New4.law l a D fV fC b A z 0 A.slots.size) rfl hown (wks W (initW "java/lang/String" 27 New4.yN)) (W New4.tab (by simp only [site, List.mem_cons, List.mem_append, true_or, or_true])) (W := 0) (Nat.le_of_ble_eq_true rfl) (Nat.le_of_ble_eq_true rfl) (Nat.le_refl _) (by show 0 + A.slots.size ≤ A.slots.size; omega) (g := (mkF m 6 #[.val (.ref a), .val (.ref b)] [.null, .int (Int32.ofNat A.slots.size), .int (Int32.ofNat 0), .ref b, .ref a])) rfl (by rw [hml]; rfl) c2 (argsL := [.ref b, .int (Int32.ofNat 0), .int (Int32.ofNat A.slots.size), .null]) (rest := []) rfl rfl (by show 2 * 0 + 0 ≤ _; decide) (hb hbytes d6) (⟨rfl, hB.mv X0.warmed.alike hh0, f1.al X0.warmed.alike, f2.al X0.warmed.alike, hA.mv X0.warmed.alike hh0, s1.there X0.warmed.alike hh0, hz, l0, by omega, l2, fun i hi => by rw [Nat.zero_add]; exact hp i hi⟩)
  have e0 := Got.mv _ s₁ s _ _ hh0.symm (Vm.Alike.refl _) rfl E3
  obtain rfl := e0.1
  have c4 : Steps p.tables e below (s₁.setTop (entryFrame m #[.ref a, .ref b] 2)) (T3.setTop (mkF m 9 #[.val (.ref a), .val (.ref b)] [])) := g3
  exact ⟨T3, none, _, _, _, X3, by simp, rfl, by omega, (fun _ => rfl), e0, fun fs hl => c4.trans (X3.returnOut hexec hret (hb hbytes d9) hl)⟩
theorem pays {l : Launch} {R : Room} {p : Program} {e : Env} {below : List Frame} {s : State} {sargs : Array Value} {len W : Nat} (a : Addr) (D : Cell) (fV fC : Field) (b : Addr) (A : Cell) (z : Int32) (htab : tab.before sargs s = true) (hfr : 4 ≤ R.frames) (hlo : W + 65 ≤ R.locals) :
    Back l R p e below s sargs yN len W (fun A₁ a₁ => A₁.cells + 1 ≤ R.cells ∧ A₁.slots + A.slots.size ≤ R.slots ∧ P a D fV fC b A z a₁ A₁.U) (fun A₁ _ v₁ B₁ => E a D fV fC A v₁ A₁.U B₁.U ∧ B₁.locs = A₁.locs ++ [⟨a, fC.slot⟩, ⟨a, fV.slot⟩] ∧ B₁.cells = A₁.cells + 1 ∧ B₁.slots = A₁.slots + A.slots.size) :=
  (law l a D fV fC b A z).pays htab hfr (by omega)
end New1
/-- the byte, read back as charAt reads it, is the char -/
theorem lo8_mask {x : Int32} (h0 : ¬ x < 0) (h1 : ¬ 255 < x) : lo8 x &&& 255 = x := by
  have t : ∀ k : Fin 256, lo8 (Int32.ofNat k.val) &&& 255 = Int32.ofNat k.val := by decide +kernel
  rw [Int32.lt_iff_toInt_lt] at h0 h1
  have e0 : (0 : Int32).toInt = 0 := rfl
  have e1 : (255 : Int32).toInt = 255 := rfl
  obtain ⟨k, hk⟩ : ∃ k : Nat, x.toInt = k := ⟨x.toInt.toNat, by omega⟩
  have hx : x = Int32.ofNat k := Int32.toInt_inj.mp (by rw [hk, Int32.toInt_ofNat_small (by omega)])
  rw [hx]
  exact t ⟨k, by omega⟩
end StrChars
namespace StrChars.Road
open Jvm Sem ClassFile Op Lib Jvm.Stand Jvm.Free Jvm.Free.XT
open Jvm.Lib.Cold (StaticIs)
abbrev ST : String := "java/lang/String"
/-- every table word that New1's law asks, flat -/
abbrev words : List Jvm.Cond := [.code New1.yN New1.yB 2 none, .initialized ST, .methodLink ST 27 New4.yN, .instanceMethod New4.yN,
  .code New4.yN New4.yB 6 none, .fieldLink ST 38 ST "COMPACT_STRINGS" "Z", .laysFinal ST ST "value" "[B", .fieldLink ST 9 ST "value" "[B", .laysFinal ST ST "coder" "B", .fieldLink ST 15 ST "coder" "B",
  .methodLink ST 1 Lib.objectInit, .instanceMethod Lib.objectInit, .code Lib.objectInit ⟨#[0xb1]⟩ 1 none, .methodLink ST 177 Cmp3.yN, .static Cmp3.yN, .methodLink ST 47 CodL.yN, .static CodL.yN,
  .code Cmp3.yN Cmp3.yB 6 (some (.array .byte)), .initialized U16, .arrayClass .byte, .methodLink U16 115 Cmp5.yN, .static Cmp5.yN, .code Cmp5.yN Cmp5.yB 7 (some .int), .code CodL.yN CodL.yB 2 (some .byte)]
theorem tab_of {a : Array Value} {s : State} (h : ∀ w ∈ words, w.before a s = true) : New1.tab.before a s = true := by
  have h5 : Cmp5.tab.before a s = true := unparts (wk h (.code Cmp5.yN Cmp5.yB 7 (some .int))) (wks h (.initialized Cmp5.yN.cls :: Cmp5.site))
  have hc : CodL.tab.before a s = true := unparts (wk h (.code CodL.yN CodL.yB 2 (some .byte))) (wks h (.initialized CodL.yN.cls :: CodL.site))
  have q5 : ∀ w ∈ Cmp5.tab :: words, w.before a s = true := fun w hw => (List.mem_cons.mp hw).elim (fun e => e ▸ h5) (h w)
  have h3 : Cmp3.tab.before a s = true := unparts (wk q5 (.code Cmp3.yN Cmp3.yB 6 (some (.array .byte)))) (wks q5 (.initialized Cmp3.yN.cls :: Cmp3.site))
  have q3 : ∀ w ∈ Cmp3.tab :: CodL.tab :: words, w.before a s = true := fun w hw => (List.mem_cons.mp hw).elim (fun e => e ▸ h3) fun hw => (List.mem_cons.mp hw).elim (fun e => e ▸ hc) (h w)
  have h4 : New4.tab.before a s = true := unparts (wk q3 (.code New4.yN New4.yB 6 none)) (wks q3 (.initialized New4.yN.cls :: New4.site))
  have q4 : ∀ w ∈ New4.tab :: words, w.before a s = true := fun w hw => (List.mem_cons.mp hw).elim (fun e => e ▸ h4) (h w)
  exact unparts (wk q4 (.code New1.yN New1.yB 2 none)) (wks q4 (.initialized New1.yN.cls :: New1.site))
/-- the words ride from the start Z to the walk's own state -/
theorem moved {Z s : State} {a0 args : Array Value} (hZ : Z.Warmed39 s.vm) (hw : ∀ d ∈ words, d.before a0 Z = true) : ∀ d ∈ words, d.before args s = true := fun d hd => by
  have q := hw d hd
  have t : ∀ d ∈ words, d = .arrayClass .byte ∨ (d.onTables && d.keepsFace) = true := by decide +kernel
  rcases t d hd with rfl | t
  · exact RoadKit.mvA hZ q
  · exact RoadKit.mv hZ q t
/-- WHAT COMES BACK, over the tables of the start Z: h the heap at the call, h' behind it -/
def Q (Z : State) (x : Addr) (A : Cell) (h : Heap) (v : Option Value) (h' : Heap) (L : List Loc) : Prop := v = none ∧ (∀ y ∈ L, y.base = x) ∧ RoadKit.Keep h h' [x] ∧ h'.size = h.size + 1 ∧ RoadKit.Exa Z h' x ST ∧ RoadKit.Fld Z h' x ST "value" "[B" (.ref h.size) ∧ RoadKit.Fld Z h' x ST "coder" "B" (.int 0) ∧
  (∃ V : Cell, RoadKit.Arr Z h' h.size V .byte ∧ V.vm = .none ∧ Z.vm.findClass "[B" = some V.cls ∧ V.slots.size = A.slots.size ∧ ∀ j, j < A.slots.size → V.slots[j]? = some (.int (lo8 (cv A j)))) ∧
  ∀ (O n d : String) (w : Value), RoadKit.Fld Z h x O n d w → RoadKit.slotOf Z O n d ≠ RoadKit.slotOf Z ST "value" "[B" → RoadKit.slotOf Z O n d ≠ RoadKit.slotOf Z ST "coder" "B" → RoadKit.Fld Z h' x O n d w
/-- **new String(chars) AT A CALL, IN THE ROAD'S FORM**: for specialBack behind newO: x the fresh String, b the char[] with the cell A -/
theorem back {p : Program} {l : Launch} {e : Env} {R : Room} {s : State} {args : Array Value} {below : List Frame} {len W : Nat} {Z : State} {a0 : Array Value} {h : Heap} (hZ : Z.Warmed39 s.vm) (hw : ∀ d ∈ words, d.before a0 Z = true) {kI : Nat} (wi : (Jvm.Cond.instantiable ST kI).before a0 Z = true)
    {x b : Addr} {A : Cell} {z : Int32} {v0 c0 : Value} (E : RoadKit.Exa Z h x ST) (V : RoadKit.Fld Z h x ST "value" "[B" v0) (C : RoadKit.Fld Z h x ST "coder" "B" c0) (K : RoadKit.Arr Z h b A .char) (hty : Typed .char A) (S : RoadKit.Sta Z h ST "COMPACT_STRINGS" "Z" (.int z)) (hz : ¬ z = 0)
    (l0 : 0 < A.slots.size) (l2 : A.slots.size ≤ 536870912) (hp : ∀ i, i < A.slots.size → ¬ 255 < cv A i) (hfr : 4 ≤ R.frames) (hlo : W + 65 ≤ R.locals) :
    Back l R p e below s args New1.yN len W (fun P a => a = #[.ref x, .ref b] ∧ P.U.heap = h ∧ P.cells + 1 ≤ R.cells ∧ P.slots + A.slots.size ≤ R.slots)
      (fun P _ v B => ∃ L, Q Z x A h v B.U.heap L ∧ B.locs = P.locs ++ L ∧ B.cells = P.cells + 1 ∧ B.slots = P.slots + A.slots.size) := by
  intro m meth c P g ig mk a X hg hsize hdg hW hn hp'
  obtain ⟨rfl, rfl, r1, r2⟩ := hp'
  have al : Z.vm.Alike P.U.vm := hZ.alike.trans X.warmed.alike
  obtain ⟨D, cfV, kV, iV, fV, hD, gV, stV, knV, obV, asV, slV⟩ := id V
  obtain ⟨D', cfC, kC, iC, fC, hD', gC, stC, -, -, asC, slC⟩ := id C
  cases hD.symm.trans hD'
  obtain ⟨D2, kD, e1, e2, e3, e4, e5⟩ := id E
  cases hD.symm.trans e1
  obtain ⟨c2, k2, i1, i2, i3, -⟩ := Cond.instantiable_spec wi
  cases e2.symm.trans i1
  cases e3.symm.trans i2
  obtain ⟨kU, u1, u2⟩ := al.2.2 _ _ e3
  have hB : Blank ST x D P.U := ⟨hD, ⟨knV, fun q hq => by rw [hq] at obV; cases obV⟩, by rw [al.findClass]; exact e2, kU, u1, by rw [u2]; exact i3, by rw [u2]; exact e5 i3⟩
  have F1 : Found ST "value" "[B" fV P.U := ⟨SBG.found_only al ⟨cfV, kV, iV, gV⟩, stV⟩
  have F2 : Found ST "coder" "B" fC P.U := ⟨SBG.found_only al ⟨cfC, kC, iC, gC⟩, stC⟩
  have hA : Ch b A P.U := ⟨⟨K.1, State.isArrayOf_alike al K.2.1, K.2.2, by omega⟩, hty⟩
  have hS : StaticIs P.U ST "COMPACT_STRINGS" "Z" (.int z) := by
    obtain ⟨cfS, iS, kS, fS, st, cS, t1, t2, t3, t4, t5, t6, t7⟩ := S
    exact StaticIs.there (s := { Z with heap := P.U.heap }) ⟨cfS, iS, kS, fS, st, cS, t1, t2, t3, t4, t5, (fun q => by rw [q] at t6; cases t6), t7⟩ al rfl
  obtain ⟨v, B, X', ⟨⟨hv, E', V', q1, q2, q3, q4, q5, q6, q7, q8, q9, q10, q11⟩, hl, hc, hs⟩, st⟩ := New1.pays x D fV fC b A z (tab_of (moved hZ hw)) hfr hlo m meth c P g ig mk _ X hg hsize hdg hW hn ⟨r1, r2, rfl, hB, F1, F2, hA, hS, hz, l0, l2, hp⟩
  have al' : Z.vm.Alike B.U.vm := hZ.alike.trans X'.warmed.alike
  have hsz : E'.slots.size = D.slots.size := by
    obtain ⟨-, -, -, kB, w1, w2, w3⟩ := q1
    obtain ⟨kB', y1, y2⟩ := al'.2.2 _ _ e3
    rw [q2.2.1] at w1
    cases w1.symm.trans y1
    rw [w3, e5 i3, y2]
  refine ⟨v, B, X', ⟨_, ⟨hv, ?_, ⟨by omega, fun y cy hy hn' => q10 y cy (by simpa using hn') hy, fun y cy hy => ?_⟩, q11, ⟨E', _, q1.1, by rw [q2.2.1]; exact e2, by rw [q2.2.1]; exact e3, by rw [q2.1]; exact obV, fun _ => by rw [hsz]; exact e5 i3⟩,
    ⟨E', cfV, kV, iV, fV, q1.1, gV, stV, by rw [q2.1]; exact knV, by rw [q2.1]; exact obV, by rw [q2.2.1]; exact asV, q3⟩, ⟨E', cfC, kC, iC, fC, q1.1, gC, stC, by rw [q2.1]; exact knV, by rw [q2.1]; exact obV, by rw [q2.2.1]; exact asC, q4⟩,
    ⟨V', ⟨q5.1, State.isArrayOf_alike al'.symm q5.2.1, q5.2.2.1⟩, q6, by rw [← al'.findClass]; exact q7, q8, fun j hj => by have := q9 j hj; rwa [Nat.zero_add] at this⟩, fun O n d w F n1 n2 => ?_⟩, hl, hc, hs⟩, st⟩
  · intro y hy
    simp only [List.mem_cons, List.not_mem_nil, or_false] at hy
    rcases hy with rfl | rfl <;> rfl
  · by_cases q : y = x
    · subst q
      cases hD.symm.trans hy
      exact ⟨E', q1.1, q2.2.1, q2.1, hsz⟩
    · exact ⟨cy, q10 y cy q hy, rfl, rfl, rfl⟩
  · obtain ⟨D3, cf, k, i, f, g1, g2, g3, g4, g5, g6, g7⟩ := F
    cases hD.symm.trans g1
    simp only [RoadKit.slotOf, g2, gV, gC, Option.map_some, Option.getD_some] at n1 n2
    exact ⟨E', cf, k, i, f, q1.1, g2, g3, by rw [q2.1]; exact g4, by rw [q2.1]; exact g5, by rw [q2.2.1]; exact g6, by rw [q2.2.2 f.slot (by simp [n1, n2])]; exact g7⟩
end StrChars.Road
namespace StrChars.Road
open Jvm Sem ClassFile Op Lib Jvm.Stand Jvm.Free Jvm.Free.XT
/-- WHAT COMES BACK, the byte[] as a list of values -/
def QA (Z : State) (x : Addr) (zn : Int32) (cs : List Int32) (h : Heap) (v : Option Value) (h' : Heap) (L : List Loc) : Prop := v = none ∧ (∀ y ∈ L, y.base = x) ∧ RoadKit.Keep h h' [x] ∧ h'.size = h.size + 1 ∧ RoadKit.Exa Z h' x ST ∧ RoadKit.Fld Z h' x ST "value" "[B" (.ref h.size) ∧ RoadKit.Fld Z h' x ST "coder" "B" (.int 0) ∧
  (∃ kb, Z.vm.findClass "[B" = some kb ∧ RoadKit.Arv Z h' h.size kb .byte zn (cs.map fun c => .int (lo8 c)) (.int 0)) ∧
  ∀ (O n d : String) (w : Value), RoadKit.Fld Z h x O n d w → RoadKit.slotOf Z O n d ≠ RoadKit.slotOf Z ST "value" "[B" → RoadKit.slotOf Z O n d ≠ RoadKit.slotOf Z ST "coder" "B" → RoadKit.Fld Z h' x O n d w
/-- **new String(chars) AT A CALL, THE ARRAYS AS LISTS**: the char[] at b holds cs, not empty, no char above 255 -/
theorem backArv {p : Program} {l : Launch} {e : Env} {R : Room} {s : State} {args : Array Value} {below : List Frame} {len W : Nat} {Z : State} {a0 : Array Value} {h : Heap} (hZ : Z.Warmed39 s.vm) (hw : ∀ d ∈ words, d.before a0 Z = true) {kI : Nat} (wi : (Jvm.Cond.instantiable ST kI).before a0 Z = true)
    {x b : Addr} {k : ClassId} {zn z : Int32} {cs : List Int32} {dv v0 c0 : Value} (E : RoadKit.Exa Z h x ST) (V : RoadKit.Fld Z h x ST "value" "[B" v0) (C : RoadKit.Fld Z h x ST "coder" "B" c0) (K : RoadKit.Arv Z h b k .char zn (cs.map Value.int) dv) (S : RoadKit.Sta Z h ST "COMPACT_STRINGS" "Z" (.int z)) (hz : ¬ z = 0)
    (hlen : zn.toNatClampNeg = cs.length) (h0 : 0 < cs.length) (hbig : cs.length ≤ 536870912) (hall : ∀ c ∈ cs, ¬ 255 < c) (hfr : 4 ≤ R.frames) (hlo : W + 65 ≤ R.locals) :
    Back l R p e below s args New1.yN len W (fun P a => a = #[.ref x, .ref b] ∧ P.U.heap = h ∧ P.cells + 1 ≤ R.cells ∧ P.slots + cs.length ≤ R.slots)
      (fun P _ v B => ∃ L, QA Z x zn cs h v B.U.heap L ∧ B.locs = P.locs ++ L ∧ B.cells = P.cells + 1 ∧ B.slots = P.slots + cs.length) := by
  obtain ⟨A, K1, K2, K3, K4, K5, K6⟩ := K
  have e : A.slots.size = cs.length := K3.trans hlen
  have hat : ∀ (i : Nat) (hi : i < cs.length), A.slots[i]? = some (.int cs[i]) := fun i hi => by rw [K5 i (by omega)]; simp [List.getD_eq_getElem?_getD, hi]
  have hcv : ∀ (i : Nat) (hi : i < cs.length), cv A i = cs[i] := fun i hi => by unfold cv; rw [hat i hi]
  have hty : Typed .char A := fun i v hv => by
    have hi : i < A.slots.size := (Array.getElem?_eq_some_iff.mp hv).1
    have q := K5 i hi
    rw [hv] at q
    rw [Option.some.inj q]
    exact K6 i hi
  refine Back.mono (back hZ hw wi E V C K1 hty S hz (by omega) (by omega) (fun i hi => by rw [hcv i (by omega)]; exact hall _ (List.getElem_mem _)) hfr hlo) (fun P a hp => ⟨hp.1, hp.2.1, hp.2.2.1, by rw [e]; exact hp.2.2.2⟩) (fun P a v B hp hq => ?_)
  obtain ⟨L, ⟨q1, q2, q3, q4, q5, q6, q7, ⟨V', v1, v2, v3, v4, v5⟩, q9⟩, hl, hc, hs⟩ := hq
  refine ⟨L, ⟨q1, q2, q3, q4, q5, q6, q7, ⟨V'.cls, v3, V', v1, rfl, by rw [v4, e, hlen], K4, fun i hi => ?_, fun i hi => ?_⟩, q9⟩, hl, hc, by rw [hs, e]⟩
  · have hi' : i < cs.length := by omega
    rw [v5 i (by omega), hcv i hi']; simp [List.getD_eq_getElem?_getD, hi']
  · have hi' : i < cs.length := by omega
    simp only [List.getD_eq_getElem?_getD, List.getElem?_map, List.getElem?_eq_getElem hi', Option.map_some, Option.getD_some]
    exact fits_lo8 _
end StrChars.Road
namespace StrChars.Road
open Jvm Sem ClassFile Op Lib Jvm.Stand Jvm.Free Jvm.Free.XT
/-- WHAT COMES BACK, in the writer's own shape -/
def QV (Z : State) (x : Addr) (N : Int32) (bs : List Int32) (h : Heap) (n0 : Nat) (v : Option Value) (h' : Heap) (L : List Loc) : Prop := v = none ∧ RoadKit.Fr n0 L ∧ RoadKit.Keep h h' [x] ∧ RoadKit.Exa Z h' x ST ∧ RoadKit.Fld Z h' x ST "coder" "B" (.int 0) ∧
  ∃ (t : Addr) (kb : ClassId), n0 ≤ t ∧ h.size ≤ t ∧ ¬ t = x ∧ RoadKit.Fld Z h' x ST "value" "[B" (.ref t) ∧ RoadKit.Arv Z h' t kb .byte N (bs.map Value.int) (.int 0)
/-- **new String(chars) AT A CALL, FOR THE WRITER**: a char[] of n known ints, each 0 to 255 -/
theorem backV {p : Program} {l : Launch} {e : Env} {R : Room} {s : State} {args : Array Value} {below : List Frame} {len W : Nat} {Z : State} {a0 : Array Value} {h : Heap} (hZ : Z.Warmed39 s.vm) (hw : ∀ d ∈ words, d.before a0 Z = true) {kI : Nat} (wi : (Jvm.Cond.instantiable ST kI).before a0 Z = true)
    {x b : Addr} {kC : ClassId} {cs bs : List Int32} {d v0 c0 : Value} {z N : Int32} {n n0 : Nat} (hx0 : n0 ≤ x) (hh0 : n0 ≤ h.size) (E : RoadKit.Exa Z h x ST) (V : RoadKit.Fld Z h x ST "value" "[B" v0) (C : RoadKit.Fld Z h x ST "coder" "B" c0) (K : RoadKit.Arv Z h b kC .char N (cs.map Value.int) d) (S : RoadKit.Sta Z h ST "COMPACT_STRINGS" "Z" (.int z)) (hz : ¬ z = 0)
    (hn : cs.length = n) (hN : N = Int32.ofNat n) (l0 : 0 < n) (l2 : n ≤ 4000) (hp : ∀ c ∈ cs, ¬ c < 0 ∧ ¬ (255 : Int32) < c) (hb : bs = cs.map (fun c => c.toInt8.toInt32)) (hfr : 4 ≤ R.frames) (hlo : W + 65 ≤ R.locals) :
    Back l R p e below s args (⟨"java/lang/String", "<init>", "([C)V"⟩ : MethodName) len W (fun P a => a = #[.ref x, .ref b] ∧ P.U.heap = h ∧ P.cells + 1 ≤ R.cells ∧ P.slots + n ≤ R.slots)
      (fun P _ v B => ∃ L, QV Z x N bs h n0 v B.U.heap L ∧ B.locs = P.locs ++ L ∧ B.cells = P.cells + 1 ∧ B.slots = P.slots + n) := by
  subst hn hN hb
  refine Back.mono (backArv hZ hw wi E V C K S hz (n32 (by omega)) l0 (by omega) (fun c hc => (hp c hc).2) hfr hlo) (fun P a hp => hp) (fun P a v B hp hq => ?_)
  obtain ⟨L, ⟨q1, q2, q3, q4, q5, q6, q7, ⟨kb, v1, v2⟩, q9⟩, hl, hc, hs⟩ := hq
  exact ⟨L, ⟨q1, fun y hy => by rw [q2 y hy]; exact hx0, q3, q5, q7, h.size, kb, hh0, Nat.le_refl _, Nat.ne_of_gt E.lt, q6, by rw [List.map_map]; exact v2⟩, hl, hc, hs⟩
end StrChars.Road
namespace StrChars
open Jvm Sem ClassFile Op Lib Jvm.Stand Jvm.Free.XT Jvm.Free.ALB Jvm.Free.JM Jvm.Free
open Jvm.Lib.Cold (StaticIs)
def hi8 (x : Int32) : Int32 := lo8 (x >>> ((8 : Int32) &&& 31))
/-- what StringUTF16.getChar makes of two bytes -/
def pairCh (u v : Int32) : Int32 := (((u &&& 255) <<< ((0 : Int32) &&& 31)) ||| ((v &&& 255) <<< ((8 : Int32) &&& 31))).toUInt32.toUInt16.toUInt32.toInt32
theorem shr0 (c : Int32) : c >>> ((0 : Int32) &&& 31) = c := by
  have e : ((0 : Int32) &&& 31) = 0 := by decide
  rw [e]
  apply Int32.toBitVec_inj.mp
  rw [Int32.toBitVec_shiftRight]
  have e1 : ((0 : Int32).toBitVec.smod 32) = 0#32 := by decide
  rw [e1, BitVec.sshiftRight_eq']
  exact BitVec.sshiftRight_zero
theorem lo8_and (x : Int32) : (lo8 x &&& 255).toBitVec.toNat = x.toBitVec.toNat % 256 := by
  have h : (lo8 x).toBitVec = (x.toBitVec.signExtend 8).signExtend 32 := by rw [lo8, Int8.toBitVec_toInt32, Int32.toBitVec_toInt8]
  rw [Int32.toBitVec_and, BitVec.toNat_and, h]
  have e : ((x.toBitVec.signExtend 8).signExtend 32).toNat % 256 = x.toBitVec.toNat % 256 := by
    rw [BitVec.toNat_signExtend]
    have hlt := x.toBitVec.isLt
    simp only [BitVec.toNat_setWidth, BitVec.toNat_signExtend]
    split <;> split <;> omega
  rw [← e]
  exact Nat.and_two_pow_sub_one_eq_mod _ 8
theorem pair_says {c : Int32} (h0 : ¬ c < 0) (h1 : ¬ 65535 < c) : pairCh (lo8 c) (hi8 c) = c := by
  rw [Int32.lt_iff_toInt_lt] at h0 h1
  have e0 : (0 : Int32).toInt = 0 := rfl
  have e1 : (65535 : Int32).toInt = 65535 := rfl
  have hc : c.toInt = c.toBitVec.toNat := by
    have := c.toBitVec.isLt
    have e : c.toInt = c.toBitVec.toInt := rfl
    rw [e] at h0 h1
    rw [e]
    rw [BitVec.toInt_eq_toNat_cond] at h0 h1 ⊢
    split at h0 <;> split <;> omega
  have hn : c.toBitVec.toNat < 65536 := by omega
  have a1 := lo8_and c
  have a2 : (hi8 c &&& 255).toBitVec.toNat = c.toBitVec.toNat / 256 := by
    rw [hi8, lo8_and]
    have e : ((8 : Int32) &&& 31) = 8 := by decide
    rw [e, Int32.toBitVec_shiftRight]
    have e2 : ((8 : Int32).toBitVec.smod 32) = 8#32 := by decide
    rw [e2, BitVec.sshiftRight_eq', BitVec.toNat_sshiftRight_of_msb_false (by rw [BitVec.msb_eq_false_iff_two_mul_lt]; omega)]
    show c.toBitVec.toNat >>> 8 % 256 = _
    rw [Nat.shiftRight_eq_div_pow]
    omega
  unfold pairCh
  apply Int32.toBitVec_inj.mp
  apply BitVec.eq_of_toNat_eq
  have f0 : ((0 : Int32) &&& 31) = 0 := by decide
  have f8 : ((8 : Int32) &&& 31) = 8 := by decide
  rw [f0, f8]
  have g : (((lo8 c &&& 255) <<< (0 : Int32)) ||| ((hi8 c &&& 255) <<< (8 : Int32))).toBitVec.toNat = c.toBitVec.toNat := by
    rw [Int32.toBitVec_or, Int32.toBitVec_shiftLeft, Int32.toBitVec_shiftLeft]
    have s0 : ((0 : Int32).toBitVec.smod 32) = 0#32 := by decide
    have s8 : ((8 : Int32).toBitVec.smod 32) = 8#32 := by decide
    rw [s0, s8, BitVec.toNat_or]
    simp only [BitVec.shiftLeft_eq', BitVec.toNat_shiftLeft, a1, a2]
    show (c.toBitVec.toNat % 256) <<< 0 % 2 ^ 32 ||| (c.toBitVec.toNat / 256) <<< 8 % 2 ^ 32 = _
    rw [Nat.shiftLeft_zero, Nat.mod_eq_of_lt (show c.toBitVec.toNat % 256 < 2 ^ 32 by omega), Nat.mod_eq_of_lt (show (c.toBitVec.toNat / 256) <<< 8 < 2 ^ 32 by rw [Nat.shiftLeft_eq]; omega), Nat.or_comm, ← Nat.shiftLeft_add_eq_or_of_lt (by omega), Nat.shiftLeft_eq]
    omega
  show BitVec.toNat (((((lo8 c &&& 255) <<< (0 : Int32)) ||| ((hi8 c &&& 255) <<< (8 : Int32))).toBitVec.setWidth 16).setWidth 32) = _
  rw [BitVec.toNat_setWidth, BitVec.toNat_setWidth, g]
  omega
end StrChars
namespace StrChars
open Jvm Sem ClassFile Op Lib Jvm.Stand Jvm.Free.XT Jvm.Free.ALB Jvm.Free.JM Jvm.Free
open Jvm.Lib.Cold (StaticIs)
theorem shr1 {n : Nat} (h : 2 * n < 2 ^ 31) : Int32.ofNat (2 * n) >>> ((1 : Int32) &&& 31) = Int32.ofNat n := by
  have e : ((1 : Int32) &&& 31) = 1 := by decide
  rw [e]
  apply Int32.toBitVec_inj.mp
  rw [Int32.toBitVec_shiftRight]
  have e1 : ((1 : Int32).toBitVec.smod 32) = 1#32 := by decide
  have hm : (BitVec.ofNat 32 (2 * n)).toNat = 2 * n := by rw [BitVec.toNat_ofNat, Nat.mod_eq_of_lt (by omega)]
  rw [e1, BitVec.sshiftRight_eq']
  apply BitVec.eq_of_toNat_eq
  show ((BitVec.ofNat 32 (2 * n)).sshiftRight 1).toNat = (BitVec.ofNat 32 n).toNat
  rw [BitVec.toNat_sshiftRight_of_msb_false (by rw [BitVec.msb_eq_false_iff_two_mul_lt, hm]; omega), hm, BitVec.toNat_ofNat, Nat.shiftRight_eq_div_pow]
  omega
/-- the array's cell V codes the n chars f 0 .. f (n - 1) by the coder cd, as the JDK does: coder 1 just where some char is above 255 -/
def Cod (cd : Int32) (n : Nat) (f : Nat → Int32) (V : Cell) : Prop := (cd = 0 ∧ V.slots.size = n ∧ ∀ j, j < n → V.slots[j]? = some (.int (lo8 (f j))) ∧ ¬ 255 < f j) ∨ (cd = 1 ∧ V.slots.size = 2 * n ∧ (∀ j, j < n → V.slots[2 * j]? = some (.int (lo8 (f j))) ∧ V.slots[2 * j + 1]? = some (.int (hi8 (f j)))) ∧ ∃ j, j < n ∧ 255 < f j)
theorem Cod.cd {cd : Int32} {n : Nat} {f : Nat → Int32} {V : Cell} (h : Cod cd n f V) : cd = 0 ∨ cd = 1 := h.imp (fun q => q.1) fun q => q.1
theorem Cod.len {cd : Int32} {n : Nat} {f : Nat → Int32} {V : Cell} (h : Cod cd n f V) (hs : V.slots.size < 2 ^ 31) : Int32.ofNat V.slots.size >>> (cd &&& 31) = Int32.ofNat n := by
  rcases h with ⟨rfl, h, -⟩ | ⟨rfl, h, -⟩
  · rw [shr0, h]
  · rw [h, shr1 (by omega)]
/-- **x is a String of the n chars f 0 .. f (n - 1)**, Latin-1 or UTF-16; its array at t has the cell V -/
def Txt (x t : Addr) (V : Cell) (cd : Int32) (n : Nat) (f : Nat → Int32) (U : State) : Prop := Exact "java/lang/String" x U ∧ Has x "java/lang/String" "value" "[B" (.ref t) U ∧ Has x "java/lang/String" "coder" "B" (.int cd) U ∧ XT.Arr .byte t V U ∧ Cod cd n f V ∧ ∀ j, j < n → ¬ f j < 0 ∧ ¬ 65535 < f j
theorem Txt.mv {x t : Addr} {V : Cell} {cd : Int32} {n : Nat} {f : Nat → Int32} {U U' : State} (h : Txt x t V cd n f U) (hal : U.vm.Alike U'.vm) (hh : U'.heap = U.heap) : Txt x t V cd n f U' := ⟨h.1.mv hal hh, h.2.1.mv hal hh, h.2.2.1.mv hal hh, h.2.2.2.1.mv hal hh, h.2.2.2.2⟩
namespace Cdr
def yN : MethodName := ⟨"java/lang/String", "coder", "()B"⟩
abbrev yB : ByteArray := jdk_42_method_152_code
theorem d0 : decode yB 0 = .ok (.getstatic 38, 3) := by decide +kernel
theorem d3 : decode yB 3 = .ok (.ifCond (.eq) 10, 3) := by decide +kernel
theorem d6 : decode yB 6 = .ok (.aload_n 0, 1) := by decide +kernel
theorem d7 : decode yB 7 = .ok (.getfield 15, 3) := by decide +kernel
theorem d10 : decode yB 10 = .ok (.goto 4, 3) := by decide +kernel
theorem d14 : decode yB 14 = .ok (.ireturn, 1) := by decide +kernel
def site : List Cond := [.fieldLink "java/lang/String" 38 "java/lang/String" "COMPACT_STRINGS" "Z", .fieldLink "java/lang/String" 15 "java/lang/String" "coder" "B"]
def tab : Cond := tabOf yN yB 1 (some .byte) site
def P (x : Addr) (cd z : Int32) (args : Array Value) (s : State) : Prop := args = #[.ref x] ∧ Has x "java/lang/String" "coder" "B" (.int cd) s ∧ (cd = 0 ∨ cd = 1) ∧ StaticIs s "java/lang/String" "COMPACT_STRINGS" "Z" (.int z) ∧ ¬ z = 0
def E (cd : Int32) (r : Option Value) (s u : State) : Prop := XT.PureE (some (.int cd)) r s u
theorem law (l : Launch) (x : Addr) (cd z : Int32) : Law l yN 1 0 0 0 yB 1 (some .byte) site (P x cd z) (E cd) [] 0 0 := by
  refine Law.of_walk (plainFor_of_name (by decide +kernel)) (by decide +kernel) (by decide +kernel) (by decide) (fun _ _ h => by rw [h.1]; rfl) (fun _ U U' hal hh h => ⟨h.1, h.2.1.mv hal hh, h.2.2.1, h.2.2.2.1.there hal hh, h.2.2.2.2⟩) (fun r U U' V V' h1 hal h2 h => XT.PureE.mv r U U' V V' h1 hal h2 h) ?_
  intro p e s m args below meth c s₁ X0 hexec hbytes hml hret hlk hnm hown hh0 W hP
  obtain ⟨rfl, hx, hc, s1, hz⟩ := hP
  have c1 : Steps p.tables e below (s₁.setTop (entryFrame m #[.ref x] 1)) (s₁.setTop (mkF m 0 #[.val (.ref x)] [])) := entry rfl
  obtain ⟨T2, X2, q2, st2⟩ := X0.sget hexec hown (wk W (.fieldLink "java/lang/String" 38 "java/lang/String" "COMPACT_STRINGS" "Z")) s1 (fun _ _ h => by rw [hh0]; exact h) (g := (mkF m 0 #[.val (.ref x)] [])) rfl (hb hbytes d0)
  have hh2 := q2.trans hh0
  have c3 : Steps p.tables e below (s₁.setTop (entryFrame m #[.ref x] 1)) (T2.setTop (mkF m 7 #[.val (.ref x)] [.ref x])) := (c1.trans (st2 _ (Steps.refl _))).trans (by
    refine XS.ifNo X2.here hexec rfl (hb hbytes d3) rfl (i0_eq_f hz) ?_
    refine XS.aloadN X2.here hexec rfl (hb hbytes d6) rfl rfl ?_
    exact Steps.refl _)
  obtain ⟨T4, X4, q4, st4⟩ := X2.hget hexec hown (wk W (.fieldLink "java/lang/String" 15 "java/lang/String" "coder" "B")) (hx.mv X2.warmed.alike hh2) (g := (mkF m 7 #[.val (.ref x)] [.ref x])) rfl (rest := []) rfl (hb hbytes d7)
  have c5 : Steps p.tables e below (s₁.setTop (entryFrame m #[.ref x] 1)) (T4.setTop (mkF m 14 #[.val (.ref x)] [.int cd])) := (c3.trans (st4 _ (Steps.refl _))).trans (by
    refine XS.goto X4.here hexec rfl (pc0 := 10) rfl (hb hbytes d10) (by decide) rfl ?_
    exact Steps.refl _)
  exact ⟨T4, some (.int cd), _, _, _, X4, rfl, rfl, rfl, (fun h => by cases h), ⟨rfl, q4.trans hh2⟩, fun fs hl => c5.trans (X4.ireturnOut hexec hret (by rcases hc with rfl | rfl <;> rfl) (Or.inr (Or.inr (Or.inl rfl))) (hb hbytes d14) hl)⟩
end Cdr
namespace Len
def yN : MethodName := ⟨"java/lang/String", "length", "()I"⟩
abbrev yB : ByteArray := jdk_42_method_54_code
theorem d0 : decode yB 0 = .ok (.aload_n 0, 1) := by decide +kernel
theorem d1 : decode yB 1 = .ok (.getfield 9, 3) := by decide +kernel
theorem d4 : decode yB 4 = .ok (.arraylength, 1) := by decide +kernel
theorem d5 : decode yB 5 = .ok (.aload_n 0, 1) := by decide +kernel
theorem d6 : decode yB 6 = .ok (.invokevirtual 335, 3) := by decide +kernel
theorem d9 : decode yB 9 = .ok (.ishr, 1) := by decide +kernel
theorem d10 : decode yB 10 = .ok (.ireturn, 1) := by decide +kernel
def site : List Cond := [.fieldLink "java/lang/String" 9 "java/lang/String" "value" "[B", Cdr.tab] ++ virtW "java/lang/String" 335 "java/lang/String" Cdr.yN Cdr.yN
def tab : Cond := tabOf yN yB 1 (some .int) site
def P (x t : Addr) (V : Cell) (cd : Int32) (n : Nat) (f : Nat → Int32) (z : Int32) (args : Array Value) (s : State) : Prop := args = #[.ref x] ∧ Txt x t V cd n f s ∧ StaticIs s "java/lang/String" "COMPACT_STRINGS" "Z" (.int z) ∧ ¬ z = 0
def E (n : Nat) (r : Option Value) (s u : State) : Prop := XT.PureE (some (.int (Int32.ofNat n))) r s u
/-- length() of a String of n chars, in either coding -/
theorem law (l : Launch) (x t : Addr) (V : Cell) (cd : Int32) (n : Nat) (f : Nat → Int32) (z : Int32) : Law l yN 1 0 1 13 yB 1 (some .int) site (P x t V cd n f z) (E n) [] 0 0 := by
  refine Law.of_walk (plainFor_of_name (by decide +kernel)) (by decide +kernel) (by decide +kernel) (by decide) (fun _ _ h => by rw [h.1]; rfl) (fun _ U U' hal hh h => ⟨h.1, h.2.1.mv hal hh, h.2.2.1.there hal hh, h.2.2.2⟩) (fun r U U' V V' h1 hal h2 h => XT.PureE.mv r U U' V V' h1 hal h2 h) ?_
  intro p e s m args below meth c s₁ X0 hexec hbytes hml hret hlk hnm hown hh0 W hP
  obtain ⟨rfl, hx, s1, hz⟩ := hP
  have v31 := hx.2.2.2.1.2.2.2
  have c1 : Steps p.tables e below (s₁.setTop (entryFrame m #[.ref x] 1)) (s₁.setTop (mkF m 1 #[.val (.ref x)] [.ref x])) := Steps.trans (entry rfl) (by
    show Steps p.tables e below (s₁.setTop (mkF m 0 #[.val (.ref x)] [])) _
    refine XS.aloadN X0.here hexec rfl (hb hbytes d0) rfl rfl ?_
    exact Steps.refl _)
  obtain ⟨T2, X2, q2, st2⟩ := X0.hget hexec hown (wk W (.fieldLink "java/lang/String" 9 "java/lang/String" "value" "[B")) (hx.mv X0.warmed.alike hh0).2.1 (g := (mkF m 1 #[.val (.ref x)] [.ref x])) rfl (rest := []) rfl (hb hbytes d1)
  have hh2 := q2.trans hh0
  have hx2 := hx.mv X2.warmed.alike hh2
  have c3 : Steps p.tables e below (s₁.setTop (entryFrame m #[.ref x] 1)) (T2.setTop (mkF m 6 #[.val (.ref x)] [.ref x, .int (Int32.ofNat V.slots.size)])) := (c1.trans (st2 _ (Steps.refl _))).trans (by
    refine X2.alen hexec hx2.2.2.2.1 rfl rfl (hb hbytes d4) ?_
    refine XS.aloadN X2.here hexec rfl (hb hbytes d5) rfl rfl ?_
    exact Steps.refl _)
  obtain ⟨v4, T4, X4, E4, g4⟩ := X2.callV hexec (Cdr.law l x cd z) hown (wks W (virtW "java/lang/String" 335 "java/lang/String" Cdr.yN Cdr.yN)) rfl (by decide) (wk W Cdr.tab) (W := 1) (Nat.le_of_ble_eq_true rfl) (Nat.le_of_ble_eq_true rfl) (Nat.le_refl _) (Nat.le_refl _) (hx2.1.fc X2.warmed.alike) hx2.1.is (g := (mkF m 6 #[.val (.ref x)] [.ref x, .int (Int32.ofNat V.slots.size)])) rfl (by rw [hml]; rfl) c3 (argsL := []) (rest := [.int (Int32.ofNat V.slots.size)]) rfl rfl (by show 2 * 0 + (1 + 0) ≤ _; decide) (hb hbytes d6) (⟨rfl, hx2.2.2.1, hx.2.2.2.2.1.cd, s1.there X2.warmed.alike hh2, hz⟩)
  obtain ⟨rfl, q4⟩ := E4
  have c5 : Steps p.tables e below (s₁.setTop (entryFrame m #[.ref x] 1)) (T4.setTop (mkF m 10 #[.val (.ref x)] [.int (Int32.ofNat V.slots.size >>> (cd &&& 31))])) := Steps.trans g4 (by
    refine ishr X4.here hexec rfl (hb hbytes d9) rfl ?_
    exact Steps.refl _)
  rw [hx.2.2.2.2.1.len v31] at c5
  exact ⟨T4, some (.int (Int32.ofNat n)), _, _, _, X4, rfl, rfl, rfl, (fun h => by cases h), ⟨rfl, q4.trans hh2⟩, fun fs hl => c5.trans (X4.ireturnOut hexec hret rfl (Or.inl rfl) (hb hbytes d10) hl)⟩
theorem pays {l : Launch} {R : Room} {p : Program} {e : Env} {below : List Frame} {s : State} {sargs : Array Value} {len W : Nat} (x t : Addr) (V : Cell) (cd : Int32) (n : Nat) (f : Nat → Int32) (z : Int32) (htab : tab.before sargs s = true) (hfr : 2 ≤ R.frames) (hlo : W + 25 ≤ R.locals) :
    Back l R p e below s sargs yN len W (fun A₁ a₁ => A₁.cells + 0 ≤ R.cells ∧ A₁.slots + 0 ≤ R.slots ∧ P x t V cd n f z a₁ A₁.U) (fun A₁ _ v₁ B₁ => E n v₁ A₁.U B₁.U ∧ B₁.locs = A₁.locs ++ [] ∧ B₁.cells = A₁.cells + 0 ∧ B₁.slots = A₁.slots + 0) :=
  (law l x t V cd n f z).pays htab hfr (by omega)
end Len
end StrChars
namespace StrChars.Road
open Jvm Sem ClassFile Op Lib Jvm.Stand Jvm.Free Jvm.Free.XT
open Jvm.Lib.Cold (StaticIs)
theorem consq {a : Array Value} {s : State} {c : Jvm.Cond} {L : List Jvm.Cond} (h0 : c.before a s = true) (h : ∀ w ∈ L, w.before a s = true) : ∀ w ∈ c :: L, w.before a s = true := fun w hw => (List.mem_cons.mp hw).elim (fun e => e ▸ h0) (h w)
/-- the words of String.length(), either coding -/
abbrev wordsLen : List Jvm.Cond := [.code Len.yN Len.yB 1 (some .int), .initialized ST, .fieldLink ST 9 ST "value" "[B", .fieldLink ST 38 ST "COMPACT_STRINGS" "Z", .fieldLink ST 15 ST "coder" "B", .code Cdr.yN Cdr.yB 1 (some .byte), .methodLink ST 335 Cdr.yN, .declares Cdr.yN, .selects ST Cdr.yN Cdr.yN, .instanceMethod Cdr.yN]
theorem tabLen_of {a : Array Value} {s : State} (h : ∀ w ∈ wordsLen, w.before a s = true) : Len.tab.before a s = true := by
  have hc : Cdr.tab.before a s = true := unparts (wk h (.code Cdr.yN Cdr.yB 1 (some .byte))) (wks h (.initialized Cdr.yN.cls :: Cdr.site))
  have q := consq hc h
  exact unparts (wk q (.code Len.yN Len.yB 1 (some .int))) (wks q (.initialized Len.yN.cls :: Len.site))
theorem movedLen {Z s : State} {a0 args : Array Value} (hZ : Z.Warmed39 s.vm) (hw : ∀ d ∈ wordsLen, d.before a0 Z = true) : ∀ d ∈ wordsLen, d.before args s = true := fun d hd => by
  have q := hw d hd
  have t : ∀ d ∈ wordsLen, d = .arrayClass .byte ∨ (d.onTables && d.keepsFace) = true := by decide +kernel
  rcases t d hd with rfl | t
  · exact RoadKit.mvA hZ q
  · exact RoadKit.mv hZ q t
/-- the bytes of the chars cs, low before high -/
def wideBytes : List Int32 → List Value
  | [] => []
  | c :: cs => .int (lo8 c) :: .int (hi8 c) :: wideBytes cs
theorem wide_lo (d : Value) : ∀ (cs : List Int32) (j : Nat), j < cs.length → (wideBytes cs).getD (2 * j) d = .int (lo8 (cs.getD j 0))
  | [], j, h => absurd h (Nat.not_lt_zero j)
  | c :: cs, 0, _ => rfl
  | c :: cs, j + 1, h => by
    have q := wide_lo d cs j (by simpa using h)
    rw [show 2 * (j + 1) = 2 * j + 1 + 1 from by omega]
    simpa [wideBytes] using q
theorem wide_hi (d : Value) : ∀ (cs : List Int32) (j : Nat), j < cs.length → (wideBytes cs).getD (2 * j + 1) d = .int (hi8 (cs.getD j 0))
  | [], j, h => absurd h (Nat.not_lt_zero j)
  | c :: cs, 0, _ => rfl
  | c :: cs, j + 1, h => by
    have q := wide_hi d cs j (by simpa using h)
    rw [show 2 * (j + 1) + 1 = 2 * j + 1 + 1 + 1 from by omega]
    simpa [wideBytes] using q
theorem low_at (d : Value) (cs : List Int32) (j : Nat) (h : j < cs.length) : (cs.map fun c => Value.int (lo8 c)).getD j d = .int (lo8 (cs.getD j 0)) := by
  simp [List.getD_eq_getElem?_getD, h]
/-- an array of N2 bytes vs codes the chars cs by the coder cd -/
def CodA (cs : List Int32) (cd N2 : Int32) (vs : List Value) : Prop := (cd = 0 ∧ N2 = Int32.ofNat cs.length ∧ vs = (cs.map fun c => Value.int (lo8 c)) ∧ ∀ c ∈ cs, ¬ 255 < c) ∨ (cd = 1 ∧ N2 = Int32.ofNat (2 * cs.length) ∧ vs = wideBytes cs ∧ ∃ c ∈ cs, 255 < c)
theorem CodA.cod {cs : List Int32} {cd N2 : Int32} {vs : List Value} {V : Cell} (h : CodA cs cd N2 vs) (hn : 2 * cs.length < 2 ^ 31) (hs : V.slots.size = N2.toNatClampNeg) (hv : RoadKit.Has V vs (.int 0)) : Cod cd cs.length (fun j => cs.getD j 0) V := by
  rcases h with ⟨rfl, rfl, rfl, h⟩ | ⟨rfl, rfl, rfl, c, hc, hw⟩
  · rw [n32 (by omega)] at hs
    exact Or.inl ⟨rfl, hs, fun j hj => ⟨by rw [hv j (by omega), low_at _ _ _ hj], by
      have e : cs.getD j 0 = cs[j] := by simp [List.getD_eq_getElem?_getD, hj]
      show ¬ 255 < cs.getD j 0
      rw [e]; exact h _ (List.getElem_mem _)⟩⟩
  · rw [n32 (by omega)] at hs
    obtain ⟨j, hj, rfl⟩ := List.getElem_of_mem hc
    exact Or.inr ⟨rfl, hs, fun j hj => ⟨by rw [hv _ (by omega), wide_lo _ _ _ hj], by rw [hv _ (by omega), wide_hi _ _ _ hj]⟩, j, hj, by
      have e : cs.getD j 0 = cs[j] := by simp [List.getD_eq_getElem?_getD, hj]
      show 255 < cs.getD j 0
      rw [e]; exact hw⟩
/-- an object of exactly java/lang/String, its two fields found: as the laws ask it -/
theorem strObj {Z U : State} {a0 : Array Value} {kI : Nat} (wi : (Jvm.Cond.instantiable ST kI).before a0 Z = true) (al : Z.vm.Alike U.vm) {x : Addr} {v0 c0 : Value} (E : RoadKit.Exa Z U.heap x ST) (V : RoadKit.Fld Z U.heap x ST "value" "[B" v0) (C : RoadKit.Fld Z U.heap x ST "coder" "B" c0) :
    ∃ (D : Cell) (fV fC : Field), Blank ST x D U ∧ Found ST "value" "[B" fV U ∧ Found ST "coder" "B" fC U ∧ D.slots[fV.slot]? = some v0 ∧ D.slots[fC.slot]? = some c0 ∧ RoadKit.slotOf Z ST "value" "[B" = fV.slot ∧ RoadKit.slotOf Z ST "coder" "B" = fC.slot := by
  obtain ⟨D, cfV, kV, iV, fV, hD, gV, stV, knV, obV, asV, slV⟩ := V
  obtain ⟨D', cfC, kC, iC, fC, hD', gC, stC, -, -, asC, slC⟩ := C
  cases hD.symm.trans hD'
  obtain ⟨D2, kD, e1, e2, e3, e4, e5⟩ := E
  cases hD.symm.trans e1
  obtain ⟨c2, k2, i1, i2, i3, -⟩ := Cond.instantiable_spec wi
  cases e2.symm.trans i1
  cases e3.symm.trans i2
  obtain ⟨kU, u1, u2⟩ := al.2.2 _ _ e3
  exact ⟨D, fV, fC, ⟨hD, ⟨knV, fun q hq => by rw [hq] at obV; cases obV⟩, by rw [al.findClass]; exact e2, kU, u1, by rw [u2]; exact i3, by rw [u2]; exact e5 i3⟩, ⟨SBG.found_only al ⟨cfV, kV, iV, gV⟩, stV⟩, ⟨SBG.found_only al ⟨cfC, kC, iC, gC⟩, stC⟩, slV, slC, by simp [RoadKit.slotOf, gV], by simp [RoadKit.slotOf, gC]⟩
theorem sta_is {Z U : State} (al : Z.vm.Alike U.vm) {C n d : String} {v : Value} (S : RoadKit.Sta Z U.heap C n d v) : StaticIs U C n d v := by
  obtain ⟨cfS, iS, kS, fS, st, cS, t1, t2, t3, t4, t5, t6, t7⟩ := S
  exact StaticIs.there (s := { Z with heap := U.heap }) ⟨cfS, iS, kS, fS, st, cS, t1, t2, t3, t4, t5, (fun q => by rw [q] at t6; cases t6), t7⟩ al rfl
/-- **length() OF SUCH A STRING** -/
theorem lenW {p : Program} {l : Launch} {e : Env} {R : Room} {s : State} {args : Array Value} {below : List Frame} {len W : Nat} {Z : State} {a0 : Array Value} {h : Heap} (hZ : Z.Warmed39 s.vm) (hw : ∀ d ∈ wordsLen, d.before a0 Z = true) {kI : Nat} (wi : (Jvm.Cond.instantiable ST kI).before a0 Z = true)
    {x t : Addr} {kb : ClassId} {cs : List Int32} {cd N2 z : Int32} {vs : List Value} (E : RoadKit.Exa Z h x ST) (V : RoadKit.Fld Z h x ST "value" "[B" (.ref t)) (C : RoadKit.Fld Z h x ST "coder" "B" (.int cd)) (K : RoadKit.Arv Z h t kb .byte N2 vs (.int 0)) (hc : CodA cs cd N2 vs) (hb : ∀ c ∈ cs, ¬ c < 0 ∧ ¬ (65535 : Int32) < c)
    (S : RoadKit.Sta Z h ST "COMPACT_STRINGS" "Z" (.int z)) (hz : ¬ z = 0) (l2 : cs.length ≤ 4000) (hfr : 2 ≤ R.frames) (hlo : W + 25 ≤ R.locals) :
    Back l R p e below s args (⟨"java/lang/String", "length", "()I"⟩ : MethodName) len W (fun P a => a = #[.ref x] ∧ P.U.heap = h ∧ P.cells + 0 ≤ R.cells ∧ P.slots + 0 ≤ R.slots)
      (fun P _ v B => ∃ L, (v = some (.int (Int32.ofNat cs.length)) ∧ L = [] ∧ B.U.heap = h) ∧ B.locs = P.locs ++ L ∧ B.cells = P.cells + 0 ∧ B.slots = P.slots + 0) := by
  obtain ⟨A, K1, K2, K3, K4, K5, K6⟩ := K
  have hcod := hc.cod (by omega) K3 K5
  intro m meth c P g ig mk a X hg hsize hdg hW hn hp'
  obtain ⟨rfl, rfl, r1, r2⟩ := hp'
  have al : Z.vm.Alike P.U.vm := hZ.alike.trans X.warmed.alike
  obtain ⟨D, fV, fC, hB, F1, F2, g1, g2, -, -⟩ := strObj wi al E V C
  have hx : Txt x t A cd cs.length (fun j => cs.getD j 0) P.U := ⟨⟨_, hB.2.2.1, D, hB.1, rfl, by cases q : D.vm <;> first | rfl | exact absurd q (hB.2.1.2 _)⟩, Has.of hB F1 g1, Has.of hB F2 g2, ⟨K1.1, State.isArrayOf_alike al K1.2.1, K1.2.2, by rcases hcod with ⟨-, q, -⟩ | ⟨-, q, -⟩ <;> omega⟩, hcod, fun j hj => by
    have e : cs.getD j 0 = cs[j] := by simp [List.getD_eq_getElem?_getD, hj]
    show ¬ cs.getD j 0 < 0 ∧ ¬ 65535 < cs.getD j 0
    rw [e]; exact hb _ (List.getElem_mem _)⟩
  obtain ⟨v, B, X', ⟨⟨hv, hh⟩, hl, hk, hs⟩, st⟩ := Len.pays x t A cd cs.length (fun j => cs.getD j 0) z (tabLen_of (movedLen hZ hw)) hfr hlo m meth c P g ig mk _ X hg hsize hdg hW hn ⟨r1, r2, rfl, hx, sta_is al S, hz⟩
  exact ⟨v, B, X', ⟨[], ⟨hv, rfl, hh⟩, hl, hk, hs⟩, st⟩
end StrChars.Road
namespace StrChars.Road
open Jvm Sem ClassFile Op Lib Jvm.Stand Jvm.Free Jvm.Free.XT
open Jvm.Lib.Cold (StaticIs)
/-- what backV says of its String, as the contracts of this text ask it: cs's low bytes, coder 0 -/
theorem codOf {cs : List Int32} {n : Nat} (hn : cs.length = n) (hb : ∀ c ∈ cs, ¬ 255 < c) : CodA cs 0 (Int32.ofNat n) ((cs.map lo8).map Value.int) := Or.inl ⟨rfl, by rw [hn], by simp [List.map_map, Function.comp_def], hb⟩
end StrChars.Road
end Jvm.Pilot.@@N@@
namespace Jvm.Pilot.@@N@@
open Jvm Jvm.ClassFile Sem Op Lib Jvm.Free Jvm.Stand Jvm.LawKit Jvm.RoadKit Bundle Jvm.Pilot.@@N@@.Jvm.D
section OwnKit
variable {Z : State} {EL : List (String × Nat)} {a0 : Array Value} {n0 : Nat} {h0 : Heap} {ws : List Addr} {own : String} {bytes : ByteArray} {mx : Nat} {p : Program} {l : Launch} {e : Env} {R : Room} {s : State} {m : MethodId} {args : Array Value} {below : List Frame} {meth : Method} {c : Code} {sv : List Addr} {T : State} {h : Heap} {k n : Nat} {P : Outcome → State → Prop} {pc : Nat} {Ls : Array Slot} {st : List Value}
def OGo (tb : Tables) (e : Env) (below : List Frame) (P : Outcome → State → Prop) (T : State) (g : JFrame) : Prop := ∃ (t : State) (o : Outcome), Steps tb e below (T.setTop g) t ∧ t.status = .running ∧ Ended t below o ∧ P o t
theorem og {tb : Tables} {T' : State} {g g' : JFrame} (st : ∀ t, Steps tb e below (T'.setTop g') t → Steps tb e below (T.setTop g) t) (K : OGo tb e below P T' g') : OGo tb e below P T g := by
  obtain ⟨t, o, h1, h2⟩ := K
  exact ⟨t, o, st t h1, h2⟩
def OEnd (Z : State) (EL : List (String × Nat)) (n0 : Nat) (h0 : Heap) (ws : List Addr) (s : State) (Q : Option Value → Heap → Prop) (k n : Nat) (o : Outcome) (t : State) : Prop :=
  ∃ v L, o = .returned v ∧ (Fr n0 L ∧ Keep h0 t.heap ws ∧ Q v t.heap) ∧ CHr Z EL s.vm s.heap t.vm t.heap ∧ ReturnedEndW s o t L k n ∧ (EL = [] → FrameEnd s o t L k n)
def OIn (Z : State) (EL : List (String × Nat)) (a0 : Array Value) (n0 : Nat) (h0 : Heap) (ws : List Addr) (own : String) (s : State) (m : MethodId) (sv : List Addr) (vm0 : Vm) (locs : List Loc) (h : Heap) : Prop :=
  s.heap = h0 ∧ Old Z n0 h ∧ Keep h0 h ws ∧ (∃ k0, s.Since vm0 k0 ∧ k0 ≤ h.size) ∧ Z.Warmed39 vm0 ∧ vm0.findClass own = some m.cls ∧ EW Z a0 EL ∧ CHr Z EL s.vm s.heap vm0 h ∧ (EL = [] → vm0 = s.vm) ∧ Fr n0 locs ∧ ∀ x ∈ sv, n0 ≤ x ∧ x < h.size ∧ (x ∈ ws ∨ h0.size ≤ x) ∧ Safe Z EL vm0 h x
def OSt (Z : State) (EL : List (String × Nat)) (a0 : Array Value) (n0 : Nat) (h0 : Heap) (ws : List Addr) (own : String) (bytes : ByteArray) (mx : Nat) (p : Program) (l : Launch) (e : Env) (R : Room) (s : State) (m : MethodId) (args : Array Value) (below : List Frame) (meth : Method) (c : Code) (sv : List Addr) (T : State) (h : Heap) (k n : Nat) : Prop :=
  p.tables.exec = Jvm.exec ∧ c.code = bytes ∧ c.maxLocals = mx ∧ T.heap = h ∧ meth.locks = false ∧ ∃ (vm0 : Vm) (locs : List Loc), Stand p l e R (s.setVm vm0) m args below meth c T locs k n ∧ OIn Z EL a0 n0 h0 ws own s m sv vm0 locs h
theorem OSt.here (X : OSt Z EL a0 n0 h0 ws own bytes mx p l e R s m args below meth c sv T h k n) : At T m c below := by obtain ⟨-, -, -, -, -, _, _, Y, -⟩ := X; exact Y.here
theorem OSt.hx (X : OSt Z EL a0 n0 h0 ws own bytes mx p l e R s m args below meth c sv T h k n) : p.tables.exec = Jvm.exec := X.1
theorem OSt.hd (X : OSt Z EL a0 n0 h0 ws own bytes mx p l e R s m args below meth c sv T h k n) {r : Except ClassFile.DecodeError (ClassFile.Instr × Nat)} (hd : decode bytes pc = r) : decode c.code pc = r := hb X.2.1 hd
theorem OSt.old (X : OSt Z EL a0 n0 h0 ws own bytes mx p l e R s m args below meth c sv T h k n) : Old Z n0 h := by obtain ⟨-, -, -, -, -, _, _, -, -, I, -⟩ := X; exact I
theorem OSt.kept (X : OSt Z EL a0 n0 h0 ws own bytes mx p l e R s m args below meth c sv T h k n) : Keep h0 h ws := by obtain ⟨-, -, -, -, -, _, _, -, -, -, I, -⟩ := X; exact I
theorem OSt.more (X : OSt Z EL a0 n0 h0 ws own bytes mx p l e R s m args below meth c sv T h k n) {k' n' : Nat} (hk : k ≤ k') (hn : n ≤ n') : OSt Z EL a0 n0 h0 ws own bytes mx p l e R s m args below meth c sv T h k' n' := by
  obtain ⟨a1, a2, a3, a4, a5, vm0, locs, Y, I⟩ := X
  exact ⟨a1, a2, a3, a4, a5, vm0, locs, Y.more hk hn, I⟩
theorem OSt.less (X : OSt Z EL a0 n0 h0 ws own bytes mx p l e R s m args below meth c sv T h k n) {sv' : List Addr} (q : ∀ x ∈ sv', x ∈ sv) : OSt Z EL a0 n0 h0 ws own bytes mx p l e R s m args below meth c sv' T h k n := by
  obtain ⟨a1, a2, a3, a4, a5, vm0, locs, Y, b1, b2, b3, b4, b5, b6, b7, b8, b9, b10, b11⟩ := X
  exact ⟨a1, a2, a3, a4, a5, vm0, locs, Y, b1, b2, b3, b4, b5, b6, b7, b8, b9, b10, fun x hx => b11 x (q x hx)⟩
theorem OIn.ext {vm0 : Vm} {locs : List Loc} {h' : Heap} (I : OIn Z EL a0 n0 h0 ws own s m sv vm0 locs h) (E : Ext h h') : OIn Z EL a0 n0 h0 ws own s m sv vm0 locs h' := by
  obtain ⟨b1, b2, b3, ⟨k0, b4, b4'⟩, b5, b6, b7, b8, b9, b10, b11⟩ := I
  exact ⟨b1, b2.ext E, b3.ext E, ⟨k0, b4, Nat.le_trans b4' E.1⟩, b5, b6, b7, b8.trans (CHr.ext E b8.1), b9, b10, fun x hx => let q := b11 x hx; ⟨q.1, Nat.lt_of_lt_of_le q.2.1 E.1, q.2.2.1, Safe.ext E b8.1 q.2.2.2⟩⟩
theorem OIn.new {vm0 : Vm} {locs : List Loc} {h' : Heap} (I : OIn Z EL a0 n0 h0 ws own s m sv vm0 locs h) (E : Ext h h') {b : Addr} (h1 : h.size ≤ b) (h2 : b < h'.size) : OIn Z EL a0 n0 h0 ws own s m (b :: sv) vm0 locs h' := by
  have I' := I.ext E
  obtain ⟨b1, b2, b3, -, -, -, -, b8, -⟩ := I
  obtain ⟨c1, c2, c3, c4, c5, c6, c7, c8, c9, c10, c11⟩ := I'
  refine ⟨c1, c2, c3, c4, c5, c6, c7, c8, c9, c10, fun x hx => ?_⟩
  rcases List.mem_cons.mp hx with rfl | hx
  · exact ⟨Nat.le_trans (Nat.le_of_eq b2.1.symm) (Nat.le_trans b2.2.1 h1), h2, Or.inr (Nat.le_trans b3.1 h1), Safe.ext E b8.1 (Safe.new h1)⟩
  · exact c11 x hx
theorem OIn.wr {vm0 : Vm} {locs : List Loc} {h' : Heap} (I : OIn Z EL a0 n0 h0 ws own s m sv vm0 locs h) {a : Addr} {sl : Nat} {v : Value} (ha : a ∈ sv) (W : Wr h h' a sl v) : OIn Z EL a0 n0 h0 ws own s m sv vm0 (locs ++ [⟨a, sl⟩]) h' := by
  obtain ⟨b1, b2, b3, ⟨k0, b4, b4'⟩, b5, b6, b7, b8, b9, b10, b11⟩ := I
  obtain ⟨q1, q2, q3, q4⟩ := b11 a ha
  refine ⟨b1, b2.wr W q1, b3.wr W q3, ⟨k0, b4, by rw [W.size]; exact b4'⟩, b5, b6, b7, b8.trans (CHr.wr W q4 b8.1), b9, b10.app fun y hy => ?_, fun x hx => let r := b11 x hx; ⟨r.1, by rw [W.size]; exact r.2.1, r.2.2.1, Safe.wr W q4 b8.1 r.2.2.2⟩⟩
  cases List.mem_singleton.mp hy; exact q1
theorem OIn.keep {vm0 : Vm} {locs : List Loc} {h' : Heap} (I : OIn Z EL a0 n0 h0 ws own s m sv vm0 locs h) {ws' : List Addr} {L : List Loc} (K : Keep h h' ws') (hs : ∀ x ∈ ws', x ∈ sv) (N : Fr n0 L) : OIn Z EL a0 n0 h0 ws own s m sv vm0 (locs ++ L) h' := by
  obtain ⟨b1, b2, b3, ⟨k0, b4, b4'⟩, b5, b6, b7, b8, b9, b10, b11⟩ := I
  have sf : ∀ x ∈ ws', Safe Z EL vm0 h x := fun x hx => (b11 x (hs x hx)).2.2.2
  exact ⟨b1, b2.keep K fun x hx => (b11 x (hs x hx)).1, b3.trans K fun x hx => (b11 x (hs x hx)).2.2.1, ⟨k0, b4, Nat.le_trans b4' K.1⟩, b5, b6, b7, b8.trans (CHr.keep K sf b8.1), b9, b10.app N, fun x hx => let r := b11 x hx; ⟨r.1, Nat.lt_of_lt_of_le r.2.1 K.1, r.2.2.1, Safe.keep K sf b8.1 r.2.2.2⟩⟩
theorem OIn.call {vm0 : Vm} {locs : List Loc} {h' : Heap} {vm1 : Vm} (I : OIn Z EL a0 n0 h0 ws own s m sv vm0 locs h) {ws' : List Addr} {L : List Loc} (K : Keep h h' ws') (hs : ∀ x ∈ ws', x ∈ sv) (N : Fr n0 L) (C : CHr Z EL vm0 h vm1 h') (S : (s.setVm vm0).Since vm1 h'.size) (hne : EL = [] → vm1 = vm0) : OIn Z EL a0 n0 h0 ws own s m sv vm1 (locs ++ L) h' := by
  obtain ⟨b1, b2, b3, ⟨k0, b4, b4'⟩, b5, b6, b7, b8, b9, b10, b11⟩ := I
  exact ⟨b1, b2.keep K fun x hx => (b11 x (hs x hx)).1, b3.trans K fun x hx => (b11 x (hs x hx)).2.2.1, ⟨_, b4.trans S (Nat.le_trans b4' K.1), Nat.le_refl _⟩, State.Warmed39.trans (t := s.setVm vm0) b5 S.1, by rw [S.1.alike.findClass]; exact b6, b7, b8.trans C, fun q => (hne q).trans (b9 q), b10.app N, fun x hx => let r := b11 x hx; ⟨r.1, Nat.lt_of_lt_of_le r.2.1 K.1, r.2.2.1, C.safe r.2.1 r.2.2.2⟩⟩
theorem og_aload (X : OSt Z EL a0 n0 h0 ws own bytes mx p l e R s m args below meth c sv T h k n) (pc' : Nat) {j : Nat} {v : Value} (hd : decode bytes pc = .ok (.aload j, 2)) (hl : Ls[j]? = some (.val (v))) (hv : v.isRef = true) (hq : pc' = pc + 2) (K : OGo p.tables e below P T (mkF m pc' Ls (v :: st))) : OGo p.tables e below P T (mkF m pc Ls st) := by
  subst hq
  exact og (fun _ q => XS.aload X.here X.hx rfl (X.hd hd) hl hv q) K
theorem og_aloadN (X : OSt Z EL a0 n0 h0 ws own bytes mx p l e R s m args below meth c sv T h k n) (pc' : Nat) {j : Fin 4} {v : Value} (hd : decode bytes pc = .ok (.aload_n j, 1)) (hl : Ls[j.val]? = some (.val (v))) (hv : v.isRef = true) (hq : pc' = pc + 1) (K : OGo p.tables e below P T (mkF m pc' Ls (v :: st))) : OGo p.tables e below P T (mkF m pc Ls st) := by
  subst hq
  exact og (fun _ q => XS.aloadN X.here X.hx rfl (X.hd hd) hl hv q) K
theorem og_iload (X : OSt Z EL a0 n0 h0 ws own bytes mx p l e R s m args below meth c sv T h k n) (pc' : Nat) {j : Nat} {v : Int32} (hd : decode bytes pc = .ok (.iload j, 2)) (hl : Ls[j]? = some (.val (.int v))) (hq : pc' = pc + 2) (K : OGo p.tables e below P T (mkF m pc' Ls (.int v :: st))) : OGo p.tables e below P T (mkF m pc Ls st) := by
  subst hq
  exact og (fun _ q => XS.iload X.here X.hx rfl (X.hd hd) hl q) K
theorem og_iloadN (X : OSt Z EL a0 n0 h0 ws own bytes mx p l e R s m args below meth c sv T h k n) (pc' : Nat) {j : Fin 4} {v : Int32} (hd : decode bytes pc = .ok (.iload_n j, 1)) (hl : Ls[j.val]? = some (.val (.int v))) (hq : pc' = pc + 1) (K : OGo p.tables e below P T (mkF m pc' Ls (.int v :: st))) : OGo p.tables e below P T (mkF m pc Ls st) := by
  subst hq
  exact og (fun _ q => XS.iloadN X.here X.hx rfl (X.hd hd) hl q) K
theorem og_lload (X : OSt Z EL a0 n0 h0 ws own bytes mx p l e R s m args below meth c sv T h k n) (pc' : Nat) {j : Nat} {v : Int64} (hd : decode bytes pc = .ok (.lload j, 2)) (hl : Ls[j]? = some (.val (.long v))) (hq : pc' = pc + 2) (K : OGo p.tables e below P T (mkF m pc' Ls (.long v :: st))) : OGo p.tables e below P T (mkF m pc Ls st) := by
  subst hq
  exact og (fun _ q => XT.lload X.here X.hx rfl (X.hd hd) hl q) K
theorem og_lloadN (X : OSt Z EL a0 n0 h0 ws own bytes mx p l e R s m args below meth c sv T h k n) (pc' : Nat) {j : Fin 4} {v : Int64} (hd : decode bytes pc = .ok (.lload_n j, 1)) (hl : Ls[j.val]? = some (.val (.long v))) (hq : pc' = pc + 1) (K : OGo p.tables e below P T (mkF m pc' Ls (.long v :: st))) : OGo p.tables e below P T (mkF m pc Ls st) := by
  subst hq
  exact og (fun _ q => XT.lloadN X.here X.hx rfl (X.hd hd) hl q) K
theorem og_iconst (X : OSt Z EL a0 n0 h0 ws own bytes mx p l e R s m args below meth c sv T h k n) (pc' : Nat) (v : Int32) {i : Int} (hd : decode bytes pc = .ok (.iconst i, 1)) (hv : Int32.ofInt i = v) (hq : pc' = pc + 1) (K : OGo p.tables e below P T (mkF m pc' Ls (.int v :: st))) : OGo p.tables e below P T (mkF m pc Ls st) := by
  subst hq hv
  exact og (fun _ q => XS.iconst X.here X.hx rfl (X.hd hd) q) K
theorem og_bipush (X : OSt Z EL a0 n0 h0 ws own bytes mx p l e R s m args below meth c sv T h k n) (pc' : Nat) (v : Int32) {i : Int} (hd : decode bytes pc = .ok (.bipush i, 2)) (hv : (Int8.ofInt i).toInt32 = v) (hq : pc' = pc + 2) (K : OGo p.tables e below P T (mkF m pc' Ls (.int v :: st))) : OGo p.tables e below P T (mkF m pc Ls st) := by
  subst hq hv
  exact og (fun _ q => XS.bipush X.here X.hx rfl (X.hd hd) q) K
theorem og_sipush (X : OSt Z EL a0 n0 h0 ws own bytes mx p l e R s m args below meth c sv T h k n) (pc' : Nat) (v : Int32) {i : Int} (hd : decode bytes pc = .ok (.sipush i, 3)) (hv : (Int16.ofInt i).toInt32 = v) (hq : pc' = pc + 3) (K : OGo p.tables e below P T (mkF m pc' Ls (.int v :: st))) : OGo p.tables e below P T (mkF m pc Ls st) := by
  subst hq hv
  exact og (fun _ q => XS.sipush X.here X.hx rfl (X.hd hd) q) K
theorem og_lconst (X : OSt Z EL a0 n0 h0 ws own bytes mx p l e R s m args below meth c sv T h k n) (pc' : Nat) (v : Int64) {i : Fin 2} (hd : decode bytes pc = .ok (.lconst i, 1)) (hv : Int64.ofNat i = v) (hq : pc' = pc + 1) (K : OGo p.tables e below P T (mkF m pc' Ls (.long v :: st))) : OGo p.tables e below P T (mkF m pc Ls st) := by
  subst hq hv
  exact og (fun _ q => XT.lconst X.here X.hx rfl (X.hd hd) q) K
theorem og_aconstNull (X : OSt Z EL a0 n0 h0 ws own bytes mx p l e R s m args below meth c sv T h k n) (pc' : Nat)  (hd : decode bytes pc = .ok (.aconst_null, 1))  (hq : pc' = pc + 1) (K : OGo p.tables e below P T (mkF m pc' Ls (.null :: st))) : OGo p.tables e below P T (mkF m pc Ls st) := by
  subst hq
  exact og (fun _ q => XS.aconstNull X.here X.hx rfl (X.hd hd) q) K
theorem og_iadd (X : OSt Z EL a0 n0 h0 ws own bytes mx p l e R s m args below meth c sv T h k n) (pc' : Nat) {x y : Int32} (hd : decode bytes pc = .ok (.iadd, 1))  (hq : pc' = pc + 1) (K : OGo p.tables e below P T (mkF m pc' Ls (.int (x + y) :: st))) : OGo p.tables e below P T (mkF m pc Ls (.int y :: .int x :: st)) := by
  subst hq
  exact og (fun _ q => XS.iadd X.here X.hx rfl (X.hd hd) rfl q) K
theorem og_isub (X : OSt Z EL a0 n0 h0 ws own bytes mx p l e R s m args below meth c sv T h k n) (pc' : Nat) {x y : Int32} (hd : decode bytes pc = .ok (.isub, 1))  (hq : pc' = pc + 1) (K : OGo p.tables e below P T (mkF m pc' Ls (.int (x - y) :: st))) : OGo p.tables e below P T (mkF m pc Ls (.int y :: .int x :: st)) := by
  subst hq
  exact og (fun _ q => XS.isub X.here X.hx rfl (X.hd hd) rfl q) K
theorem og_iand (X : OSt Z EL a0 n0 h0 ws own bytes mx p l e R s m args below meth c sv T h k n) (pc' : Nat) {x y : Int32} (hd : decode bytes pc = .ok (.iand, 1))  (hq : pc' = pc + 1) (K : OGo p.tables e below P T (mkF m pc' Ls (.int (x &&& y) :: st))) : OGo p.tables e below P T (mkF m pc Ls (.int y :: .int x :: st)) := by
  subst hq
  exact og (fun _ q => XS.iand X.here X.hx rfl (X.hd hd) rfl q) K
theorem og_imul (X : OSt Z EL a0 n0 h0 ws own bytes mx p l e R s m args below meth c sv T h k n) (pc' : Nat) {x y : Int32} (hd : decode bytes pc = .ok (.imul, 1))  (hq : pc' = pc + 1) (K : OGo p.tables e below P T (mkF m pc' Ls (.int (x * y) :: st))) : OGo p.tables e below P T (mkF m pc Ls (.int y :: .int x :: st)) := by
  subst hq
  exact og (fun _ q => XS.imul X.here X.hx rfl (X.hd hd) rfl q) K
theorem og_ixor (X : OSt Z EL a0 n0 h0 ws own bytes mx p l e R s m args below meth c sv T h k n) (pc' : Nat) {x y : Int32} (hd : decode bytes pc = .ok (.ixor, 1))  (hq : pc' = pc + 1) (K : OGo p.tables e below P T (mkF m pc' Ls (.int (x ^^^ y) :: st))) : OGo p.tables e below P T (mkF m pc Ls (.int y :: .int x :: st)) := by
  subst hq
  exact og (fun _ q => XT.ixor X.here X.hx rfl (X.hd hd) rfl q) K
theorem og_ior (X : OSt Z EL a0 n0 h0 ws own bytes mx p l e R s m args below meth c sv T h k n) (pc' : Nat) {x y : Int32} (hd : decode bytes pc = .ok (.ior, 1))  (hq : pc' = pc + 1) (K : OGo p.tables e below P T (mkF m pc' Ls (.int (x ||| y) :: st))) : OGo p.tables e below P T (mkF m pc Ls (.int y :: .int x :: st)) := by
  subst hq
  exact og (fun _ q => XT.ior X.here X.hx rfl (X.hd hd) rfl q) K
theorem og_ishl (X : OSt Z EL a0 n0 h0 ws own bytes mx p l e R s m args below meth c sv T h k n) (pc' : Nat) {x y : Int32} (hd : decode bytes pc = .ok (.ishl, 1))  (hq : pc' = pc + 1) (K : OGo p.tables e below P T (mkF m pc' Ls (.int (x <<< (y &&& 31)) :: st))) : OGo p.tables e below P T (mkF m pc Ls (.int y :: .int x :: st)) := by
  subst hq
  exact og (fun _ q => XT.ishl X.here X.hx rfl (X.hd hd) rfl q) K
theorem og_ishr (X : OSt Z EL a0 n0 h0 ws own bytes mx p l e R s m args below meth c sv T h k n) (pc' : Nat) {x y : Int32} (hd : decode bytes pc = .ok (.ishr, 1))  (hq : pc' = pc + 1) (K : OGo p.tables e below P T (mkF m pc' Ls (.int (x >>> (y &&& 31)) :: st))) : OGo p.tables e below P T (mkF m pc Ls (.int y :: .int x :: st)) := by
  subst hq
  exact og (fun _ q => XT.ishr X.here X.hx rfl (X.hd hd) rfl q) K
theorem og_iushr (X : OSt Z EL a0 n0 h0 ws own bytes mx p l e R s m args below meth c sv T h k n) (pc' : Nat) {x y : Int32} (hd : decode bytes pc = .ok (.iushr, 1))  (hq : pc' = pc + 1) (K : OGo p.tables e below P T (mkF m pc' Ls (.int (Jvm.Free.XT.ushr x y) :: st))) : OGo p.tables e below P T (mkF m pc Ls (.int y :: .int x :: st)) := by
  subst hq
  exact og (fun _ q => XT.iushr X.here X.hx rfl (X.hd hd) rfl q) K
theorem og_idiv (X : OSt Z EL a0 n0 h0 ws own bytes mx p l e R s m args below meth c sv T h k n) (pc' : Nat) {x y : Int32} (hd : decode bytes pc = .ok (.idiv, 1)) (hy : y ≠ 0) (hq : pc' = pc + 1) (K : OGo p.tables e below P T (mkF m pc' Ls (.int (x / y) :: st))) : OGo p.tables e below P T (mkF m pc Ls (.int y :: .int x :: st)) := by
  subst hq
  exact og (fun _ q => XS.idiv X.here X.hx rfl (X.hd hd) rfl hy q) K
theorem og_irem (X : OSt Z EL a0 n0 h0 ws own bytes mx p l e R s m args below meth c sv T h k n) (pc' : Nat) {x y : Int32} (hd : decode bytes pc = .ok (.irem, 1)) (hy : y ≠ 0) (hq : pc' = pc + 1) (K : OGo p.tables e below P T (mkF m pc' Ls (.int (x % y) :: st))) : OGo p.tables e below P T (mkF m pc Ls (.int y :: .int x :: st)) := by
  subst hq
  have q0 : x - x / y * y = x % y := irem_eq_mod x y
  exact og (fun _ q => XS.irem X.here X.hx rfl (X.hd hd) rfl hy (by rw [q0]; exact q)) K
theorem og_ineg (X : OSt Z EL a0 n0 h0 ws own bytes mx p l e R s m args below meth c sv T h k n) (pc' : Nat) {x : Int32} (hd : decode bytes pc = .ok (.ineg, 1))  (hq : pc' = pc + 1) (K : OGo p.tables e below P T (mkF m pc' Ls (.int (-x) :: st))) : OGo p.tables e below P T (mkF m pc Ls (.int x :: st)) := by
  subst hq
  exact og (fun _ q => XS.ineg X.here X.hx rfl (X.hd hd) rfl q) K
theorem og_ladd (X : OSt Z EL a0 n0 h0 ws own bytes mx p l e R s m args below meth c sv T h k n) (pc' : Nat) {x y : Int64} (hd : decode bytes pc = .ok (.ladd, 1))  (hq : pc' = pc + 1) (K : OGo p.tables e below P T (mkF m pc' Ls (.long (x + y) :: st))) : OGo p.tables e below P T (mkF m pc Ls (.long y :: .long x :: st)) := by
  subst hq
  exact og (fun _ q => XT.ladd X.here X.hx rfl (X.hd hd) rfl q) K
theorem og_lsub (X : OSt Z EL a0 n0 h0 ws own bytes mx p l e R s m args below meth c sv T h k n) (pc' : Nat) {x y : Int64} (hd : decode bytes pc = .ok (.lsub, 1))  (hq : pc' = pc + 1) (K : OGo p.tables e below P T (mkF m pc' Ls (.long (x - y) :: st))) : OGo p.tables e below P T (mkF m pc Ls (.long y :: .long x :: st)) := by
  subst hq
  exact og (fun _ q => XT.lsub X.here X.hx rfl (X.hd hd) rfl q) K
theorem og_lmul (X : OSt Z EL a0 n0 h0 ws own bytes mx p l e R s m args below meth c sv T h k n) (pc' : Nat) {x y : Int64} (hd : decode bytes pc = .ok (.lmul, 1))  (hq : pc' = pc + 1) (K : OGo p.tables e below P T (mkF m pc' Ls (.long (x * y) :: st))) : OGo p.tables e below P T (mkF m pc Ls (.long y :: .long x :: st)) := by
  subst hq
  exact og (fun _ q => XT.lmul X.here X.hx rfl (X.hd hd) rfl q) K
theorem og_land (X : OSt Z EL a0 n0 h0 ws own bytes mx p l e R s m args below meth c sv T h k n) (pc' : Nat) {x y : Int64} (hd : decode bytes pc = .ok (.land, 1))  (hq : pc' = pc + 1) (K : OGo p.tables e below P T (mkF m pc' Ls (.long (x &&& y) :: st))) : OGo p.tables e below P T (mkF m pc Ls (.long y :: .long x :: st)) := by
  subst hq
  exact og (fun _ q => XT.land X.here X.hx rfl (X.hd hd) rfl q) K
theorem og_lor (X : OSt Z EL a0 n0 h0 ws own bytes mx p l e R s m args below meth c sv T h k n) (pc' : Nat) {x y : Int64} (hd : decode bytes pc = .ok (.lor, 1))  (hq : pc' = pc + 1) (K : OGo p.tables e below P T (mkF m pc' Ls (.long (x ||| y) :: st))) : OGo p.tables e below P T (mkF m pc Ls (.long y :: .long x :: st)) := by
  subst hq
  exact og (fun _ q => XT.lor X.here X.hx rfl (X.hd hd) rfl q) K
theorem og_lxor (X : OSt Z EL a0 n0 h0 ws own bytes mx p l e R s m args below meth c sv T h k n) (pc' : Nat) {x y : Int64} (hd : decode bytes pc = .ok (.lxor, 1))  (hq : pc' = pc + 1) (K : OGo p.tables e below P T (mkF m pc' Ls (.long (x ^^^ y) :: st))) : OGo p.tables e below P T (mkF m pc Ls (.long y :: .long x :: st)) := by
  subst hq
  exact og (fun _ q => XT.lxor X.here X.hx rfl (X.hd hd) rfl q) K
theorem og_lcmp (X : OSt Z EL a0 n0 h0 ws own bytes mx p l e R s m args below meth c sv T h k n) (pc' : Nat) {x y : Int64} (hd : decode bytes pc = .ok (.lcmp, 1))  (hq : pc' = pc + 1) (K : OGo p.tables e below P T (mkF m pc' Ls (.int (Jvm.Free.XT.cmpL x y) :: st))) : OGo p.tables e below P T (mkF m pc Ls (.long y :: .long x :: st)) := by
  subst hq
  exact og (fun _ q => XT.lcmp X.here X.hx rfl (X.hd hd) rfl q) K
theorem og_i2l (X : OSt Z EL a0 n0 h0 ws own bytes mx p l e R s m args below meth c sv T h k n) (pc' : Nat) {x : Int32} (hd : decode bytes pc = .ok (.i2l, 1))  (hq : pc' = pc + 1) (K : OGo p.tables e below P T (mkF m pc' Ls (.long x.toInt64 :: st))) : OGo p.tables e below P T (mkF m pc Ls (.int x :: st)) := by
  subst hq
  exact og (fun _ q => XT.i2l X.here X.hx rfl (X.hd hd) rfl q) K
theorem og_i2b (X : OSt Z EL a0 n0 h0 ws own bytes mx p l e R s m args below meth c sv T h k n) (pc' : Nat) {x : Int32} (hd : decode bytes pc = .ok (.i2b, 1))  (hq : pc' = pc + 1) (K : OGo p.tables e below P T (mkF m pc' Ls (.int x.toInt8.toInt32 :: st))) : OGo p.tables e below P T (mkF m pc Ls (.int x :: st)) := by
  subst hq
  exact og (fun _ q => XT.i2b X.here X.hx rfl (X.hd hd) rfl q) K
theorem og_i2c (X : OSt Z EL a0 n0 h0 ws own bytes mx p l e R s m args below meth c sv T h k n) (pc' : Nat) {x : Int32} (hd : decode bytes pc = .ok (.i2c, 1))  (hq : pc' = pc + 1) (K : OGo p.tables e below P T (mkF m pc' Ls (.int x.toUInt32.toUInt16.toUInt32.toInt32 :: st))) : OGo p.tables e below P T (mkF m pc Ls (.int x :: st)) := by
  subst hq
  exact og (fun _ q => XT.i2c X.here X.hx rfl (X.hd hd) rfl q) K
theorem og_i2s (X : OSt Z EL a0 n0 h0 ws own bytes mx p l e R s m args below meth c sv T h k n) (pc' : Nat) {x : Int32} (hd : decode bytes pc = .ok (.i2s, 1))  (hq : pc' = pc + 1) (K : OGo p.tables e below P T (mkF m pc' Ls (.int x.toInt16.toInt32 :: st))) : OGo p.tables e below P T (mkF m pc Ls (.int x :: st)) := by
  subst hq
  exact og (fun _ q => XT.i2s X.here X.hx rfl (X.hd hd) rfl q) K
theorem og_l2i (X : OSt Z EL a0 n0 h0 ws own bytes mx p l e R s m args below meth c sv T h k n) (pc' : Nat) {x : Int64} (hd : decode bytes pc = .ok (.l2i, 1))  (hq : pc' = pc + 1) (K : OGo p.tables e below P T (mkF m pc' Ls (.int x.toInt32 :: st))) : OGo p.tables e below P T (mkF m pc Ls (.long x :: st)) := by
  subst hq
  exact og (fun _ q => XT.l2i X.here X.hx rfl (X.hd hd) rfl q) K
theorem og_i2c8 (X : OSt Z EL a0 n0 h0 ws own bytes mx p l e R s m args below meth c sv T h k n) (pc' : Nat) {x : Int32} (hd : decode bytes pc = .ok (.i2c, 1)) (hq : pc' = pc + 1) (K : OGo p.tables e below P T (mkF m pc' Ls (.int (x &&& 255) :: st))) : OGo p.tables e below P T (mkF m pc Ls (.int (x &&& 255) :: st)) := by
  subst hq
  exact og (fun _ q => XT.i2c X.here X.hx rfl (X.hd hd) rfl (by rw [i2c_mask]; exact q)) K
theorem og_dup (X : OSt Z EL a0 n0 h0 ws own bytes mx p l e R s m args below meth c sv T h k n) (pc' : Nat) {x : Value} (hd : decode bytes pc = .ok (.dup, 1)) (hc : x.category = 1) (hq : pc' = pc + 1) (K : OGo p.tables e below P T (mkF m pc' Ls (x :: x :: st))) : OGo p.tables e below P T (mkF m pc Ls (x :: st)) := by
  subst hq
  exact og (fun _ q => XS.dup X.here X.hx rfl (X.hd hd) rfl hc q) K
theorem og_pop (X : OSt Z EL a0 n0 h0 ws own bytes mx p l e R s m args below meth c sv T h k n) (pc' : Nat) {x : Value} (hd : decode bytes pc = .ok (.pop, 1)) (hc : x.category = 1) (hq : pc' = pc + 1) (K : OGo p.tables e below P T (mkF m pc' Ls st)) : OGo p.tables e below P T (mkF m pc Ls (x :: st)) := by
  subst hq
  exact og (fun _ q => XT.pop X.here X.hx rfl (X.hd hd) rfl hc q) K
theorem og_dupX1 (X : OSt Z EL a0 n0 h0 ws own bytes mx p l e R s m args below meth c sv T h k n) (pc' : Nat) {x y : Value} (hd : decode bytes pc = .ok (.dup_x1, 1)) (hc : x.category = 1) (hc' : y.category = 1) (hq : pc' = pc + 1) (K : OGo p.tables e below P T (mkF m pc' Ls (x :: y :: x :: st))) : OGo p.tables e below P T (mkF m pc Ls (x :: y :: st)) := by
  subst hq
  exact og (fun _ q => XT.dupX1 X.here X.hx rfl (X.hd hd) rfl hc hc' q) K
theorem og_dup2 (X : OSt Z EL a0 n0 h0 ws own bytes mx p l e R s m args below meth c sv T h k n) (pc' : Nat) {x y : Value} (hd : decode bytes pc = .ok (.dup2, 1)) (hc : x.category = 1) (hc' : y.category = 1) (hq : pc' = pc + 1) (K : OGo p.tables e below P T (mkF m pc' Ls (x :: y :: x :: y :: st))) : OGo p.tables e below P T (mkF m pc Ls (x :: y :: st)) := by
  subst hq
  exact og (fun _ q => XT.dup2 X.here X.hx rfl (X.hd hd) rfl hc hc' q) K
theorem og_istore (X : OSt Z EL a0 n0 h0 ws own bytes mx p l e R s m args below meth c sv T h k n) (pc' : Nat) (l' : Array Slot) {j : Nat} {x : Int32} (hd : decode bytes pc = .ok (.istore j, 2)) (hl : storeLocals Ls j (.int x) = some l') (hq : pc' = pc + 2) (K : OGo p.tables e below P T (mkF m pc' l' st)) : OGo p.tables e below P T (mkF m pc Ls (.int x :: st)) := by
  subst hq
  exact og (fun _ q => XS.istore X.here X.hx rfl (X.hd hd) rfl hl q) K
theorem og_istoreN (X : OSt Z EL a0 n0 h0 ws own bytes mx p l e R s m args below meth c sv T h k n) (pc' : Nat) (l' : Array Slot) {j : Fin 4} {x : Int32} (hd : decode bytes pc = .ok (.istore_n j, 1)) (hl : storeLocals Ls j.val (.int x) = some l') (hq : pc' = pc + 1) (K : OGo p.tables e below P T (mkF m pc' l' st)) : OGo p.tables e below P T (mkF m pc Ls (.int x :: st)) := by
  subst hq
  exact og (fun _ q => XS.istoreN X.here X.hx rfl (X.hd hd) rfl hl q) K
theorem og_lstore (X : OSt Z EL a0 n0 h0 ws own bytes mx p l e R s m args below meth c sv T h k n) (pc' : Nat) (l' : Array Slot) {j : Nat} {x : Int64} (hd : decode bytes pc = .ok (.lstore j, 2)) (hl : storeLocals Ls j (.long x) = some l') (hq : pc' = pc + 2) (K : OGo p.tables e below P T (mkF m pc' l' st)) : OGo p.tables e below P T (mkF m pc Ls (.long x :: st)) := by
  subst hq
  exact og (fun _ q => XT.lstore X.here X.hx rfl (X.hd hd) rfl hl q) K
theorem og_lstoreN (X : OSt Z EL a0 n0 h0 ws own bytes mx p l e R s m args below meth c sv T h k n) (pc' : Nat) (l' : Array Slot) {j : Fin 4} {x : Int64} (hd : decode bytes pc = .ok (.lstore_n j, 1)) (hl : storeLocals Ls j.val (.long x) = some l') (hq : pc' = pc + 1) (K : OGo p.tables e below P T (mkF m pc' l' st)) : OGo p.tables e below P T (mkF m pc Ls (.long x :: st)) := by
  subst hq
  exact og (fun _ q => XT.lstoreN X.here X.hx rfl (X.hd hd) rfl hl q) K
theorem og_astore (X : OSt Z EL a0 n0 h0 ws own bytes mx p l e R s m args below meth c sv T h k n) (pc' : Nat) (l' : Array Slot) {j : Nat} {x : Value} (hd : decode bytes pc = .ok (.astore j, 2)) (hv : x.isRef = true) (hl : storeLocals Ls j x = some l') (hq : pc' = pc + 2) (K : OGo p.tables e below P T (mkF m pc' l' st)) : OGo p.tables e below P T (mkF m pc Ls (x :: st)) := by
  subst hq
  exact og (fun _ q => XS.astore X.here X.hx rfl (X.hd hd) rfl hv hl q) K
theorem og_astoreN (X : OSt Z EL a0 n0 h0 ws own bytes mx p l e R s m args below meth c sv T h k n) (pc' : Nat) (l' : Array Slot) {j : Fin 4} {x : Value} (hd : decode bytes pc = .ok (.astore_n j, 1)) (hv : x.isRef = true) (hl : storeLocals Ls j.val x = some l') (hq : pc' = pc + 1) (K : OGo p.tables e below P T (mkF m pc' l' st)) : OGo p.tables e below P T (mkF m pc Ls (x :: st)) := by
  subst hq
  exact og (fun _ q => XS.astoreN X.here X.hx rfl (X.hd hd) rfl hv hl q) K
theorem og_iinc (X : OSt Z EL a0 n0 h0 ws own bytes mx p l e R s m args below meth c sv T h k n) (pc' : Nat) (l' : Array Slot) {j : Nat} {i : Int} {x : Int32} (hd : decode bytes pc = .ok (.iinc j i, 3)) (hl : Ls[j]? = some (.val (.int x))) (hl' : storeLocals Ls j (.int (x + Int32.ofInt i)) = some l') (hq : pc' = pc + 3) (K : OGo p.tables e below P T (mkF m pc' l' st)) : OGo p.tables e below P T (mkF m pc Ls st) := by
  subst hq
  exact og (fun _ q => XS.iinc X.here X.hx rfl (X.hd hd) hl hl' q) K
theorem og_goto (X : OSt Z EL a0 n0 h0 ws own bytes mx p l e R s m args below meth c sv T h k n) (pc' : Nat)  {o : Int} (hd : decode bytes pc = .ok (.goto o, 3))  (ho : 0 ≤ (pc : Int) + o) (hp : ((pc : Int) + o).toNat = pc') (K : OGo p.tables e below P T (mkF m pc' Ls st)) : OGo p.tables e below P T (mkF m pc Ls st) := og (fun _ q => XS.goto X.here X.hx rfl rfl (X.hd hd) ho hp q) K
theorem og_ifY (X : OSt Z EL a0 n0 h0 ws own bytes mx p l e R s m args below meth c sv T h k n) (pc' : Nat) {cd : ClassFile.Cond} {x : Int32} {o : Int} (hd : decode bytes pc = .ok (.ifCond cd o, 3)) (hc : ifCond.holds cd x = true) (ho : 0 ≤ (pc : Int) + o) (hp : ((pc : Int) + o).toNat = pc') (K : OGo p.tables e below P T (mkF m pc' Ls st)) : OGo p.tables e below P T (mkF m pc Ls (.int x :: st)) := og (fun _ q => XS.ifYes X.here X.hx rfl rfl (X.hd hd) rfl hc ho hp q) K
theorem og_icmpY (X : OSt Z EL a0 n0 h0 ws own bytes mx p l e R s m args below meth c sv T h k n) (pc' : Nat) {cd : ClassFile.Cond} {x y : Int32} {o : Int} (hd : decode bytes pc = .ok (.if_icmp cd o, 3)) (hc : if_icmp.holds cd x y = true) (ho : 0 ≤ (pc : Int) + o) (hp : ((pc : Int) + o).toNat = pc') (K : OGo p.tables e below P T (mkF m pc' Ls st)) : OGo p.tables e below P T (mkF m pc Ls (.int y :: .int x :: st)) := og (fun _ q => XS.icmpYes X.here X.hx rfl rfl (X.hd hd) rfl hc ho hp q) K
theorem og_nullY (X : OSt Z EL a0 n0 h0 ws own bytes mx p l e R s m args below meth c sv T h k n) (pc' : Nat)  {o : Int} (hd : decode bytes pc = .ok (.ifnull o, 3))  (ho : 0 ≤ (pc : Int) + o) (hp : ((pc : Int) + o).toNat = pc') (K : OGo p.tables e below P T (mkF m pc' Ls st)) : OGo p.tables e below P T (mkF m pc Ls (.null :: st)) := og (fun _ q => XS.ifnullYes X.here X.hx rfl rfl (X.hd hd) rfl ho hp q) K
theorem og_nonnullY (X : OSt Z EL a0 n0 h0 ws own bytes mx p l e R s m args below meth c sv T h k n) (pc' : Nat) {b : Addr} {o : Int} (hd : decode bytes pc = .ok (.ifnonnull o, 3))  (ho : 0 ≤ (pc : Int) + o) (hp : ((pc : Int) + o).toNat = pc') (K : OGo p.tables e below P T (mkF m pc' Ls st)) : OGo p.tables e below P T (mkF m pc Ls (.ref b :: st)) := og (fun _ q => XT.ifnonnullYes X.here X.hx rfl rfl (X.hd hd) rfl ho hp q) K
theorem og_acmpY (X : OSt Z EL a0 n0 h0 ws own bytes mx p l e R s m args below meth c sv T h k n) (pc' : Nat) {cd : ClassFile.ACond} {x y : Value} {o : Int} (hd : decode bytes pc = .ok (.if_acmp cd o, 3)) (hx' : x.isRef = true) (hy' : y.isRef = true) (hc : Jvm.Free.XT.acmp cd x y = true) (ho : 0 ≤ (pc : Int) + o) (hp : ((pc : Int) + o).toNat = pc') (K : OGo p.tables e below P T (mkF m pc' Ls st)) : OGo p.tables e below P T (mkF m pc Ls (y :: x :: st)) := og (fun _ q => XT.acmpYes X.here X.hx rfl rfl (X.hd hd) rfl hx' hy' hc ho hp q) K
theorem og_ifN (X : OSt Z EL a0 n0 h0 ws own bytes mx p l e R s m args below meth c sv T h k n) (pc' : Nat) {cd : ClassFile.Cond} {o : Int} {x : Int32} (hd : decode bytes pc = .ok (.ifCond cd o, 3)) (hc : ifCond.holds cd x = false) (hq : pc' = pc + 3) (K : OGo p.tables e below P T (mkF m pc' Ls st)) : OGo p.tables e below P T (mkF m pc Ls (.int x :: st)) := by
  subst hq
  exact og (fun _ q => XS.ifNo X.here X.hx rfl (X.hd hd) rfl hc q) K
theorem og_icmpN (X : OSt Z EL a0 n0 h0 ws own bytes mx p l e R s m args below meth c sv T h k n) (pc' : Nat) {cd : ClassFile.Cond} {o : Int} {x y : Int32} (hd : decode bytes pc = .ok (.if_icmp cd o, 3)) (hc : if_icmp.holds cd x y = false) (hq : pc' = pc + 3) (K : OGo p.tables e below P T (mkF m pc' Ls st)) : OGo p.tables e below P T (mkF m pc Ls (.int y :: .int x :: st)) := by
  subst hq
  exact og (fun _ q => XS.icmpNo X.here X.hx rfl (X.hd hd) rfl hc q) K
theorem og_nullN (X : OSt Z EL a0 n0 h0 ws own bytes mx p l e R s m args below meth c sv T h k n) (pc' : Nat) {o : Int} {b : Addr} (hd : decode bytes pc = .ok (.ifnull o, 3))  (hq : pc' = pc + 3) (K : OGo p.tables e below P T (mkF m pc' Ls st)) : OGo p.tables e below P T (mkF m pc Ls (.ref b :: st)) := by
  subst hq
  exact og (fun _ q => XS.ifnullNo X.here X.hx rfl (X.hd hd) rfl q) K
theorem og_nonnullN (X : OSt Z EL a0 n0 h0 ws own bytes mx p l e R s m args below meth c sv T h k n) (pc' : Nat) {o : Int} (hd : decode bytes pc = .ok (.ifnonnull o, 3))  (hq : pc' = pc + 3) (K : OGo p.tables e below P T (mkF m pc' Ls st)) : OGo p.tables e below P T (mkF m pc Ls (.null :: st)) := by
  subst hq
  exact og (fun _ q => XT.ifnonnullNo X.here X.hx rfl (X.hd hd) rfl q) K
theorem og_acmpN (X : OSt Z EL a0 n0 h0 ws own bytes mx p l e R s m args below meth c sv T h k n) (pc' : Nat) {cd : ClassFile.ACond} {o : Int} {x y : Value} (hd : decode bytes pc = .ok (.if_acmp cd o, 3)) (hx' : x.isRef = true) (hy' : y.isRef = true) (hc : Jvm.Free.XT.acmp cd x y = false) (hq : pc' = pc + 3) (K : OGo p.tables e below P T (mkF m pc' Ls st)) : OGo p.tables e below P T (mkF m pc Ls (y :: x :: st)) := by
  subst hq
  exact og (fun _ q => XT.acmpNo X.here X.hx rfl (X.hd hd) rfl hx' hy' hc q) K
theorem own_nc8 (y : Int32) : nar .char (y &&& 255) = y &&& 255 := i2c_mask y
theorem own_u16 (u : UInt16) : (u.toUInt32.toInt32).toInt = u.toNat := by
  have hu := u.toNat_lt
  show ((u.toUInt32).toBitVec).toInt = _
  have hm : (u.toUInt32).toBitVec.toNat = u.toNat := by
    show (u.toUInt32).toNat = _
    simp
  rw [BitVec.toInt_eq_toNat_cond, hm, if_pos (by omega)]
theorem own_ncc (y : Int32) : nar .char (y.toUInt32.toUInt16.toUInt32.toInt32) = y.toUInt32.toUInt16.toUInt32.toInt32 := by
  have e : (y.toUInt32.toUInt16.toUInt32.toInt32).toUInt32.toUInt16 = y.toUInt32.toUInt16 := UInt16.toUInt16_toUInt32 _
  show ((y.toUInt32.toUInt16.toUInt32.toInt32).toUInt32.toUInt16).toUInt32.toInt32 = _
  rw [e]
theorem own_lat16 (y : Int32) : ¬ y.toUInt32.toUInt16.toUInt32.toInt32 < 0 ∧ ¬ (65535 : Int32) < y.toUInt32.toUInt16.toUInt32.toInt32 := by
  have h2 := (y.toUInt32.toUInt16).toNat_lt
  have e1 : (0 : Int32).toInt = 0 := (by decide)
  have e2 : (65535 : Int32).toInt = 65535 := (by decide)
  rw [Int32.lt_iff_toInt_lt, Int32.lt_iff_toInt_lt, own_u16, e1, e2]
  omega
theorem own_lat8 (x : Int32) : ¬ (x &&& 255) < 0 ∧ ¬ (255 : Int32) < (x &&& 255) := by
  have t : ∀ k : Fin 256, ¬ (Int32.ofNat k.val) < 0 ∧ ¬ (255 : Int32) < (Int32.ofNat k.val) := by decide +kernel
  have h : (x &&& 255).toBitVec.toNat < 256 := by
    simp only [Int32.toBitVec_and, BitVec.toNat_and]
    exact Nat.lt_succ_of_le Nat.and_le_right
  have e : (x &&& 255) = Int32.ofNat (x &&& 255).toBitVec.toNat := by
    apply Int32.toBitVec_inj.mp
    show _ = BitVec.ofNat 32 _
    rw [BitVec.ofNat_toNat]; simp
  rw [e]
  exact t ⟨_, h⟩
theorem own_up8 {c : Int32} (h : ¬ (255 : Int32) < c) : ¬ (65535 : Int32) < c := fun q => h (by rw [Int32.lt_iff_toInt_lt] at q ⊢; have e1 : (65535 : Int32).toInt = 65535 := rfl; have e2 : (255 : Int32).toInt = 255 := rfl; omega)
def own_stv (Z : State) (C n d : String) : Value := ((Term.static C n d).eval #[] Z none [] Z).getD .null
def own_sti (Z : State) (C n d : String) : Int32 := match (Term.static C n d).eval #[] Z none [] Z with | some (.int z) => z | _ => 0
theorem own_stv_of {Z : State} {C n d : String} {v : Value} {a : Array Value} (h : (Term.static C n d).eval a Z none [] Z = some v) : own_stv Z C n d = v := by
  have q : (Term.static C n d).eval #[] Z none [] Z = some v := h
  simp [own_stv, q]
theorem own_sti_of {Z : State} {C n d : String} {v : Int32} {a : Array Value} (h : (Term.static C n d).eval a Z none [] Z = some (.int v)) : own_sti Z C n d = v := by
  have q : (Term.static C n d).eval #[] Z none [] Z = some (.int v) := h
  simp [own_sti, q]
theorem own_l0 {P : Int32 → Prop} : ∀ c ∈ ([] : List Int32), P c := fun _ q => nomatch q
theorem own_lS {P : Int32 → Prop} {y : Int32} {M : List Int32} (q : P y) (r : ∀ x ∈ M, P x) : ∀ x ∈ y :: M, P x := fun x z => (List.mem_cons.mp z).elim (fun u => u ▸ q) (r x)
def own_N (x : Int32) : Nat := x.toBitVec.toNat
theorem own_N_lt (x : Int32) : own_N x < 4294967296 := x.toBitVec.isLt
theorem own_N_inj {x y : Int32} : own_N x = own_N y ↔ x = y := ⟨fun h => Int32.toBitVec_inj.mp (BitVec.eq_of_toNat_eq h), fun h => by rw [h]⟩
theorem own_N_and {x m : Int32} (k : Nat) (hm : m.toBitVec.toNat = 2 ^ k - 1) : own_N (x &&& m) = own_N x % 2 ^ k := by
  unfold own_N; rw [Int32.toBitVec_and, BitVec.toNat_and, hm, Nat.and_two_pow_sub_one_eq_mod]
theorem own_N_ushr {x j : Int32} (k : Nat) (hj : (j &&& 31).toUInt32.toNat = k) (hk : k < 32) : own_N (XT.ushr x j) = own_N x / 2 ^ k := by
  show (x.toUInt32 >>> (j &&& 31).toUInt32).toNat = x.toUInt32.toNat / 2 ^ k
  rw [UInt32.toNat_shiftRight, hj, Nat.mod_eq_of_lt hk, Nat.shiftRight_eq_div_pow]
theorem own_N3 (x : Int32) : own_N (x &&& 3) = own_N x % 4 := own_N_and 2 rfl
theorem own_N255 (x : Int32) : own_N (x &&& 255) = own_N x % 256 := own_N_and 8 rfl
theorem own_nbb (y : Int32) : (y.toInt8.toInt32).toInt8.toInt32 = y.toInt8.toInt32 := by simp
theorem own_zb {z : Int32} (h : z = 0 ∨ z = 1) : narrow .boolean (.int z) = .int z ∧ fits .boolean (.int z) = true := by rcases h with rfl | rfl <;> exact ⟨rfl, rfl⟩
theorem own_xor0 {a b : Int32} : a ^^^ b = 0 ↔ a = b := by
  rw [← Int32.toBitVec_inj, ← Int32.toBitVec_inj, Int32.toBitVec_xor]
  exact BitVec.xor_eq_zero_iff
theorem own_xor_ushr_and (x y j k : Int32) : XT.ushr (x ^^^ y) j &&& k = (XT.ushr x j &&& k) ^^^ (XT.ushr y j &&& k) := by
  apply Int32.toBitVec_inj.mp
  show ((x ^^^ y).toUInt32 >>> (j &&& 31).toUInt32).toBitVec &&& k.toBitVec = ((x.toUInt32 >>> (j &&& 31).toUInt32).toBitVec &&& k.toBitVec) ^^^ ((y.toUInt32 >>> (j &&& 31).toUInt32).toBitVec &&& k.toBitVec)
  have e : (x ^^^ y).toUInt32 = x.toUInt32 ^^^ y.toUInt32 := rfl
  rw [e, UInt32.toBitVec_shiftRight, UInt32.toBitVec_shiftRight, UInt32.toBitVec_shiftRight, UInt32.toBitVec_xor]
  ext i hi
  simp [Bool.and_xor_distrib_right]
theorem own_nch {c : Int32} (h0 : ¬ c < 0) (h1 : ¬ (65535 : Int32) < c) : nar .char c = c := by
  rw [Int32.lt_iff_toInt_lt] at h0 h1
  have e0 : (0 : Int32).toInt = 0 := rfl
  have e1 : (65535 : Int32).toInt = 65535 := rfl
  rw [e0] at h0; rw [e1] at h1
  have hn : c.toUInt32.toNat = c.toInt.toNat := by
    have : c.toInt = (c.toBitVec).toInt := rfl
    have h2 : (c.toBitVec).toInt = if 2 * c.toBitVec.toNat < 2 ^ 32 then (c.toBitVec.toNat : Int) else (c.toBitVec.toNat : Int) - 2 ^ 32 := BitVec.toInt_eq_toNat_cond _
    have h3 : c.toUInt32.toNat = c.toBitVec.toNat := rfl
    have := c.toBitVec.isLt
    split at h2 <;> omega
  apply Int32.toInt_inj.mp
  show (c.toUInt32.toUInt16.toUInt32.toInt32).toInt = _
  rw [own_u16]
  show ((c.toUInt32.toUInt16.toNat : Nat) : Int) = _
  have h4 : c.toUInt32.toUInt16.toNat = c.toUInt32.toNat % 65536 := by simp
  rw [h4, hn]; omega
theorem own_fitC {c : Int32} (h0 : ¬ c < 0) (h1 : ¬ (65535 : Int32) < c) : narrow .char (.int c) = .int c := by
  show Value.int (nar .char c) = _
  rw [own_nch h0 h1]
theorem own_lc {x : Int64} (h1 : ¬ x < -128) (h2 : ¬ 127 < x) : ¬ (x.toInt32 + 128) < 0 ∧ (x.toInt32 + 128) < 256 ∧ ((x.toInt32 + 128) - 128).toInt64 = x := by
  rw [Int64.lt_iff_toInt_lt] at h1 h2
  have e1 : (-128 : Int64).toInt = -128 := rfl
  have e2 : (127 : Int64).toInt = 127 := rfl
  rw [e1] at h1; rw [e2] at h2
  have hx : x.toInt32.toInt = x.toInt := by rw [Int64.toInt_toInt32]; exact Int.bmod_eq_of_le (by omega) (by omega)
  have hs : (x.toInt32 + 128).toInt = x.toInt + 128 := by
    rw [Int32.toInt_add, hx]; show (x.toInt + 128).bmod _ = _; exact Int.bmod_eq_of_le (by omega) (by omega)
  refine ⟨?_, ?_, ?_⟩
  · rw [Int32.lt_iff_toInt_lt, hs]; show ¬ _ < (0 : Int); omega
  · rw [Int32.lt_iff_toInt_lt, hs]; show _ < (256 : Int); omega
  · apply Int64.toInt_inj.mp
    rw [Int32.toInt_toInt64, Int32.toInt_sub, hs]
    show (x.toInt + 128 - 128).bmod _ = _
    rw [show x.toInt + 128 - 128 = x.toInt by omega]
    exact Int.bmod_eq_of_le (by omega) (by omega)
theorem own_and3 (y : Int32) : y &&& 3 = 0 ∨ y &&& 3 = 1 ∨ y &&& 3 = 2 ∨ y &&& 3 = 3 := by
  have c0 : own_N 0 = 0 := rfl
  have c1 : own_N 1 = 1 := rfl
  have c2 : own_N 2 = 2 := rfl
  have c3 : own_N 3 = 3 := rfl
  simp only [← own_N_inj, own_N3, c0, c1, c2, c3]
  omega
def own_sta (Z : State) (C n d : String) : Addr := match own_stv Z C n d with | .ref a => a | _ => 0
theorem own_sta_of {Z : State} {C n d : String} {v : Addr} {a : Array Value} (h : (Term.static C n d).eval a Z none [] Z = some (.ref v)) : own_sta Z C n d = v := by
  unfold own_sta; rw [own_stv_of h]
theorem own_new (X : OSt Z EL a0 n0 h0 ws own bytes mx p l e R s m args below meth c sv T h k n) (pc' : Nat) {C : String} {index z : Nat} (hd : decode bytes pc = .ok (.new index, 3)) (w : (Cond.classLink own index C).before a0 Z = true) (wi : (Cond.instantiable C z).before a0 Z = true) (wz : (Cond.initialized C).before a0 Z = true) (hc : k + 1 ≤ R.cells) (hl : n + z ≤ R.slots) (hq : pc' = pc + 3)
    (K : ∀ (T' : State) (h' : Heap) (b : Addr), OSt Z EL a0 n0 h0 ws own bytes mx p l e R s m args below meth c (b :: sv) T' h' (k + 1) (n + z) → Keep h h' [] → h.size ≤ b → b < h'.size → Exa Z h' b C → (∀ {O nm d : String} {ty : FieldType}, Laid Z a0 C O nm d → parseFieldDescriptor d = some ty → Fld Z h' b O nm d (defaultValue ty)) → OGo p.tables e below P T' (mkF m pc' Ls (.ref b :: st))) : OGo p.tables e below P T (mkF m pc Ls st) := by
  subst hq
  obtain ⟨hx, hby, hml, eT, hlk, vm0, locs, Y, I⟩ := X
  obtain ⟨T', h', Y', e', E, A, D, -, stp⟩ := newO Y hx (show Z.Warmed39 (s.setVm vm0).vm from I.2.2.2.2.1) (show (s.setVm vm0).vm.findClass own = _ from I.2.2.2.2.2.1) w wi wz eT (g := mkF m pc Ls st) rfl (hb hby hd) hc hl
  exact og stp (K T' h' h.size ⟨hx, hby, hml, e', hlk, vm0, locs, Y', I.new E (Nat.le_refl _) A.lt⟩ ((Keep.refl _ _).ext E) (Nat.le_refl _) A.lt A D)
theorem own_arr (X : OSt Z EL a0 n0 h0 ws own bytes mx p l e R s m args below meth c sv T h k n) (pc' : Nat) {aty : ArrayType} {z : Int32} (hd : decode bytes pc = .ok (.newarray aty, 2)) (w : (Cond.arrayClass (newarray.typeOf aty)).before a0 Z = true) (hz : ¬ z < 0) {cap : Nat} (hcap : z.toNatClampNeg = cap) (hbig : cap * 8 ≤ 536870912) (hc : k + 1 ≤ R.cells) (hl : n + cap ≤ R.slots) (hq : pc' = pc + 2)
    (K : ∀ (T' : State) (h' : Heap) (b : Addr) (kb : ClassId), OSt Z EL a0 n0 h0 ws own bytes mx p l e R s m args below meth c (b :: sv) T' h' (k + 1) (n + cap) → Keep h h' [] → h.size ≤ b → b < h'.size → Arv Z h' b kb (newarray.typeOf aty) z (List.replicate cap (defaultValue (newarray.typeOf aty))) (defaultValue (newarray.typeOf aty)) → OGo p.tables e below P T' (mkF m pc' Ls (.ref b :: st))) : OGo p.tables e below P T (mkF m pc Ls (.int z :: st)) := by
  subst hq
  obtain ⟨hx, hby, hml, eT, hlk, vm0, locs, Y, I⟩ := X
  obtain ⟨T', h', kb, Y', e', E, A, stp⟩ := newP Y hx (show Z.Warmed39 (s.setVm vm0).vm from I.2.2.2.2.1) w eT (g := mkF m pc Ls (.int z :: st)) rfl (hb hby hd) rfl hz (cap := cap) (Nat.le_of_eq hcap) hbig hc hl
  have V := (Arv.new A hz).pad (pad_rep [] (defaultValue (newarray.typeOf aty)) cap)
  rw [List.nil_append] at V
  exact og stp (K T' h' h.size kb ⟨hx, hby, hml, e', hlk, vm0, locs, Y', I.new E (Nat.le_refl _) A.lt⟩ ((Keep.refl _ _).ext E) (Nat.le_refl _) A.lt V)
theorem own_anew (X : OSt Z EL a0 n0 h0 ws own bytes mx p l e R s m args below meth c sv T h k n) (pc' : Nat) {C : String} {index : Nat} {z : Int32} (hd : decode bytes pc = .ok (.anewarray index, 3)) (w : (Cond.classLink own index C).before a0 Z = true) (w2 : (Cond.arrayOver (.object C)).before a0 Z = true) (hz : ¬ z < 0) {cap : Nat} (hcap : z.toNatClampNeg = cap) (hbig : cap * 8 ≤ 536870912) (hc : k + 1 ≤ R.cells) (hl : n + cap ≤ R.slots) (hq : pc' = pc + 3)
    (K : ∀ (T' : State) (h' : Heap) (b : Addr) (kb : ClassId), OSt Z EL a0 n0 h0 ws own bytes mx p l e R s m args below meth c (b :: sv) T' h' (k + 1) (n + cap) → Keep h h' [] → h.size ≤ b → b < h'.size → Arv Z h' b kb (.object C) z (List.replicate cap .null) .null → Ovr Z kb C → OGo p.tables e below P T' (mkF m pc' Ls (.ref b :: st))) : OGo p.tables e below P T (mkF m pc Ls (.int z :: st)) := by
  subst hq
  obtain ⟨hx, hby, hml, eT, hlk, vm0, locs, Y, I⟩ := X
  obtain ⟨T', h', kb, Y', e', E, A, O, stp⟩ := newR Y hx (show Z.Warmed39 (s.setVm vm0).vm from I.2.2.2.2.1) (show (s.setVm vm0).vm.findClass own = _ from I.2.2.2.2.2.1) w w2 eT (g := mkF m pc Ls (.int z :: st)) rfl (hb hby hd) rfl hz (cap := cap) (Nat.le_of_eq hcap) hbig hc hl
  have V := (Arv.new A hz).pad (pad_rep [] (defaultValue (.object C)) cap)
  rw [List.nil_append] at V
  exact og stp (K T' h' h.size kb ⟨hx, hby, hml, e', hlk, vm0, locs, Y', I.new E (Nat.le_refl _) A.lt⟩ ((Keep.refl _ _).ext E) (Nat.le_refl _) A.lt V O)
theorem own_put (X : OSt Z EL a0 n0 h0 ws own bytes mx p l e R s m args below meth c sv T h k n) (pc' : Nat) {R0 O nm d host C : String} {index kk : Nat} {ty : FieldType} {a : Addr} {v old : Value} (hd : decode bytes pc = .ok (.putfield index, 3)) (w : (Cond.fieldLink own index R0 nm d).before a0 Z = true ∨ (Cond.fieldLinkNest own index R0 nm d host).before a0 Z = true) (via : Via Z R0 O nm d)
    (F : Fld Z h a O nm d old) (E : Exa Z h a C) (L : (Cond.lays C O nm d).before a0 Z = true ∨ ((Cond.laysFinal C O nm d).before a0 Z = true ∧ own = O ∧ meth.name = "<init>")) (wi : (Cond.instantiable C kk).before a0 Z = true) (hty : parseFieldDescriptor d = some ty) (hn : narrow ty v = v) (hf : fits ty v = true) (ha : a ∈ sv) (hq : pc' = pc + 3)
    (K : ∀ (T' : State) (h' : Heap), OSt Z EL a0 n0 h0 ws own bytes mx p l e R s m args below meth c sv T' h' k n → Wr h h' a (RoadKit.slotOf Z O nm d) v → Keep h h' [a] → Fld Z h' a O nm d v → OGo p.tables e below P T' (mkF m pc' Ls st)) : OGo p.tables e below P T (mkF m pc Ls (v :: .ref a :: st)) := by
  subst hq
  obtain ⟨hx, hby, hml, eT, hlk, vm0, locs, Y, I⟩ := X
  obtain ⟨T', h', Y', e', W, stp⟩ := putF Y hx (show Z.Warmed39 (s.setVm vm0).vm from I.2.2.2.2.1) (show (s.setVm vm0).vm.findClass own = _ from I.2.2.2.2.2.1) w via eT F E L wi hty hn hf (g := mkF m pc Ls (v :: .ref a :: st)) rfl rfl (hb hby hd)
  exact og stp (K T' h' ⟨hx, hby, hml, e', hlk, vm0, _, Y', I.wr ha W⟩ W (Keep.of_wr W) (F.same W))
theorem own_get (X : OSt Z EL a0 n0 h0 ws own bytes mx p l e R s m args below meth c sv T h k n) (pc' : Nat) {R0 O nm d host : String} {index : Nat} {a : Addr} {v : Value} (hd : decode bytes pc = .ok (.getfield index, 3)) (w : (Cond.fieldLink own index R0 nm d).before a0 Z = true ∨ (Cond.fieldLinkNest own index R0 nm d host).before a0 Z = true) (via : Via Z R0 O nm d) (F : Fld Z h a O nm d v) (hq : pc' = pc + 3)
    (K : ∀ (T' : State), OSt Z EL a0 n0 h0 ws own bytes mx p l e R s m args below meth c sv T' h k n → OGo p.tables e below P T' (mkF m pc' Ls (v :: st))) : OGo p.tables e below P T (mkF m pc Ls (.ref a :: st)) := by
  subst hq
  obtain ⟨hx, hby, hml, eT, hlk, vm0, locs, Y, I⟩ := X
  obtain ⟨T', Y', e', stp⟩ := getF Y hx (show Z.Warmed39 (s.setVm vm0).vm from I.2.2.2.2.1) (show (s.setVm vm0).vm.findClass own = _ from I.2.2.2.2.2.1) w via eT F (g := mkF m pc Ls (.ref a :: st)) rfl rfl (hb hby hd)
  exact og stp (K T' ⟨hx, hby, hml, e', hlk, vm0, _, Y', I⟩)
theorem own_getS (X : OSt Z EL a0 n0 h0 ws own bytes mx p l e R s m args below meth c sv T h k n) (pc' : Nat) {R0 O nm d host : String} {index : Nat} {v : Value} (hd : decode bytes pc = .ok (.getstatic index, 3)) (w : (Cond.fieldLink own index R0 nm d).before a0 Z = true ∨ (Cond.fieldLinkNest own index R0 nm d host).before a0 Z = true) (via : Via Z R0 O nm d) (F : Sta Z Z.heap O nm d v) (hq : pc' = pc + 3)
    (K : ∀ (T' : State), OSt Z EL a0 n0 h0 ws own bytes mx p l e R s m args below meth c sv T' h k n → OGo p.tables e below P T' (mkF m pc' Ls (v :: st))) : OGo p.tables e below P T (mkF m pc Ls st) := by
  subst hq
  have O1 := X.old
  obtain ⟨hx, hby, hml, eT, hlk, vm0, locs, Y, I⟩ := X
  obtain ⟨T', Y', e', stp⟩ := getS2 Y hx (show Z.Warmed39 (s.setVm vm0).vm from I.2.2.2.2.1) (show (s.setVm vm0).vm.findClass own = _ from I.2.2.2.2.2.1) w via eT (F.ext O1.2) (g := mkF m pc Ls st) rfl (hb hby hd)
  exact og stp (K T' ⟨hx, hby, hml, e', hlk, vm0, _, Y', I⟩)
theorem own_cast (X : OSt Z EL a0 n0 h0 ws own bytes mx p l e R s m args below meth c sv T h k n) (pc' : Nat) {C : String} {index : Nat} {a : Addr} (hd : decode bytes pc = .ok (.checkcast index, 3)) (w : (Cond.classLink own index C).before a0 Z = true) (F : Ins Z h a C true) (hq : pc' = pc + 3)
    (K : ∀ (T' : State), OSt Z EL a0 n0 h0 ws own bytes mx p l e R s m args below meth c sv T' h k n → OGo p.tables e below P T' (mkF m pc' Ls (.ref a :: st))) : OGo p.tables e below P T (mkF m pc Ls (.ref a :: st)) := by
  subst hq
  obtain ⟨hx, hby, hml, eT, hlk, vm0, locs, Y, I⟩ := X
  obtain ⟨T', Y', e', stp⟩ := castY Y hx (show Z.Warmed39 (s.setVm vm0).vm from I.2.2.2.2.1) (show (s.setVm vm0).vm.findClass own = _ from I.2.2.2.2.2.1) w eT F (g := mkF m pc Ls (.ref a :: st)) rfl rfl (hb hby hd)
  exact og stp (K T' ⟨hx, hby, hml, e', hlk, vm0, _, Y', I⟩)
theorem own_instY (X : OSt Z EL a0 n0 h0 ws own bytes mx p l e R s m args below meth c sv T h k n) (pc' : Nat) {C : String} {index : Nat} {a : Addr} (hd : decode bytes pc = .ok (.instanceof index, 3)) (w : (Cond.classLink own index C).before a0 Z = true) (F : Ins Z h a C true) (hq : pc' = pc + 3)
    (K : ∀ (T' : State), OSt Z EL a0 n0 h0 ws own bytes mx p l e R s m args below meth c sv T' h k n → OGo p.tables e below P T' (mkF m pc' Ls (.int 1 :: st))) : OGo p.tables e below P T (mkF m pc Ls (.ref a :: st)) := by
  subst hq
  obtain ⟨hx, hby, hml, eT, hlk, vm0, locs, Y, I⟩ := X
  obtain ⟨T', Y', e', stp⟩ := instY Y hx (show Z.Warmed39 (s.setVm vm0).vm from I.2.2.2.2.1) (show (s.setVm vm0).vm.findClass own = _ from I.2.2.2.2.2.1) w eT F (g := mkF m pc Ls (.ref a :: st)) rfl rfl (hb hby hd)
  exact og stp (K T' ⟨hx, hby, hml, e', hlk, vm0, _, Y', I⟩)
theorem own_instN (X : OSt Z EL a0 n0 h0 ws own bytes mx p l e R s m args below meth c sv T h k n) (pc' : Nat) {C C' : String} {index : Nat} {a : Addr} (hd : decode bytes pc = .ok (.instanceof index, 3)) (w : (Cond.classLink own index C).before a0 Z = true) (F : Ins Z h0 a C false) (E : Exa Z h0 a C') (hq : pc' = pc + 3)
    (K : ∀ (T' : State), OSt Z EL a0 n0 h0 ws own bytes mx p l e R s m args below meth c sv T' h k n → OGo p.tables e below P T' (mkF m pc' Ls (.int 0 :: st))) : OGo p.tables e below P T (mkF m pc Ls (.ref a :: st)) := by
  subst hq
  obtain ⟨hx, hby, hml, eT, hlk, vm0, locs, Y, I⟩ := X
  have e0 : (s.setVm vm0).heap = h0 := I.1
  obtain ⟨T', Y', e', stp⟩ := instN Y hx (show Z.Warmed39 (s.setVm vm0).vm from I.2.2.2.2.1) (show (s.setVm vm0).vm.findClass own = _ from I.2.2.2.2.2.1) w eT (by rw [e0]; exact F) (by rw [e0]; exact E) (g := mkF m pc Ls (.ref a :: st)) rfl rfl (hb hby hd)
  exact og stp (K T' ⟨hx, hby, hml, e', hlk, vm0, _, Y', I⟩)
theorem own_obj0 (X : OSt Z EL a0 n0 h0 ws own bytes mx p l e R s m args below meth c sv T h k n) (pc' : Nat) {index : Nat} {a : Addr} (hd : decode bytes pc = .ok (.invokespecial index, 3)) (w1 : (Cond.methodLink own index Lib.objectInit).before a0 Z = true) (w2 : (Cond.instanceMethod Lib.objectInit).before a0 Z = true) (w3 : (Cond.code Lib.objectInit ⟨#[0xb1]⟩ 1 none).before a0 Z = true) (hsz : Ls.size = mx) {W : Nat} (hW : (st.map fun v => v.category).sum = W) (hf : 1 ≤ R.frames) (hl : W + 12 ≤ R.locals) (hq : pc' = pc + 3)
    (K : ∀ (T' : State), OSt Z EL a0 n0 h0 ws own bytes mx p l e R s m args below meth c sv T' h k n → OGo p.tables e below P T' (mkF m pc' Ls st)) : OGo p.tables e below P T (mkF m pc Ls (.ref a :: st)) := by
  subst hq
  obtain ⟨hx, hby, hml, eT, hlk, vm0, locs, Y, I⟩ := X
  obtain ⟨T', Y', e', stp⟩ := initO Y hx (show Z.Warmed39 (s.setVm vm0).vm from I.2.2.2.2.1) (show (s.setVm vm0).vm.findClass own = _ from I.2.2.2.2.2.1) w1 w2 w3 eT (g := mkF m pc Ls (.ref a :: st)) rfl (by rw [hml]; exact hsz) rfl (hb hby hd) hf (W := W) (by show 2 * 0 + _ ≤ _; rw [hW]; omega) hl
  exact og stp (K T' ⟨hx, hby, hml, e', hlk, vm0, _, Y', I⟩)
theorem own_inb {cl : Cell} {z j : Int32} (S : cl.slots.size = z.toNatClampNeg) (h1 : ¬ j < 0) (h2 : j < z) : ¬ (j < 0 ∨ cl.slots.size ≤ j.toNatClampNeg) := inb_of S ⟨h1, h2⟩
theorem own_stC (X : OSt Z EL a0 n0 h0 ws own bytes mx p l e R s m args below meth c sv T h k n) (pc' : Nat) {a : Addr} {kb : ClassId} {z j x x' : Int32} {vs : List Value} {dv : Value} (hd : decode bytes pc = .ok (.castore, 1)) (A : Arv Z h a kb .char z vs dv) (hx' : nar .char x = x') (h1 : ¬ j < 0) (h2 : j < z) {i : Nat} (hi : j.toNatClampNeg = i) (hl : i < vs.length) (ha : a ∈ sv) (hq : pc' = pc + 1)
    (K : ∀ (T' : State) (h' : Heap), OSt Z EL a0 n0 h0 ws own bytes mx p l e R s m args below meth c sv T' h' k n → Wr h h' a j.toNatClampNeg (.int x') → Keep h h' [a] → Arv Z h' a kb .char z (vs.set i (.int x')) dv → OGo p.tables e below P T' (mkF m pc' Ls st)) : OGo p.tables e below P T (mkF m pc Ls (.int x :: .int j :: .ref a :: st)) := by
  subst hq hx'
  obtain ⟨hx, hby, hml, eT, hlk, vm0, locs, Y, I⟩ := X
  obtain ⟨cl, Ar, q, S, N, Hs, G⟩ := A
  obtain ⟨T', h', Y', e', W, stp⟩ := stC Y hx (show Z.Warmed39 (s.setVm vm0).vm from I.2.2.2.2.1) eT Ar (j := j) (x := x) (own_inb S h1 h2) (g := mkF m pc Ls (.int x :: .int j :: .ref a :: st)) rfl rfl (hb hby hd)
  exact og stp (K T' h' ⟨hx, hby, hml, e', hlk, vm0, _, Y', I.wr ha W⟩ W (Keep.of_wr W) (Arv.set Ar q S N Hs G (fits_nar_char _) W i hi hl))
theorem own_stB (X : OSt Z EL a0 n0 h0 ws own bytes mx p l e R s m args below meth c sv T h k n) (pc' : Nat) {a : Addr} {kb : ClassId} {z j x x' : Int32} {vs : List Value} {dv : Value} (hd : decode bytes pc = .ok (.bastore, 1)) (A : Arv Z h a kb .byte z vs dv) (hx' : x.toInt8.toInt32 = x') (h1 : ¬ j < 0) (h2 : j < z) {i : Nat} (hi : j.toNatClampNeg = i) (hl : i < vs.length) (ha : a ∈ sv) (hq : pc' = pc + 1)
    (K : ∀ (T' : State) (h' : Heap), OSt Z EL a0 n0 h0 ws own bytes mx p l e R s m args below meth c sv T' h' k n → Wr h h' a j.toNatClampNeg (.int x') → Keep h h' [a] → Arv Z h' a kb .byte z (vs.set i (.int x')) dv → OGo p.tables e below P T' (mkF m pc' Ls st)) : OGo p.tables e below P T (mkF m pc Ls (.int x :: .int j :: .ref a :: st)) := by
  subst hq hx'
  obtain ⟨hx, hby, hml, eT, hlk, vm0, locs, Y, I⟩ := X
  obtain ⟨cl, Ar, q, S, N, Hs, G⟩ := A
  obtain ⟨T', h', Y', e', W, stp⟩ := stB Y hx (show Z.Warmed39 (s.setVm vm0).vm from I.2.2.2.2.1) eT Ar (j := j) (x := x) (own_inb S h1 h2) (g := mkF m pc Ls (.int x :: .int j :: .ref a :: st)) rfl rfl (hb hby hd)
  exact og stp (K T' h' ⟨hx, hby, hml, e', hlk, vm0, _, Y', I.wr ha W⟩ W (Keep.of_wr W) (Arv.set Ar q S N Hs G (fits_nar_byte _) W i hi hl))
theorem own_stR (X : OSt Z EL a0 n0 h0 ws own bytes mx p l e R s m args below meth c sv T h k n) (pc' : Nat) {a : Addr} {kb : ClassId} {ty : FieldType} {z j : Int32} {v : Value} {vs : List Value} {dv : Value} (hd : decode bytes pc = .ok (.aastore, 1)) (A : Arv Z h a kb ty z vs dv) (hty : ty.isReference = true) (hf : fits ty v = true) (F : Sto Z h a v) (h1 : ¬ j < 0) (h2 : j < z) {i : Nat} (hi : j.toNatClampNeg = i) (hl : i < vs.length) (ha : a ∈ sv) (hq : pc' = pc + 1)
    (K : ∀ (T' : State) (h' : Heap), OSt Z EL a0 n0 h0 ws own bytes mx p l e R s m args below meth c sv T' h' k n → Wr h h' a j.toNatClampNeg v → Keep h h' [a] → Arv Z h' a kb ty z (vs.set i v) dv → OGo p.tables e below P T' (mkF m pc' Ls st)) : OGo p.tables e below P T (mkF m pc Ls (v :: .int j :: .ref a :: st)) := by
  subst hq
  obtain ⟨hx, hby, hml, eT, hlk, vm0, locs, Y, I⟩ := X
  obtain ⟨cl, Ar, q, S, N, Hs, G⟩ := A
  obtain ⟨T', h', Y', e', W, stp⟩ := stR Y hx (show Z.Warmed39 (s.setVm vm0).vm from I.2.2.2.2.1) eT Ar (j := j) (v := v) (own_inb S h1 h2) hty F (g := mkF m pc Ls (v :: .int j :: .ref a :: st)) rfl rfl (hb hby hd)
  exact og stp (K T' h' ⟨hx, hby, hml, e', hlk, vm0, _, Y', I.wr ha W⟩ W (Keep.of_wr W) (Arv.set Ar q S N Hs G hf W i hi hl))
theorem own_len (X : OSt Z EL a0 n0 h0 ws own bytes mx p l e R s m args below meth c sv T h k n) (pc' : Nat) {a : Addr} {kb : ClassId} {ty : FieldType} {z : Int32} {vs : List Value} {dv : Value} (hd : decode bytes pc = .ok (.arraylength, 1)) (A : Arv Z h a kb ty z vs dv) (hq : pc' = pc + 1) (K : OGo p.tables e below P T (mkF m pc' Ls (.int z :: st))) : OGo p.tables e below P T (mkF m pc Ls (.ref a :: st)) := by
  subst hq
  obtain ⟨hx, hby, hml, eT, hlk, vm0, locs, Y, I⟩ := X
  obtain ⟨cl, Ar, q, S, N, Hs, G⟩ := A
  refine og (fun _ r => Y.arraylength hx (by rw [eT]; exact Ar.1) (State.isArrayOf_alike (show Z.Warmed39 (s.setVm vm0).vm from I.2.2.2.2.1).alike Ar.2.1) (g := mkF m pc Ls (.ref a :: st)) rfl rfl (hb hby hd) _ r) ?_
  rw [len_of S N]; exact K
theorem own_ldC (X : OSt Z EL a0 n0 h0 ws own bytes mx p l e R s m args below meth c sv T h k n) (pc' : Nat) {a : Addr} {kb : ClassId} {z j : Int32} {v : Value} {vs : List Value} {dv : Value} (hd : decode bytes pc = .ok (.caload, 1)) (A : Arv Z h a kb .char z vs dv) (h1 : ¬ j < 0) (h2 : j < z) (hv : vs.getD j.toNatClampNeg dv = v) (hq : pc' = pc + 1) (K : OGo p.tables e below P T (mkF m pc' Ls (v :: st))) : OGo p.tables e below P T (mkF m pc Ls (.int j :: .ref a :: st)) := by
  subst hq
  obtain ⟨hx, hby, hml, eT, hlk, vm0, locs, Y, I⟩ := X
  obtain ⟨cl, Ar, q, S, N, Hs, G⟩ := A
  exact og (fun _ r => Y.caload hx (j := j) (v := v) (by rw [eT]; exact Ar.1) (State.isArrayOf_alike (show Z.Warmed39 (s.setVm vm0).vm from I.2.2.2.2.1).alike Ar.2.1) Ar.2.2 (own_inb S h1 h2) (Hs.at (own_inb S h1 h2) hv) (g := mkF m pc Ls (.int j :: .ref a :: st)) rfl rfl (hb hby hd) _ r) K
theorem own_ldB (X : OSt Z EL a0 n0 h0 ws own bytes mx p l e R s m args below meth c sv T h k n) (pc' : Nat) {a : Addr} {kb : ClassId} {z j : Int32} {v : Value} {vs : List Value} {dv : Value} (hd : decode bytes pc = .ok (.baload, 1)) (A : Arv Z h a kb .byte z vs dv) (h1 : ¬ j < 0) (h2 : j < z) (hv : vs.getD j.toNatClampNeg dv = v) (hq : pc' = pc + 1) (K : OGo p.tables e below P T (mkF m pc' Ls (v :: st))) : OGo p.tables e below P T (mkF m pc Ls (.int j :: .ref a :: st)) := by
  subst hq
  obtain ⟨hx, hby, hml, eT, hlk, vm0, locs, Y, I⟩ := X
  obtain ⟨cl, Ar, q, S, N, Hs, G⟩ := A
  exact og (fun _ r => Y.baloadBytes hx (j := j) (v := v) (by rw [eT]; exact Ar.1) (State.isArrayOf_alike (show Z.Warmed39 (s.setVm vm0).vm from I.2.2.2.2.1).alike Ar.2.1) Ar.2.2 (own_inb S h1 h2) (Hs.at (own_inb S h1 h2) hv) (g := mkF m pc Ls (.int j :: .ref a :: st)) rfl rfl (hb hby hd) _ r) K
theorem own_ldR (X : OSt Z EL a0 n0 h0 ws own bytes mx p l e R s m args below meth c sv T h k n) (pc' : Nat) {a : Addr} {kb : ClassId} {ty : FieldType} {z j : Int32} {v : Value} {vs : List Value} {dv : Value} (hd : decode bytes pc = .ok (.aaload, 1)) (A : Arv Z h a kb ty z vs dv) (hty : ty.isReference = true) (h1 : ¬ j < 0) (h2 : j < z) (hv : vs.getD j.toNatClampNeg dv = v) (hq : pc' = pc + 1) (K : OGo p.tables e below P T (mkF m pc' Ls (v :: st))) : OGo p.tables e below P T (mkF m pc Ls (.int j :: .ref a :: st)) := by
  subst hq
  obtain ⟨hx, hby, hml, eT, hlk, vm0, locs, Y, I⟩ := X
  obtain ⟨cl, Ar, q, S, N, Hs, G⟩ := A
  exact og (fun _ r => Y.aaload hx (j := j) (v := v) (by rw [eT]; exact Ar.1) (State.isArrayOf_alike (show Z.Warmed39 (s.setVm vm0).vm from I.2.2.2.2.1).alike Ar.2.1) hty Ar.2.2 (own_inb S h1 h2) (Hs.at (own_inb S h1 h2) hv) (g := mkF m pc Ls (.int j :: .ref a :: st)) rfl rfl (hb hby hd) _ r) K
theorem own_ldcI (X : OSt Z EL a0 n0 h0 ws own bytes mx p l e R s m args below meth c sv T h k n) (pc' : Nat) {index : Nat} {v : Int32} (hd : decode bytes pc = .ok (.ldc index, 2)) (w : (Cond.constant own index v).before a0 Z = true) (hq : pc' = pc + 2) (K : OGo p.tables e below P T (mkF m pc' Ls (.int v :: st))) : OGo p.tables e below P T (mkF m pc Ls st) := by
  subst hq
  obtain ⟨hx, hby, hml, eT, hlk, vm0, locs, Y, I⟩ := X
  exact og (fun _ r => Y.ldcInt hx (show (s.setVm vm0).vm.findClass own = _ from I.2.2.2.2.2.1) (mvT (show Z.Warmed39 (s.setVm vm0).vm from I.2.2.2.2.1) w) (g := mkF m pc Ls st) rfl (hb hby hd) _ r) K
theorem own_instNull (X : OSt Z EL a0 n0 h0 ws own bytes mx p l e R s m args below meth c sv T h k n) (pc' : Nat) {index : Nat} (hd : decode bytes pc = .ok (.instanceof index, 3)) (hq : pc' = pc + 3) (K : OGo p.tables e below P T (mkF m pc' Ls (.int 0 :: st))) : OGo p.tables e below P T (mkF m pc Ls (.null :: st)) := by
  subst hq
  obtain ⟨hx, hby, hml, eT, hlk, vm0, locs, Y, I⟩ := X
  exact og (fun _ r => Y.instanceofNull hx (g := mkF m pc Ls (.null :: st)) rfl rfl (hb hby hd) _ r) K
theorem own_castNull (X : OSt Z EL a0 n0 h0 ws own bytes mx p l e R s m args below meth c sv T h k n) (pc' : Nat) {index : Nat} (hd : decode bytes pc = .ok (.checkcast index, 3)) (hq : pc' = pc + 3) (K : OGo p.tables e below P T (mkF m pc' Ls (.null :: st))) : OGo p.tables e below P T (mkF m pc Ls (.null :: st)) := by
  subst hq
  obtain ⟨hx, hby, hml, eT, hlk, vm0, locs, Y, I⟩ := X
  exact og (fun _ r => Y.checkcastNull hx (g := mkF m pc Ls (.null :: st)) rfl rfl (hb hby hd) _ r) K
theorem own_instNo (X : OSt Z EL a0 n0 h0 ws own bytes mx p l e R s m args below meth c sv T h k n) (pc' : Nat) {C C' : String} {index : Nat} {a : Addr} (hd : decode bytes pc = .ok (.instanceof index, 3)) (w : (Cond.classLink own index C).before a0 Z = true) (E : Exa Z h a C') (F : ∃ c t, Z.vm.findClass C' = some c ∧ Z.vm.findClass C = some t ∧ Z.vm.assignable c t = false) (hq : pc' = pc + 3)
    (K : ∀ (T' : State), OSt Z EL a0 n0 h0 ws own bytes mx p l e R s m args below meth c sv T' h k n → OGo p.tables e below P T' (mkF m pc' Ls (.int 0 :: st))) : OGo p.tables e below P T (mkF m pc Ls (.ref a :: st)) := by
  subst hq
  obtain ⟨hx, hby, hml, eT, hlk, vm0, locs, Y, I⟩ := X
  obtain ⟨T', Y', e', stp⟩ := instNo Y hx (show Z.Warmed39 (s.setVm vm0).vm from I.2.2.2.2.1) (show (s.setVm vm0).vm.findClass own = _ from I.2.2.2.2.2.1) w eT E F (g := mkF m pc Ls (.ref a :: st)) rfl rfl (hb hby hd)
  exact og stp (K T' ⟨hx, hby, hml, e', hlk, vm0, _, Y', I⟩)
theorem own_nsRoot {O C : String} {kk : Nat} (w : (Cond.noSuperclass O).before a0 Z = true) (wk : (Cond.instantiable C kk).before a0 Z = true) (hn : O ≠ C) : NS Z O C := by
  obtain ⟨c, k, h1, h2, h3, -, -⟩ := Cond.noSuperclass_spec w
  obtain ⟨t, k2, g1, -⟩ := Cond.instantiable_spec wk
  have ne := ids_ne h1 g1 hn
  refine ⟨c, t, h1, g1, fun fuel => ?_⟩
  cases fuel with
  | zero => rfl
  | succ f => simp [Vm.isSubclassAux, ne, h2, h3]
theorem own_nsNo {C S K' : String} {kk : Nat} (w : (Cond.superclass C S).before a0 Z = true) (wk : (Cond.instantiable K' kk).before a0 Z = true) (N : NS Z C K') (hn : C ≠ K') : ∃ c t, Z.vm.findClass C = some c ∧ Z.vm.findClass K' = some t ∧ Z.vm.assignable c t = false := by
  obtain ⟨c, t, h0, g0, n3⟩ := N
  obtain ⟨p, k, kp, h1, h2, h3, h4, h5, -, h7⟩ := Cond.superclass_spec h0 w
  obtain ⟨t', k2, g1, g2, g3, g4, -⟩ := Cond.instantiable_spec wk
  cases g0.symm.trans g1
  have ne := ids_ne h0 g0 hn
  have g5 : k2.isInterface = false := by
    cases hi : k2.isInterface with
    | false => rfl
    | true => rw [hi] at g4; simp at g4
  refine ⟨c, t, h0, g0, ?_⟩
  show Z.vm.assignableAux (255 + 1) c t = false
  simp [Vm.assignableAux, ne, h2, g2, h5, g3, g5, Vm.isSubclass, n3]
theorem own_ldc2L (X : OSt Z EL a0 n0 h0 ws own bytes mx p l e R s m args below meth c sv T h k n) (pc' : Nat) {index : Nat} {v : Int64} (hd : decode bytes pc = .ok (.ldc2_w index, 3)) (w : (Cond.constantLong own index v).before a0 Z = true) (hq : pc' = pc + 3) (K : OGo p.tables e below P T (mkF m pc' Ls (.long v :: st))) : OGo p.tables e below P T (mkF m pc Ls st) := by
  subst hq
  obtain ⟨hx, hby, hml, eT, hlk, vm0, locs, Y, I⟩ := X
  exact og (fun _ r => Y.ldc2Long hx (show (s.setVm vm0).vm.findClass own = _ from I.2.2.2.2.2.1) (mvT (show Z.Warmed39 (s.setVm vm0).vm from I.2.2.2.2.1) w) (g := mkF m pc Ls st) rfl (hb hby hd) _ r) K
theorem own_ldBox (X : OSt Z EL a0 n0 h0 ws own bytes mx p l e R s m args below meth c sv T h k n) (pc' : Nat) {a : Addr} {cl : Cell} {C d : String} {z j : Int32} {val : Int32 → Value} (hd : decode bytes pc = .ok (.aaload, 1)) (B : Bxs Z a cl C d z val) (h1 : ¬ j < 0) (h2 : j < z) (hq : pc' = pc + 1) (K : ∀ b : Addr, Exa Z h b C → Fld Z h b C "value" d (val j) → OGo p.tables e below P T (mkF m pc' Ls (.ref b :: st))) : OGo p.tables e below P T (mkF m pc Ls (.int j :: .ref a :: st)) := by
  subst hq
  have O1 := X.old
  obtain ⟨hx, hby, hml, eT, hlk, vm0, locs, Y, I⟩ := X
  obtain ⟨A, S, N, F⟩ := B
  obtain ⟨b, q1, q2, q3⟩ := F j (own_inb S h1 h2)
  exact og (fun _ r => Y.aaload hx (j := j) (v := .ref b) (by rw [eT]; exact (A.ext O1.2).1) (State.isArrayOf_alike (show Z.Warmed39 (s.setVm vm0).vm from I.2.2.2.2.1).alike A.2.1) rfl A.2.2 (own_inb S h1 h2) q1 (g := mkF m pc Ls (.int j :: .ref a :: st)) rfl rfl (hb hby hd) _ r) (K b (q2.ext O1.2) (q3.ext O1.2))
def OMet (l : Launch) (Z : State) (EL : List (String × Nat)) (n0 : Nat) (y : MethodName) (wc : List Jvm.Cond) (rm : Room) (as' : Array Value) (h0 : Heap) (ws : List Addr) (Q : Option Value → Heap → Prop) : Prop :=
  MetFree l y (head1 wc rm) (fun a U => a = as' ∧ Z.Warmed39 U.vm ∧ U.heap = h0 ∧ CHv Z EL U.vm h0 ∧ ∀ x ∈ ws, Safe Z EL U.vm h0 x) (fun _ _ _ _ _ => True) (fun _ U o U' => OEnd Z EL n0 h0 ws U Q rm.cells rm.slots o U')
theorem own_enter {y : MethodName} {ret : Option FieldType} {wc : List Jvm.Cond} {rm : Room} {as' : Array Value} {Q : Option Value → Heap → Prop} (Ls : Array Slot) (hn : plainFor y = true) (ef : ∀ m, entryFrame m as' mx = mkF m 0 Ls []) (hEL : EW Z a0 EL) (O : Old Z n0 h0) (hlt : ∀ x ∈ ws, n0 ≤ x ∧ x < h0.size)
    (K : ∀ (p : Program) (e : Env) (s : State) (m : MethodId) (below : List Frame) (meth : Method) (c : Code) (T : State), OSt Z EL a0 n0 h0 ws y.cls bytes mx p l e rm s m as' below meth c ws T h0 0 0 → meth.name = y.name → meth.sig.returnType = ret → OGo p.tables e below (OEnd Z EL n0 h0 ws s Q rm.cells rm.slots) T (mkF m 0 Ls [])) :
    OMet l Z EL n0 y (Jvm.Cond.code y bytes mx ret :: wc) rm as' h0 ws Q := by
  refine MetFree.of_bodySF hn hisR ?_
  intro p e s m args below meth c s₁ Bd hml hP _
  obtain ⟨rfl, hZ, hh, hC, hS⟩ := hP
  have Y : Stand p l e rm (s.setVm s.vm) m args below meth c s₁ [] 0 0 := Stand.of_body Bd
  have hown := findClass_of_methodNamed Bd.named
  have e0 : s₁.heap = h0 := by rw [← hh, Bd.state]; rfl
  obtain ⟨t, o, g1, g2⟩ := K p e s m below meth c s₁ ⟨Bd.exec, Bd.bytes, hml, e0, Bd.notSynchronized, s.vm, [], Y, hh, O, Keep.refl _ _, ⟨_, (State.WarmedH.refl s).since _, Nat.le_refl _⟩, hZ, hown, hEL, by rw [hh]; exact CHr.refl hC, fun _ => rfl, Fr.nil _, fun x hx => ⟨(hlt x hx).1, (hlt x hx).2, Or.inl hx, hS x hx⟩⟩ (name_of_methodNamed Bd.named Bd.method).1 Bd.returns
  exact ⟨t, o, castTop (ef m) g1, g2⟩
theorem own_leave (X : OSt Z EL a0 n0 h0 ws own bytes mx p l e R s m args below meth c sv T h k n) {v : Option Value} {Q : Option Value → Heap → Prop} {k' n' : Nat} (hv : meth.sig.returnType = none → v = none) (hk : k ≤ k') (hn : n ≤ n') (hQ : Q v h) :
    ∃ fs, (∀ (f : JFrame) (acts : List Action), f.method = m → f.locked = none → f.entered = [] → (doReturn e (T.setTop f) acts v).1 = T.setFrames fs) ∧ (T.setFrames fs).status = .running ∧ Ended (T.setFrames fs) below (.returned v) ∧ OEnd Z EL n0 h0 ws s Q k' n' (.returned v) (T.setFrames fs) := by
  obtain ⟨hx, hby, hml, eT, hlk, vm0, locs, Y, b1, b2, b3, ⟨k0, b4, b4'⟩, b5, b6, b7, b8, b9, b10, b11⟩ := X.more hk hn
  obtain ⟨fs, h1, h2, h3, hW, hs⟩ := Y.leave hv hlk
  have C := CHv.at Y b5 b7 b8.1
  obtain ⟨q1, q2, q3⟩ := b4.ended (U := T.setFrames fs) hW (by show k0 ≤ T.heap.size; rw [eT]; exact b4') hs
  refine ⟨fs, h1, h2, h3, v, locs, rfl, ⟨b10, by show Keep h0 T.heap ws; rw [eT]; exact b3, by show Q v T.heap; rw [eT]; exact hQ⟩, by show CHr Z EL s.vm s.heap T.vm T.heap; rw [eT]; exact b8.trans C, ⟨⟨v, rfl⟩, q1, q2, q3⟩, fun hnil => ?_⟩
  have := b9 hnil
  subst this
  exact ⟨⟨v, rfl⟩, hW, hs⟩
theorem own_retV (X : OSt Z EL a0 n0 h0 ws own bytes mx p l e R s m args below meth c sv T h k n) {Q : Option Value → Heap → Prop} {k' n' : Nat} (hd : decode bytes pc = .ok (.return_, 1)) (hret : meth.sig.returnType = none) (hk : k ≤ k') (hn : n ≤ n') (hQ : Q none h) : OGo p.tables e below (OEnd Z EL n0 h0 ws s Q k' n') T (mkF m pc Ls []) := by
  obtain ⟨fs, h1, h2, h3, h4⟩ := own_leave X (fun _ => rfl) hk hn hQ
  have X' := X
  obtain ⟨hx, hby, hml, eT, hlk, vm0, locs, Y, -⟩ := X'
  exact ⟨_, _, Y.returnOut hx hret (hb hby hd) h1, h2, h3, h4⟩
theorem own_ret (X : OSt Z EL a0 n0 h0 ws own bytes mx p l e R s m args below meth c sv T h k n) {Q : Option Value → Heap → Prop} {k' n' : Nat} {t : FieldType} {w : Value} {i : Instr} (hd : decode bytes pc = .ok (i, 1)) (hret : meth.sig.returnType = some t) (hnw : narrow t w = w)
    (hi : (i = .ireturn ∧ (t = .int ∨ t = .boolean ∨ t = .byte ∨ t = .char ∨ t = .short) ∧ ∃ z, w = .int z) ∨ (i = .lreturn ∧ t = .long ∧ ∃ z, w = .long z) ∨ (i = .dreturn ∧ t = .double ∧ ∃ z, w = .double z) ∨ (i = .freturn ∧ t = .float ∧ ∃ z, w = .float z) ∨ (i = .areturn ∧ t.isReference = true ∧ w.isRef = true))
    (hk : k ≤ k') (hn : n ≤ n') (hQ : Q (some w) h) : OGo p.tables e below (OEnd Z EL n0 h0 ws s Q k' n') T (mkF m pc Ls (w :: st)) := by
  obtain ⟨fs, h1, h2, h3, h4⟩ := own_leave X (fun q => by rw [hret] at q; cases q) hk hn hQ
  have X' := X
  obtain ⟨hx, hby, hml, eT, hlk, vm0, locs, Y, -⟩ := X'
  exact ⟨_, _, retOut Y hx hret hnw hi (hb hby hd) h1, h2, h3, h4⟩
theorem own_retI (X : OSt Z EL a0 n0 h0 ws own bytes mx p l e R s m args below meth c sv T h k n) {Q : Option Value → Heap → Prop} {k' n' : Nat} {z : Int32} (hd : decode bytes pc = .ok (.ireturn, 1)) (hret : meth.sig.returnType = some .int) (hk : k ≤ k') (hn : n ≤ n') (hQ : Q (some (.int z)) h) : OGo p.tables e below (OEnd Z EL n0 h0 ws s Q k' n') T (mkF m pc Ls (.int z :: st)) :=
  own_ret X hd hret rfl (Or.inl ⟨rfl, Or.inl rfl, z, rfl⟩) hk hn hQ
theorem own_retZ (X : OSt Z EL a0 n0 h0 ws own bytes mx p l e R s m args below meth c sv T h k n) {Q : Option Value → Heap → Prop} {k' n' : Nat} {z : Int32} (hd : decode bytes pc = .ok (.ireturn, 1)) (hret : meth.sig.returnType = some .boolean) (hz : narrow .boolean (.int z) = .int z) (hk : k ≤ k') (hn : n ≤ n') (hQ : Q (some (.int z)) h) : OGo p.tables e below (OEnd Z EL n0 h0 ws s Q k' n') T (mkF m pc Ls (.int z :: st)) :=
  own_ret X hd hret hz (Or.inl ⟨rfl, Or.inr (Or.inl rfl), z, rfl⟩) hk hn hQ
theorem own_retC (X : OSt Z EL a0 n0 h0 ws own bytes mx p l e R s m args below meth c sv T h k n) {Q : Option Value → Heap → Prop} {k' n' : Nat} {z : Int32} (hd : decode bytes pc = .ok (.ireturn, 1)) (hret : meth.sig.returnType = some .char) (hz : narrow .char (.int z) = .int z) (hk : k ≤ k') (hn : n ≤ n') (hQ : Q (some (.int z)) h) : OGo p.tables e below (OEnd Z EL n0 h0 ws s Q k' n') T (mkF m pc Ls (.int z :: st)) :=
  own_ret X hd hret hz (Or.inl ⟨rfl, Or.inr (Or.inr (Or.inr (Or.inl rfl))), z, rfl⟩) hk hn hQ
theorem own_retY (X : OSt Z EL a0 n0 h0 ws own bytes mx p l e R s m args below meth c sv T h k n) {Q : Option Value → Heap → Prop} {k' n' : Nat} {z : Int32} (hd : decode bytes pc = .ok (.ireturn, 1)) (hret : meth.sig.returnType = some .byte) (hz : narrow .byte (.int z) = .int z) (hk : k ≤ k') (hn : n ≤ n') (hQ : Q (some (.int z)) h) : OGo p.tables e below (OEnd Z EL n0 h0 ws s Q k' n') T (mkF m pc Ls (.int z :: st)) :=
  own_ret X hd hret hz (Or.inl ⟨rfl, Or.inr (Or.inr (Or.inl rfl)), z, rfl⟩) hk hn hQ
theorem own_retL (X : OSt Z EL a0 n0 h0 ws own bytes mx p l e R s m args below meth c sv T h k n) {Q : Option Value → Heap → Prop} {k' n' : Nat} {z : Int64} (hd : decode bytes pc = .ok (.lreturn, 1)) (hret : meth.sig.returnType = some .long) (hk : k ≤ k') (hn : n ≤ n') (hQ : Q (some (.long z)) h) : OGo p.tables e below (OEnd Z EL n0 h0 ws s Q k' n') T (mkF m pc Ls (.long z :: st)) :=
  own_ret X hd hret rfl (Or.inr (Or.inl ⟨rfl, rfl, z, rfl⟩)) hk hn hQ
theorem own_narR {t : FieldType} {w : Value} (ht : t.isReference = true) (hw : w.isRef = true) : narrow t w = w := by
  rcases ref_cases hw with rfl | ⟨a, rfl⟩ <;> cases t <;> first | rfl | cases ht
theorem own_retA (X : OSt Z EL a0 n0 h0 ws own bytes mx p l e R s m args below meth c sv T h k n) {Q : Option Value → Heap → Prop} {k' n' : Nat} {t : FieldType} {w : Value} (hd : decode bytes pc = .ok (.areturn, 1)) (hret : meth.sig.returnType = some t) (ht : t.isReference = true) (hw : w.isRef = true) (hk : k ≤ k') (hn : n ≤ n') (hQ : Q (some w) h) : OGo p.tables e below (OEnd Z EL n0 h0 ws s Q k' n') T (mkF m pc Ls (w :: st)) :=
  own_ret X hd hret (own_narR ht hw) (Or.inr (Or.inr (Or.inr (Or.inr ⟨rfl, ht, hw⟩)))) hk hn hQ
theorem own_payN {vm0 : Vm} {y : MethodName} {maxL : Nat} {ret : Option FieldType} {rm : Room} {len W : Nat} {as' : Array Value} {ws' : List Addr} {Q : Option Value → Heap → Prop} {bc : ByteArray} (hnil : EL = []) (hM : OMet l Z EL n0 y [Jvm.Cond.code y bc maxL ret] rm as' h ws' Q) (hZ : Z.Warmed39 vm0) (wc : (Cond.code y bc maxL ret).before a0 Z = true) (wz : (Cond.initialized y.cls).before a0 Z = true) (hf : rm.frames + 1 ≤ R.frames) (hl : W + (maxL + 11) + rm.locals ≤ R.locals) (hEL : EW Z a0 EL) (H : CHv Z EL vm0 h) (hS : ∀ x ∈ ws', x < h.size ∧ Safe Z EL vm0 h x) :
    Back l R p e below (s.setVm vm0) args y len W (fun A a => a = as' ∧ A.U.heap = h ∧ A.cells + rm.cells ≤ R.cells ∧ A.slots + rm.slots ≤ R.slots)
      (fun A _ v B => ∃ L, (Fr n0 L ∧ Keep h B.U.heap ws' ∧ Q v B.U.heap) ∧ B.locs = A.locs ++ L ∧ B.cells = A.cells + rm.cells ∧ B.slots = A.slots + rm.slots) :=
  Back.of_free (bytes := bc) (maxL := maxL) (ret := ret) (E := fun _ _ o t L k n => k = rm.cells ∧ n = rm.slots ∧ ∃ v, o = .returned v ∧ (Fr n0 L ∧ Keep h t.heap ws' ∧ Q v t.heap)) hM hf hl
    (fun m meth c A a Y hp => have hU : Z.Warmed39 A.U.vm := wtrans (s := s.setVm vm0) hZ Y.warmed
      ⟨by show (Cond.and _ .tt).before a A.U = true; rw [Cond.before_and, mv hU wc]; rfl, mv hU wc, mv hU wz, hp.2.2.1, hp.2.2.2⟩)
    (fun m meth c A a g mk Y hp => ⟨hp.1, wtrans (s := s.setVm vm0) hZ Y.warmed, hp.2.1, (CHv.at Y hZ hEL H).1, fun x hx => (CHv.at Y hZ hEL H).safe (hS x hx).1 (hS x hx).2⟩) (fun _ _ _ _ _ _ _ _ _ => trivial)
    (fun _ _ _ _ ⟨v, L, h1, h2, _, _, h3⟩ => ⟨L, _, _, h3 hnil, rfl, rfl, v, h1, h2⟩)
    (fun m meth c A a g mk v t L k n Y hp _ _ ⟨e1, e2, v', e3, e4⟩ => by cases e3; subst e1 e2; exact ⟨L, e4, rfl, rfl, rfl⟩)
theorem own_payW {vm0 : Vm} {y : MethodName} {maxL : Nat} {ret : Option FieldType} {rm : Room} {len W : Nat} {as' : Array Value} {ws' : List Addr} {Q : Option Value → Heap → Prop} {bc : ByteArray} (hM : OMet l Z EL n0 y [Jvm.Cond.code y bc maxL ret] rm as' h ws' Q) (hZ : Z.Warmed39 vm0) (wc : (Cond.code y bc maxL ret).before a0 Z = true) (wz : (Cond.initialized y.cls).before a0 Z = true) (hf : rm.frames + 1 ≤ R.frames) (hl : W + (maxL + 11) + rm.locals ≤ R.locals) (hEL : EW Z a0 EL) (H : CHv Z EL vm0 h) (hS : ∀ x ∈ ws', x < h.size ∧ Safe Z EL vm0 h x) :
    BackS l R p e below (s.setVm vm0) args y len W (fun A a => a = as' ∧ A.U.heap = h ∧ A.cells + rm.cells ≤ R.cells ∧ A.slots + rm.slots ≤ R.slots)
      (fun A _ v B => ∃ L, (Fr n0 L ∧ Keep h B.U.heap ws' ∧ Q v B.U.heap) ∧ B.locs = A.locs ++ L ∧ B.cells = A.cells + rm.cells ∧ B.slots = A.slots + rm.slots ∧ CHr Z EL vm0 h B.U.vm B.U.heap) :=
  BackS.of_freeW (bytes := bc) (maxL := maxL) (ret := ret) (E := fun _ first o t L k n => k = rm.cells ∧ n = rm.slots ∧ (∃ v, o = .returned v ∧ (Fr n0 L ∧ Keep h t.heap ws' ∧ Q v t.heap)) ∧ CHr Z EL first.vm first.heap t.vm t.heap) hM hf hl
    (fun m meth c A a Y hp => have hU : Z.Warmed39 A.U.vm := wtrans (s := s.setVm vm0) hZ Y.warmed
      ⟨by show (Cond.and _ .tt).before a A.U = true; rw [Cond.before_and, mv hU wc]; rfl, mv hU wc, mv hU wz, hp.2.2.1, hp.2.2.2⟩)
    (fun m meth c A a g mk Y hp => ⟨hp.1, wtrans (s := s.setVm vm0) hZ Y.warmed, hp.2.1, (CHv.at Y hZ hEL H).1, fun x hx => (CHv.at Y hZ hEL H).safe (hS x hx).1 (hS x hx).2⟩) (fun _ _ _ _ _ _ _ _ _ => trivial)
    (fun _ _ _ _ ⟨v, L, h1, h2, h3, h4, _⟩ => ⟨L, _, _, h4, rfl, rfl, ⟨v, h1, h2⟩, h3⟩)
    (fun m meth c A a g mk v t L k n Y hp _ _ ⟨e1, e2, ⟨v', e3, e4⟩, e5⟩ => by
      cases e3; subst e1 e2
      refine ⟨L, e4, rfl, rfl, rfl, (CHv.at Y hZ hEL H).trans ?_⟩
      rw [← hp.2.1]; exact e5)
theorem own_stat (X : OSt Z EL a0 n0 h0 ws own bytes mx p l e R s m args below meth c sv T h k n) (pc' : Nat) {y : MethodName} {index maxL W : Nat} {ret : Option FieldType} {rm : Room} {as' : Array Value} {ws' : List Addr} {Q : Option Value → Heap → Prop} {bc : ByteArray} {argsL rest : List Value} (hd : decode bytes pc = .ok (.invokestatic index, 3)) (hM : OMet l Z EL n0 y [Jvm.Cond.code y bc maxL ret] rm as' h ws' Q) (w1 : (Cond.methodLink own index y).before a0 Z = true) (w2 : (Cond.static y).before a0 Z = true) (wz : (Cond.initialized y.cls).before a0 Z = true) (wc : (Cond.code y bc maxL ret).before a0 Z = true) (hy : y.cls ≠ "java/lang/invoke/MethodHandle" ∧ y.cls ≠ "java/lang/invoke/VarHandle")
    (hlen : ∀ sig, parseMethodDescriptor y.desc = some sig → argsL.length = sig.parameters.length) (hst : st = argsL.reverse ++ rest) (has : argsL.toArray = as') (hsz : Ls.size = mx) (hW : (rest.map fun v => v.category).sum = W) (hf : rm.frames + 1 ≤ R.frames) (hl : W + (maxL + 11) + rm.locals ≤ R.locals) (hc : k + rm.cells ≤ R.cells) (hs : n + rm.slots ≤ R.slots) (hsv : ∀ x ∈ ws', x ∈ sv) (hq : pc' = pc + 3)
    (K : ∀ (T' : State) (h' : Heap) (v : Option Value), OSt Z EL a0 n0 h0 ws own bytes mx p l e R s m args below meth c sv T' h' (k + rm.cells) (n + rm.slots) → Keep h h' ws' → Q v h' → OGo p.tables e below P T' (mkF m pc' Ls (v.toList ++ rest))) : OGo p.tables e below P T (mkF m pc Ls st) := by
  subst hq
  obtain ⟨hx, hby, hml, eT, hlk, vm0, locs, Y, I⟩ := X
  have I0 := I
  obtain ⟨b1, b2, b3, b4, b5, b6, b7, b8, b9, b10, b11⟩ := I0
  have hS : ∀ x ∈ ws', x < h.size ∧ Safe Z EL vm0 h x := fun x hx => ⟨(b11 x (hsv x hx)).2.1, (b11 x (hsv x hx)).2.2.2⟩
  have hZ : Z.Warmed39 (s.setVm vm0).vm := b5
  have hW' : 2 * (mkF m pc Ls st).monitorRoom + (rest.map fun v => v.category).sum ≤ W := by show 2 * 0 + _ ≤ _; rw [hW]; omega
  by_cases hnil : EL = []
  · obtain ⟨v, vm₁, ⟨U, L', k', n'⟩, -, Y', ⟨L, ⟨q1, q2, q3⟩, l1, l2, l3⟩, stp⟩ := Jvm.LawKit.callS Y hx (y := y) (show (s.setVm vm0).vm.findClass own = _ from b6) (mvT hZ w1) (mvT hZ w2) (mvT hZ wz) (mvT hZ wc) hy (own_payN hnil hM b5 wc wz hf hl b7 b8.1 hS) (g := mkF m pc Ls st) rfl (by rw [hml]; exact hsz) (argsL := argsL) (rest := rest) hlen hst hW' (hb hby hd) (fun _ _ => ⟨has, eT, hc, hs⟩)
    dsimp only [Pt.U, Pt.locs, Pt.cells, Pt.slots] at Y' l1 l2 l3 q1 q2 q3 stp
    subst l1 l2 l3
    exact og stp (K U U.heap v ⟨hx, hby, hml, rfl, hlk, vm0, _, Y', I.keep q2 hsv q1⟩ q2 q3)
  · obtain ⟨v, vm₁, ⟨U, L', k', n'⟩, -, Y', S', g', ⟨L, ⟨q1, q2, q3⟩, l1, l2, l3, C⟩, stp⟩ := callSS Y hx (y := y) (show (s.setVm vm0).vm.findClass own = _ from b6) (mvT hZ w1) (mvT hZ w2) (mvT hZ wz) (mvT hZ wc) hy (own_payW hM b5 wc wz hf hl b7 b8.1 hS) (g := mkF m pc Ls st) rfl (by rw [hml]; exact hsz) (argsL := argsL) (rest := rest) hlen hst hW' (hb hby hd) (fun _ _ => ⟨has, eT, hc, hs⟩)
    dsimp only [Pt.U, Pt.locs, Pt.cells, Pt.slots] at Y' l1 l2 l3 q1 q2 q3 stp S' g' C
    subst l1 l2 l3
    exact og (fun _ q => stp.trans q) (K U U.heap v ⟨hx, hby, hml, rfl, hlk, U.vm, _, Y', I.call q2 hsv q1 C S' (fun q => absurd q hnil)⟩ q2 q3)
theorem own_spec (X : OSt Z EL a0 n0 h0 ws own bytes mx p l e R s m args below meth c sv T h k n) (pc' : Nat) {y : MethodName} {index maxL W : Nat} {rm : Room} {as' : Array Value} {ws' : List Addr} {Q : Option Value → Heap → Prop} {bc : ByteArray} {a : Addr} {argsL rest : List Value} (hd : decode bytes pc = .ok (.invokespecial index, 3)) (hy1 : y.name = "<init>") (hM : OMet l Z EL n0 y [Jvm.Cond.code y bc maxL none] rm as' h ws' Q) (w1 : (Cond.methodLink own index y).before a0 Z = true) (w2 : (Cond.instanceMethod y).before a0 Z = true) (wz : (Cond.initialized y.cls).before a0 Z = true) (wc : (Cond.code y bc maxL none).before a0 Z = true) (hy : y.cls ≠ "java/lang/invoke/MethodHandle" ∧ y.cls ≠ "java/lang/invoke/VarHandle")
    (hlen : ∀ sig, parseMethodDescriptor y.desc = some sig → argsL.length = sig.parameters.length) (hst : st = argsL.reverse ++ .ref a :: rest) (has : (.ref a :: argsL).toArray = as') (hsz : Ls.size = mx) (hW : (rest.map fun v => v.category).sum = W) (hf : rm.frames + 1 ≤ R.frames) (hl : W + (maxL + 11) + rm.locals ≤ R.locals) (hc : k + rm.cells ≤ R.cells) (hs : n + rm.slots ≤ R.slots) (hsv : ∀ x ∈ ws', x ∈ sv) (hq : pc' = pc + 3)
    (K : ∀ (T' : State) (h' : Heap) (v : Option Value), OSt Z EL a0 n0 h0 ws own bytes mx p l e R s m args below meth c sv T' h' (k + rm.cells) (n + rm.slots) → Keep h h' ws' → Q v h' → OGo p.tables e below P T' (mkF m pc' Ls (v.toList ++ rest))) : OGo p.tables e below P T (mkF m pc Ls st) := by
  subst hq
  obtain ⟨hx, hby, hml, eT, hlk, vm0, locs, Y, I⟩ := X
  have I0 := I
  obtain ⟨b1, b2, b3, b4, b5, b6, b7, b8, b9, b10, b11⟩ := I0
  have hS : ∀ x ∈ ws', x < h.size ∧ Safe Z EL vm0 h x := fun x hx => ⟨(b11 x (hsv x hx)).2.1, (b11 x (hsv x hx)).2.2.2⟩
  have hZ : Z.Warmed39 (s.setVm vm0).vm := b5
  have hW' : 2 * (mkF m pc Ls st).monitorRoom + (rest.map fun v => v.category).sum ≤ W := by show 2 * 0 + _ ≤ _; rw [hW]; omega
  by_cases hnil : EL = []
  · obtain ⟨v, vm₁, ⟨U, L', k', n'⟩, -, Y', ⟨L, ⟨q1, q2, q3⟩, l1, l2, l3⟩, stp⟩ := Y.specialBack hx (y := y) hy1 (show (s.setVm vm0).vm.findClass own = _ from b6) (mvT hZ w1) (mvT hZ w2) (mvT hZ wc) hy (own_payN hnil hM b5 wc wz hf hl b7 b8.1 hS) (g := mkF m pc Ls st) rfl (by rw [hml]; exact hsz) (Steps.refl _) (a := a) (argsL := argsL) (rest := rest) hlen hst hW' (hb hby hd) (fun _ _ => ⟨has, eT, hc, hs⟩)
    dsimp only [Pt.U, Pt.locs, Pt.cells, Pt.slots] at Y' l1 l2 l3 q1 q2 q3 stp
    subst l1 l2 l3
    exact og (fun _ q => stp.trans q) (K U U.heap v ⟨hx, hby, hml, rfl, hlk, vm0, _, Y', I.keep q2 hsv q1⟩ q2 q3)
  · obtain ⟨v, vm₁, ⟨U, L', k', n'⟩, -, Y', S', g', ⟨L, ⟨q1, q2, q3⟩, l1, l2, l3, C⟩, stp⟩ := Y.specialBackS hx (y := y) hy1 (show (s.setVm vm0).vm.findClass own = _ from b6) (mvT hZ w1) (mvT hZ w2) (mvT hZ wc) hy (own_payW hM b5 wc wz hf hl b7 b8.1 hS) (g := mkF m pc Ls st) rfl (by rw [hml]; exact hsz) (Steps.refl _) (a := a) (argsL := argsL) (rest := rest) hlen hst hW' (hb hby hd) (fun _ _ => ⟨has, eT, hc, hs⟩)
    dsimp only [Pt.U, Pt.locs, Pt.cells, Pt.slots] at Y' l1 l2 l3 q1 q2 q3 stp S' g' C
    subst l1 l2 l3
    exact og (fun _ q => stp.trans q) (K U U.heap v ⟨hx, hby, hml, rfl, hlk, U.vm, _, Y', I.call q2 hsv q1 C S' (fun q => absurd q hnil)⟩ q2 q3)
theorem own_virt (X : OSt Z EL a0 n0 h0 ws own bytes mx p l e R s m args below meth c sv T h k n) (pc' : Nat) {y z : MethodName} {C : String} {index maxL W : Nat} {ret : Option FieldType} {rm : Room} {as' : Array Value} {ws' : List Addr} {Q : Option Value → Heap → Prop} {bc : ByteArray} {a : Addr} {argsL rest : List Value} (hd : decode bytes pc = .ok (.invokevirtual index, 3)) (E : Exa Z h a C) (hnf : ∀ vm0, Z.Warmed39 (s.setVm vm0).vm → NotFace (s.setVm vm0) y) (hM : OMet l Z EL n0 z [Jvm.Cond.code z bc maxL ret] rm as' h ws' Q) (w1 : (Cond.methodLink own index y).before a0 Z = true) (w2 : (Cond.declares y).before a0 Z = true) (w3 : (Cond.selects C y z).before a0 Z = true) (w4 : (Cond.instanceMethod z).before a0 Z = true) (wz : (Cond.initialized z.cls).before a0 Z = true) (wc : (Cond.code z bc maxL ret).before a0 Z = true) (hy : y.cls ≠ "java/lang/invoke/MethodHandle" ∧ y.cls ≠ "java/lang/invoke/VarHandle")
    (hlen : ∀ sig, parseMethodDescriptor y.desc = some sig → argsL.length = sig.parameters.length) (hst : st = argsL.reverse ++ .ref a :: rest) (has : (.ref a :: argsL).toArray = as') (hsz : Ls.size = mx) (hW : (rest.map fun v => v.category).sum = W) (hf : rm.frames + 1 ≤ R.frames) (hl : W + (maxL + 11) + rm.locals ≤ R.locals) (hc : k + rm.cells ≤ R.cells) (hs : n + rm.slots ≤ R.slots) (hsv : ∀ x ∈ ws', x ∈ sv) (hq : pc' = pc + 3)
    (K : ∀ (T' : State) (h' : Heap) (v : Option Value), OSt Z EL a0 n0 h0 ws own bytes mx p l e R s m args below meth c sv T' h' (k + rm.cells) (n + rm.slots) → Keep h h' ws' → Q v h' → OGo p.tables e below P T' (mkF m pc' Ls (v.toList ++ rest))) : OGo p.tables e below P T (mkF m pc Ls st) := by
  subst hq
  obtain ⟨hx, hby, hml, eT, hlk, vm0, locs, Y, I⟩ := X
  have I0 := I
  obtain ⟨b1, b2, b3, b4, b5, b6, b7, b8, b9, b10, b11⟩ := I0
  have hS : ∀ x ∈ ws', x < h.size ∧ Safe Z EL vm0 h x := fun x hx => ⟨(b11 x (hsv x hx)).2.1, (b11 x (hsv x hx)).2.2.2⟩
  have hZ : Z.Warmed39 (s.setVm vm0).vm := b5
  have hW' : 2 * (mkF m pc Ls st).monitorRoom + (rest.map fun v => v.category).sum ≤ W := by show 2 * 0 + _ ≤ _; rw [hW]; omega
  obtain ⟨cq, kq, qa, qb, qc⟩ := isOf (s := s.setVm vm0) hZ eT E
  by_cases hnil : EL = []
  · obtain ⟨v, vm₁, ⟨U, L', k', n'⟩, -, Y', ⟨L, ⟨q1, q2, q3⟩, l1, l2, l3⟩, stp⟩ := Y.virtualBack hx (y := y) (z := z) (show (s.setVm vm0).vm.findClass own = _ from b6) (mvT hZ w1) (mvT hZ w2) (hnf vm0 hZ) (mvT hZ w3) (mvT hZ w4) hy (own_payN hnil hM b5 wc wz hf hl b7 b8.1 hS) qa qc (g := mkF m pc Ls st) rfl (by rw [hml]; exact hsz) (Steps.refl _) (argsL := argsL) (rest := rest) hlen hst hW' (hb hby hd) (fun _ _ => ⟨has, eT, hc, hs⟩)
    dsimp only [Pt.U, Pt.locs, Pt.cells, Pt.slots] at Y' l1 l2 l3 q1 q2 q3 stp
    subst l1 l2 l3
    exact og (fun _ q => stp.trans q) (K U U.heap v ⟨hx, hby, hml, rfl, hlk, vm0, _, Y', I.keep q2 hsv q1⟩ q2 q3)
  · obtain ⟨v, vm₁, ⟨U, L', k', n'⟩, -, Y', S', g', ⟨L, ⟨q1, q2, q3⟩, l1, l2, l3, C⟩, stp⟩ := Y.virtualBackS hx (y := y) (z := z) (show (s.setVm vm0).vm.findClass own = _ from b6) (mvT hZ w1) (mvT hZ w2) (hnf vm0 hZ) (mvT hZ w3) (mvT hZ w4) hy (own_payW hM b5 wc wz hf hl b7 b8.1 hS) qa qc (g := mkF m pc Ls st) rfl (by rw [hml]; exact hsz) (Steps.refl _) (argsL := argsL) (rest := rest) hlen hst hW' (hb hby hd) (fun _ _ => ⟨has, eT, hc, hs⟩)
    dsimp only [Pt.U, Pt.locs, Pt.cells, Pt.slots] at Y' l1 l2 l3 q1 q2 q3 stp S' g' C
    subst l1 l2 l3
    exact og (fun _ q => stp.trans q) (K U U.heap v ⟨hx, hby, hml, rfl, hlk, U.vm, _, Y', I.call q2 hsv q1 C S' (fun q => absurd q hnil)⟩ q2 q3)
theorem own_priv (X : OSt Z EL a0 n0 h0 ws own bytes mx p l e R s m args below meth c sv T h k n) (pc' : Nat) {y : MethodName} {C : String} {index maxL W : Nat} {ret : Option FieldType} {rm : Room} {as' : Array Value} {ws' : List Addr} {Q : Option Value → Heap → Prop} {bc : ByteArray} {a : Addr} {argsL rest : List Value} (hd : decode bytes pc = .ok (.invokevirtual index, 3)) (E : Exa Z h a C) (hM : OMet l Z EL n0 y [Jvm.Cond.code y bc maxL ret] rm as' h ws' Q) (w1 : (Cond.methodLink own index y).before a0 Z = true) (w2 : (Cond.instanceMethod y).before a0 Z = true) (w3 : (Cond.selects y.cls y y).before a0 Z = true) (w4 : (Cond.privateMethod y).before a0 Z = true) (wz : (Cond.initialized y.cls).before a0 Z = true) (wc : (Cond.code y bc maxL ret).before a0 Z = true) (hy : y.cls ≠ "java/lang/invoke/MethodHandle" ∧ y.cls ≠ "java/lang/invoke/VarHandle")
    (hlen : ∀ sig, parseMethodDescriptor y.desc = some sig → argsL.length = sig.parameters.length) (hst : st = argsL.reverse ++ .ref a :: rest) (has : (.ref a :: argsL).toArray = as') (hsz : Ls.size = mx) (hW : (rest.map fun v => v.category).sum = W) (hf : rm.frames + 1 ≤ R.frames) (hl : W + (maxL + 11) + rm.locals ≤ R.locals) (hc : k + rm.cells ≤ R.cells) (hs : n + rm.slots ≤ R.slots) (hsv : ∀ x ∈ ws', x ∈ sv) (hq : pc' = pc + 3)
    (K : ∀ (T' : State) (h' : Heap) (v : Option Value), OSt Z EL a0 n0 h0 ws own bytes mx p l e R s m args below meth c sv T' h' (k + rm.cells) (n + rm.slots) → Keep h h' ws' → Q v h' → OGo p.tables e below P T' (mkF m pc' Ls (v.toList ++ rest))) : OGo p.tables e below P T (mkF m pc Ls st) := by
  subst hq
  obtain ⟨hx, hby, hml, eT, hlk, vm0, locs, Y, I⟩ := X
  have I0 := I
  obtain ⟨b1, b2, b3, b4, b5, b6, b7, b8, b9, b10, b11⟩ := I0
  have hS : ∀ x ∈ ws', x < h.size ∧ Safe Z EL vm0 h x := fun x hx => ⟨(b11 x (hsv x hx)).2.1, (b11 x (hsv x hx)).2.2.2⟩
  have hZ : Z.Warmed39 (s.setVm vm0).vm := b5
  have hW' : 2 * (mkF m pc Ls st).monitorRoom + (rest.map fun v => v.category).sum ≤ W := by show 2 * 0 + _ ≤ _; rw [hW]; omega
  obtain ⟨cq, q0, q0'⟩ := E.cell
  by_cases hnil : EL = []
  · obtain ⟨v, vm₁, ⟨U, L', k', n'⟩, -, Y', ⟨L, ⟨q1, q2, q3⟩, l1, l2, l3⟩, stp⟩ := Y.privateBack hx (y := y) (show (s.setVm vm0).vm.findClass own = _ from b6) (mvT hZ w1) (mvT hZ w2) (mvT hZ w3) (Cond.privateMethod_at (mvP hZ w4 (args := #[]))) (mvT hZ wc) hy (own_payN hnil hM b5 wc wz hf hl b7 b8.1 hS) (g := mkF m pc Ls st) rfl (by rw [hml]; exact hsz) (Steps.refl _) (a := a) (by rw [eT]; exact q0) q0' (argsL := argsL) (rest := rest) hlen hst hW' (hb hby hd) (fun _ _ => ⟨has, eT, hc, hs⟩)
    dsimp only [Pt.U, Pt.locs, Pt.cells, Pt.slots] at Y' l1 l2 l3 q1 q2 q3 stp
    subst l1 l2 l3
    exact og (fun _ q => stp.trans q) (K U U.heap v ⟨hx, hby, hml, rfl, hlk, vm0, _, Y', I.keep q2 hsv q1⟩ q2 q3)
  · obtain ⟨v, vm₁, ⟨U, L', k', n'⟩, -, Y', S', g', ⟨L, ⟨q1, q2, q3⟩, l1, l2, l3, C⟩, stp⟩ := Y.privateBackS hx (y := y) (show (s.setVm vm0).vm.findClass own = _ from b6) (mvT hZ w1) (mvT hZ w2) (mvT hZ w3) (Cond.privateMethod_at (mvP hZ w4 (args := #[]))) (mvT hZ wc) hy (own_payW hM b5 wc wz hf hl b7 b8.1 hS) (g := mkF m pc Ls st) rfl (by rw [hml]; exact hsz) (Steps.refl _) (a := a) (by rw [eT]; exact q0) q0' (argsL := argsL) (rest := rest) hlen hst hW' (hb hby hd) (fun _ _ => ⟨has, eT, hc, hs⟩)
    dsimp only [Pt.U, Pt.locs, Pt.cells, Pt.slots] at Y' l1 l2 l3 q1 q2 q3 stp S' g' C
    subst l1 l2 l3
    exact og (fun _ q => stp.trans q) (K U U.heap v ⟨hx, hby, hml, rfl, hlk, U.vm, _, Y', I.call q2 hsv q1 C S' (fun q => absurd q hnil)⟩ q2 q3)
theorem own_specB (X : OSt Z EL a0 n0 h0 ws own bytes mx p l e R s m args below meth c sv T h k n) (pc' : Nat) {y : MethodName} {index maxL W rc rs : Nat} {as' : Array Value} {ws' : List Addr} {Q : Option Value → Heap → List Loc → Prop} {bc : ByteArray} {a : Addr} {argsL rest : List Value} (hd : decode bytes pc = .ok (.invokespecial index, 3)) (hy1 : y.name = "<init>")
    (hK : ∀ vm0, Z.Warmed39 (s.setVm vm0).vm → Back l R p e below (s.setVm vm0) args y 3 W (fun A a => a = as' ∧ A.U.heap = h ∧ A.cells + rc ≤ R.cells ∧ A.slots + rs ≤ R.slots) (fun A _ v B => ∃ L, Q v B.U.heap L ∧ B.locs = A.locs ++ L ∧ B.cells = A.cells + rc ∧ B.slots = A.slots + rs)) (hQ : ∀ v h' L, Q v h' L → Fr n0 L ∧ Keep h h' ws')
    (w1 : (Cond.methodLink own index y).before a0 Z = true) (w2 : (Cond.instanceMethod y).before a0 Z = true) (wc : (Cond.code y bc maxL none).before a0 Z = true) (hy : y.cls ≠ "java/lang/invoke/MethodHandle" ∧ y.cls ≠ "java/lang/invoke/VarHandle")
    (hlen : ∀ sig, parseMethodDescriptor y.desc = some sig → argsL.length = sig.parameters.length) (hst : st = argsL.reverse ++ .ref a :: rest) (has : (.ref a :: argsL).toArray = as') (hsz : Ls.size = mx) (hW : (rest.map fun v => v.category).sum = W) (hc : k + rc ≤ R.cells) (hs : n + rs ≤ R.slots) (hsv : ∀ x ∈ ws', x ∈ sv) (hq : pc' = pc + 3)
    (K : ∀ (T' : State) (h' : Heap) (v : Option Value) (L : List Loc), OSt Z EL a0 n0 h0 ws own bytes mx p l e R s m args below meth c sv T' h' (k + rc) (n + rs) → Keep h h' ws' → Q v h' L → OGo p.tables e below P T' (mkF m pc' Ls (v.toList ++ rest))) : OGo p.tables e below P T (mkF m pc Ls st) := by
  subst hq
  obtain ⟨hx, hby, hml, eT, hlk, vm0, locs, Y, I⟩ := X
  have hZ : Z.Warmed39 (s.setVm vm0).vm := I.2.2.2.2.1
  have hW' : 2 * (mkF m pc Ls st).monitorRoom + (rest.map fun v => v.category).sum ≤ W := by show 2 * 0 + _ ≤ _; rw [hW]; omega
  obtain ⟨v, vm₁, ⟨U, L', k', n'⟩, -, Y', ⟨L, q, l1, l2, l3⟩, stp⟩ := Y.specialBack hx (y := y) hy1 (show (s.setVm vm0).vm.findClass own = _ from I.2.2.2.2.2.1) (mvT hZ w1) (mvT hZ w2) (mvT hZ wc) hy (hK vm0 hZ) (g := mkF m pc Ls st) rfl (by rw [hml]; exact hsz) (Steps.refl _) (a := a) (argsL := argsL) (rest := rest) hlen hst hW' (hb hby hd) (fun _ _ => ⟨has, eT, hc, hs⟩)
  dsimp only [Pt.U, Pt.locs, Pt.cells, Pt.slots] at Y' l1 l2 l3 q stp
  subst l1 l2 l3
  exact og (fun _ q => stp.trans q) (K U U.heap v L ⟨hx, hby, hml, rfl, hlk, vm0, _, Y', I.keep (hQ _ _ _ q).2 hsv (hQ _ _ _ q).1⟩ (hQ _ _ _ q).2 q)
theorem own_virtB (X : OSt Z EL a0 n0 h0 ws own bytes mx p l e R s m args below meth c sv T h k n) (pc' : Nat) {y z : MethodName} {C : String} {index W rc rs : Nat} {as' : Array Value} {ws' : List Addr} {Q : Option Value → Heap → List Loc → Prop} {a : Addr} {argsL rest : List Value} (hd : decode bytes pc = .ok (.invokevirtual index, 3)) (E : Exa Z h a C) (hnf : ∀ vm0, Z.Warmed39 (s.setVm vm0).vm → NotFace (s.setVm vm0) y)
    (hK : ∀ vm0, Z.Warmed39 (s.setVm vm0).vm → Back l R p e below (s.setVm vm0) args z 3 W (fun A a => a = as' ∧ A.U.heap = h ∧ A.cells + rc ≤ R.cells ∧ A.slots + rs ≤ R.slots) (fun A _ v B => ∃ L, Q v B.U.heap L ∧ B.locs = A.locs ++ L ∧ B.cells = A.cells + rc ∧ B.slots = A.slots + rs)) (hQ : ∀ v h' L, Q v h' L → Fr n0 L ∧ Keep h h' ws')
    (w1 : (Cond.methodLink own index y).before a0 Z = true) (w2 : (Cond.declares y).before a0 Z = true) (w3 : (Cond.selects C y z).before a0 Z = true) (w4 : (Cond.instanceMethod z).before a0 Z = true) (hy : y.cls ≠ "java/lang/invoke/MethodHandle" ∧ y.cls ≠ "java/lang/invoke/VarHandle")
    (hlen : ∀ sig, parseMethodDescriptor y.desc = some sig → argsL.length = sig.parameters.length) (hst : st = argsL.reverse ++ .ref a :: rest) (has : (.ref a :: argsL).toArray = as') (hsz : Ls.size = mx) (hW : (rest.map fun v => v.category).sum = W) (hc : k + rc ≤ R.cells) (hs : n + rs ≤ R.slots) (hsv : ∀ x ∈ ws', x ∈ sv) (hq : pc' = pc + 3)
    (K : ∀ (T' : State) (h' : Heap) (v : Option Value) (L : List Loc), OSt Z EL a0 n0 h0 ws own bytes mx p l e R s m args below meth c sv T' h' (k + rc) (n + rs) → Keep h h' ws' → Q v h' L → OGo p.tables e below P T' (mkF m pc' Ls (v.toList ++ rest))) : OGo p.tables e below P T (mkF m pc Ls st) := by
  subst hq
  obtain ⟨hx, hby, hml, eT, hlk, vm0, locs, Y, I⟩ := X
  have hZ : Z.Warmed39 (s.setVm vm0).vm := I.2.2.2.2.1
  have hW' : 2 * (mkF m pc Ls st).monitorRoom + (rest.map fun v => v.category).sum ≤ W := by show 2 * 0 + _ ≤ _; rw [hW]; omega
  obtain ⟨cq, kq, qa, qb, qc⟩ := isOf (s := s.setVm vm0) hZ eT E
  obtain ⟨v, vm₁, ⟨U, L', k', n'⟩, -, Y', ⟨L, q, l1, l2, l3⟩, stp⟩ := Y.virtualBack hx (y := y) (z := z) (show (s.setVm vm0).vm.findClass own = _ from I.2.2.2.2.2.1) (mvT hZ w1) (mvT hZ w2) (hnf vm0 hZ) (mvT hZ w3) (mvT hZ w4) hy (hK vm0 hZ) qa qc (g := mkF m pc Ls st) rfl (by rw [hml]; exact hsz) (Steps.refl _) (argsL := argsL) (rest := rest) hlen hst hW' (hb hby hd) (fun _ _ => ⟨has, eT, hc, hs⟩)
  dsimp only [Pt.U, Pt.locs, Pt.cells, Pt.slots] at Y' l1 l2 l3 q stp
  subst l1 l2 l3
  exact og (fun _ q => stp.trans q) (K U U.heap v L ⟨hx, hby, hml, rfl, hlk, vm0, _, Y', I.keep (hQ _ _ _ q).2 hsv (hQ _ _ _ q).1⟩ (hQ _ _ _ q).2 q)
theorem own_svb (X : OSt Z EL a0 n0 h0 ws own bytes mx p l e R s m args below meth c sv T h k n) {a : Addr} (ha : a ∈ sv) : n0 ≤ a ∧ a < h.size := by
  obtain ⟨-, -, -, -, -, _, _, -, -, -, -, -, -, -, -, -, -, -, q⟩ := X
  exact ⟨(q a ha).1, (q a ha).2.1⟩
theorem own_fitR {t : FieldType} {w : Value} (ht : t.isReference = true) (hw : w.isRef = true) : fits t w = true := by
  rcases ref_cases hw with rfl | ⟨a, rfl⟩ <;> cases t <;> first | rfl | cases ht
theorem own_sto {a y : Addr} {kb : ClassId} {ty : FieldType} {z : Int32} {vs : List Value} {dv : Value} {C : String} (A : Arv Z h a kb ty z vs dv) (O : Ovr Z kb C) (i : Ins Z h y C true) : Sto Z h a (.ref y) := by
  obtain ⟨cl, Ar, q, -⟩ := A
  exact Sto.ofV Ar q O i
theorem own_face (X : OSt Z EL a0 n0 h0 ws own bytes mx p l e R s m args below meth c sv T h k n) (pc' : Nat) {y z : MethodName} {C : String} {index count maxL W : Nat} {ret : Option FieldType} {rm : Room} {as' : Array Value} {ws' : List Addr} {Q : Option Value → Heap → Prop} {bc : ByteArray} {a : Addr} {argsL rest : List Value} (hd : decode bytes pc = .ok (.invokeinterface index count, 5)) (E : Exa Z h a C) (hM : OMet l Z EL n0 z [Jvm.Cond.code z bc maxL ret] rm as' h ws' Q) (w1 : (Cond.methodLink own index y).before a0 Z = true) (w2 : (Cond.declares y).before a0 Z = true) (w3 : (Cond.interfaceMethod y.cls y.cls y.name y.desc).before a0 Z = true) (w4 : (Cond.selects C y z).before a0 Z = true) (w5 : (Cond.instanceMethod z).before a0 Z = true) (w6 : (Cond.publicMethod z).before a0 Z = true) (w7 : (Cond.unhidden C y.name y.desc).before a0 Z = true) (w8 : (Cond.castable C y.cls).before a0 Z = true) (wz : (Cond.initialized z.cls).before a0 Z = true) (wc : (Cond.code z bc maxL ret).before a0 Z = true) (hy : y.cls ≠ "java/lang/invoke/MethodHandle" ∧ y.cls ≠ "java/lang/invoke/VarHandle")
    (hlen : ∀ sig, parseMethodDescriptor y.desc = some sig → argsL.length = sig.parameters.length) (hst : st = argsL.reverse ++ .ref a :: rest) (has : (.ref a :: argsL).toArray = as') (hsz : Ls.size = mx) (hW : (rest.map fun v => v.category).sum = W) (hf : rm.frames + 1 ≤ R.frames) (hl : W + (maxL + 11) + rm.locals ≤ R.locals) (hc : k + rm.cells ≤ R.cells) (hs : n + rm.slots ≤ R.slots) (hsv : ∀ x ∈ ws', x ∈ sv) (hq : pc' = pc + 5)
    (K : ∀ (T' : State) (h' : Heap) (v : Option Value), OSt Z EL a0 n0 h0 ws own bytes mx p l e R s m args below meth c sv T' h' (k + rm.cells) (n + rm.slots) → Keep h h' ws' → Q v h' → OGo p.tables e below P T' (mkF m pc' Ls (v.toList ++ rest))) : OGo p.tables e below P T (mkF m pc Ls st) := by
  subst hq
  obtain ⟨hx, hby, hml, eT, hlk, vm0, locs, Y, I⟩ := X
  have I0 := I
  obtain ⟨b1, b2, b3, b4, b5, b6, b7, b8, b9, b10, b11⟩ := I0
  have hS : ∀ x ∈ ws', x < h.size ∧ Safe Z EL vm0 h x := fun x hx => ⟨(b11 x (hsv x hx)).2.1, (b11 x (hsv x hx)).2.2.2⟩
  have hZ : Z.Warmed39 (s.setVm vm0).vm := b5
  have hW' : 2 * (mkF m pc Ls st).monitorRoom + (rest.map fun v => v.category).sum ≤ W := by show 2 * 0 + _ ≤ _; rw [hW]; omega
  obtain ⟨cq, kq, qa, qb, qc⟩ := isOf (s := s.setVm vm0) hZ eT E
  by_cases hnil : EL = []
  · obtain ⟨v, vm₁, ⟨U, L', k', n'⟩, -, Y', ⟨L, ⟨q1, q2, q3⟩, l1, l2, l3⟩, stp⟩ := Y.interfaceBack hx (xi := y) (y := z) (show (s.setVm vm0).vm.findClass own = _ from b6) (mvT hZ w1 (by first | rfl | decide | simp [Cond.onTables, Cond.keepsFace, Cond.keeps, Cond.steady, Cond.faceAtom, hy.1, hy.2])) (mvT hZ w2 (by first | rfl | decide | simp [Cond.onTables, Cond.keepsFace, Cond.keeps, Cond.steady, Cond.faceAtom, hy.1, hy.2])) (mvT hZ w3 (by first | rfl | decide | simp [Cond.onTables, Cond.keepsFace, Cond.keeps, Cond.steady, Cond.faceAtom, hy.1, hy.2])) (mvT hZ w4 (by first | rfl | decide | simp [Cond.onTables, Cond.keepsFace, Cond.keeps, Cond.steady, Cond.faceAtom, hy.1, hy.2])) (mvT hZ w5 (by first | rfl | decide | simp [Cond.onTables, Cond.keepsFace, Cond.keeps, Cond.steady, Cond.faceAtom, hy.1, hy.2])) (mvT hZ w6 (by first | rfl | decide | simp [Cond.onTables, Cond.keepsFace, Cond.keeps, Cond.steady, Cond.faceAtom, hy.1, hy.2])) (mvT hZ w7 (by first | rfl | decide | simp [Cond.onTables, Cond.keepsFace, Cond.keeps, Cond.steady, Cond.faceAtom, hy.1, hy.2])) (mvT hZ w8 (by first | rfl | decide | simp [Cond.onTables, Cond.keepsFace, Cond.keeps, Cond.steady, Cond.faceAtom, hy.1, hy.2])) hy (own_payN hnil hM b5 wc wz hf hl b7 b8.1 hS) qa qb qc (g := mkF m pc Ls st) rfl (by rw [hml]; exact hsz) (Steps.refl _) (argsL := argsL) (rest := rest) hlen hst hW' (hb hby hd) (fun _ _ => ⟨has, eT, hc, hs⟩)
    dsimp only [Pt.U, Pt.locs, Pt.cells, Pt.slots] at Y' l1 l2 l3 q1 q2 q3 stp
    subst l1 l2 l3
    exact og (fun _ q => stp.trans q) (K U U.heap v ⟨hx, hby, hml, rfl, hlk, vm0, _, Y', I.keep q2 hsv q1⟩ q2 q3)
  · obtain ⟨v, vm₁, ⟨U, L', k', n'⟩, -, Y', S', g', ⟨L, ⟨q1, q2, q3⟩, l1, l2, l3, C⟩, stp⟩ := Y.interfaceBackS hx (xi := y) (y := z) (show (s.setVm vm0).vm.findClass own = _ from b6) (mvT hZ w1 (by first | rfl | decide | simp [Cond.onTables, Cond.keepsFace, Cond.keeps, Cond.steady, Cond.faceAtom, hy.1, hy.2])) (mvT hZ w2 (by first | rfl | decide | simp [Cond.onTables, Cond.keepsFace, Cond.keeps, Cond.steady, Cond.faceAtom, hy.1, hy.2])) (mvT hZ w3 (by first | rfl | decide | simp [Cond.onTables, Cond.keepsFace, Cond.keeps, Cond.steady, Cond.faceAtom, hy.1, hy.2])) (mvT hZ w4 (by first | rfl | decide | simp [Cond.onTables, Cond.keepsFace, Cond.keeps, Cond.steady, Cond.faceAtom, hy.1, hy.2])) (mvT hZ w5 (by first | rfl | decide | simp [Cond.onTables, Cond.keepsFace, Cond.keeps, Cond.steady, Cond.faceAtom, hy.1, hy.2])) (mvT hZ w6 (by first | rfl | decide | simp [Cond.onTables, Cond.keepsFace, Cond.keeps, Cond.steady, Cond.faceAtom, hy.1, hy.2])) (mvT hZ w7 (by first | rfl | decide | simp [Cond.onTables, Cond.keepsFace, Cond.keeps, Cond.steady, Cond.faceAtom, hy.1, hy.2])) (mvT hZ w8 (by first | rfl | decide | simp [Cond.onTables, Cond.keepsFace, Cond.keeps, Cond.steady, Cond.faceAtom, hy.1, hy.2])) hy (own_payW hM b5 wc wz hf hl b7 b8.1 hS) qa qb qc (g := mkF m pc Ls st) rfl (by rw [hml]; exact hsz) (Steps.refl _) (argsL := argsL) (rest := rest) hlen hst hW' (hb hby hd) (fun _ _ => ⟨has, eT, hc, hs⟩)
    dsimp only [Pt.U, Pt.locs, Pt.cells, Pt.slots] at Y' l1 l2 l3 q1 q2 q3 stp S' g' C
    subst l1 l2 l3
    exact og (fun _ q => stp.trans q) (K U U.heap v ⟨hx, hby, hml, rfl, hlk, U.vm, _, Y', I.call q2 hsv q1 C S' (fun q => absurd q hnil)⟩ q2 q3)
theorem own_ldcO (X : OSt Z EL a0 n0 h0 ws own bytes mx p l e R s m args below meth c sv T h k n) (pc' : Nat) {index cap : Nat} {text : String} (hd : decode bytes pc = .ok (.ldc index, 2)) (hne : EL ≠ []) (w : (Cond.stringLink own index text).before a0 Z = true) (wS : ∀ a ∈ Bundle.stringAtoms, a.before a0 Z = true) (hcap : 4 * text.toList.length ≤ cap) (hbig : cap ≤ 536870912) (hc : k + 2 ≤ R.cells) (hl : n + (cap + 4) ≤ R.slots) (hq : pc' = pc + 2)
    (K : ∀ (T' : State) (h' : Heap) (a : Addr), OSt Z EL a0 n0 h0 ws own bytes mx p l e R s m args below meth c sv T' h' (k + 2) (n + (cap + 4)) → Keep h h' [] → OGo p.tables e below P T' (mkF m pc' Ls (.ref a :: st))) : OGo p.tables e below P T (mkF m pc Ls st) := by
  subst hq
  obtain ⟨hx, hby, hml, eT, hlk, vm0, locs, Y, I⟩ := X
  have I0 := I
  obtain ⟨b1, b2, b3, ⟨k0, b4, b4'⟩, b5, b6, b7, b8, b9, b10, b11⟩ := I0
  obtain ⟨a, T', h', k1, Y', e', E, S', hk', hZ', hown', C, -, stp⟩ := ldcOH Y hx b5 b6 w wS eT b4 b4' b7 b8.1 (g := mkF m pc Ls st) rfl (hb hby hd) hcap hbig hc hl
  have hZ' : Z.Warmed39 T'.vm := hZ'
  refine og stp (K T' h' a ⟨hx, hby, hml, e', hlk, T'.vm, locs, Y', b1, b2.ext E, b3.ext E, ⟨k1, S', hk'⟩, hZ', hown', b7, b8.trans C, fun q => absurd q hne, b10, fun x hx => ?_⟩ ((Keep.refl _ _).ext E))
  exact ⟨(b11 x hx).1, Nat.lt_of_lt_of_le (b11 x hx).2.1 E.1, (b11 x hx).2.2.1, C.safe (b11 x hx).2.1 (b11 x hx).2.2.2⟩
theorem own_ldcR (X : OSt Z EL a0 n0 h0 ws own bytes mx p l e R s m args below meth c sv T h k n) (pc' : Nat) {index cap : Nat} {text : String} {vs : List Value} {z : Int32} (hd : decode bytes pc = .ok (.ldc index, 2)) (hmem : (own, index) ∈ EL) (w : (Cond.stringLink own index text).before a0 Z = true) (wS : ∀ a ∈ Bundle.stringAtoms, a.before a0 Z = true) (ht : (∀ c ∈ text.toList, c.toNat < 256) ∧ text.toList.map (fun c => Value.int (Jvm.Lit.byteI c.toNat.toUInt16)) = vs) (hz : ¬ z < 0) (hlz : z.toNatClampNeg = vs.length) (hcap : 4 * text.toList.length ≤ cap) (hbig : cap ≤ 536870912) (hc : k + 2 ≤ R.cells) (hl : n + (cap + 4) ≤ R.slots) (hq : pc' = pc + 2)
    (K : ∀ (T' : State) (h' : Heap) (a b : Addr) (kb : ClassId), OSt Z EL a0 n0 h0 ws own bytes mx p l e R s m args below meth c sv T' h' (k + 2) (n + (cap + 4)) → Keep h h' [] → Exa Z h' a "java/lang/String" → Fld Z h' a "java/lang/String" "coder" "B" (.int 0) → Fld Z h' a "java/lang/String" "value" "[B" (.ref b) → Arv Z h' b kb .byte z vs (.int 0) → (∀ x ∈ sv, x ≠ a ∧ x ≠ b) → OGo p.tables e below P T' (mkF m pc' Ls (.ref a :: st))) : OGo p.tables e below P T (mkF m pc Ls st) := by
  subst hq
  obtain ⟨hx, hby, hml, eT, hlk, vm0, locs, Y, I⟩ := X
  have I0 := I
  obtain ⟨b1, b2, b3, ⟨k0, b4, b4'⟩, b5, b6, b7, b8, b9, b10, b11⟩ := I0
  obtain ⟨a, T', h', k1, b, kb, Y', e', E, S', hk', hZ', hown', r1, r2, r3, r4, r5, r6, C, -, far, stp⟩ := ldcCH Y hx b5 b6 w wS eT b4 b4' b7 hmem b8.1 ht hz hlz (g := mkF m pc Ls st) rfl (hb hby hd) hcap hbig hc hl
  have hZ' : Z.Warmed39 T'.vm := hZ'
  have sf : ∀ x ∈ sv, Safe Z EL T'.vm h' x := fun x hx => C.safe (b11 x hx).2.1 (b11 x hx).2.2.2
  refine og stp (K T' h' a b kb ⟨hx, hby, hml, e', hlk, T'.vm, locs, Y', b1, b2.ext E, b3.ext E, ⟨k1, S', hk'⟩, hZ', hown', b7, b8.trans C, fun q => ?_, b10, fun x hx => ?_⟩ ((Keep.refl _ _).ext E) r1 r2 r3 r4 fun x hx => far x (sf x hx))
  · rw [q] at hmem; cases hmem
  · exact ⟨(b11 x hx).1, Nat.lt_of_lt_of_le (b11 x hx).2.1 E.1, (b11 x hx).2.2.1, sf x hx⟩
theorem own_n0 (X : OSt Z EL a0 n0 h0 ws own bytes mx p l e R s m args below meth c sv T h k n) : n0 ≤ h.size := X.old.1 ▸ X.old.2.1
theorem own_svE (X : OSt Z EL a0 n0 h0 ws own bytes mx p l e R s m args below meth c sv T h k n) {r : Addr} {C : String} (E : Exa Z h r C) (h1 : C ≠ "java/lang/String") (h2 : C ≠ "[B") (hn : n0 ≤ r) (hg : h0.size ≤ r) : OSt Z EL a0 n0 h0 ws own bytes mx p l e R s m args below meth c (r :: sv) T h k n := by
  obtain ⟨a1, a2, a3, a4, a5, vm0, locs, Y, b1, b2, b3, b4, b5, b6, b7, b8, b9, b10, b11⟩ := X
  refine ⟨a1, a2, a3, a4, a5, vm0, locs, Y, b1, b2, b3, b4, b5, b6, b7, b8, b9, b10, fun x hx => ?_⟩
  rcases List.mem_cons.mp hx with rfl | hx
  · exact ⟨hn, E.lt, Or.inr hg, Safe.exa b5.alike E h1 h2⟩
  · exact b11 x hx
theorem own_svA (X : OSt Z EL a0 n0 h0 ws own bytes mx p l e R s m args below meth c sv T h k n) {r : Addr} {kb : ClassId} {ty : FieldType} {z : Int32} {vs : List Value} {dv : Value} (A : Arv Z h r kb ty z vs dv) (h1 : ty ≠ .byte) (hn : n0 ≤ r) (hg : h0.size ≤ r) : OSt Z EL a0 n0 h0 ws own bytes mx p l e R s m args below meth c (r :: sv) T h k n := by
  obtain ⟨a1, a2, a3, a4, a5, vm0, locs, Y, b1, b2, b3, b4, b5, b6, b7, b8, b9, b10, b11⟩ := X
  refine ⟨a1, a2, a3, a4, a5, vm0, locs, Y, b1, b2, b3, b4, b5, b6, b7, b8, b9, b10, fun x hx => ?_⟩
  rcases List.mem_cons.mp hx with rfl | hx
  · exact ⟨hn, A.lt, Or.inr hg, Safe.arv b5.alike A h1⟩
  · exact b11 x hx
def OFar (Z : State) (h : Heap) (B : Nat) (y : Addr) : Prop := B ≤ y ∨ ∃ (C : String) (kk : Nat) (a0 : Array Value), Exa Z h y C ∧ C ≠ "java/lang/String" ∧ (Jvm.Cond.instantiable C kk).before a0 Z = true
def OStr (Z : State) (h : Heap) (x : Addr) (cs : List Int32) (B : Nat) : Prop := ∃ (t : Addr) (kb : ClassId) (cd N : Int32) (vs : List Value), Exa Z h x "java/lang/String" ∧ Fld Z h x "java/lang/String" "coder" "B" (.int cd) ∧ Fld Z h x "java/lang/String" "value" "[B" (.ref t) ∧ Arv Z h t kb .byte N vs (.int 0) ∧ StrChars.Road.CodA cs cd N vs ∧ (∀ c ∈ cs, ¬ c < 0 ∧ ¬ (65535 : Int32) < c) ∧ cs.length ≤ 4000 ∧ x < B ∧ t < B
theorem OStr.exa {Z : State} {h : Heap} {x : Addr} {cs : List Int32} {B : Nat} (F : OStr Z h x cs B) : Exa Z h x "java/lang/String" := by obtain ⟨t, kb, cd, N, vs, r, -⟩ := F; exact r
theorem OStr.lt {Z : State} {h : Heap} {x : Addr} {cs : List Int32} {B : Nat} (F : OStr Z h x cs B) : x < h.size := F.exa.lt
theorem OStr.ltB {Z : State} {h : Heap} {x : Addr} {cs : List Int32} {B : Nat} (F : OStr Z h x cs B) : x < B := by obtain ⟨t, kb, cd, N, vs, -, -, -, -, -, -, -, r, -⟩ := F; exact r
theorem OStr.len {Z : State} {h : Heap} {x : Addr} {cs : List Int32} {B : Nat} (F : OStr Z h x cs B) : cs.length ≤ 4000 := by obtain ⟨t, kb, cd, N, vs, -, -, -, -, -, -, r, -, -⟩ := F; exact r
theorem OStr.top {Z : State} {h : Heap} {x : Addr} {cs : List Int32} {B : Nat} (F : OStr Z h x cs B) : OStr Z h x cs h.size := by
  obtain ⟨t, kb, cd, N, vs, r1, r2, r3, r4, r5, r6, r7, -, -⟩ := F
  exact ⟨t, kb, cd, N, vs, r1, r2, r3, r4, r5, r6, r7, r1.lt, r4.lt⟩
theorem OStr.keep {Z : State} {h h' : Heap} {x : Addr} {cs : List Int32} {B : Nat} {ws : List Addr} (F : OStr Z h x cs B) (K : Keep h h' ws) (q : ∀ y ∈ ws, OFar Z h B y) : OStr Z h' x cs B := by
  obtain ⟨t, kb, cd, N, vs, r1, r2, r3, r4, r5, r6, r7, r8, r9⟩ := F
  have nx : x ∉ ws := fun hx => by
    rcases q x hx with u | ⟨C, kk, a0, E, hC, -⟩
    · exact absurd r8 (Nat.not_lt.mpr u)
    · exact ne_exa r1 E (Ne.symm hC) rfl
  have nt : t ∉ ws := fun hx => by
    rcases q t hx with u | ⟨C, kk, a0, E, hC, wi⟩
    · exact absurd r9 (Nat.not_lt.mpr u)
    · obtain ⟨c, A, -⟩ := r4
      exact ne_arr E wi A rfl
  exact ⟨t, kb, cd, N, vs, r1.keep K, r2.keep K nx, r3.keep K nx, r4.keep K nt, r5, r6, r7, r8, r9⟩
theorem own_mkStr {Z : State} {h : Heap} {x t : Addr} {kb : ClassId} {cs bs : List Int32} {N : Int32} {n : Nat} (E : Exa Z h x "java/lang/String") (C : Fld Z h x "java/lang/String" "coder" "B" (.int 0)) (V : Fld Z h x "java/lang/String" "value" "[B" (.ref t)) (A : Arv Z h t kb .byte N (bs.map Value.int) (.int 0)) (hb : bs = cs.map (fun c => c.toInt8.toInt32)) (hp : ∀ c ∈ cs, ¬ c < 0 ∧ ¬ (255 : Int32) < c) (hn : cs.length = n) (hN : N = Int32.ofNat n) (hl : n ≤ 4000) : OStr Z h x cs h.size := by
  subst hn hN hb
  exact ⟨t, kb, 0, _, _, E, C, V, A, StrChars.Road.codOf rfl (fun c hc => (hp c hc).2), fun c hc => ⟨(hp c hc).1, own_up8 (hp c hc).2⟩, hl, E.lt, A.lt⟩
theorem own_strLen  (X : OSt Z EL a0 n0 h0 ws own bytes mx p l e R s m args below meth c sv T h k n) (pc' : Nat) {index W : Nat} {x : Addr} {cs : List Int32} {B1 : Nat} {z0 : Int32} {rest : List Value} (hd : decode bytes pc = .ok (.invokevirtual index, 3)) (S1 : OStr Z h x cs B1) (hwq : ∀ d ∈ StrChars.Road.wordsLen, d.before a0 Z = true) (wi : (Jvm.Cond.instantiable "java/lang/String" 4).before a0 Z = true) (hcs : Sta Z Z.heap "java/lang/String" "COMPACT_STRINGS" "Z" (.int z0)) (hz : ¬ z0 = 0)
    (w1 : (Jvm.Cond.methodLink own index (⟨"java/lang/String", "length", "()I"⟩ : MethodName)).before a0 Z = true) (w2 : (Jvm.Cond.declares (⟨"java/lang/String", "length", "()I"⟩ : MethodName)).before a0 Z = true) (w3 : (Jvm.Cond.selects "java/lang/String" (⟨"java/lang/String", "length", "()I"⟩ : MethodName) (⟨"java/lang/String", "length", "()I"⟩ : MethodName)).before a0 Z = true) (w4 : (Jvm.Cond.instanceMethod (⟨"java/lang/String", "length", "()I"⟩ : MethodName)).before a0 Z = true)
    (hsz : Ls.size = mx) (hW : (rest.map fun v => v.category).sum = W) (hfr : 2 ≤ R.frames) (hlo : W + 25 ≤ R.locals) (hc : k ≤ R.cells) (hs : n ≤ R.slots) (hq : pc' = pc + 3)
    (K : ∀ (T' : State), OSt Z EL a0 n0 h0 ws own bytes mx p l e R s m args below meth c sv T' h k n → OGo p.tables e below P T' (mkF m pc' Ls (.int (Int32.ofNat cs.length) :: rest))) : OGo p.tables e below P T (mkF m pc Ls (.ref x :: rest)) := by
  obtain ⟨t1, k1, cd1, N1, vs1, E1, C1, V1, A1, c1, b1, l1, -, -⟩ := S1
  have O1 := X.old
  have hpd : parseMethodDescriptor "()I" = some ⟨[], some .int⟩ := by decide +kernel
  refine own_virtB X pc' (a := x) (argsL := []) (rest := rest) (Q := fun v h' L => (v = some (.int (Int32.ofNat cs.length)) ∧ L = [] ∧ h' = h)) hd E1 (fun _ hZ => notFace_of_selects (args := #[]) (mvT hZ w3)) (fun vm0 hZ => StrChars.Road.lenW (W := W) hZ hwq (kI := 4) wi E1 V1 C1 A1 c1 b1 (hcs.ext O1.2) hz l1 hfr hlo) (ws' := []) (fun v h' L q => ⟨by obtain ⟨-, rfl, -⟩ := q; exact Fr.nil _, by obtain ⟨-, -, rfl⟩ := q; exact Keep.refl _ _⟩) w1 w2 w3 w4 (by decide) (lenOf hpd rfl) rfl rfl hsz hW hc hs all0 hq ?_
  rintro T' h' v L X' K' ⟨rfl, -, rfl⟩
  exact K T' X'
theorem own_svB (X : OSt Z EL a0 n0 h0 ws own bytes mx p l e R s m args below meth c sv T h k n) {r : Addr} {kb : ClassId} {z : Int32} {vs : List Value} {dv : Value} (A : Arv Z h r kb .byte z vs dv) (hT : ∀ q ∈ EL, ∃ text : String, (Cond.stringLink q.1 q.2 text).before a0 Z = true ∧ (∀ c ∈ text.toList, c.toNat < 256) ∧ text.toList.length ≠ z.toNatClampNeg) (hn : n0 ≤ r) (hg : h0.size ≤ r) : OSt Z EL a0 n0 h0 ws own bytes mx p l e R s m args below meth c (r :: sv) T h k n := by
  obtain ⟨a1, a2, a3, a4, a5, vm0, locs, Y, b1, b2, b3, b4, b5, b6, b7, b8, b9, b10, b11⟩ := X
  refine ⟨a1, a2, a3, a4, a5, vm0, locs, Y, b1, b2, b3, b4, b5, b6, b7, b8, b9, b10, fun x hx => ?_⟩
  rcases List.mem_cons.mp hx with rfl | hx
  · refine ⟨hn, A.lt, Or.inr hg, fun B => ?_⟩
    obtain ⟨cl, A1, -, S, -⟩ := A
    obtain ⟨A1, ⟨-, kA, hkA, compA, hkindA⟩, -⟩ := A1
    obtain ⟨kA', hkA', ekA⟩ := b5.alike.2.2 _ _ hkA
    obtain ⟨pr, hp, u, a, hbk, q, -, F, e1 | e1⟩ := B
    · subst e1
      cases (show h[q.sa]? = some q.sC from F.ha).symm.trans A1
      obtain ⟨cS, ⟨-, -, e2⟩, ⟨kS, g1, g2, -⟩, -⟩ := F
      subst e2
      cases (show vm0.classes[q.sC.cls]? = some kS from g1).symm.trans hkA'
      rw [ekA] at g2
      have := hkindA.symm.trans g2
      cases this
    · subst e1
      cases (show h[q.sd]? = some q.SA from F.hd).symm.trans A1
      obtain ⟨cS, -, -, -, hbyt⟩ := F
      obtain ⟨text, wl, ht, hne⟩ := hT pr hp
      obtain ⟨c', k', cf, i, hc', hk', hcf', hpool, hu, -⟩ := hbk
      have wl' : (Cond.stringLink pr.1 pr.2 text).before a0 (Wst Z vm0 h) = true := mvS (s := { Z with heap := h }) b5 wl
      obtain ⟨k2, cf0, i0, units0, hk, hcf, hp0, hu0, -, htext, -⟩ := Cond.stringLink_spec (s := Wst Z vm0 h) hc' wl'
      cases hk'.symm.trans hk
      cases hcf'.symm.trans hcf
      cases hpool.symm.trans hp0
      cases hu.symm.trans hu0
      have hlat := Jvm.ClassFile.lat_of_text htext ht
      have e3 := congrArg List.length (Jvm.ClassFile.units_of_text htext ht)
      have hsz : q.SA.slots.size = u.size := by rw [hbyt, Jvm.Free.SBG.stringBytes_lat hlat]; simp
      refine hne ?_
      rw [← S, hsz]
      simpa using e3.symm
  · exact b11 x hx
theorem own_txc {Z : State} {a0 : Array Value} {EL : List (String × Nat)} {own text : String} {index n : Nat} (w : (Cond.stringLink own index text).before a0 Z = true) (ht : ∀ c ∈ text.toList, c.toNat < 256) (hl : text.toList.length ≠ n) (E : ∀ q ∈ EL, ∃ text : String, (Cond.stringLink q.1 q.2 text).before a0 Z = true ∧ (∀ c ∈ text.toList, c.toNat < 256) ∧ text.toList.length ≠ n) : ∀ q ∈ (own, index) :: EL, ∃ text : String, (Cond.stringLink q.1 q.2 text).before a0 Z = true ∧ (∀ c ∈ text.toList, c.toNat < 256) ∧ text.toList.length ≠ n := fun q hq => by
  rcases List.mem_cons.mp hq with rfl | hq
  · exact ⟨text, w, ht, hl⟩
  · exact E q hq
theorem own_mkStrW {Z : State} {h : Heap} {x t : Addr} {kb : ClassId} {cs : List Int32} {N : Int32} {n : Nat} (E : Exa Z h x "java/lang/String") (C : Fld Z h x "java/lang/String" "coder" "B" (.int 1)) (V : Fld Z h x "java/lang/String" "value" "[B" (.ref t)) (A : Arv Z h t kb .byte N (StrChars.Road.wideBytes cs) (.int 0)) (hw : ∃ c ∈ cs, (255 : Int32) < c) (hp : ∀ c ∈ cs, ¬ c < 0 ∧ ¬ (65535 : Int32) < c) (hn : cs.length = n) (hN : N = Int32.ofNat (2 * n)) (hl : n ≤ 4000) : OStr Z h x cs h.size := by
  subst hn hN
  exact ⟨t, kb, 1, _, _, E, C, V, A, Or.inr ⟨rfl, rfl, rfl, hw⟩, hp, hl, E.lt, A.lt⟩
theorem own_l16 {cs : List Int32} {c : Int32} (h : ¬ c < 0 ∧ ¬ (65535 : Int32) < c) (q : ∀ c ∈ cs, ¬ c < 0 ∧ ¬ (65535 : Int32) < c) : ∀ d ∈ c :: cs, ¬ d < 0 ∧ ¬ (65535 : Int32) < d := fun d hd => by
  rcases List.mem_cons.mp hd with rfl | u
  · exact h
  · exact q d u
theorem own_oi {i : Nat} (h : i ≤ 8001) : (Int32.ofNat i).toInt = i := by
  exact Int32.toInt_ofNat_of_lt (by omega)
theorem own_onn {i : Nat} (h : i ≤ 8001) : ¬ Int32.ofNat i < 0 := by
  rw [Int32.lt_iff_toInt_lt, own_oi h, show (0 : Int32).toInt = 0 from rfl]; omega
theorem own_olt {i m : Nat} (h : i < m) (q : m ≤ 8001) : Int32.ofNat i < Int32.ofNat m := by
  rw [Int32.lt_iff_toInt_lt, own_oi q, own_oi (by omega)]; omega
theorem own_onl {i m : Nat} (h : m ≤ i) (q : i ≤ 8001) : ¬ Int32.ofNat i < Int32.ofNat m := by
  rw [Int32.lt_iff_toInt_lt, own_oi q, own_oi (by omega)]; omega
theorem own_oc {i : Nat} (h : i ≤ 8001) : (Int32.ofNat i).toNatClampNeg = i := by
  rw [Int32.toNatClampNeg, own_oi h]; rfl
theorem own_o1 (i : Nat) : Int32.ofNat i + 1 = Int32.ofNat (i + 1) := by
  rw [Int32.ofNat_add]; rfl
theorem own_shl1 {i : Nat} (h : i ≤ 4000) : Int32.ofNat i <<< ((1 : Int32) &&& 31) = Int32.ofNat (2 * i) := by
  have e : ((1 : Int32) &&& 31) = 1 := by decide
  rw [e]
  apply Int32.toBitVec_inj.mp
  rw [Int32.toBitVec_shiftLeft]
  have e1 : ((1 : Int32).toBitVec.smod 32) = 1#32 := by decide
  rw [e1]
  apply BitVec.eq_of_toNat_eq
  rw [BitVec.shiftLeft_eq', BitVec.toNat_shiftLeft]
  simp [Nat.shiftLeft_eq]
  omega
theorem own_shr1 {i : Nat} (h : i ≤ 4000) : Int32.ofNat (2 * i) >>> ((1 : Int32) &&& 31) = Int32.ofNat i := by
  have e : ((1 : Int32) &&& 31) = 1 := by decide
  rw [e]
  apply Int32.toBitVec_inj.mp
  rw [Int32.toBitVec_shiftRight]
  have e1 : ((1 : Int32).toBitVec.smod 32) = 1#32 := by decide
  rw [e1, BitVec.sshiftRight_eq']
  have hb : (Int32.ofNat (2 * i)).toBitVec.toNat = 2 * i := by simp; omega
  apply BitVec.eq_of_toNat_eq
  rw [BitVec.toNat_sshiftRight_of_msb_false (by rw [BitVec.msb_eq_false_iff_two_mul_lt, hb]; omega), hb]
  show (2 * i) >>> 1 = _
  simp [Nat.shiftRight_eq_div_pow]
  omega
theorem own_gm {cs : List Int32} {i : Nat} (h : i < cs.length) : cs.getD i 0 ∈ cs := by
  simp [List.getD_eq_getElem?_getD, h]
theorem own_loop {α : Type} (μ : α → Nat) (pc2 : Nat) (Ls2 : α → Array Slot) (ok : α → Heap → Prop) (wsL : List Addr) (X : OSt Z EL a0 n0 h0 ws own bytes mx p l e R s m args below meth c sv T h k n) (w0 : α) (q0 : ok w0 h) (J : ∀ w : α, (∀ w' : α, μ w' < μ w → ∀ (T' : State) (h' : Heap), OSt Z EL a0 n0 h0 ws own bytes mx p l e R s m args below meth c sv T' h' k n → Keep h h' wsL → ok w' h' → OGo p.tables e below P T' (mkF m pc2 (Ls2 w') [])) → ∀ (T' : State) (h' : Heap), OSt Z EL a0 n0 h0 ws own bytes mx p l e R s m args below meth c sv T' h' k n → Keep h h' wsL → ok w h' → OGo p.tables e below P T' (mkF m pc2 (Ls2 w) [])) : OGo p.tables e below P T (mkF m pc2 (Ls2 w0) []) := by
  have key : ∀ N : Nat, ∀ w : α, μ w < N → ∀ (T' : State) (h' : Heap), OSt Z EL a0 n0 h0 ws own bytes mx p l e R s m args below meth c sv T' h' k n → Keep h h' wsL → ok w h' → OGo p.tables e below P T' (mkF m pc2 (Ls2 w) []) := fun N => by
    induction N with
    | zero => intro w hw; exact absurd hw (Nat.not_lt_zero _)
    | succ N ih => intro w hw; exact J w fun w' hw' => ih w' (by omega)
  exact key (μ w0 + 1) w0 (Nat.lt_succ_self _) T h X (Keep.refl _ _) q0
end OwnKit
theorem ow {Z : State} {a0 : Array Value} (hw : ∀ d ∈ tables_1, d.before a0 Z = true) (i : Nat) {d : Jvm.Cond} (h : tables_1[i]? = some d) : d.before a0 Z = true := hw d (List.mem_of_getElem? h)
theorem om {α : Type} {L : List α} {a : α} (i : Nat) (h : L[i]? = some a) : a ∈ L := List.mem_of_getElem? h
def own_EL : List (String × Nat) := consts_1
def OWorld (Z : State) (a0 : Array Value) : Prop := EW Z a0 own_EL ∧ (Sta Z Z.heap "java/lang/String" "COMPACT_STRINGS" "Z" (.int (own_sti Z "java/lang/String" "COMPACT_STRINGS" "Z")) ∧ ¬ (own_sti Z "java/lang/String" "COMPACT_STRINGS" "Z") = 0) ∧ (Sta Z Z.heap "jdk/internal/util/Preconditions" "SIOOBE_FORMATTER" "Ljava/util/function/BiFunction;" (own_stv Z "jdk/internal/util/Preconditions" "SIOOBE_FORMATTER" "Ljava/util/function/BiFunction;") ∧ (own_stv Z "jdk/internal/util/Preconditions" "SIOOBE_FORMATTER" "Ljava/util/function/BiFunction;").isRef = true) ∧ (Sta Z Z.heap "java/lang/StringUTF16" "$assertionsDisabled" "Z" (.int 1)) ∧ (Sta Z Z.heap "java/lang/StringUTF16" "HI_BYTE_SHIFT" "I" (.int 0)) ∧ (Sta Z Z.heap "java/lang/StringUTF16" "LO_BYTE_SHIFT" "I" (.int 8))
def own_low (x : Int32) : Int32 := if x < 65 then x else if 90 < x then x else (x + 32).toUInt32.toUInt16.toUInt32.toInt32
theorem own_lowB {x : Int32} (h0 : ¬ x < 0) (h1 : ¬ (65535 : Int32) < x) : ¬ own_low x < 0 ∧ ¬ (65535 : Int32) < own_low x := by
  unfold own_low
  split
  · exact ⟨h0, h1⟩
  · split
    · exact ⟨h0, h1⟩
    · exact own_lat16 _
theorem own_mod5 (x : Int32) : (x &&& 2147483647) % 5 = 0 ∨ (x &&& 2147483647) % 5 = 1 ∨ (x &&& 2147483647) % 5 = 2 ∨ (x &&& 2147483647) % 5 = 3 ∨ (x &&& 2147483647) % 5 = 4 := by
  have b : own_N (x &&& 2147483647) = own_N x % 2 ^ 31 := own_N_and 31 rfl
  generalize x &&& 2147483647 = y at b ⊢
  have c : y.toInt = own_N y := by
    have e : y.toInt = y.toBitVec.toInt := rfl
    rw [e, BitVec.toInt_eq_toNat_cond, if_pos (by show 2 * own_N y < _; omega)]; rfl
  have d : (y % 5).toInt = y.toInt.tmod 5 := by rw [Int32.toInt_mod]; rfl
  have e : (y % 5).toInt = ((own_N y % 5 : Nat) : Int) := by rw [d, c]; rfl
  have f : own_N y % 5 = 0 ∨ own_N y % 5 = 1 ∨ own_N y % 5 = 2 ∨ own_N y % 5 = 3 ∨ own_N y % 5 = 4 := by omega
  simp only [← Int32.toInt_inj]
  rcases f with f | f | f | f | f <;> rw [e, f] <;> simp
theorem ef_rm_emp4 (a : Addr) (b : Addr) (y : Value) (z : Int32) (m : MethodId) : entryFrame m #[(.ref a), (.ref b), (.int 0), (.int 0), .null] 6 = mkF m 0 #[.val (.ref a), .val (.ref b), .val (.int 0), .val (.int 0), .val .null, .unset] [] := by first | (simp [entryFrame, mkF, argsToLocals, Value.category, maxLocals]; done) | rfl
theorem pn_java_lang_String__init____CIILjava_lang_Void__V : plainFor (⟨"java/lang/String", "<init>", "([CIILjava/lang/Void;)V"⟩ : MethodName) = true := by first | exact plainFor_of_name (by first | (simp [plainName, overriddenIn]; done) | decide +kernel) | decide +kernel
theorem d2_0 : decode jdk_42_method_149_code 0 = .ok (.aload_n 0, 1) := by decide +kernel
theorem d2_1 : decode jdk_42_method_149_code 1 = .ok (.invokespecial 1, 3) := by decide +kernel
theorem d2_4 : decode jdk_42_method_149_code 4 = .ok (.iload_n 3, 1) := by decide +kernel
theorem d2_5 : decode jdk_42_method_149_code 5 = .ok (.ifCond .ne 22, 3) := by decide +kernel
theorem d2_8 : decode jdk_42_method_149_code 8 = .ok (.aload_n 0, 1) := by decide +kernel
theorem d2_9 : decode jdk_42_method_149_code 9 = .ok (.ldc 7, 2) := by decide +kernel
theorem own_wS {Z : State} {a0 : Array Value} (hw : ∀ d ∈ tables_1, d.before a0 Z = true) : ∀ d ∈ Bundle.stringAtoms, d.before a0 Z = true := fun d hd => hw d ((by decide +kernel : ∀ d ∈ Bundle.stringAtoms, d ∈ tables_1) d hd)
theorem d2_11 : decode jdk_42_method_149_code 11 = .ok (.getfield 9, 3) := by decide +kernel
theorem d2_14 : decode jdk_42_method_149_code 14 = .ok (.putfield 9, 3) := by decide +kernel
theorem d2_17 : decode jdk_42_method_149_code 17 = .ok (.aload_n 0, 1) := by decide +kernel
theorem d2_18 : decode jdk_42_method_149_code 18 = .ok (.ldc 7, 2) := by decide +kernel
theorem d2_20 : decode jdk_42_method_149_code 20 = .ok (.getfield 15, 3) := by decide +kernel
theorem d2_23 : decode jdk_42_method_149_code 23 = .ok (.putfield 15, 3) := by decide +kernel
theorem d2_26 : decode jdk_42_method_149_code 26 = .ok (.return_, 1) := by decide +kernel
theorem ef_rm_emp1 (a : Addr) (b : Addr) (y : Value) (z : Int32) (kb : ClassId) (m : MethodId) : entryFrame m #[(.ref a), (.ref b)] 2 = mkF m 0 #[.val (.ref a), .val (.ref b)] [] := by first | (simp [entryFrame, mkF, argsToLocals, Value.category, maxLocals]; done) | rfl
theorem pn_java_lang_String__init____C_V : plainFor (⟨"java/lang/String", "<init>", "([C)V"⟩ : MethodName) = true := by first | exact plainFor_of_name (by first | (simp [plainName, overriddenIn]; done) | decide +kernel) | decide +kernel
theorem d1_0 : decode jdk_42_method_3_code 0 = .ok (.aload_n 0, 1) := by decide +kernel
theorem d1_1 : decode jdk_42_method_3_code 1 = .ok (.aload_n 1, 1) := by decide +kernel
theorem d1_2 : decode jdk_42_method_3_code 2 = .ok (.iconst 0, 1) := by decide +kernel
theorem d1_3 : decode jdk_42_method_3_code 3 = .ok (.aload_n 1, 1) := by decide +kernel
theorem d1_4 : decode jdk_42_method_3_code 4 = .ok (.arraylength, 1) := by decide +kernel
theorem d1_5 : decode jdk_42_method_3_code 5 = .ok (.aconst_null, 1) := by decide +kernel
theorem d1_6 : decode jdk_42_method_3_code 6 = .ok (.invokespecial 27, 3) := by decide +kernel
theorem pd__28_5bCIILjava_2flang_2fVoid_3b_29V : parseMethodDescriptor "([CIILjava/lang/Void;)V" = some ⟨[(.array .char), .int, .int, (.object "java/lang/Void")], none⟩ := by decide +kernel
theorem d1_9 : decode jdk_42_method_3_code 9 = .ok (.return_, 1) := by decide +kernel
theorem ef_ru_pci (x : Int32) (y : Int32) (fm : Value) (h_fm : fm.isRef = true) (m : MethodId) : entryFrame m #[(.int x), (.int y), fm] 3 = mkF m 0 #[.val (.int x), .val (.int y), .val fm] [] := by simp [entryFrame, mkF, argsToLocals, XT.cat1 h_fm, show (Value.int x).category = 1 from rfl, show (Value.int y).category = 1 from rfl]
theorem pn_jdk_internal_util_Preconditions_checkIndex__IILjava_util_function_BiFunction__I : plainFor (⟨"jdk/internal/util/Preconditions", "checkIndex", "(IILjava/util/function/BiFunction;)I"⟩ : MethodName) = true := by first | exact plainFor_of_name (by first | (simp [plainName, overriddenIn]; done) | decide +kernel) | decide +kernel
theorem d18_0 : decode jdk_41_method_11_code 0 = .ok (.iload_n 0, 1) := by decide +kernel
theorem d18_1 : decode jdk_41_method_11_code 1 = .ok (.ifCond .lt 8, 3) := by decide +kernel
theorem d18_4 : decode jdk_41_method_11_code 4 = .ok (.iload_n 0, 1) := by decide +kernel
theorem d18_5 : decode jdk_41_method_11_code 5 = .ok (.iload_n 1, 1) := by decide +kernel
theorem d18_6 : decode jdk_41_method_11_code 6 = .ok (.if_icmp .lt 10, 3) := by decide +kernel
theorem d18_16 : decode jdk_41_method_11_code 16 = .ok (.iload_n 0, 1) := by decide +kernel
theorem d18_17 : decode jdk_41_method_11_code 17 = .ok (.ireturn, 1) := by decide +kernel
theorem ef_ru_sci (x : Int32) (y : Int32) (m : MethodId) : entryFrame m #[(.int x), (.int y)] 2 = mkF m 0 #[.val (.int x), .val (.int y)] [] := by first | (simp [entryFrame, mkF, argsToLocals, Value.category, maxLocals]; done) | rfl
theorem pn_java_lang_String_checkIndex__II_V : plainFor (⟨"java/lang/String", "checkIndex", "(II)V"⟩ : MethodName) = true := by first | exact plainFor_of_name (by first | (simp [plainName, overriddenIn]; done) | decide +kernel) | decide +kernel
theorem d17_0 : decode jdk_42_method_155_code 0 = .ok (.iload_n 0, 1) := by decide +kernel
theorem d17_1 : decode jdk_42_method_155_code 1 = .ok (.iload_n 1, 1) := by decide +kernel
theorem d17_2 : decode jdk_42_method_155_code 2 = .ok (.getstatic 1053, 3) := by decide +kernel
theorem d17_5 : decode jdk_42_method_155_code 5 = .ok (.invokestatic 1059, 3) := by decide +kernel
theorem pd__28IILjava_2futil_2ffunction_2fBiFunction_3b_29I : parseMethodDescriptor "(IILjava/util/function/BiFunction;)I" = some ⟨[.int, .int, (.object "java/util/function/BiFunction")], some .int⟩ := by decide +kernel
theorem d17_8 : decode jdk_42_method_155_code 8 = .ok (.pop, 1) := by decide +kernel
theorem d17_9 : decode jdk_42_method_155_code 9 = .ok (.return_, 1) := by decide +kernel
theorem ef_ru_isl0 (a : Addr) (m : MethodId) : entryFrame m #[(.ref a)] 1 = mkF m 0 #[.val (.ref a)] [] := by first | (simp [entryFrame, mkF, argsToLocals, Value.category, maxLocals]; done) | rfl
theorem pn_java_lang_String_isLatin1___Z : plainFor (⟨"java/lang/String", "isLatin1", "()Z"⟩ : MethodName) = true := by first | exact plainFor_of_name (by first | (simp [plainName, overriddenIn]; done) | decide +kernel) | decide +kernel
theorem d6_0 : decode jdk_42_method_154_code 0 = .ok (.getstatic 38, 3) := by decide +kernel
theorem d6_3 : decode jdk_42_method_154_code 3 = .ok (.ifCond .eq 14, 3) := by decide +kernel
theorem d6_6 : decode jdk_42_method_154_code 6 = .ok (.aload_n 0, 1) := by decide +kernel
theorem d6_7 : decode jdk_42_method_154_code 7 = .ok (.getfield 15, 3) := by decide +kernel
theorem d6_10 : decode jdk_42_method_154_code 10 = .ok (.ifCond .ne 7, 3) := by decide +kernel
theorem d6_13 : decode jdk_42_method_154_code 13 = .ok (.iconst 1, 1) := by decide +kernel
theorem d6_14 : decode jdk_42_method_154_code 14 = .ok (.goto 4, 3) := by decide +kernel
theorem d6_18 : decode jdk_42_method_154_code 18 = .ok (.ireturn, 1) := by decide +kernel
theorem ef_ru_isl1 (a : Addr) (m : MethodId) : entryFrame m #[(.ref a)] 1 = mkF m 0 #[.val (.ref a)] [] := by first | (simp [entryFrame, mkF, argsToLocals, Value.category, maxLocals]; done) | rfl
theorem d6_17 : decode jdk_42_method_154_code 17 = .ok (.iconst 0, 1) := by decide +kernel
theorem ef_rg_len (b : Addr) (kb : ClassId) (cs : List Int32) (m : MethodId) : entryFrame m #[(.ref b)] 1 = mkF m 0 #[.val (.ref b)] [] := by first | (simp [entryFrame, mkF, argsToLocals, Value.category, maxLocals]; done) | rfl
theorem pn_java_lang_StringUTF16_length___B_I : plainFor (⟨"java/lang/StringUTF16", "length", "([B)I"⟩ : MethodName) = true := by first | exact plainFor_of_name (by first | (simp [plainName, overriddenIn]; done) | decide +kernel) | decide +kernel
theorem d28_0 : decode jdk_52_method_6_code 0 = .ok (.aload_n 0, 1) := by decide +kernel
theorem d28_1 : decode jdk_52_method_6_code 1 = .ok (.arraylength, 1) := by decide +kernel
theorem d28_2 : decode jdk_52_method_6_code 2 = .ok (.iconst 1, 1) := by decide +kernel
theorem d28_3 : decode jdk_52_method_6_code 3 = .ok (.ishr, 1) := by decide +kernel
theorem d28_4 : decode jdk_52_method_6_code 4 = .ok (.ireturn, 1) := by decide +kernel
theorem ef_rg_uci (b : Addr) (kb : ClassId) (cs : List Int32) (i : Nat) (m : MethodId) : entryFrame m #[(.int (Int32.ofNat i)), (.ref b)] 2 = mkF m 0 #[.val (.int (Int32.ofNat i)), .val (.ref b)] [] := by first | (simp [entryFrame, mkF, argsToLocals, Value.category, maxLocals]; done) | rfl
theorem pn_java_lang_StringUTF16_checkIndex__I_B_V : plainFor (⟨"java/lang/StringUTF16", "checkIndex", "(I[B)V"⟩ : MethodName) = true := by first | exact plainFor_of_name (by first | (simp [plainName, overriddenIn]; done) | decide +kernel) | decide +kernel
theorem d32_0 : decode jdk_52_method_91_code 0 = .ok (.iload_n 0, 1) := by decide +kernel
theorem d32_1 : decode jdk_52_method_91_code 1 = .ok (.aload_n 1, 1) := by decide +kernel
theorem d32_2 : decode jdk_52_method_91_code 2 = .ok (.invokestatic 48, 3) := by decide +kernel
theorem pd__28_5bB_29I : parseMethodDescriptor "([B)I" = some ⟨[(.array .byte)], some .int⟩ := by decide +kernel
theorem d32_5 : decode jdk_52_method_91_code 5 = .ok (.invokestatic 414, 3) := by decide +kernel
theorem pd__28II_29V : parseMethodDescriptor "(II)V" = some ⟨[.int, .int], none⟩ := by decide +kernel
theorem d32_8 : decode jdk_52_method_91_code 8 = .ok (.return_, 1) := by decide +kernel
theorem ef_rg_get (b : Addr) (kb : ClassId) (cs : List Int32) (i : Nat) (m : MethodId) : entryFrame m #[(.ref b), (.int (Int32.ofNat i))] 2 = mkF m 0 #[.val (.ref b), .val (.int (Int32.ofNat i))] [] := by first | (simp [entryFrame, mkF, argsToLocals, Value.category, maxLocals]; done) | rfl
theorem pn_java_lang_StringUTF16_getChar___BI_C : plainFor (⟨"java/lang/StringUTF16", "getChar", "([BI)C"⟩ : MethodName) = true := by first | exact plainFor_of_name (by first | (simp [plainName, overriddenIn]; done) | decide +kernel) | decide +kernel
theorem d24_0 : decode jdk_52_method_5_code 0 = .ok (.getstatic 44, 3) := by decide +kernel
theorem d24_3 : decode jdk_52_method_5_code 3 = .ok (.ifCond .ne 25, 3) := by decide +kernel
theorem d24_28 : decode jdk_52_method_5_code 28 = .ok (.iload_n 1, 1) := by decide +kernel
theorem d24_29 : decode jdk_52_method_5_code 29 = .ok (.iconst 1, 1) := by decide +kernel
theorem d24_30 : decode jdk_52_method_5_code 30 = .ok (.ishl, 1) := by decide +kernel
theorem d24_31 : decode jdk_52_method_5_code 31 = .ok (.istore_n 1, 1) := by decide +kernel
theorem d24_32 : decode jdk_52_method_5_code 32 = .ok (.aload_n 0, 1) := by decide +kernel
theorem d24_33 : decode jdk_52_method_5_code 33 = .ok (.iload_n 1, 1) := by decide +kernel
theorem d24_34 : decode jdk_52_method_5_code 34 = .ok (.iinc 1 1, 3) := by decide +kernel
theorem d24_37 : decode jdk_52_method_5_code 37 = .ok (.baload, 1) := by decide +kernel
theorem d24_38 : decode jdk_52_method_5_code 38 = .ok (.sipush 255, 3) := by decide +kernel
theorem d24_41 : decode jdk_52_method_5_code 41 = .ok (.iand, 1) := by decide +kernel
theorem d24_42 : decode jdk_52_method_5_code 42 = .ok (.getstatic 59, 3) := by decide +kernel
theorem d24_45 : decode jdk_52_method_5_code 45 = .ok (.ishl, 1) := by decide +kernel
theorem d24_46 : decode jdk_52_method_5_code 46 = .ok (.aload_n 0, 1) := by decide +kernel
theorem d24_47 : decode jdk_52_method_5_code 47 = .ok (.iload_n 1, 1) := by decide +kernel
theorem d24_48 : decode jdk_52_method_5_code 48 = .ok (.baload, 1) := by decide +kernel
theorem d24_49 : decode jdk_52_method_5_code 49 = .ok (.sipush 255, 3) := by decide +kernel
theorem d24_52 : decode jdk_52_method_5_code 52 = .ok (.iand, 1) := by decide +kernel
theorem d24_53 : decode jdk_52_method_5_code 53 = .ok (.getstatic 63, 3) := by decide +kernel
theorem d24_56 : decode jdk_52_method_5_code 56 = .ok (.ishl, 1) := by decide +kernel
theorem d24_57 : decode jdk_52_method_5_code 57 = .ok (.ior, 1) := by decide +kernel
theorem d24_58 : decode jdk_52_method_5_code 58 = .ok (.i2c, 1) := by decide +kernel
theorem d24_59 : decode jdk_52_method_5_code 59 = .ok (.ireturn, 1) := by decide +kernel
theorem ef_rg_uca (b : Addr) (kb : ClassId) (cs : List Int32) (i : Nat) (m : MethodId) : entryFrame m #[(.ref b), (.int (Int32.ofNat i))] 2 = mkF m 0 #[.val (.ref b), .val (.int (Int32.ofNat i))] [] := by first | (simp [entryFrame, mkF, argsToLocals, Value.category, maxLocals]; done) | rfl
theorem pn_java_lang_StringUTF16_charAt___BI_C : plainFor (⟨"java/lang/StringUTF16", "charAt", "([BI)C"⟩ : MethodName) = true := by first | exact plainFor_of_name (by first | (simp [plainName, overriddenIn]; done) | decide +kernel) | decide +kernel
theorem d31_0 : decode jdk_52_method_83_code 0 = .ok (.iload_n 1, 1) := by decide +kernel
theorem d31_1 : decode jdk_52_method_83_code 1 = .ok (.aload_n 0, 1) := by decide +kernel
theorem d31_2 : decode jdk_52_method_83_code 2 = .ok (.invokestatic 67, 3) := by decide +kernel
theorem pd__28I_5bB_29V : parseMethodDescriptor "(I[B)V" = some ⟨[.int, (.array .byte)], none⟩ := by decide +kernel
theorem d31_5 : decode jdk_52_method_83_code 5 = .ok (.aload_n 0, 1) := by decide +kernel
theorem d31_6 : decode jdk_52_method_83_code 6 = .ok (.iload_n 1, 1) := by decide +kernel
theorem d31_7 : decode jdk_52_method_83_code 7 = .ok (.invokestatic 71, 3) := by decide +kernel
theorem pd__28_5bBI_29C : parseMethodDescriptor "([BI)C" = some ⟨[(.array .byte), .int], some .char⟩ := by decide +kernel
theorem d31_10 : decode jdk_52_method_83_code 10 = .ok (.ireturn, 1) := by decide +kernel
theorem ef_rg_lca (b : Addr) (kb : ClassId) (cs : List Int32) (i : Nat) (m : MethodId) : entryFrame m #[(.ref b), (.int (Int32.ofNat i))] 2 = mkF m 0 #[.val (.ref b), .val (.int (Int32.ofNat i))] [] := by first | (simp [entryFrame, mkF, argsToLocals, Value.category, maxLocals]; done) | rfl
theorem pn_java_lang_StringLatin1_charAt___BI_C : plainFor (⟨"java/lang/StringLatin1", "charAt", "([BI)C"⟩ : MethodName) = true := by first | exact plainFor_of_name (by first | (simp [plainName, overriddenIn]; done) | decide +kernel) | decide +kernel
theorem d16_0 : decode jdk_43_method_2_code 0 = .ok (.iload_n 1, 1) := by decide +kernel
theorem d16_1 : decode jdk_43_method_2_code 1 = .ok (.aload_n 0, 1) := by decide +kernel
theorem d16_2 : decode jdk_43_method_2_code 2 = .ok (.arraylength, 1) := by decide +kernel
theorem d16_3 : decode jdk_43_method_2_code 3 = .ok (.invokestatic 9, 3) := by decide +kernel
theorem d16_6 : decode jdk_43_method_2_code 6 = .ok (.aload_n 0, 1) := by decide +kernel
theorem d16_7 : decode jdk_43_method_2_code 7 = .ok (.iload_n 1, 1) := by decide +kernel
theorem d16_8 : decode jdk_43_method_2_code 8 = .ok (.baload, 1) := by decide +kernel
theorem d16_9 : decode jdk_43_method_2_code 9 = .ok (.sipush 255, 3) := by decide +kernel
theorem d16_12 : decode jdk_43_method_2_code 12 = .ok (.iand, 1) := by decide +kernel
theorem d16_13 : decode jdk_43_method_2_code 13 = .ok (.i2c, 1) := by decide +kernel
theorem d16_14 : decode jdk_43_method_2_code 14 = .ok (.ireturn, 1) := by decide +kernel
theorem ef_rg_ch (a : Addr) (cs : List Int32) (i : Nat) (m : MethodId) : entryFrame m #[(.ref a), (.int (Int32.ofNat i))] 2 = mkF m 0 #[.val (.ref a), .val (.int (Int32.ofNat i))] [] := by first | (simp [entryFrame, mkF, argsToLocals, Value.category, maxLocals]; done) | rfl
theorem pn_java_lang_String_charAt__I_C : plainFor (⟨"java/lang/String", "charAt", "(I)C"⟩ : MethodName) = true := by first | exact plainFor_of_name (by first | (simp [plainName, overriddenIn]; done) | decide +kernel) | decide +kernel
theorem d15_0 : decode jdk_42_method_56_code 0 = .ok (.aload_n 0, 1) := by decide +kernel
theorem d15_1 : decode jdk_42_method_56_code 1 = .ok (.invokevirtual 492, 3) := by decide +kernel
theorem pd__28_29Z : parseMethodDescriptor "()Z" = some ⟨[], some .boolean⟩ := by decide +kernel
theorem d15_4 : decode jdk_42_method_56_code 4 = .ok (.ifCond .eq 12, 3) := by decide +kernel
theorem d15_7 : decode jdk_42_method_56_code 7 = .ok (.aload_n 0, 1) := by decide +kernel
theorem d15_8 : decode jdk_42_method_56_code 8 = .ok (.getfield 9, 3) := by decide +kernel
theorem d15_11 : decode jdk_42_method_56_code 11 = .ok (.iload_n 1, 1) := by decide +kernel
theorem d15_12 : decode jdk_42_method_56_code 12 = .ok (.invokestatic 495, 3) := by decide +kernel
theorem d15_15 : decode jdk_42_method_56_code 15 = .ok (.ireturn, 1) := by decide +kernel
theorem d15_16 : decode jdk_42_method_56_code 16 = .ok (.aload_n 0, 1) := by decide +kernel
theorem d15_17 : decode jdk_42_method_56_code 17 = .ok (.getfield 9, 3) := by decide +kernel
theorem d15_20 : decode jdk_42_method_56_code 20 = .ok (.iload_n 1, 1) := by decide +kernel
theorem d15_21 : decode jdk_42_method_56_code 21 = .ok (.invokestatic 498, 3) := by decide +kernel
theorem d15_24 : decode jdk_42_method_56_code 24 = .ok (.ireturn, 1) := by decide +kernel
theorem ef_ru_nbl1 (m : MethodId) : entryFrame m #[(.int 1)] 1 = mkF m 0 #[.val (.int 1)] [] := by first | (simp [entryFrame, mkF, argsToLocals, Value.category, maxLocals]; done) | rfl
theorem pn_java_lang_StringUTF16_newBytesLength__I_I : plainFor (⟨"java/lang/StringUTF16", "newBytesLength", "(I)I"⟩ : MethodName) = true := by first | exact plainFor_of_name (by first | (simp [plainName, overriddenIn]; done) | decide +kernel) | decide +kernel
theorem d22_0 : decode jdk_52_method_3_code 0 = .ok (.iload_n 0, 1) := by decide +kernel
theorem d22_1 : decode jdk_52_method_3_code 1 = .ok (.ifCond .ge 11, 3) := by decide +kernel
theorem d22_12 : decode jdk_52_method_3_code 12 = .ok (.iload_n 0, 1) := by decide +kernel
theorem d22_13 : decode jdk_52_method_3_code 13 = .ok (.ldc 20, 2) := by decide +kernel
theorem d22_15 : decode jdk_52_method_3_code 15 = .ok (.if_icmp .lt 40, 3) := by decide +kernel
theorem d22_55 : decode jdk_52_method_3_code 55 = .ok (.iload_n 0, 1) := by decide +kernel
theorem d22_56 : decode jdk_52_method_3_code 56 = .ok (.iconst 1, 1) := by decide +kernel
theorem d22_57 : decode jdk_52_method_3_code 57 = .ok (.ishl, 1) := by decide +kernel
theorem d22_58 : decode jdk_52_method_3_code 58 = .ok (.ireturn, 1) := by decide +kernel
theorem ef_ru_nbf1 (m : MethodId) : entryFrame m #[(.int 1)] 1 = mkF m 0 #[.val (.int 1)] [] := by first | (simp [entryFrame, mkF, argsToLocals, Value.category, maxLocals]; done) | rfl
theorem pn_java_lang_StringUTF16_newBytesFor__I__B : plainFor (⟨"java/lang/StringUTF16", "newBytesFor", "(I)[B"⟩ : MethodName) = true := by first | exact plainFor_of_name (by first | (simp [plainName, overriddenIn]; done) | decide +kernel) | decide +kernel
theorem d21_0 : decode jdk_52_method_2_code 0 = .ok (.iload_n 0, 1) := by decide +kernel
theorem d21_1 : decode jdk_52_method_2_code 1 = .ok (.invokestatic 11, 3) := by decide +kernel
theorem pd__28I_29I : parseMethodDescriptor "(I)I" = some ⟨[.int], some .int⟩ := by decide +kernel
theorem d21_4 : decode jdk_52_method_2_code 4 = .ok (.newarray .byte, 2) := by decide +kernel
theorem d21_6 : decode jdk_52_method_2_code 6 = .ok (.areturn, 1) := by decide +kernel
theorem ef_ru_put1_0 (b : Addr) (kb : ClassId) (x : Int32) (dv : Value) (e0 : Value) (e1 : Value) (m : MethodId) : entryFrame m #[(.ref b), (.int 0), (.int x)] 3 = mkF m 0 #[.val (.ref b), .val (.int 0), .val (.int x)] [] := by first | (simp [entryFrame, mkF, argsToLocals, Value.category, maxLocals]; done) | rfl
theorem pn_java_lang_StringUTF16_putChar___BII_V : plainFor (⟨"java/lang/StringUTF16", "putChar", "([BII)V"⟩ : MethodName) = true := by first | exact plainFor_of_name (by first | (simp [plainName, overriddenIn]; done) | decide +kernel) | decide +kernel
theorem d23_0 : decode jdk_52_method_4_code 0 = .ok (.getstatic 44, 3) := by decide +kernel
theorem d23_3 : decode jdk_52_method_4_code 3 = .ok (.ifCond .ne 25, 3) := by decide +kernel
theorem d23_28 : decode jdk_52_method_4_code 28 = .ok (.iload_n 1, 1) := by decide +kernel
theorem d23_29 : decode jdk_52_method_4_code 29 = .ok (.iconst 1, 1) := by decide +kernel
theorem d23_30 : decode jdk_52_method_4_code 30 = .ok (.ishl, 1) := by decide +kernel
theorem d23_31 : decode jdk_52_method_4_code 31 = .ok (.istore_n 1, 1) := by decide +kernel
theorem d23_32 : decode jdk_52_method_4_code 32 = .ok (.aload_n 0, 1) := by decide +kernel
theorem d23_33 : decode jdk_52_method_4_code 33 = .ok (.iload_n 1, 1) := by decide +kernel
theorem d23_34 : decode jdk_52_method_4_code 34 = .ok (.iinc 1 1, 3) := by decide +kernel
theorem d23_37 : decode jdk_52_method_4_code 37 = .ok (.iload_n 2, 1) := by decide +kernel
theorem d23_38 : decode jdk_52_method_4_code 38 = .ok (.getstatic 59, 3) := by decide +kernel
theorem d23_41 : decode jdk_52_method_4_code 41 = .ok (.ishr, 1) := by decide +kernel
theorem d23_42 : decode jdk_52_method_4_code 42 = .ok (.i2b, 1) := by decide +kernel
theorem d23_43 : decode jdk_52_method_4_code 43 = .ok (.bastore, 1) := by decide +kernel
theorem d23_44 : decode jdk_52_method_4_code 44 = .ok (.aload_n 0, 1) := by decide +kernel
theorem d23_45 : decode jdk_52_method_4_code 45 = .ok (.iload_n 1, 1) := by decide +kernel
theorem d23_46 : decode jdk_52_method_4_code 46 = .ok (.iload_n 2, 1) := by decide +kernel
theorem d23_47 : decode jdk_52_method_4_code 47 = .ok (.getstatic 63, 3) := by decide +kernel
theorem d23_50 : decode jdk_52_method_4_code 50 = .ok (.ishr, 1) := by decide +kernel
theorem d23_51 : decode jdk_52_method_4_code 51 = .ok (.i2b, 1) := by decide +kernel
theorem d23_52 : decode jdk_52_method_4_code 52 = .ok (.bastore, 1) := by decide +kernel
theorem d23_53 : decode jdk_52_method_4_code 53 = .ok (.return_, 1) := by decide +kernel
theorem ef_ru_tob1 (b : Addr) (kb : ClassId) (dv : Value) (x0 : Int32) (m : MethodId) : entryFrame m #[(.ref b), (.int 0), (.int 1)] 5 = mkF m 0 #[.val (.ref b), .val (.int 0), .val (.int 1), .unset, .unset] [] := by first | (simp [entryFrame, mkF, argsToLocals, Value.category, maxLocals]; done) | rfl
theorem pn_java_lang_StringUTF16_toBytes___CII__B : plainFor (⟨"java/lang/StringUTF16", "toBytes", "([CII)[B"⟩ : MethodName) = true := by first | exact plainFor_of_name (by first | (simp [plainName, overriddenIn]; done) | decide +kernel) | decide +kernel
theorem d20_0 : decode jdk_52_method_14_code 0 = .ok (.iload_n 2, 1) := by decide +kernel
theorem d20_1 : decode jdk_52_method_14_code 1 = .ok (.invokestatic 107, 3) := by decide +kernel
theorem pd__28I_29_5bB : parseMethodDescriptor "(I)[B" = some ⟨[.int], some (.array .byte)⟩ := by decide +kernel
theorem d20_4 : decode jdk_52_method_14_code 4 = .ok (.astore_n 3, 1) := by decide +kernel
theorem d20_5 : decode jdk_52_method_14_code 5 = .ok (.iconst 0, 1) := by decide +kernel
theorem d20_6 : decode jdk_52_method_14_code 6 = .ok (.istore 4, 2) := by decide +kernel
theorem d20_8 : decode jdk_52_method_14_code 8 = .ok (.iload 4, 2) := by decide +kernel
theorem d20_10 : decode jdk_52_method_14_code 10 = .ok (.iload_n 2, 1) := by decide +kernel
theorem d20_11 : decode jdk_52_method_14_code 11 = .ok (.if_icmp .ge 21, 3) := by decide +kernel
theorem d20_14 : decode jdk_52_method_14_code 14 = .ok (.aload_n 3, 1) := by decide +kernel
theorem d20_15 : decode jdk_52_method_14_code 15 = .ok (.iload 4, 2) := by decide +kernel
theorem d20_17 : decode jdk_52_method_14_code 17 = .ok (.aload_n 0, 1) := by decide +kernel
theorem d20_18 : decode jdk_52_method_14_code 18 = .ok (.iload_n 1, 1) := by decide +kernel
theorem d20_19 : decode jdk_52_method_14_code 19 = .ok (.caload, 1) := by decide +kernel
theorem d20_20 : decode jdk_52_method_14_code 20 = .ok (.invokestatic 111, 3) := by decide +kernel
theorem own_tx2 {Z : State} {a0 : Array Value} (hw : ∀ d ∈ tables_1, d.before a0 Z = true) : ∀ q ∈ own_EL, ∃ text : String, (Jvm.Cond.stringLink q.1 q.2 text).before a0 Z = true ∧ (∀ c ∈ text.toList, c.toNat < 256) ∧ text.toList.length ≠ (2 : Int32).toNatClampNeg := (own_txc (ow hw 15 rfl) (by decide) (by decide) (fun _ q => nomatch q))
theorem pd__28_5bBII_29V : parseMethodDescriptor "([BII)V" = some ⟨[(.array .byte), .int, .int], none⟩ := by decide +kernel
theorem d20_23 : decode jdk_52_method_14_code 23 = .ok (.iinc 1 1, 3) := by decide +kernel
theorem d20_26 : decode jdk_52_method_14_code 26 = .ok (.iinc 4 1, 3) := by decide +kernel
theorem d20_29 : decode jdk_52_method_14_code 29 = .ok (.goto (-21), 3) := by decide +kernel
theorem d20_32 : decode jdk_52_method_14_code 32 = .ok (.aload_n 3, 1) := by decide +kernel
theorem d20_33 : decode jdk_52_method_14_code 33 = .ok (.areturn, 1) := by decide +kernel
theorem ef_ru_cmi1_0 (b : Addr) (kb : ClassId) (dv : Value) (d : Addr) (kd : ClassId) (x0 : Int32) (m : MethodId) : entryFrame m #[(.ref b), (.int 0), (.ref d), (.int 0), (.int 1)] 7 = mkF m 0 #[.val (.ref b), .val (.int 0), .val (.ref d), .val (.int 0), .val (.int 1), .unset, .unset] [] := by first | (simp [entryFrame, mkF, argsToLocals, Value.category, maxLocals]; done) | rfl
theorem pn_java_lang_StringUTF16_compress___CI_BII_I : plainFor (⟨"java/lang/StringUTF16", "compress", "([CI[BII)I"⟩ : MethodName) = true := by first | exact plainFor_of_name (by first | (simp [plainName, overriddenIn]; done) | decide +kernel) | decide +kernel
theorem d12_0 : decode jdk_52_method_21_code 0 = .ok (.iconst 0, 1) := by decide +kernel
theorem d12_1 : decode jdk_52_method_21_code 1 = .ok (.istore 5, 2) := by decide +kernel
theorem d12_3 : decode jdk_52_method_21_code 3 = .ok (.iload 5, 2) := by decide +kernel
theorem d12_5 : decode jdk_52_method_21_code 5 = .ok (.iload 4, 2) := by decide +kernel
theorem d12_7 : decode jdk_52_method_21_code 7 = .ok (.if_icmp .ge 37, 3) := by decide +kernel
theorem d12_10 : decode jdk_52_method_21_code 10 = .ok (.aload_n 0, 1) := by decide +kernel
theorem d12_11 : decode jdk_52_method_21_code 11 = .ok (.iload_n 1, 1) := by decide +kernel
theorem d12_12 : decode jdk_52_method_21_code 12 = .ok (.caload, 1) := by decide +kernel
theorem d12_13 : decode jdk_52_method_21_code 13 = .ok (.istore 6, 2) := by decide +kernel
theorem d12_15 : decode jdk_52_method_21_code 15 = .ok (.iload 6, 2) := by decide +kernel
theorem d12_17 : decode jdk_52_method_21_code 17 = .ok (.sipush 255, 3) := by decide +kernel
theorem d12_20 : decode jdk_52_method_21_code 20 = .ok (.if_icmp .le 6, 3) := by decide +kernel
theorem d12_23 : decode jdk_52_method_21_code 23 = .ok (.iload 5, 2) := by decide +kernel
theorem d12_25 : decode jdk_52_method_21_code 25 = .ok (.ireturn, 1) := by decide +kernel
theorem ef_ru_cmp1_0 (b : Addr) (kb : ClassId) (dv : Value) (x0 : Int32) (m : MethodId) : entryFrame m #[(.ref b), (.int 0), (.int 1)] 6 = mkF m 0 #[.val (.ref b), .val (.int 0), .val (.int 1), .unset, .unset, .unset] [] := by first | (simp [entryFrame, mkF, argsToLocals, Value.category, maxLocals]; done) | rfl
theorem pn_java_lang_StringUTF16_compress___CII__B : plainFor (⟨"java/lang/StringUTF16", "compress", "([CII)[B"⟩ : MethodName) = true := by first | exact plainFor_of_name (by first | (simp [plainName, overriddenIn]; done) | decide +kernel) | decide +kernel
theorem d11_0 : decode jdk_52_method_16_code 0 = .ok (.iload_n 2, 1) := by decide +kernel
theorem d11_1 : decode jdk_52_method_16_code 1 = .ok (.newarray .byte, 2) := by decide +kernel
theorem d11_3 : decode jdk_52_method_16_code 3 = .ok (.astore_n 3, 1) := by decide +kernel
theorem d11_4 : decode jdk_52_method_16_code 4 = .ok (.aload_n 0, 1) := by decide +kernel
theorem d11_5 : decode jdk_52_method_16_code 5 = .ok (.iload_n 1, 1) := by decide +kernel
theorem d11_6 : decode jdk_52_method_16_code 6 = .ok (.aload_n 3, 1) := by decide +kernel
theorem d11_7 : decode jdk_52_method_16_code 7 = .ok (.iconst 0, 1) := by decide +kernel
theorem d11_8 : decode jdk_52_method_16_code 8 = .ok (.iload_n 2, 1) := by decide +kernel
theorem d11_9 : decode jdk_52_method_16_code 9 = .ok (.invokestatic 115, 3) := by decide +kernel
theorem pd__28_5bCI_5bBII_29I : parseMethodDescriptor "([CI[BII)I" = some ⟨[(.array .char), .int, (.array .byte), .int, .int], some .int⟩ := by decide +kernel
theorem d11_12 : decode jdk_52_method_16_code 12 = .ok (.istore 4, 2) := by decide +kernel
theorem d11_14 : decode jdk_52_method_16_code 14 = .ok (.iload 4, 2) := by decide +kernel
theorem d11_16 : decode jdk_52_method_16_code 16 = .ok (.iload_n 2, 1) := by decide +kernel
theorem d11_17 : decode jdk_52_method_16_code 17 = .ok (.if_icmp .eq 40, 3) := by decide +kernel
theorem d11_20 : decode jdk_52_method_16_code 20 = .ok (.aload_n 0, 1) := by decide +kernel
theorem d11_21 : decode jdk_52_method_16_code 21 = .ok (.iload_n 1, 1) := by decide +kernel
theorem d11_22 : decode jdk_52_method_16_code 22 = .ok (.iload_n 2, 1) := by decide +kernel
theorem d11_23 : decode jdk_52_method_16_code 23 = .ok (.invokestatic 119, 3) := by decide +kernel
theorem pd__28_5bCII_29_5bB : parseMethodDescriptor "([CII)[B" = some ⟨[(.array .char), .int, .int], some (.array .byte)⟩ := by decide +kernel
theorem d11_26 : decode jdk_52_method_16_code 26 = .ok (.astore 5, 2) := by decide +kernel
theorem d11_28 : decode jdk_52_method_16_code 28 = .ok (.aload 5, 2) := by decide +kernel
theorem d11_30 : decode jdk_52_method_16_code 30 = .ok (.iload 4, 2) := by decide +kernel
theorem d11_32 : decode jdk_52_method_16_code 32 = .ok (.invokestatic 71, 3) := by decide +kernel
theorem d11_35 : decode jdk_52_method_16_code 35 = .ok (.sipush 255, 3) := by decide +kernel
theorem d11_38 : decode jdk_52_method_16_code 38 = .ok (.if_icmp .gt 16, 3) := by decide +kernel
theorem d11_54 : decode jdk_52_method_16_code 54 = .ok (.aload 5, 2) := by decide +kernel
theorem d11_56 : decode jdk_52_method_16_code 56 = .ok (.areturn, 1) := by decide +kernel
theorem ef_ru_cmi1_1 (b : Addr) (kb : ClassId) (dv : Value) (d : Addr) (kd : ClassId) (x0 : Int32) (m : MethodId) : entryFrame m #[(.ref b), (.int 0), (.ref d), (.int 0), (.int 1)] 7 = mkF m 0 #[.val (.ref b), .val (.int 0), .val (.ref d), .val (.int 0), .val (.int 1), .unset, .unset] [] := by first | (simp [entryFrame, mkF, argsToLocals, Value.category, maxLocals]; done) | rfl
theorem d12_26 : decode jdk_52_method_21_code 26 = .ok (.aload_n 2, 1) := by decide +kernel
theorem d12_27 : decode jdk_52_method_21_code 27 = .ok (.iload_n 3, 1) := by decide +kernel
theorem d12_28 : decode jdk_52_method_21_code 28 = .ok (.iload 6, 2) := by decide +kernel
theorem d12_30 : decode jdk_52_method_21_code 30 = .ok (.i2b, 1) := by decide +kernel
theorem d12_31 : decode jdk_52_method_21_code 31 = .ok (.bastore, 1) := by decide +kernel
theorem d12_32 : decode jdk_52_method_21_code 32 = .ok (.iinc 1 1, 3) := by decide +kernel
theorem d12_35 : decode jdk_52_method_21_code 35 = .ok (.iinc 3 1, 3) := by decide +kernel
theorem d12_38 : decode jdk_52_method_21_code 38 = .ok (.iinc 5 1, 3) := by decide +kernel
theorem d12_41 : decode jdk_52_method_21_code 41 = .ok (.goto (-38), 3) := by decide +kernel
theorem d12_44 : decode jdk_52_method_21_code 44 = .ok (.iload 4, 2) := by decide +kernel
theorem d12_46 : decode jdk_52_method_21_code 46 = .ok (.ireturn, 1) := by decide +kernel
theorem ef_ru_cmp1_1 (b : Addr) (kb : ClassId) (dv : Value) (x0 : Int32) (m : MethodId) : entryFrame m #[(.ref b), (.int 0), (.int 1)] 6 = mkF m 0 #[.val (.ref b), .val (.int 0), .val (.int 1), .unset, .unset, .unset] [] := by first | (simp [entryFrame, mkF, argsToLocals, Value.category, maxLocals]; done) | rfl
theorem d11_57 : decode jdk_52_method_16_code 57 = .ok (.aload_n 3, 1) := by decide +kernel
theorem d11_58 : decode jdk_52_method_16_code 58 = .ok (.areturn, 1) := by decide +kernel
theorem ef_ru_cod1_1 (b : Addr) (kb : ClassId) (vs : List Value) (dv : Value) (m : MethodId) : entryFrame m #[(.ref b), (.int 1)] 2 = mkF m 0 #[.val (.ref b), .val (.int 1)] [] := by first | (simp [entryFrame, mkF, argsToLocals, Value.category, maxLocals]; done) | rfl
theorem pn_java_lang_StringUTF16_coderFromArrayLen___BI_B : plainFor (⟨"java/lang/StringUTF16", "coderFromArrayLen", "([BI)B"⟩ : MethodName) = true := by first | exact plainFor_of_name (by first | (simp [plainName, overriddenIn]; done) | decide +kernel) | decide +kernel
theorem d13_0 : decode jdk_52_method_15_code 0 = .ok (.iload_n 1, 1) := by decide +kernel
theorem d13_1 : decode jdk_52_method_15_code 1 = .ok (.aload_n 0, 1) := by decide +kernel
theorem d13_2 : decode jdk_52_method_15_code 2 = .ok (.arraylength, 1) := by decide +kernel
theorem d13_3 : decode jdk_52_method_15_code 3 = .ok (.isub, 1) := by decide +kernel
theorem d13_4 : decode jdk_52_method_15_code 4 = .ok (.bipush 31, 2) := by decide +kernel
theorem d13_6 : decode jdk_52_method_15_code 6 = .ok (.iushr, 1) := by decide +kernel
theorem d13_7 : decode jdk_52_method_15_code 7 = .ok (.i2b, 1) := by decide +kernel
theorem d13_8 : decode jdk_52_method_15_code 8 = .ok (.ireturn, 1) := by decide +kernel
theorem ef_ru_cod1_2 (b : Addr) (kb : ClassId) (vs : List Value) (dv : Value) (m : MethodId) : entryFrame m #[(.ref b), (.int 1)] 2 = mkF m 0 #[.val (.ref b), .val (.int 1)] [] := by first | (simp [entryFrame, mkF, argsToLocals, Value.category, maxLocals]; done) | rfl
theorem ef_ru_inv1 (a : Addr) (b : Addr) (y : Value) (z : Int32) (kb : ClassId) (dv : Value) (x0 : Int32) (m : MethodId) : entryFrame m #[(.ref a), (.ref b), (.int 0), (.int 1), .null] 6 = mkF m 0 #[.val (.ref a), .val (.ref b), .val (.int 0), .val (.int 1), .val .null, .unset] [] := by first | (simp [entryFrame, mkF, argsToLocals, Value.category, maxLocals]; done) | rfl
theorem d2_27 : decode jdk_42_method_149_code 27 = .ok (.getstatic 38, 3) := by decide +kernel
theorem d2_30 : decode jdk_42_method_149_code 30 = .ok (.ifCond .eq 28, 3) := by decide +kernel
theorem d2_33 : decode jdk_42_method_149_code 33 = .ok (.aload_n 1, 1) := by decide +kernel
theorem d2_34 : decode jdk_42_method_149_code 34 = .ok (.iload_n 2, 1) := by decide +kernel
theorem d2_35 : decode jdk_42_method_149_code 35 = .ok (.iload_n 3, 1) := by decide +kernel
theorem d2_36 : decode jdk_42_method_149_code 36 = .ok (.invokestatic 177, 3) := by decide +kernel
theorem d2_39 : decode jdk_42_method_149_code 39 = .ok (.astore 5, 2) := by decide +kernel
theorem d2_41 : decode jdk_42_method_149_code 41 = .ok (.aload_n 0, 1) := by decide +kernel
theorem d2_42 : decode jdk_42_method_149_code 42 = .ok (.aload 5, 2) := by decide +kernel
theorem d2_44 : decode jdk_42_method_149_code 44 = .ok (.iload_n 3, 1) := by decide +kernel
theorem d2_45 : decode jdk_42_method_149_code 45 = .ok (.invokestatic 47, 3) := by decide +kernel
theorem pd__28_5bBI_29B : parseMethodDescriptor "([BI)B" = some ⟨[(.array .byte), .int], some .byte⟩ := by decide +kernel
theorem d2_48 : decode jdk_42_method_149_code 48 = .ok (.putfield 15, 3) := by decide +kernel
theorem d2_51 : decode jdk_42_method_149_code 51 = .ok (.aload_n 0, 1) := by decide +kernel
theorem d2_52 : decode jdk_42_method_149_code 52 = .ok (.aload 5, 2) := by decide +kernel
theorem d2_54 : decode jdk_42_method_149_code 54 = .ok (.putfield 9, 3) := by decide +kernel
theorem d2_57 : decode jdk_42_method_149_code 57 = .ok (.return_, 1) := by decide +kernel
theorem ef_ru_ini1 (a : Addr) (b : Addr) (y : Value) (z : Int32) (kb : ClassId) (dv : Value) (x0 : Int32) (m : MethodId) : entryFrame m #[(.ref a), (.ref b)] 2 = mkF m 0 #[.val (.ref a), .val (.ref b)] [] := by first | (simp [entryFrame, mkF, argsToLocals, Value.category, maxLocals]; done) | rfl
theorem ef_ru_nbl2 (m : MethodId) : entryFrame m #[(.int 2)] 1 = mkF m 0 #[.val (.int 2)] [] := by first | (simp [entryFrame, mkF, argsToLocals, Value.category, maxLocals]; done) | rfl
theorem ef_ru_nbf2 (m : MethodId) : entryFrame m #[(.int 2)] 1 = mkF m 0 #[.val (.int 2)] [] := by first | (simp [entryFrame, mkF, argsToLocals, Value.category, maxLocals]; done) | rfl
theorem ef_ru_put2_0 (b : Addr) (kb : ClassId) (x : Int32) (dv : Value) (e0 : Value) (e1 : Value) (e2 : Value) (e3 : Value) (m : MethodId) : entryFrame m #[(.ref b), (.int 0), (.int x)] 3 = mkF m 0 #[.val (.ref b), .val (.int 0), .val (.int x)] [] := by first | (simp [entryFrame, mkF, argsToLocals, Value.category, maxLocals]; done) | rfl
theorem ef_ru_put2_1 (b : Addr) (kb : ClassId) (x : Int32) (dv : Value) (e0 : Value) (e1 : Value) (e2 : Value) (e3 : Value) (m : MethodId) : entryFrame m #[(.ref b), (.int 1), (.int x)] 3 = mkF m 0 #[.val (.ref b), .val (.int 1), .val (.int x)] [] := by first | (simp [entryFrame, mkF, argsToLocals, Value.category, maxLocals]; done) | rfl
theorem ef_ru_tob2 (b : Addr) (kb : ClassId) (dv : Value) (x0 : Int32) (x1 : Int32) (m : MethodId) : entryFrame m #[(.ref b), (.int 0), (.int 2)] 5 = mkF m 0 #[.val (.ref b), .val (.int 0), .val (.int 2), .unset, .unset] [] := by first | (simp [entryFrame, mkF, argsToLocals, Value.category, maxLocals]; done) | rfl
theorem own_tx4 {Z : State} {a0 : Array Value} (hw : ∀ d ∈ tables_1, d.before a0 Z = true) : ∀ q ∈ own_EL, ∃ text : String, (Jvm.Cond.stringLink q.1 q.2 text).before a0 Z = true ∧ (∀ c ∈ text.toList, c.toNat < 256) ∧ text.toList.length ≠ (4 : Int32).toNatClampNeg := (own_txc (ow hw 15 rfl) (by decide) (by decide) (fun _ q => nomatch q))
theorem ef_ru_cmi2_0 (b : Addr) (kb : ClassId) (dv : Value) (d : Addr) (kd : ClassId) (x0 : Int32) (x1 : Int32) (m : MethodId) : entryFrame m #[(.ref b), (.int 0), (.ref d), (.int 0), (.int 2)] 7 = mkF m 0 #[.val (.ref b), .val (.int 0), .val (.ref d), .val (.int 0), .val (.int 2), .unset, .unset] [] := by first | (simp [entryFrame, mkF, argsToLocals, Value.category, maxLocals]; done) | rfl
theorem ef_ru_cmp2_0 (b : Addr) (kb : ClassId) (dv : Value) (x0 : Int32) (x1 : Int32) (m : MethodId) : entryFrame m #[(.ref b), (.int 0), (.int 2)] 6 = mkF m 0 #[.val (.ref b), .val (.int 0), .val (.int 2), .unset, .unset, .unset] [] := by first | (simp [entryFrame, mkF, argsToLocals, Value.category, maxLocals]; done) | rfl
theorem ef_ru_cmi2_1 (b : Addr) (kb : ClassId) (dv : Value) (d : Addr) (kd : ClassId) (x0 : Int32) (x1 : Int32) (m : MethodId) : entryFrame m #[(.ref b), (.int 0), (.ref d), (.int 0), (.int 2)] 7 = mkF m 0 #[.val (.ref b), .val (.int 0), .val (.ref d), .val (.int 0), .val (.int 2), .unset, .unset] [] := by first | (simp [entryFrame, mkF, argsToLocals, Value.category, maxLocals]; done) | rfl
theorem ef_ru_cmp2_1 (b : Addr) (kb : ClassId) (dv : Value) (x0 : Int32) (x1 : Int32) (m : MethodId) : entryFrame m #[(.ref b), (.int 0), (.int 2)] 6 = mkF m 0 #[.val (.ref b), .val (.int 0), .val (.int 2), .unset, .unset, .unset] [] := by first | (simp [entryFrame, mkF, argsToLocals, Value.category, maxLocals]; done) | rfl
theorem ef_ru_cmi2_2 (b : Addr) (kb : ClassId) (dv : Value) (d : Addr) (kd : ClassId) (x0 : Int32) (x1 : Int32) (m : MethodId) : entryFrame m #[(.ref b), (.int 0), (.ref d), (.int 0), (.int 2)] 7 = mkF m 0 #[.val (.ref b), .val (.int 0), .val (.ref d), .val (.int 0), .val (.int 2), .unset, .unset] [] := by first | (simp [entryFrame, mkF, argsToLocals, Value.category, maxLocals]; done) | rfl
theorem ef_ru_cmp2_2 (b : Addr) (kb : ClassId) (dv : Value) (x0 : Int32) (x1 : Int32) (m : MethodId) : entryFrame m #[(.ref b), (.int 0), (.int 2)] 6 = mkF m 0 #[.val (.ref b), .val (.int 0), .val (.int 2), .unset, .unset, .unset] [] := by first | (simp [entryFrame, mkF, argsToLocals, Value.category, maxLocals]; done) | rfl
theorem ef_ru_cod2_2 (b : Addr) (kb : ClassId) (vs : List Value) (dv : Value) (m : MethodId) : entryFrame m #[(.ref b), (.int 2)] 2 = mkF m 0 #[.val (.ref b), .val (.int 2)] [] := by first | (simp [entryFrame, mkF, argsToLocals, Value.category, maxLocals]; done) | rfl
theorem ef_ru_cod2_4 (b : Addr) (kb : ClassId) (vs : List Value) (dv : Value) (m : MethodId) : entryFrame m #[(.ref b), (.int 2)] 2 = mkF m 0 #[.val (.ref b), .val (.int 2)] [] := by first | (simp [entryFrame, mkF, argsToLocals, Value.category, maxLocals]; done) | rfl
theorem ef_ru_inv2 (a : Addr) (b : Addr) (y : Value) (z : Int32) (kb : ClassId) (dv : Value) (x0 : Int32) (x1 : Int32) (m : MethodId) : entryFrame m #[(.ref a), (.ref b), (.int 0), (.int 2), .null] 6 = mkF m 0 #[.val (.ref a), .val (.ref b), .val (.int 0), .val (.int 2), .val .null, .unset] [] := by first | (simp [entryFrame, mkF, argsToLocals, Value.category, maxLocals]; done) | rfl
theorem ef_ru_ini2 (a : Addr) (b : Addr) (y : Value) (z : Int32) (kb : ClassId) (dv : Value) (x0 : Int32) (x1 : Int32) (m : MethodId) : entryFrame m #[(.ref a), (.ref b)] 2 = mkF m 0 #[.val (.ref a), .val (.ref b)] [] := by first | (simp [entryFrame, mkF, argsToLocals, Value.category, maxLocals]; done) | rfl
theorem ef_ru_nbl3 (m : MethodId) : entryFrame m #[(.int 3)] 1 = mkF m 0 #[.val (.int 3)] [] := by first | (simp [entryFrame, mkF, argsToLocals, Value.category, maxLocals]; done) | rfl
theorem ef_ru_nbf3 (m : MethodId) : entryFrame m #[(.int 3)] 1 = mkF m 0 #[.val (.int 3)] [] := by first | (simp [entryFrame, mkF, argsToLocals, Value.category, maxLocals]; done) | rfl
theorem ef_ru_put3_0 (b : Addr) (kb : ClassId) (x : Int32) (dv : Value) (e0 : Value) (e1 : Value) (e2 : Value) (e3 : Value) (e4 : Value) (e5 : Value) (m : MethodId) : entryFrame m #[(.ref b), (.int 0), (.int x)] 3 = mkF m 0 #[.val (.ref b), .val (.int 0), .val (.int x)] [] := by first | (simp [entryFrame, mkF, argsToLocals, Value.category, maxLocals]; done) | rfl
theorem ef_ru_put3_1 (b : Addr) (kb : ClassId) (x : Int32) (dv : Value) (e0 : Value) (e1 : Value) (e2 : Value) (e3 : Value) (e4 : Value) (e5 : Value) (m : MethodId) : entryFrame m #[(.ref b), (.int 1), (.int x)] 3 = mkF m 0 #[.val (.ref b), .val (.int 1), .val (.int x)] [] := by first | (simp [entryFrame, mkF, argsToLocals, Value.category, maxLocals]; done) | rfl
theorem ef_ru_put3_2 (b : Addr) (kb : ClassId) (x : Int32) (dv : Value) (e0 : Value) (e1 : Value) (e2 : Value) (e3 : Value) (e4 : Value) (e5 : Value) (m : MethodId) : entryFrame m #[(.ref b), (.int 2), (.int x)] 3 = mkF m 0 #[.val (.ref b), .val (.int 2), .val (.int x)] [] := by first | (simp [entryFrame, mkF, argsToLocals, Value.category, maxLocals]; done) | rfl
theorem ef_ru_tob3 (b : Addr) (kb : ClassId) (dv : Value) (x0 : Int32) (x1 : Int32) (x2 : Int32) (m : MethodId) : entryFrame m #[(.ref b), (.int 0), (.int 3)] 5 = mkF m 0 #[.val (.ref b), .val (.int 0), .val (.int 3), .unset, .unset] [] := by first | (simp [entryFrame, mkF, argsToLocals, Value.category, maxLocals]; done) | rfl
theorem own_tx6 {Z : State} {a0 : Array Value} (hw : ∀ d ∈ tables_1, d.before a0 Z = true) : ∀ q ∈ own_EL, ∃ text : String, (Jvm.Cond.stringLink q.1 q.2 text).before a0 Z = true ∧ (∀ c ∈ text.toList, c.toNat < 256) ∧ text.toList.length ≠ (6 : Int32).toNatClampNeg := (own_txc (ow hw 15 rfl) (by decide) (by decide) (fun _ q => nomatch q))
theorem ef_ru_cmi3_0 (b : Addr) (kb : ClassId) (dv : Value) (d : Addr) (kd : ClassId) (x0 : Int32) (x1 : Int32) (x2 : Int32) (m : MethodId) : entryFrame m #[(.ref b), (.int 0), (.ref d), (.int 0), (.int 3)] 7 = mkF m 0 #[.val (.ref b), .val (.int 0), .val (.ref d), .val (.int 0), .val (.int 3), .unset, .unset] [] := by first | (simp [entryFrame, mkF, argsToLocals, Value.category, maxLocals]; done) | rfl
theorem ef_ru_cmp3_0 (b : Addr) (kb : ClassId) (dv : Value) (x0 : Int32) (x1 : Int32) (x2 : Int32) (m : MethodId) : entryFrame m #[(.ref b), (.int 0), (.int 3)] 6 = mkF m 0 #[.val (.ref b), .val (.int 0), .val (.int 3), .unset, .unset, .unset] [] := by first | (simp [entryFrame, mkF, argsToLocals, Value.category, maxLocals]; done) | rfl
theorem ef_ru_cmi3_1 (b : Addr) (kb : ClassId) (dv : Value) (d : Addr) (kd : ClassId) (x0 : Int32) (x1 : Int32) (x2 : Int32) (m : MethodId) : entryFrame m #[(.ref b), (.int 0), (.ref d), (.int 0), (.int 3)] 7 = mkF m 0 #[.val (.ref b), .val (.int 0), .val (.ref d), .val (.int 0), .val (.int 3), .unset, .unset] [] := by first | (simp [entryFrame, mkF, argsToLocals, Value.category, maxLocals]; done) | rfl
theorem ef_ru_cmp3_1 (b : Addr) (kb : ClassId) (dv : Value) (x0 : Int32) (x1 : Int32) (x2 : Int32) (m : MethodId) : entryFrame m #[(.ref b), (.int 0), (.int 3)] 6 = mkF m 0 #[.val (.ref b), .val (.int 0), .val (.int 3), .unset, .unset, .unset] [] := by first | (simp [entryFrame, mkF, argsToLocals, Value.category, maxLocals]; done) | rfl
theorem ef_ru_cmi3_2 (b : Addr) (kb : ClassId) (dv : Value) (d : Addr) (kd : ClassId) (x0 : Int32) (x1 : Int32) (x2 : Int32) (m : MethodId) : entryFrame m #[(.ref b), (.int 0), (.ref d), (.int 0), (.int 3)] 7 = mkF m 0 #[.val (.ref b), .val (.int 0), .val (.ref d), .val (.int 0), .val (.int 3), .unset, .unset] [] := by first | (simp [entryFrame, mkF, argsToLocals, Value.category, maxLocals]; done) | rfl
theorem ef_ru_cmp3_2 (b : Addr) (kb : ClassId) (dv : Value) (x0 : Int32) (x1 : Int32) (x2 : Int32) (m : MethodId) : entryFrame m #[(.ref b), (.int 0), (.int 3)] 6 = mkF m 0 #[.val (.ref b), .val (.int 0), .val (.int 3), .unset, .unset, .unset] [] := by first | (simp [entryFrame, mkF, argsToLocals, Value.category, maxLocals]; done) | rfl
theorem ef_ru_cmi3_3 (b : Addr) (kb : ClassId) (dv : Value) (d : Addr) (kd : ClassId) (x0 : Int32) (x1 : Int32) (x2 : Int32) (m : MethodId) : entryFrame m #[(.ref b), (.int 0), (.ref d), (.int 0), (.int 3)] 7 = mkF m 0 #[.val (.ref b), .val (.int 0), .val (.ref d), .val (.int 0), .val (.int 3), .unset, .unset] [] := by first | (simp [entryFrame, mkF, argsToLocals, Value.category, maxLocals]; done) | rfl
theorem ef_ru_cmp3_3 (b : Addr) (kb : ClassId) (dv : Value) (x0 : Int32) (x1 : Int32) (x2 : Int32) (m : MethodId) : entryFrame m #[(.ref b), (.int 0), (.int 3)] 6 = mkF m 0 #[.val (.ref b), .val (.int 0), .val (.int 3), .unset, .unset, .unset] [] := by first | (simp [entryFrame, mkF, argsToLocals, Value.category, maxLocals]; done) | rfl
theorem ef_ru_cod3_3 (b : Addr) (kb : ClassId) (vs : List Value) (dv : Value) (m : MethodId) : entryFrame m #[(.ref b), (.int 3)] 2 = mkF m 0 #[.val (.ref b), .val (.int 3)] [] := by first | (simp [entryFrame, mkF, argsToLocals, Value.category, maxLocals]; done) | rfl
theorem ef_ru_cod3_6 (b : Addr) (kb : ClassId) (vs : List Value) (dv : Value) (m : MethodId) : entryFrame m #[(.ref b), (.int 3)] 2 = mkF m 0 #[.val (.ref b), .val (.int 3)] [] := by first | (simp [entryFrame, mkF, argsToLocals, Value.category, maxLocals]; done) | rfl
theorem ef_ru_inv3 (a : Addr) (b : Addr) (y : Value) (z : Int32) (kb : ClassId) (dv : Value) (x0 : Int32) (x1 : Int32) (x2 : Int32) (m : MethodId) : entryFrame m #[(.ref a), (.ref b), (.int 0), (.int 3), .null] 6 = mkF m 0 #[.val (.ref a), .val (.ref b), .val (.int 0), .val (.int 3), .val .null, .unset] [] := by first | (simp [entryFrame, mkF, argsToLocals, Value.category, maxLocals]; done) | rfl
theorem ef_ru_ini3 (a : Addr) (b : Addr) (y : Value) (z : Int32) (kb : ClassId) (dv : Value) (x0 : Int32) (x1 : Int32) (x2 : Int32) (m : MethodId) : entryFrame m #[(.ref a), (.ref b)] 2 = mkF m 0 #[.val (.ref a), .val (.ref b)] [] := by first | (simp [entryFrame, mkF, argsToLocals, Value.category, maxLocals]; done) | rfl
theorem ef_ru_nbl4 (m : MethodId) : entryFrame m #[(.int 4)] 1 = mkF m 0 #[.val (.int 4)] [] := by first | (simp [entryFrame, mkF, argsToLocals, Value.category, maxLocals]; done) | rfl
theorem ef_ru_nbf4 (m : MethodId) : entryFrame m #[(.int 4)] 1 = mkF m 0 #[.val (.int 4)] [] := by first | (simp [entryFrame, mkF, argsToLocals, Value.category, maxLocals]; done) | rfl
theorem ef_ru_put4_0 (b : Addr) (kb : ClassId) (x : Int32) (dv : Value) (e0 : Value) (e1 : Value) (e2 : Value) (e3 : Value) (e4 : Value) (e5 : Value) (e6 : Value) (e7 : Value) (m : MethodId) : entryFrame m #[(.ref b), (.int 0), (.int x)] 3 = mkF m 0 #[.val (.ref b), .val (.int 0), .val (.int x)] [] := by first | (simp [entryFrame, mkF, argsToLocals, Value.category, maxLocals]; done) | rfl
theorem ef_ru_put4_1 (b : Addr) (kb : ClassId) (x : Int32) (dv : Value) (e0 : Value) (e1 : Value) (e2 : Value) (e3 : Value) (e4 : Value) (e5 : Value) (e6 : Value) (e7 : Value) (m : MethodId) : entryFrame m #[(.ref b), (.int 1), (.int x)] 3 = mkF m 0 #[.val (.ref b), .val (.int 1), .val (.int x)] [] := by first | (simp [entryFrame, mkF, argsToLocals, Value.category, maxLocals]; done) | rfl
theorem ef_ru_put4_2 (b : Addr) (kb : ClassId) (x : Int32) (dv : Value) (e0 : Value) (e1 : Value) (e2 : Value) (e3 : Value) (e4 : Value) (e5 : Value) (e6 : Value) (e7 : Value) (m : MethodId) : entryFrame m #[(.ref b), (.int 2), (.int x)] 3 = mkF m 0 #[.val (.ref b), .val (.int 2), .val (.int x)] [] := by first | (simp [entryFrame, mkF, argsToLocals, Value.category, maxLocals]; done) | rfl
theorem ef_ru_put4_3 (b : Addr) (kb : ClassId) (x : Int32) (dv : Value) (e0 : Value) (e1 : Value) (e2 : Value) (e3 : Value) (e4 : Value) (e5 : Value) (e6 : Value) (e7 : Value) (m : MethodId) : entryFrame m #[(.ref b), (.int 3), (.int x)] 3 = mkF m 0 #[.val (.ref b), .val (.int 3), .val (.int x)] [] := by first | (simp [entryFrame, mkF, argsToLocals, Value.category, maxLocals]; done) | rfl
theorem ef_ru_tob4 (b : Addr) (kb : ClassId) (dv : Value) (x0 : Int32) (x1 : Int32) (x2 : Int32) (x3 : Int32) (m : MethodId) : entryFrame m #[(.ref b), (.int 0), (.int 4)] 5 = mkF m 0 #[.val (.ref b), .val (.int 0), .val (.int 4), .unset, .unset] [] := by first | (simp [entryFrame, mkF, argsToLocals, Value.category, maxLocals]; done) | rfl
theorem own_tx8 {Z : State} {a0 : Array Value} (hw : ∀ d ∈ tables_1, d.before a0 Z = true) : ∀ q ∈ own_EL, ∃ text : String, (Jvm.Cond.stringLink q.1 q.2 text).before a0 Z = true ∧ (∀ c ∈ text.toList, c.toNat < 256) ∧ text.toList.length ≠ (8 : Int32).toNatClampNeg := (own_txc (ow hw 15 rfl) (by decide) (by decide) (fun _ q => nomatch q))
theorem ef_ru_cmi4_0 (b : Addr) (kb : ClassId) (dv : Value) (d : Addr) (kd : ClassId) (x0 : Int32) (x1 : Int32) (x2 : Int32) (x3 : Int32) (m : MethodId) : entryFrame m #[(.ref b), (.int 0), (.ref d), (.int 0), (.int 4)] 7 = mkF m 0 #[.val (.ref b), .val (.int 0), .val (.ref d), .val (.int 0), .val (.int 4), .unset, .unset] [] := by first | (simp [entryFrame, mkF, argsToLocals, Value.category, maxLocals]; done) | rfl
theorem ef_ru_cmp4_0 (b : Addr) (kb : ClassId) (dv : Value) (x0 : Int32) (x1 : Int32) (x2 : Int32) (x3 : Int32) (m : MethodId) : entryFrame m #[(.ref b), (.int 0), (.int 4)] 6 = mkF m 0 #[.val (.ref b), .val (.int 0), .val (.int 4), .unset, .unset, .unset] [] := by first | (simp [entryFrame, mkF, argsToLocals, Value.category, maxLocals]; done) | rfl
theorem ef_ru_cmi4_1 (b : Addr) (kb : ClassId) (dv : Value) (d : Addr) (kd : ClassId) (x0 : Int32) (x1 : Int32) (x2 : Int32) (x3 : Int32) (m : MethodId) : entryFrame m #[(.ref b), (.int 0), (.ref d), (.int 0), (.int 4)] 7 = mkF m 0 #[.val (.ref b), .val (.int 0), .val (.ref d), .val (.int 0), .val (.int 4), .unset, .unset] [] := by first | (simp [entryFrame, mkF, argsToLocals, Value.category, maxLocals]; done) | rfl
theorem ef_ru_cmp4_1 (b : Addr) (kb : ClassId) (dv : Value) (x0 : Int32) (x1 : Int32) (x2 : Int32) (x3 : Int32) (m : MethodId) : entryFrame m #[(.ref b), (.int 0), (.int 4)] 6 = mkF m 0 #[.val (.ref b), .val (.int 0), .val (.int 4), .unset, .unset, .unset] [] := by first | (simp [entryFrame, mkF, argsToLocals, Value.category, maxLocals]; done) | rfl
theorem ef_ru_cmi4_2 (b : Addr) (kb : ClassId) (dv : Value) (d : Addr) (kd : ClassId) (x0 : Int32) (x1 : Int32) (x2 : Int32) (x3 : Int32) (m : MethodId) : entryFrame m #[(.ref b), (.int 0), (.ref d), (.int 0), (.int 4)] 7 = mkF m 0 #[.val (.ref b), .val (.int 0), .val (.ref d), .val (.int 0), .val (.int 4), .unset, .unset] [] := by first | (simp [entryFrame, mkF, argsToLocals, Value.category, maxLocals]; done) | rfl
theorem ef_ru_cmp4_2 (b : Addr) (kb : ClassId) (dv : Value) (x0 : Int32) (x1 : Int32) (x2 : Int32) (x3 : Int32) (m : MethodId) : entryFrame m #[(.ref b), (.int 0), (.int 4)] 6 = mkF m 0 #[.val (.ref b), .val (.int 0), .val (.int 4), .unset, .unset, .unset] [] := by first | (simp [entryFrame, mkF, argsToLocals, Value.category, maxLocals]; done) | rfl
theorem ef_ru_cmi4_3 (b : Addr) (kb : ClassId) (dv : Value) (d : Addr) (kd : ClassId) (x0 : Int32) (x1 : Int32) (x2 : Int32) (x3 : Int32) (m : MethodId) : entryFrame m #[(.ref b), (.int 0), (.ref d), (.int 0), (.int 4)] 7 = mkF m 0 #[.val (.ref b), .val (.int 0), .val (.ref d), .val (.int 0), .val (.int 4), .unset, .unset] [] := by first | (simp [entryFrame, mkF, argsToLocals, Value.category, maxLocals]; done) | rfl
theorem ef_ru_cmp4_3 (b : Addr) (kb : ClassId) (dv : Value) (x0 : Int32) (x1 : Int32) (x2 : Int32) (x3 : Int32) (m : MethodId) : entryFrame m #[(.ref b), (.int 0), (.int 4)] 6 = mkF m 0 #[.val (.ref b), .val (.int 0), .val (.int 4), .unset, .unset, .unset] [] := by first | (simp [entryFrame, mkF, argsToLocals, Value.category, maxLocals]; done) | rfl
theorem ef_ru_cmi4_4 (b : Addr) (kb : ClassId) (dv : Value) (d : Addr) (kd : ClassId) (x0 : Int32) (x1 : Int32) (x2 : Int32) (x3 : Int32) (m : MethodId) : entryFrame m #[(.ref b), (.int 0), (.ref d), (.int 0), (.int 4)] 7 = mkF m 0 #[.val (.ref b), .val (.int 0), .val (.ref d), .val (.int 0), .val (.int 4), .unset, .unset] [] := by first | (simp [entryFrame, mkF, argsToLocals, Value.category, maxLocals]; done) | rfl
theorem ef_ru_cmp4_4 (b : Addr) (kb : ClassId) (dv : Value) (x0 : Int32) (x1 : Int32) (x2 : Int32) (x3 : Int32) (m : MethodId) : entryFrame m #[(.ref b), (.int 0), (.int 4)] 6 = mkF m 0 #[.val (.ref b), .val (.int 0), .val (.int 4), .unset, .unset, .unset] [] := by first | (simp [entryFrame, mkF, argsToLocals, Value.category, maxLocals]; done) | rfl
theorem ef_ru_cod4_4 (b : Addr) (kb : ClassId) (vs : List Value) (dv : Value) (m : MethodId) : entryFrame m #[(.ref b), (.int 4)] 2 = mkF m 0 #[.val (.ref b), .val (.int 4)] [] := by first | (simp [entryFrame, mkF, argsToLocals, Value.category, maxLocals]; done) | rfl
theorem ef_ru_cod4_8 (b : Addr) (kb : ClassId) (vs : List Value) (dv : Value) (m : MethodId) : entryFrame m #[(.ref b), (.int 4)] 2 = mkF m 0 #[.val (.ref b), .val (.int 4)] [] := by first | (simp [entryFrame, mkF, argsToLocals, Value.category, maxLocals]; done) | rfl
theorem ef_ru_inv4 (a : Addr) (b : Addr) (y : Value) (z : Int32) (kb : ClassId) (dv : Value) (x0 : Int32) (x1 : Int32) (x2 : Int32) (x3 : Int32) (m : MethodId) : entryFrame m #[(.ref a), (.ref b), (.int 0), (.int 4), .null] 6 = mkF m 0 #[.val (.ref a), .val (.ref b), .val (.int 0), .val (.int 4), .val .null, .unset] [] := by first | (simp [entryFrame, mkF, argsToLocals, Value.category, maxLocals]; done) | rfl
theorem ef_ru_ini4 (a : Addr) (b : Addr) (y : Value) (z : Int32) (kb : ClassId) (dv : Value) (x0 : Int32) (x1 : Int32) (x2 : Int32) (x3 : Int32) (m : MethodId) : entryFrame m #[(.ref a), (.ref b)] 2 = mkF m 0 #[.val (.ref a), .val (.ref b)] [] := by first | (simp [entryFrame, mkF, argsToLocals, Value.category, maxLocals]; done) | rfl
theorem ef_rt_inf0 (b : Addr) (kb : ClassId) (dv : Value) (d : Addr) (kd : ClassId) (m : MethodId) : entryFrame m #[(.ref b), (.int 0), (.ref d), (.int 0), (.int 0)] 6 = mkF m 0 #[.val (.ref b), .val (.int 0), .val (.ref d), .val (.int 0), .val (.int 0), .unset] [] := by first | (simp [entryFrame, mkF, argsToLocals, Value.category, maxLocals]; done) | rfl
theorem pn_java_lang_StringLatin1_inflate___BI_CII_V : plainFor (⟨"java/lang/StringLatin1", "inflate", "([BI[CII)V"⟩ : MethodName) = true := by first | exact plainFor_of_name (by first | (simp [plainName, overriddenIn]; done) | decide +kernel) | decide +kernel
theorem d8_0 : decode jdk_43_method_49_code 0 = .ok (.iconst 0, 1) := by decide +kernel
theorem d8_1 : decode jdk_43_method_49_code 1 = .ok (.istore 5, 2) := by decide +kernel
theorem d8_3 : decode jdk_43_method_49_code 3 = .ok (.iload 5, 2) := by decide +kernel
theorem d8_5 : decode jdk_43_method_49_code 5 = .ok (.iload 4, 2) := by decide +kernel
theorem d8_7 : decode jdk_43_method_49_code 7 = .ok (.if_icmp .ge 26, 3) := by decide +kernel
theorem d8_33 : decode jdk_43_method_49_code 33 = .ok (.return_, 1) := by decide +kernel
theorem ef_rt_ltc0 (b : Addr) (kb : ClassId) (dv : Value) (m : MethodId) : entryFrame m #[(.ref b)] 2 = mkF m 0 #[.val (.ref b), .unset] [] := by first | (simp [entryFrame, mkF, argsToLocals, Value.category, maxLocals]; done) | rfl
theorem pn_java_lang_StringLatin1_toChars___B__C : plainFor (⟨"java/lang/StringLatin1", "toChars", "([B)[C"⟩ : MethodName) = true := by first | exact plainFor_of_name (by first | (simp [plainName, overriddenIn]; done) | decide +kernel) | decide +kernel
theorem d7_0 : decode jdk_43_method_9_code 0 = .ok (.aload_n 0, 1) := by decide +kernel
theorem d7_1 : decode jdk_43_method_9_code 1 = .ok (.arraylength, 1) := by decide +kernel
theorem d7_2 : decode jdk_43_method_9_code 2 = .ok (.newarray .char, 2) := by decide +kernel
theorem d7_4 : decode jdk_43_method_9_code 4 = .ok (.astore_n 1, 1) := by decide +kernel
theorem d7_5 : decode jdk_43_method_9_code 5 = .ok (.aload_n 0, 1) := by decide +kernel
theorem d7_6 : decode jdk_43_method_9_code 6 = .ok (.iconst 0, 1) := by decide +kernel
theorem d7_7 : decode jdk_43_method_9_code 7 = .ok (.aload_n 1, 1) := by decide +kernel
theorem d7_8 : decode jdk_43_method_9_code 8 = .ok (.iconst 0, 1) := by decide +kernel
theorem d7_9 : decode jdk_43_method_9_code 9 = .ok (.aload_n 0, 1) := by decide +kernel
theorem d7_10 : decode jdk_43_method_9_code 10 = .ok (.arraylength, 1) := by decide +kernel
theorem d7_11 : decode jdk_43_method_9_code 11 = .ok (.invokestatic 13, 3) := by decide +kernel
theorem pd__28_5bBI_5bCII_29V : parseMethodDescriptor "([BI[CII)V" = some ⟨[(.array .byte), .int, (.array .char), .int, .int], none⟩ := by decide +kernel
theorem d7_14 : decode jdk_43_method_9_code 14 = .ok (.aload_n 1, 1) := by decide +kernel
theorem d7_15 : decode jdk_43_method_9_code 15 = .ok (.areturn, 1) := by decide +kernel
theorem ef_rt_tca0 (a : Addr) (m : MethodId) : entryFrame m #[(.ref a)] 1 = mkF m 0 #[.val (.ref a)] [] := by first | (simp [entryFrame, mkF, argsToLocals, Value.category, maxLocals]; done) | rfl
theorem pn_java_lang_String_toCharArray____C : plainFor (⟨"java/lang/String", "toCharArray", "()[C"⟩ : MethodName) = true := by first | exact plainFor_of_name (by first | (simp [plainName, overriddenIn]; done) | decide +kernel) | decide +kernel
theorem d5_0 : decode jdk_42_method_129_code 0 = .ok (.aload_n 0, 1) := by decide +kernel
theorem d5_1 : decode jdk_42_method_129_code 1 = .ok (.invokevirtual 492, 3) := by decide +kernel
theorem d5_4 : decode jdk_42_method_129_code 4 = .ok (.ifCond .eq 13, 3) := by decide +kernel
theorem d5_7 : decode jdk_42_method_129_code 7 = .ok (.aload_n 0, 1) := by decide +kernel
theorem d5_8 : decode jdk_42_method_129_code 8 = .ok (.getfield 9, 3) := by decide +kernel
theorem d5_11 : decode jdk_42_method_129_code 11 = .ok (.invokestatic 299, 3) := by decide +kernel
theorem pd__28_5bB_29_5bC : parseMethodDescriptor "([B)[C" = some ⟨[(.array .byte)], some (.array .char)⟩ := by decide +kernel
theorem d5_14 : decode jdk_42_method_129_code 14 = .ok (.goto 10, 3) := by decide +kernel
theorem d5_24 : decode jdk_42_method_129_code 24 = .ok (.areturn, 1) := by decide +kernel
theorem ef_rt_inf1 (b : Addr) (kb : ClassId) (dv : Value) (d : Addr) (kd : ClassId) (u0 : Int32) (m : MethodId) : entryFrame m #[(.ref b), (.int 0), (.ref d), (.int 0), (.int 1)] 6 = mkF m 0 #[.val (.ref b), .val (.int 0), .val (.ref d), .val (.int 0), .val (.int 1), .unset] [] := by first | (simp [entryFrame, mkF, argsToLocals, Value.category, maxLocals]; done) | rfl
theorem d8_10 : decode jdk_43_method_49_code 10 = .ok (.aload_n 2, 1) := by decide +kernel
theorem d8_11 : decode jdk_43_method_49_code 11 = .ok (.iload_n 3, 1) := by decide +kernel
theorem d8_12 : decode jdk_43_method_49_code 12 = .ok (.iinc 3 1, 3) := by decide +kernel
theorem d8_15 : decode jdk_43_method_49_code 15 = .ok (.aload_n 0, 1) := by decide +kernel
theorem d8_16 : decode jdk_43_method_49_code 16 = .ok (.iload_n 1, 1) := by decide +kernel
theorem d8_17 : decode jdk_43_method_49_code 17 = .ok (.iinc 1 1, 3) := by decide +kernel
theorem d8_20 : decode jdk_43_method_49_code 20 = .ok (.baload, 1) := by decide +kernel
theorem d8_21 : decode jdk_43_method_49_code 21 = .ok (.sipush 255, 3) := by decide +kernel
theorem d8_24 : decode jdk_43_method_49_code 24 = .ok (.iand, 1) := by decide +kernel
theorem d8_25 : decode jdk_43_method_49_code 25 = .ok (.i2c, 1) := by decide +kernel
theorem d8_26 : decode jdk_43_method_49_code 26 = .ok (.castore, 1) := by decide +kernel
theorem d8_27 : decode jdk_43_method_49_code 27 = .ok (.iinc 5 1, 3) := by decide +kernel
theorem d8_30 : decode jdk_43_method_49_code 30 = .ok (.goto (-27), 3) := by decide +kernel
theorem ef_rt_ltc1 (b : Addr) (kb : ClassId) (dv : Value) (u0 : Int32) (m : MethodId) : entryFrame m #[(.ref b)] 2 = mkF m 0 #[.val (.ref b), .unset] [] := by first | (simp [entryFrame, mkF, argsToLocals, Value.category, maxLocals]; done) | rfl
theorem ef_rt_cfi1 (fm : Value) (h_fm : fm.isRef = true) (m : MethodId) : entryFrame m #[(.int 0), (.int 1), (.int 1), fm] 4 = mkF m 0 #[.val (.int 0), .val (.int 1), .val (.int 1), .val fm] [] := by simp [entryFrame, mkF, argsToLocals, XT.cat1 h_fm, show (Value.int (0 : Int32)).category = 1 from rfl, show (Value.int (1 : Int32)).category = 1 from rfl, show (Value.int (1 : Int32)).category = 1 from rfl]
theorem pn_jdk_internal_util_Preconditions_checkFromIndexSize__IIILjava_util_function_BiFunction__I : plainFor (⟨"jdk/internal/util/Preconditions", "checkFromIndexSize", "(IIILjava/util/function/BiFunction;)I"⟩ : MethodName) = true := by first | exact plainFor_of_name (by first | (simp [plainName, overriddenIn]; done) | decide +kernel) | decide +kernel
theorem d30_0 : decode jdk_41_method_13_code 0 = .ok (.iload_n 2, 1) := by decide +kernel
theorem d30_1 : decode jdk_41_method_13_code 1 = .ok (.iload_n 0, 1) := by decide +kernel
theorem d30_2 : decode jdk_41_method_13_code 2 = .ok (.ior, 1) := by decide +kernel
theorem d30_3 : decode jdk_41_method_13_code 3 = .ok (.iload_n 1, 1) := by decide +kernel
theorem d30_4 : decode jdk_41_method_13_code 4 = .ok (.ior, 1) := by decide +kernel
theorem d30_5 : decode jdk_41_method_13_code 5 = .ok (.ifCond .lt 10, 3) := by decide +kernel
theorem d30_8 : decode jdk_41_method_13_code 8 = .ok (.iload_n 1, 1) := by decide +kernel
theorem d30_9 : decode jdk_41_method_13_code 9 = .ok (.iload_n 2, 1) := by decide +kernel
theorem d30_10 : decode jdk_41_method_13_code 10 = .ok (.iload_n 0, 1) := by decide +kernel
theorem d30_11 : decode jdk_41_method_13_code 11 = .ok (.isub, 1) := by decide +kernel
theorem d30_12 : decode jdk_41_method_13_code 12 = .ok (.if_icmp .le 11, 3) := by decide +kernel
theorem d30_23 : decode jdk_41_method_13_code 23 = .ok (.iload_n 0, 1) := by decide +kernel
theorem d30_24 : decode jdk_41_method_13_code 24 = .ok (.ireturn, 1) := by decide +kernel
theorem ef_rt_cbo1 (m : MethodId) : entryFrame m #[(.int 0), (.int 1), (.int 1)] 3 = mkF m 0 #[.val (.int 0), .val (.int 1), .val (.int 1)] [] := by first | (simp [entryFrame, mkF, argsToLocals, Value.category, maxLocals]; done) | rfl
theorem pn_java_lang_String_checkBoundsOffCount__III_I : plainFor (⟨"java/lang/String", "checkBoundsOffCount", "(III)I"⟩ : MethodName) = true := by first | exact plainFor_of_name (by first | (simp [plainName, overriddenIn]; done) | decide +kernel) | decide +kernel
theorem d29_0 : decode jdk_42_method_157_code 0 = .ok (.iload_n 0, 1) := by decide +kernel
theorem d29_1 : decode jdk_42_method_157_code 1 = .ok (.iload_n 1, 1) := by decide +kernel
theorem d29_2 : decode jdk_42_method_157_code 2 = .ok (.iload_n 2, 1) := by decide +kernel
theorem d29_3 : decode jdk_42_method_157_code 3 = .ok (.getstatic 1053, 3) := by decide +kernel
theorem d29_6 : decode jdk_42_method_157_code 6 = .ok (.invokestatic 1065, 3) := by decide +kernel
theorem pd__28IIILjava_2futil_2ffunction_2fBiFunction_3b_29I : parseMethodDescriptor "(IIILjava/util/function/BiFunction;)I" = some ⟨[.int, .int, .int, (.object "java/util/function/BiFunction")], some .int⟩ := by decide +kernel
theorem d29_9 : decode jdk_42_method_157_code 9 = .ok (.ireturn, 1) := by decide +kernel
theorem ef_rt_ucb1 (b : Addr) (kb : ClassId) (x0 : Int32) (m : MethodId) : entryFrame m #[(.int 0), (.int 1), (.ref b)] 3 = mkF m 0 #[.val (.int 0), .val (.int 1), .val (.ref b)] [] := by first | (simp [entryFrame, mkF, argsToLocals, Value.category, maxLocals]; done) | rfl
theorem pn_java_lang_StringUTF16_checkBoundsOffCount__II_B_V : plainFor (⟨"java/lang/StringUTF16", "checkBoundsOffCount", "(II[B)V"⟩ : MethodName) = true := by first | exact plainFor_of_name (by first | (simp [plainName, overriddenIn]; done) | decide +kernel) | decide +kernel
theorem d27_0 : decode jdk_52_method_94_code 0 = .ok (.iload_n 0, 1) := by decide +kernel
theorem d27_1 : decode jdk_52_method_94_code 1 = .ok (.iload_n 1, 1) := by decide +kernel
theorem d27_2 : decode jdk_52_method_94_code 2 = .ok (.aload_n 2, 1) := by decide +kernel
theorem d27_3 : decode jdk_52_method_94_code 3 = .ok (.invokestatic 48, 3) := by decide +kernel
theorem d27_6 : decode jdk_52_method_94_code 6 = .ok (.invokestatic 419, 3) := by decide +kernel
theorem pd__28III_29I : parseMethodDescriptor "(III)I" = some ⟨[.int, .int, .int], some .int⟩ := by decide +kernel
theorem d27_9 : decode jdk_52_method_94_code 9 = .ok (.pop, 1) := by decide +kernel
theorem d27_10 : decode jdk_52_method_94_code 10 = .ok (.return_, 1) := by decide +kernel
theorem ef_rt_gcs1 (b : Addr) (kb : ClassId) (d : Addr) (kd : ClassId) (x0 : Int32) (m : MethodId) : entryFrame m #[(.ref b), (.int 0), (.int 1), (.ref d), (.int 0)] 6 = mkF m 0 #[.val (.ref b), .val (.int 0), .val (.int 1), .val (.ref d), .val (.int 0), .unset] [] := by first | (simp [entryFrame, mkF, argsToLocals, Value.category, maxLocals]; done) | rfl
theorem pn_java_lang_StringUTF16_getChars___BII_CI_V : plainFor (⟨"java/lang/StringUTF16", "getChars", "([BII[CI)V"⟩ : MethodName) = true := by first | exact plainFor_of_name (by first | (simp [plainName, overriddenIn]; done) | decide +kernel) | decide +kernel
theorem d26_0 : decode jdk_52_method_26_code 0 = .ok (.iload_n 1, 1) := by decide +kernel
theorem d26_1 : decode jdk_52_method_26_code 1 = .ok (.iload_n 2, 1) := by decide +kernel
theorem d26_2 : decode jdk_52_method_26_code 2 = .ok (.if_icmp .ge 11, 3) := by decide +kernel
theorem d26_5 : decode jdk_52_method_26_code 5 = .ok (.iload_n 1, 1) := by decide +kernel
theorem d26_6 : decode jdk_52_method_26_code 6 = .ok (.iload_n 2, 1) := by decide +kernel
theorem d26_7 : decode jdk_52_method_26_code 7 = .ok (.iload_n 1, 1) := by decide +kernel
theorem d26_8 : decode jdk_52_method_26_code 8 = .ok (.isub, 1) := by decide +kernel
theorem d26_9 : decode jdk_52_method_26_code 9 = .ok (.aload_n 0, 1) := by decide +kernel
theorem d26_10 : decode jdk_52_method_26_code 10 = .ok (.invokestatic 173, 3) := by decide +kernel
theorem pd__28II_5bB_29V : parseMethodDescriptor "(II[B)V" = some ⟨[.int, .int, (.array .byte)], none⟩ := by decide +kernel
theorem d26_13 : decode jdk_52_method_26_code 13 = .ok (.iload_n 1, 1) := by decide +kernel
theorem d26_14 : decode jdk_52_method_26_code 14 = .ok (.istore 5, 2) := by decide +kernel
theorem d26_16 : decode jdk_52_method_26_code 16 = .ok (.iload 5, 2) := by decide +kernel
theorem d26_18 : decode jdk_52_method_26_code 18 = .ok (.iload_n 2, 1) := by decide +kernel
theorem d26_19 : decode jdk_52_method_26_code 19 = .ok (.if_icmp .ge 22, 3) := by decide +kernel
theorem d26_22 : decode jdk_52_method_26_code 22 = .ok (.aload_n 3, 1) := by decide +kernel
theorem d26_23 : decode jdk_52_method_26_code 23 = .ok (.iload 4, 2) := by decide +kernel
theorem d26_25 : decode jdk_52_method_26_code 25 = .ok (.iinc 4 1, 3) := by decide +kernel
theorem d26_28 : decode jdk_52_method_26_code 28 = .ok (.aload_n 0, 1) := by decide +kernel
theorem d26_29 : decode jdk_52_method_26_code 29 = .ok (.iload 5, 2) := by decide +kernel
theorem d26_31 : decode jdk_52_method_26_code 31 = .ok (.invokestatic 71, 3) := by decide +kernel
theorem d26_34 : decode jdk_52_method_26_code 34 = .ok (.castore, 1) := by decide +kernel
theorem d26_35 : decode jdk_52_method_26_code 35 = .ok (.iinc 5 1, 3) := by decide +kernel
theorem d26_38 : decode jdk_52_method_26_code 38 = .ok (.goto (-22), 3) := by decide +kernel
theorem d26_41 : decode jdk_52_method_26_code 41 = .ok (.return_, 1) := by decide +kernel
theorem ef_rt_utc1 (b : Addr) (kb : ClassId) (x0 : Int32) (m : MethodId) : entryFrame m #[(.ref b)] 2 = mkF m 0 #[.val (.ref b), .unset] [] := by first | (simp [entryFrame, mkF, argsToLocals, Value.category, maxLocals]; done) | rfl
theorem pn_java_lang_StringUTF16_toChars___B__C : plainFor (⟨"java/lang/StringUTF16", "toChars", "([B)[C"⟩ : MethodName) = true := by first | exact plainFor_of_name (by first | (simp [plainName, overriddenIn]; done) | decide +kernel) | decide +kernel
theorem d25_0 : decode jdk_52_method_13_code 0 = .ok (.aload_n 0, 1) := by decide +kernel
theorem d25_1 : decode jdk_52_method_13_code 1 = .ok (.arraylength, 1) := by decide +kernel
theorem d25_2 : decode jdk_52_method_13_code 2 = .ok (.iconst 1, 1) := by decide +kernel
theorem d25_3 : decode jdk_52_method_13_code 3 = .ok (.ishr, 1) := by decide +kernel
theorem d25_4 : decode jdk_52_method_13_code 4 = .ok (.newarray .char, 2) := by decide +kernel
theorem d25_6 : decode jdk_52_method_13_code 6 = .ok (.astore_n 1, 1) := by decide +kernel
theorem d25_7 : decode jdk_52_method_13_code 7 = .ok (.aload_n 0, 1) := by decide +kernel
theorem d25_8 : decode jdk_52_method_13_code 8 = .ok (.iconst 0, 1) := by decide +kernel
theorem d25_9 : decode jdk_52_method_13_code 9 = .ok (.aload_n 1, 1) := by decide +kernel
theorem d25_10 : decode jdk_52_method_13_code 10 = .ok (.arraylength, 1) := by decide +kernel
theorem d25_11 : decode jdk_52_method_13_code 11 = .ok (.aload_n 1, 1) := by decide +kernel
theorem d25_12 : decode jdk_52_method_13_code 12 = .ok (.iconst 0, 1) := by decide +kernel
theorem d25_13 : decode jdk_52_method_13_code 13 = .ok (.invokestatic 103, 3) := by decide +kernel
theorem pd__28_5bBII_5bCI_29V : parseMethodDescriptor "([BII[CI)V" = some ⟨[(.array .byte), .int, .int, (.array .char), .int], none⟩ := by decide +kernel
theorem d25_16 : decode jdk_52_method_13_code 16 = .ok (.aload_n 1, 1) := by decide +kernel
theorem d25_17 : decode jdk_52_method_13_code 17 = .ok (.areturn, 1) := by decide +kernel
theorem ef_rt_tca1 (a : Addr) (x0 : Int32) (m : MethodId) : entryFrame m #[(.ref a)] 1 = mkF m 0 #[.val (.ref a)] [] := by first | (simp [entryFrame, mkF, argsToLocals, Value.category, maxLocals]; done) | rfl
theorem d5_17 : decode jdk_42_method_129_code 17 = .ok (.aload_n 0, 1) := by decide +kernel
theorem d5_18 : decode jdk_42_method_129_code 18 = .ok (.getfield 9, 3) := by decide +kernel
theorem d5_21 : decode jdk_42_method_129_code 21 = .ok (.invokestatic 303, 3) := by decide +kernel
theorem ef_rt_inf2 (b : Addr) (kb : ClassId) (dv : Value) (d : Addr) (kd : ClassId) (u0 : Int32) (u1 : Int32) (m : MethodId) : entryFrame m #[(.ref b), (.int 0), (.ref d), (.int 0), (.int 2)] 6 = mkF m 0 #[.val (.ref b), .val (.int 0), .val (.ref d), .val (.int 0), .val (.int 2), .unset] [] := by first | (simp [entryFrame, mkF, argsToLocals, Value.category, maxLocals]; done) | rfl
theorem ef_rt_ltc2 (b : Addr) (kb : ClassId) (dv : Value) (u0 : Int32) (u1 : Int32) (m : MethodId) : entryFrame m #[(.ref b)] 2 = mkF m 0 #[.val (.ref b), .unset] [] := by first | (simp [entryFrame, mkF, argsToLocals, Value.category, maxLocals]; done) | rfl
theorem ef_rt_cfi2 (fm : Value) (h_fm : fm.isRef = true) (m : MethodId) : entryFrame m #[(.int 0), (.int 2), (.int 2), fm] 4 = mkF m 0 #[.val (.int 0), .val (.int 2), .val (.int 2), .val fm] [] := by simp [entryFrame, mkF, argsToLocals, XT.cat1 h_fm, show (Value.int (0 : Int32)).category = 1 from rfl, show (Value.int (2 : Int32)).category = 1 from rfl, show (Value.int (2 : Int32)).category = 1 from rfl]
theorem ef_rt_cbo2 (m : MethodId) : entryFrame m #[(.int 0), (.int 2), (.int 2)] 3 = mkF m 0 #[.val (.int 0), .val (.int 2), .val (.int 2)] [] := by first | (simp [entryFrame, mkF, argsToLocals, Value.category, maxLocals]; done) | rfl
theorem ef_rt_ucb2 (b : Addr) (kb : ClassId) (x0 : Int32) (x1 : Int32) (m : MethodId) : entryFrame m #[(.int 0), (.int 2), (.ref b)] 3 = mkF m 0 #[.val (.int 0), .val (.int 2), .val (.ref b)] [] := by first | (simp [entryFrame, mkF, argsToLocals, Value.category, maxLocals]; done) | rfl
theorem ef_rt_gcs2 (b : Addr) (kb : ClassId) (d : Addr) (kd : ClassId) (x0 : Int32) (x1 : Int32) (m : MethodId) : entryFrame m #[(.ref b), (.int 0), (.int 2), (.ref d), (.int 0)] 6 = mkF m 0 #[.val (.ref b), .val (.int 0), .val (.int 2), .val (.ref d), .val (.int 0), .unset] [] := by first | (simp [entryFrame, mkF, argsToLocals, Value.category, maxLocals]; done) | rfl
theorem ef_rt_utc2 (b : Addr) (kb : ClassId) (x0 : Int32) (x1 : Int32) (m : MethodId) : entryFrame m #[(.ref b)] 2 = mkF m 0 #[.val (.ref b), .unset] [] := by first | (simp [entryFrame, mkF, argsToLocals, Value.category, maxLocals]; done) | rfl
theorem ef_rt_tca2 (a : Addr) (x0 : Int32) (x1 : Int32) (m : MethodId) : entryFrame m #[(.ref a)] 1 = mkF m 0 #[.val (.ref a)] [] := by first | (simp [entryFrame, mkF, argsToLocals, Value.category, maxLocals]; done) | rfl
theorem ef_rt_inf3 (b : Addr) (kb : ClassId) (dv : Value) (d : Addr) (kd : ClassId) (u0 : Int32) (u1 : Int32) (u2 : Int32) (m : MethodId) : entryFrame m #[(.ref b), (.int 0), (.ref d), (.int 0), (.int 3)] 6 = mkF m 0 #[.val (.ref b), .val (.int 0), .val (.ref d), .val (.int 0), .val (.int 3), .unset] [] := by first | (simp [entryFrame, mkF, argsToLocals, Value.category, maxLocals]; done) | rfl
theorem ef_rt_ltc3 (b : Addr) (kb : ClassId) (dv : Value) (u0 : Int32) (u1 : Int32) (u2 : Int32) (m : MethodId) : entryFrame m #[(.ref b)] 2 = mkF m 0 #[.val (.ref b), .unset] [] := by first | (simp [entryFrame, mkF, argsToLocals, Value.category, maxLocals]; done) | rfl
theorem ef_rt_cfi3 (fm : Value) (h_fm : fm.isRef = true) (m : MethodId) : entryFrame m #[(.int 0), (.int 3), (.int 3), fm] 4 = mkF m 0 #[.val (.int 0), .val (.int 3), .val (.int 3), .val fm] [] := by simp [entryFrame, mkF, argsToLocals, XT.cat1 h_fm, show (Value.int (0 : Int32)).category = 1 from rfl, show (Value.int (3 : Int32)).category = 1 from rfl, show (Value.int (3 : Int32)).category = 1 from rfl]
theorem ef_rt_cbo3 (m : MethodId) : entryFrame m #[(.int 0), (.int 3), (.int 3)] 3 = mkF m 0 #[.val (.int 0), .val (.int 3), .val (.int 3)] [] := by first | (simp [entryFrame, mkF, argsToLocals, Value.category, maxLocals]; done) | rfl
theorem ef_rt_ucb3 (b : Addr) (kb : ClassId) (x0 : Int32) (x1 : Int32) (x2 : Int32) (m : MethodId) : entryFrame m #[(.int 0), (.int 3), (.ref b)] 3 = mkF m 0 #[.val (.int 0), .val (.int 3), .val (.ref b)] [] := by first | (simp [entryFrame, mkF, argsToLocals, Value.category, maxLocals]; done) | rfl
theorem ef_rt_gcs3 (b : Addr) (kb : ClassId) (d : Addr) (kd : ClassId) (x0 : Int32) (x1 : Int32) (x2 : Int32) (m : MethodId) : entryFrame m #[(.ref b), (.int 0), (.int 3), (.ref d), (.int 0)] 6 = mkF m 0 #[.val (.ref b), .val (.int 0), .val (.int 3), .val (.ref d), .val (.int 0), .unset] [] := by first | (simp [entryFrame, mkF, argsToLocals, Value.category, maxLocals]; done) | rfl
theorem ef_rt_utc3 (b : Addr) (kb : ClassId) (x0 : Int32) (x1 : Int32) (x2 : Int32) (m : MethodId) : entryFrame m #[(.ref b)] 2 = mkF m 0 #[.val (.ref b), .unset] [] := by first | (simp [entryFrame, mkF, argsToLocals, Value.category, maxLocals]; done) | rfl
theorem ef_rt_tca3 (a : Addr) (x0 : Int32) (x1 : Int32) (x2 : Int32) (m : MethodId) : entryFrame m #[(.ref a)] 1 = mkF m 0 #[.val (.ref a)] [] := by first | (simp [entryFrame, mkF, argsToLocals, Value.category, maxLocals]; done) | rfl
theorem ef_rt_inf4 (b : Addr) (kb : ClassId) (dv : Value) (d : Addr) (kd : ClassId) (u0 : Int32) (u1 : Int32) (u2 : Int32) (u3 : Int32) (m : MethodId) : entryFrame m #[(.ref b), (.int 0), (.ref d), (.int 0), (.int 4)] 6 = mkF m 0 #[.val (.ref b), .val (.int 0), .val (.ref d), .val (.int 0), .val (.int 4), .unset] [] := by first | (simp [entryFrame, mkF, argsToLocals, Value.category, maxLocals]; done) | rfl
theorem ef_rt_ltc4 (b : Addr) (kb : ClassId) (dv : Value) (u0 : Int32) (u1 : Int32) (u2 : Int32) (u3 : Int32) (m : MethodId) : entryFrame m #[(.ref b)] 2 = mkF m 0 #[.val (.ref b), .unset] [] := by first | (simp [entryFrame, mkF, argsToLocals, Value.category, maxLocals]; done) | rfl
theorem ef_rt_cfi4 (fm : Value) (h_fm : fm.isRef = true) (m : MethodId) : entryFrame m #[(.int 0), (.int 4), (.int 4), fm] 4 = mkF m 0 #[.val (.int 0), .val (.int 4), .val (.int 4), .val fm] [] := by simp [entryFrame, mkF, argsToLocals, XT.cat1 h_fm, show (Value.int (0 : Int32)).category = 1 from rfl, show (Value.int (4 : Int32)).category = 1 from rfl, show (Value.int (4 : Int32)).category = 1 from rfl]
theorem ef_rt_cbo4 (m : MethodId) : entryFrame m #[(.int 0), (.int 4), (.int 4)] 3 = mkF m 0 #[.val (.int 0), .val (.int 4), .val (.int 4)] [] := by first | (simp [entryFrame, mkF, argsToLocals, Value.category, maxLocals]; done) | rfl
theorem ef_rt_ucb4 (b : Addr) (kb : ClassId) (x0 : Int32) (x1 : Int32) (x2 : Int32) (x3 : Int32) (m : MethodId) : entryFrame m #[(.int 0), (.int 4), (.ref b)] 3 = mkF m 0 #[.val (.int 0), .val (.int 4), .val (.ref b)] [] := by first | (simp [entryFrame, mkF, argsToLocals, Value.category, maxLocals]; done) | rfl
theorem ef_rt_gcs4 (b : Addr) (kb : ClassId) (d : Addr) (kd : ClassId) (x0 : Int32) (x1 : Int32) (x2 : Int32) (x3 : Int32) (m : MethodId) : entryFrame m #[(.ref b), (.int 0), (.int 4), (.ref d), (.int 0)] 6 = mkF m 0 #[.val (.ref b), .val (.int 0), .val (.int 4), .val (.ref d), .val (.int 0), .unset] [] := by first | (simp [entryFrame, mkF, argsToLocals, Value.category, maxLocals]; done) | rfl
theorem ef_rt_utc4 (b : Addr) (kb : ClassId) (x0 : Int32) (x1 : Int32) (x2 : Int32) (x3 : Int32) (m : MethodId) : entryFrame m #[(.ref b)] 2 = mkF m 0 #[.val (.ref b), .unset] [] := by first | (simp [entryFrame, mkF, argsToLocals, Value.category, maxLocals]; done) | rfl
theorem ef_rt_tca4 (a : Addr) (x0 : Int32) (x1 : Int32) (x2 : Int32) (x3 : Int32) (m : MethodId) : entryFrame m #[(.ref a)] 1 = mkF m 0 #[.val (.ref a)] [] := by first | (simp [entryFrame, mkF, argsToLocals, Value.category, maxLocals]; done) | rfl
theorem ef_rm14 (x : Int32) (m : MethodId) : entryFrame m #[(.int x)] 1 = mkF m 0 #[.val (.int x)] [] := by first | (simp [entryFrame, mkF, argsToLocals, Value.category, maxLocals]; done) | rfl
theorem pn_com_example_roleward_roleward_http_Ascii_lower__C_C : plainFor (⟨"com/example/roleward/roleward/http/Ascii", "lower", "(C)C"⟩ : MethodName) = true := by first | exact plainFor_of_name (by first | (simp [plainName, overriddenIn]; done) | decide +kernel) | decide +kernel
theorem d14_0 : decode prog_5_method_4_code 0 = .ok (.iload_n 0, 1) := by decide +kernel
theorem d14_1 : decode prog_5_method_4_code 1 = .ok (.bipush 65, 2) := by decide +kernel
theorem d14_3 : decode prog_5_method_4_code 3 = .ok (.if_icmp .lt 17, 3) := by decide +kernel
theorem d14_20 : decode prog_5_method_4_code 20 = .ok (.iload_n 0, 1) := by decide +kernel
theorem d14_21 : decode prog_5_method_4_code 21 = .ok (.ireturn, 1) := by decide +kernel
theorem d14_6 : decode prog_5_method_4_code 6 = .ok (.iload_n 0, 1) := by decide +kernel
theorem d14_7 : decode prog_5_method_4_code 7 = .ok (.bipush 90, 2) := by decide +kernel
theorem d14_9 : decode prog_5_method_4_code 9 = .ok (.if_icmp .gt 11, 3) := by decide +kernel
theorem d14_12 : decode prog_5_method_4_code 12 = .ok (.iload_n 0, 1) := by decide +kernel
theorem d14_13 : decode prog_5_method_4_code 13 = .ok (.bipush 32, 2) := by decide +kernel
theorem d14_15 : decode prog_5_method_4_code 15 = .ok (.iadd, 1) := by decide +kernel
theorem d14_16 : decode prog_5_method_4_code 16 = .ok (.i2c, 1) := by decide +kernel
theorem d14_17 : decode prog_5_method_4_code 17 = .ok (.goto 4, 3) := by decide +kernel
theorem ef_rm19 (x : Int32) (m : MethodId) : entryFrame m #[(.int x)] 2 = mkF m 0 #[.val (.int x), .unset] [] := by first | (simp [entryFrame, mkF, argsToLocals, Value.category, maxLocals]; done) | rfl
theorem pn_com_example_roleward_roleward_http_AsciiToLowerCasePinLaw_expect__C_C : plainFor (⟨"com/example/roleward/roleward/http/AsciiToLowerCasePinLaw", "expect", "(C)C"⟩ : MethodName) = true := by first | exact plainFor_of_name (by first | (simp [plainName, overriddenIn]; done) | decide +kernel) | decide +kernel
theorem d19_0 : decode method_3_code 0 = .ok (.iload_n 0, 1) := by decide +kernel
theorem d19_1 : decode method_3_code 1 = .ok (.istore_n 1, 1) := by decide +kernel
theorem d19_2 : decode method_3_code 2 = .ok (.iload_n 1, 1) := by decide +kernel
theorem d19_3 : decode method_3_code 3 = .ok (.bipush 65, 2) := by decide +kernel
theorem d19_5 : decode method_3_code 5 = .ok (.if_icmp .lt 15, 3) := by decide +kernel
theorem d19_20 : decode method_3_code 20 = .ok (.iload_n 0, 1) := by decide +kernel
theorem d19_21 : decode method_3_code 21 = .ok (.ireturn, 1) := by decide +kernel
theorem d19_8 : decode method_3_code 8 = .ok (.iload_n 1, 1) := by decide +kernel
theorem d19_9 : decode method_3_code 9 = .ok (.bipush 90, 2) := by decide +kernel
theorem d19_11 : decode method_3_code 11 = .ok (.if_icmp .gt 9, 3) := by decide +kernel
theorem d19_14 : decode method_3_code 14 = .ok (.iload_n 1, 1) := by decide +kernel
theorem d19_15 : decode method_3_code 15 = .ok (.bipush 32, 2) := by decide +kernel
theorem d19_17 : decode method_3_code 17 = .ok (.iadd, 1) := by decide +kernel
theorem d19_18 : decode method_3_code 18 = .ok (.i2c, 1) := by decide +kernel
theorem d19_19 : decode method_3_code 19 = .ok (.ireturn, 1) := by decide +kernel
theorem ef_rm_tl0 (a : Addr) (m : MethodId) : entryFrame m #[(.ref a)] 3 = mkF m 0 #[.val (.ref a), .unset, .unset] [] := by first | (simp [entryFrame, mkF, argsToLocals, Value.category, maxLocals]; done) | rfl
theorem pn_com_example_roleward_roleward_http_Ascii_toLowerCase__Ljava_lang_String__Ljava_lang_String_ : plainFor (⟨"com/example/roleward/roleward/http/Ascii", "toLowerCase", "(Ljava/lang/String;)Ljava/lang/String;"⟩ : MethodName) = true := by first | exact plainFor_of_name (by first | (simp [plainName, overriddenIn]; done) | decide +kernel) | decide +kernel
theorem d4_0 : decode prog_5_method_3_code 0 = .ok (.aload_n 0, 1) := by decide +kernel
theorem d4_1 : decode prog_5_method_3_code 1 = .ok (.invokevirtual 23, 3) := by decide +kernel
theorem pd__28_29_5bC : parseMethodDescriptor "()[C" = some ⟨[], some (.array .char)⟩ := by decide +kernel
theorem d4_4 : decode prog_5_method_3_code 4 = .ok (.astore_n 1, 1) := by decide +kernel
theorem d4_5 : decode prog_5_method_3_code 5 = .ok (.iconst 0, 1) := by decide +kernel
theorem d4_6 : decode prog_5_method_3_code 6 = .ok (.istore_n 2, 1) := by decide +kernel
theorem d4_7 : decode prog_5_method_3_code 7 = .ok (.iload_n 2, 1) := by decide +kernel
theorem d4_8 : decode prog_5_method_3_code 8 = .ok (.aload_n 1, 1) := by decide +kernel
theorem d4_9 : decode prog_5_method_3_code 9 = .ok (.arraylength, 1) := by decide +kernel
theorem d4_10 : decode prog_5_method_3_code 10 = .ok (.if_icmp .ge 18, 3) := by decide +kernel
theorem d4_28 : decode prog_5_method_3_code 28 = .ok (.new 8, 3) := by decide +kernel
theorem d4_31 : decode prog_5_method_3_code 31 = .ok (.dup, 1) := by decide +kernel
theorem d4_32 : decode prog_5_method_3_code 32 = .ok (.aload_n 1, 1) := by decide +kernel
theorem d4_33 : decode prog_5_method_3_code 33 = .ok (.invokespecial 27, 3) := by decide +kernel
theorem pd__28_5bC_29V : parseMethodDescriptor "([C)V" = some ⟨[(.array .char)], none⟩ := by decide +kernel
theorem d4_36 : decode prog_5_method_3_code 36 = .ok (.areturn, 1) := by decide +kernel
theorem ef_rm_tl1 (a : Addr) (x0 : Int32) (m : MethodId) : entryFrame m #[(.ref a)] 3 = mkF m 0 #[.val (.ref a), .unset, .unset] [] := by first | (simp [entryFrame, mkF, argsToLocals, Value.category, maxLocals]; done) | rfl
theorem d4_13 : decode prog_5_method_3_code 13 = .ok (.aload_n 1, 1) := by decide +kernel
theorem d4_14 : decode prog_5_method_3_code 14 = .ok (.iload_n 2, 1) := by decide +kernel
theorem d4_15 : decode prog_5_method_3_code 15 = .ok (.aload_n 1, 1) := by decide +kernel
theorem d4_16 : decode prog_5_method_3_code 16 = .ok (.iload_n 2, 1) := by decide +kernel
theorem d4_17 : decode prog_5_method_3_code 17 = .ok (.caload, 1) := by decide +kernel
theorem d4_18 : decode prog_5_method_3_code 18 = .ok (.invokestatic 17, 3) := by decide +kernel
theorem pd__28C_29C : parseMethodDescriptor "(C)C" = some ⟨[.char], some .char⟩ := by decide +kernel
theorem d4_21 : decode prog_5_method_3_code 21 = .ok (.castore, 1) := by decide +kernel
theorem d4_22 : decode prog_5_method_3_code 22 = .ok (.iinc 2 1, 3) := by decide +kernel
theorem d4_25 : decode prog_5_method_3_code 25 = .ok (.goto (-18), 3) := by decide +kernel
theorem ef_rm_tl2 (a : Addr) (x0 : Int32) (x1 : Int32) (m : MethodId) : entryFrame m #[(.ref a)] 3 = mkF m 0 #[.val (.ref a), .unset, .unset] [] := by first | (simp [entryFrame, mkF, argsToLocals, Value.category, maxLocals]; done) | rfl
theorem ef_rm_tl3 (a : Addr) (x0 : Int32) (x1 : Int32) (x2 : Int32) (m : MethodId) : entryFrame m #[(.ref a)] 3 = mkF m 0 #[.val (.ref a), .unset, .unset] [] := by first | (simp [entryFrame, mkF, argsToLocals, Value.category, maxLocals]; done) | rfl
theorem ef_rm_tl4 (a : Addr) (x0 : Int32) (x1 : Int32) (x2 : Int32) (x3 : Int32) (m : MethodId) : entryFrame m #[(.ref a)] 3 = mkF m 0 #[.val (.ref a), .unset, .unset] [] := by first | (simp [entryFrame, mkF, argsToLocals, Value.category, maxLocals]; done) | rfl
theorem ef_rm0 (pa : Int32) (pb : Int32) (pc_ : Int32) (pd : Int32) (pn : Int32) (m : MethodId) : entryFrame m #[(.int pa), (.int pb), (.int pc_), (.int pd), (.int pn)] maxLocals = mkF m 0 #[.val (.int pa), .val (.int pb), .val (.int pc_), .val (.int pd), .val (.int pn), .unset, .unset, .unset, .unset, .unset, .unset, .unset, .unset] [] := by first | (simp [entryFrame, mkF, argsToLocals, Value.category, maxLocals]; done) | rfl
theorem pn_com_example_roleward_roleward_http_AsciiToLowerCasePinLaw_law__IIIII_Z : plainFor (⟨"com/example/roleward/roleward/http/AsciiToLowerCasePinLaw", "law", "(IIIII)Z"⟩ : MethodName) = true := by first | exact plainFor_of_name (by first | (simp [plainName, overriddenIn]; done) | decide +kernel) | decide +kernel
theorem pd__28Ljava_2flang_2fString_3b_29Ljava_2flang_2fString_3b : parseMethodDescriptor "(Ljava/lang/String;)Ljava/lang/String;" = some ⟨[(.object "java/lang/String")], some (.object "java/lang/String")⟩ := by decide +kernel
theorem own_wL {Z : State} {a0 : Array Value} (hw : ∀ d ∈ tables_1, d.before a0 Z = true) : ∀ d ∈ StrChars.Road.wordsLen, d.before a0 Z = true := fun d hd => hw d ((by decide +kernel : ∀ d ∈ StrChars.Road.wordsLen, d ∈ tables_1) d hd)
theorem pd__28I_29C : parseMethodDescriptor "(I)C" = some ⟨[.int], some .char⟩ := by decide +kernel
set_option maxRecDepth 65536
set_option maxHeartbeats 40000000
theorem rm_emp4 (l : Launch) (Z : State) (a0 : Array Value) (hw : ∀ d ∈ tables_1, d.before a0 Z = true) (n0 : Nat) (h0 : Heap) (hWd : OWorld Z a0) (wc : List Jvm.Cond) (O0 : Old Z n0 h0) (a : Addr) (b : Addr) (y : Value) (z : Int32) (q0 : Exa Z h0 a "java/lang/String") (q1 : Fld Z h0 a "java/lang/String" "value" "[B" y) (q2 : Fld Z h0 a "java/lang/String" "coder" "B" (.int z)) (g0 : n0 ≤ a ∧ a < h0.size) :
    OMet l Z own_EL n0 (⟨"java/lang/String", "<init>", "([CIILjava/lang/Void;)V"⟩ : MethodName) (Jvm.Cond.code (⟨"java/lang/String", "<init>", "([CIILjava/lang/Void;)V"⟩ : MethodName) jdk_42_method_149_code 6 none :: wc) ({ frames := 1, cells := 4, slots := 8, locals := 12 } : Room) #[(.ref a), (.ref b), (.int 0), (.int 0), .null] h0 [a] (fun vq hq => vq = none ∧ OStr Z hq a [] hq.size) := by
  refine own_enter #[.val (.ref a), .val (.ref b), .val (.int 0), .val (.int 0), .val .null, .unset] pn_java_lang_String__init____CIILjava_lang_Void__V (ef_rm_emp4 a b y z) hWd.1 O0 (allS g0 all0) ?_
  intro p e s m below meth c T0 X0 hnm hret
  refine og_aloadN X0 1 d2_0 rfl rfl rfl ?_
  refine own_obj0 X0 4 (a := a) d2_1 (ow hw 12 rfl) (ow hw 13 rfl) (ow hw 14 rfl) rfl (W := 0) rfl (by decide) (by decide) rfl ?_
  intro T1 X2
  refine og_iloadN X2 5 d2_4 rfl rfl ?_
  refine og_ifN X2 8 d2_5 (XT.i0_ne_f (by decide)) rfl ?_
  refine og_aloadN X2 9 d2_8 rfl rfl rfl ?_
  refine own_ldcR X2 11 (cap := 0) (vs := []) (z := (0 : Int32)) d2_9 (om 0 rfl) (ow hw 15 rfl) (own_wS hw) ⟨by decide, rfl⟩ (by decide) rfl (by decide) (by decide) (by decide) (by decide) rfl ?_
  intro T3 h3 a3 b3 kb3 X3 K3 E3 C3 V3 A3 far3
  have f4 := own_mkStr (cs := []) (bs := []) (n := 0) E3 C3 V3 A3 rfl own_l0 rfl rfl (by decide)
  refine own_get X3 14 d2_11 (host := "") (Or.inl (ow hw 21 rfl)) Via.refl V3 rfl ?_
  intro T5 X6
  have f7 := q1.keep K3 nin0
  have f8 := q0.keep K3
  have f9 := q2.keep K3 nin0
  refine own_put X6 17 d2_14 (host := "") (Or.inl (ow hw 21 rfl)) Via.refl f7 f8 (Or.inr ⟨(ow hw 17 rfl), rfl, hnm⟩) (ow hw 3 rfl) (ty := (.array .byte)) (by decide) rfl rfl (om 0 rfl) rfl ?_
  intro T10 h10 X10 W10 K10 F10
  have f11 := Fld.other W10 f9 (Or.inr (slot_ne (Or.inr (ow hw 18 rfl)) (Or.inr (ow hw 17 rfl)) (by decide) (t := .byte) (t' := (.array .byte)) (by decide) (by decide)))
  refine og_aloadN X10 18 d2_17 rfl rfl rfl ?_
  refine own_ldcR X10 20 (cap := 0) (vs := []) (z := (0 : Int32)) d2_18 (om 0 rfl) (ow hw 15 rfl) (own_wS hw) ⟨by decide, rfl⟩ (by decide) rfl (by decide) (by decide) (by decide) (by decide) rfl ?_
  intro T12 h12 a12 b12 kb12 X12 K12 E12 C12 V12 A12 far12
  have f13 := own_mkStr (cs := []) (bs := []) (n := 0) E12 C12 V12 A12 rfl own_l0 rfl rfl (by decide)
  refine own_get X12 23 d2_20 (host := "") (Or.inl (ow hw 22 rfl)) Via.refl C12 rfl ?_
  intro T14 X15
  have f16 := f11.keep K12 nin0
  have f17 := f8.keep K10
  have f18 := f17.keep K12
  have f19 := F10.keep K12 nin0
  refine own_put X15 26 d2_23 (host := "") (Or.inl (ow hw 22 rfl)) Via.refl f16 f18 (Or.inr ⟨(ow hw 18 rfl), rfl, hnm⟩) (ow hw 3 rfl) (ty := .byte) (by decide) rfl rfl (om 0 rfl) rfl ?_
  intro T20 h20 X20 W20 K20 F20
  have f21 := Fld.other W20 f19 (Or.inr (slot_ne (Or.inr (ow hw 17 rfl)) (Or.inr (ow hw 18 rfl)) (by decide) (t := (.array .byte)) (t' := .byte) (by decide) (by decide)))
  have f22 := f18.keep K20
  have f23 := A3.keep K10 (ninS (Ne.symm (far3 _ (om 0 rfl)).2) nin0)
  have f24 := f23.keep K12 nin0
  have f25 := f24.keep K20 (ninS (Ne.symm (far3 _ (om 0 rfl)).2) nin0)
  refine own_retV X20 d2_26 hret (by decide) (by decide) ?_
  exact ⟨rfl, own_mkStr (cs := []) (bs := []) (n := 0) f22 F20 f21 f25 rfl own_l0 rfl rfl (by decide)⟩
theorem rm_emp1 (l : Launch) (Z : State) (a0 : Array Value) (hw : ∀ d ∈ tables_1, d.before a0 Z = true) (n0 : Nat) (h0 : Heap) (hWd : OWorld Z a0) (wc : List Jvm.Cond) (O0 : Old Z n0 h0) (a : Addr) (b : Addr) (y : Value) (z : Int32) (kb : ClassId) (q0 : Exa Z h0 a "java/lang/String") (q1 : Fld Z h0 a "java/lang/String" "value" "[B" y) (q2 : Fld Z h0 a "java/lang/String" "coder" "B" (.int z)) (q3 : Arv Z h0 b kb .char (0 : Int32) [] (.int 0)) (g0 : n0 ≤ a ∧ a < h0.size) :
    OMet l Z own_EL n0 (⟨"java/lang/String", "<init>", "([C)V"⟩ : MethodName) (Jvm.Cond.code (⟨"java/lang/String", "<init>", "([C)V"⟩ : MethodName) jdk_42_method_3_code 2 none :: wc) ({ frames := 2, cells := 4, slots := 8, locals := 29 } : Room) #[(.ref a), (.ref b)] h0 [a] (fun vq hq => vq = none ∧ OStr Z hq a [] hq.size) := by
  refine own_enter #[.val (.ref a), .val (.ref b)] pn_java_lang_String__init____C_V (ef_rm_emp1 a b y z kb) hWd.1 O0 (allS g0 all0) ?_
  intro p e s m below meth c T0 X0 hnm hret
  refine og_aloadN X0 1 d1_0 rfl rfl rfl ?_
  refine og_aloadN X0 2 d1_1 rfl rfl rfl ?_
  refine og_iconst X0 3 (0 : Int32) d1_2 rfl rfl ?_
  refine og_aloadN X0 4 d1_3 rfl rfl rfl ?_
  refine own_len X0 5 d1_4 q3 rfl ?_
  refine og_aconstNull X0 6 d1_5 rfl ?_
  refine own_spec X0 9 (a := a) (argsL := [(.ref b), (.int 0), (.int 0), .null]) (rest := []) d1_6 rfl (rm_emp4 l Z a0 hw n0 h0 hWd [] X0.old a b y z q0 q1 q2 (own_svb X0 (om 0 rfl))) (ow hw 8 rfl) (ow hw 9 rfl) (ow hw 4 rfl) (ow hw 11 rfl) (by decide) (lenOf pd__28_5bCIILjava_2flang_2fVoid_3b_29V rfl) rfl rfl rfl (W := 0) rfl (by decide) (by decide) (by decide) (by decide) (allS (om 0 rfl) all0) rfl ?_
  intro T1 h1 v1 X1 K1 hQ1
  obtain ⟨rfl, f2⟩ := hQ1
  show OGo _ _ _ _ T1 (mkF m 9 #[.val (.ref a), .val (.ref b)] [])
  refine own_retV X1 d1_9 hret (by decide) (by decide) ?_
  exact ⟨rfl, f2.top⟩
theorem ru_pci (l : Launch) (Z : State) (a0 : Array Value) (hw : ∀ d ∈ tables_1, d.before a0 Z = true) (n0 : Nat) (h0 : Heap) (hWd : OWorld Z a0) (wc : List Jvm.Cond) (O0 : Old Z n0 h0) (x : Int32) (y : Int32) (fm : Value) (q0 : (fm).isRef = true) (q1 : ¬ x < 0) (q2 : x < y) :
    OMet l Z own_EL n0 (⟨"jdk/internal/util/Preconditions", "checkIndex", "(IILjava/util/function/BiFunction;)I"⟩ : MethodName) (Jvm.Cond.code (⟨"jdk/internal/util/Preconditions", "checkIndex", "(IILjava/util/function/BiFunction;)I"⟩ : MethodName) jdk_41_method_11_code 3 (some .int) :: wc) ({ frames := 0, cells := 0, slots := 0, locals := 0 } : Room) #[(.int x), (.int y), fm] h0 [] (fun vq hq => vq = some (.int x)) := by
  refine own_enter #[.val (.int x), .val (.int y), .val fm] pn_jdk_internal_util_Preconditions_checkIndex__IILjava_util_function_BiFunction__I (ef_ru_pci x y fm q0) hWd.1 O0 all0 ?_
  intro p e s m below meth c T0 X0 hnm hret
  refine og_iloadN X0 1 d18_0 rfl rfl ?_
  refine og_ifN X0 4 d18_1 (XT.i0_lt_f q1) rfl ?_
  refine og_iloadN X0 5 d18_4 rfl rfl ?_
  refine og_iloadN X0 6 d18_5 rfl rfl ?_
  refine og_icmpY X0 16 d18_6 (XT.ii_lt_t q2) (by decide) (by decide) ?_
  refine og_iloadN X0 17 d18_16 rfl rfl ?_
  refine own_retI X0 d18_17 hret (by decide) (by decide) ?_
  exact rfl
theorem ru_sci (l : Launch) (Z : State) (a0 : Array Value) (hw : ∀ d ∈ tables_1, d.before a0 Z = true) (n0 : Nat) (h0 : Heap) (hWd : OWorld Z a0) (wc : List Jvm.Cond) (O0 : Old Z n0 h0) (x : Int32) (y : Int32) (q0 : ¬ x < 0) (q1 : x < y) :
    OMet l Z own_EL n0 (⟨"java/lang/String", "checkIndex", "(II)V"⟩ : MethodName) (Jvm.Cond.code (⟨"java/lang/String", "checkIndex", "(II)V"⟩ : MethodName) jdk_42_method_155_code 2 none :: wc) ({ frames := 1, cells := 0, slots := 0, locals := 14 } : Room) #[(.int x), (.int y)] h0 [] (fun vq hq => vq = none) := by
  refine own_enter #[.val (.int x), .val (.int y)] pn_java_lang_String_checkIndex__II_V (ef_ru_sci x y) hWd.1 O0 all0 ?_
  intro p e s m below meth c T0 X0 hnm hret
  refine og_iloadN X0 1 d17_0 rfl rfl ?_
  refine og_iloadN X0 2 d17_1 rfl rfl ?_
  refine own_getS X0 5 d17_2 (host := "") (Or.inl (ow hw 81 rfl)) Via.refl hWd.2.2.1.1 rfl ?_
  intro T1 X2
  refine own_stat X2 8 (argsL := [(.int x), (.int y), (own_stv Z "jdk/internal/util/Preconditions" "SIOOBE_FORMATTER" "Ljava/util/function/BiFunction;")]) (rest := []) d17_5 (ru_pci l Z a0 hw n0 h0 hWd [] X2.old x y (own_stv Z "jdk/internal/util/Preconditions" "SIOOBE_FORMATTER" "Ljava/util/function/BiFunction;") hWd.2.2.1.2 q0 q1 ) (ow hw 83 rfl) (ow hw 84 rfl) (ow hw 82 rfl) (ow hw 85 rfl) (by decide) (lenOf pd__28IILjava_2futil_2ffunction_2fBiFunction_3b_29I rfl) rfl rfl rfl (W := 0) rfl (by decide) (by decide) (by decide) (by decide) all0 rfl ?_
  intro T3 h3 v3 X3 K3 hQ3
  obtain rfl := hQ3
  show OGo _ _ _ _ T3 (mkF m 8 #[.val (.int x), .val (.int y)] [(.int x)])
  refine og_pop X3 9 d17_8 rfl rfl ?_
  refine own_retV X3 d17_9 hret (by decide) (by decide) ?_
  exact rfl
theorem ru_isl0 (l : Launch) (Z : State) (a0 : Array Value) (hw : ∀ d ∈ tables_1, d.before a0 Z = true) (n0 : Nat) (h0 : Heap) (hWd : OWorld Z a0) (wc : List Jvm.Cond) (O0 : Old Z n0 h0) (a : Addr) (q0 : Fld Z h0 a "java/lang/String" "coder" "B" (.int 0)) :
    OMet l Z own_EL n0 (⟨"java/lang/String", "isLatin1", "()Z"⟩ : MethodName) (Jvm.Cond.code (⟨"java/lang/String", "isLatin1", "()Z"⟩ : MethodName) jdk_42_method_154_code 1 (some .boolean) :: wc) ({ frames := 0, cells := 0, slots := 0, locals := 0 } : Room) #[(.ref a)] h0 [] (fun vq hq => vq = some (.int 1)) := by
  refine own_enter #[.val (.ref a)] pn_java_lang_String_isLatin1___Z (ef_ru_isl0 a) hWd.1 O0 all0 ?_
  intro p e s m below meth c T0 X0 hnm hret
  refine own_getS X0 3 d6_0 (host := "") (Or.inl (ow hw 37 rfl)) Via.refl hWd.2.1.1 rfl ?_
  intro T1 X2
  refine og_ifN X2 6 d6_3 (XT.i0_eq_f hWd.2.1.2) rfl ?_
  refine og_aloadN X2 7 d6_6 rfl rfl rfl ?_
  refine own_get X2 10 d6_7 (host := "") (Or.inl (ow hw 22 rfl)) Via.refl q0 rfl ?_
  intro T3 X4
  refine og_ifN X4 13 d6_10 (XT.i0_ne_f (by decide)) rfl ?_
  refine og_iconst X4 14 (1 : Int32) d6_13 rfl rfl ?_
  refine og_goto X4 18 d6_14 (by decide) (by decide) ?_
  refine own_retZ X4 d6_18 hret rfl (by decide) (by decide) ?_
  exact rfl
theorem ru_isl1 (l : Launch) (Z : State) (a0 : Array Value) (hw : ∀ d ∈ tables_1, d.before a0 Z = true) (n0 : Nat) (h0 : Heap) (hWd : OWorld Z a0) (wc : List Jvm.Cond) (O0 : Old Z n0 h0) (a : Addr) (q0 : Fld Z h0 a "java/lang/String" "coder" "B" (.int 1)) :
    OMet l Z own_EL n0 (⟨"java/lang/String", "isLatin1", "()Z"⟩ : MethodName) (Jvm.Cond.code (⟨"java/lang/String", "isLatin1", "()Z"⟩ : MethodName) jdk_42_method_154_code 1 (some .boolean) :: wc) ({ frames := 0, cells := 0, slots := 0, locals := 0 } : Room) #[(.ref a)] h0 [] (fun vq hq => vq = some (.int 0)) := by
  refine own_enter #[.val (.ref a)] pn_java_lang_String_isLatin1___Z (ef_ru_isl1 a) hWd.1 O0 all0 ?_
  intro p e s m below meth c T0 X0 hnm hret
  refine own_getS X0 3 d6_0 (host := "") (Or.inl (ow hw 37 rfl)) Via.refl hWd.2.1.1 rfl ?_
  intro T1 X2
  refine og_ifN X2 6 d6_3 (XT.i0_eq_f hWd.2.1.2) rfl ?_
  refine og_aloadN X2 7 d6_6 rfl rfl rfl ?_
  refine own_get X2 10 d6_7 (host := "") (Or.inl (ow hw 22 rfl)) Via.refl q0 rfl ?_
  intro T3 X4
  refine og_ifY X4 17 d6_10 (XT.i0_ne_t (by decide)) (by decide) (by decide) ?_
  refine og_iconst X4 18 (0 : Int32) d6_17 rfl rfl ?_
  refine own_retZ X4 d6_18 hret rfl (by decide) (by decide) ?_
  exact rfl
theorem rg_len (l : Launch) (Z : State) (a0 : Array Value) (hw : ∀ d ∈ tables_1, d.before a0 Z = true) (n0 : Nat) (h0 : Heap) (hWd : OWorld Z a0) (wc : List Jvm.Cond) (O0 : Old Z n0 h0) (b : Addr) (kb : ClassId) (cs : List Int32) (q0 : Arv Z h0 b kb .byte (Int32.ofNat (2 * (cs).length)) (StrChars.Road.wideBytes cs) (.int 0)) (q1 : (cs).length ≤ 4000) :
    OMet l Z own_EL n0 (⟨"java/lang/StringUTF16", "length", "([B)I"⟩ : MethodName) (Jvm.Cond.code (⟨"java/lang/StringUTF16", "length", "([B)I"⟩ : MethodName) jdk_52_method_6_code 1 (some .int) :: wc) ({ frames := 0, cells := 0, slots := 0, locals := 0 } : Room) #[(.ref b)] h0 [] (fun vq hq => vq = some (.int (Int32.ofNat (cs).length))) := by
  refine own_enter #[.val (.ref b)] pn_java_lang_StringUTF16_length___B_I (ef_rg_len b kb cs) hWd.1 O0 all0 ?_
  intro p e s m below meth c T0 X0 hnm hret
  refine og_aloadN X0 1 d28_0 rfl rfl rfl ?_
  refine own_len X0 2 d28_1 q0 rfl ?_
  refine og_iconst X0 3 (1 : Int32) d28_2 rfl rfl ?_
  refine og_ishr X0 4 d28_3 rfl ?_
  refine own_retI X0 d28_4 hret (by decide) (by decide) ?_
  rw [own_shr1 q1]
theorem rg_uci (l : Launch) (Z : State) (a0 : Array Value) (hw : ∀ d ∈ tables_1, d.before a0 Z = true) (n0 : Nat) (h0 : Heap) (hWd : OWorld Z a0) (wc : List Jvm.Cond) (O0 : Old Z n0 h0) (b : Addr) (kb : ClassId) (cs : List Int32) (i : Nat) (q0 : Arv Z h0 b kb .byte (Int32.ofNat (2 * (cs).length)) (StrChars.Road.wideBytes cs) (.int 0)) (q1 : (cs).length ≤ 4000) (q2 : i < (cs).length) :
    OMet l Z own_EL n0 (⟨"java/lang/StringUTF16", "checkIndex", "(I[B)V"⟩ : MethodName) (Jvm.Cond.code (⟨"java/lang/StringUTF16", "checkIndex", "(I[B)V"⟩ : MethodName) jdk_52_method_91_code 2 none :: wc) ({ frames := 2, cells := 0, slots := 0, locals := 27 } : Room) #[(.int (Int32.ofNat i)), (.ref b)] h0 [] (fun vq hq => vq = none) := by
  refine own_enter #[.val (.int (Int32.ofNat i)), .val (.ref b)] pn_java_lang_StringUTF16_checkIndex__I_B_V (ef_rg_uci b kb cs i) hWd.1 O0 all0 ?_
  intro p e s m below meth c T0 X0 hnm hret
  refine og_iloadN X0 1 d32_0 rfl rfl ?_
  refine og_aloadN X0 2 d32_1 rfl rfl rfl ?_
  refine own_stat X0 5 (argsL := [(.ref b)]) (rest := [(.int (Int32.ofNat i))]) d32_2 (rg_len l Z a0 hw n0 h0 hWd [] X0.old b kb cs q0 q1 ) (ow hw 118 rfl) (ow hw 119 rfl) (ow hw 59 rfl) (ow hw 120 rfl) (by decide) (lenOf pd__28_5bB_29I rfl) rfl rfl rfl (W := 1) rfl (by decide) (by decide) (by decide) (by decide) all0 rfl ?_
  intro T1 h1 v1 X1 K1 hQ1
  obtain rfl := hQ1
  show OGo _ _ _ _ T1 (mkF m 5 #[.val (.int (Int32.ofNat i)), .val (.ref b)] [(.int (Int32.ofNat (cs).length)), (.int (Int32.ofNat i))])
  refine own_stat X1 8 (argsL := [(.int (Int32.ofNat i)), (.int (Int32.ofNat (cs).length))]) (rest := []) d32_5 (ru_sci l Z a0 hw n0 h1 hWd [] X1.old (Int32.ofNat i) (Int32.ofNat (cs).length) (own_onn (by omega)) (own_olt (by omega) (by omega)) ) (ow hw 133 rfl) (ow hw 79 rfl) (ow hw 4 rfl) (ow hw 80 rfl) (by decide) (lenOf pd__28II_29V rfl) rfl rfl rfl (W := 0) rfl (by decide) (by decide) (by decide) (by decide) all0 rfl ?_
  intro T2 h2 v2 X2 K2 hQ2
  obtain rfl := hQ2
  show OGo _ _ _ _ T2 (mkF m 8 #[.val (.int (Int32.ofNat i)), .val (.ref b)] [])
  refine own_retV X2 d32_8 hret (by decide) (by decide) ?_
  exact rfl
theorem rg_get (l : Launch) (Z : State) (a0 : Array Value) (hw : ∀ d ∈ tables_1, d.before a0 Z = true) (n0 : Nat) (h0 : Heap) (hWd : OWorld Z a0) (wc : List Jvm.Cond) (O0 : Old Z n0 h0) (b : Addr) (kb : ClassId) (cs : List Int32) (i : Nat) (q0 : Arv Z h0 b kb .byte (Int32.ofNat (2 * (cs).length)) (StrChars.Road.wideBytes cs) (.int 0)) (q1 : (cs).length ≤ 4000) (q2 : i < (cs).length) :
    OMet l Z own_EL n0 (⟨"java/lang/StringUTF16", "getChar", "([BI)C"⟩ : MethodName) (Jvm.Cond.code (⟨"java/lang/StringUTF16", "getChar", "([BI)C"⟩ : MethodName) jdk_52_method_5_code 2 (some .char) :: wc) ({ frames := 0, cells := 0, slots := 0, locals := 0 } : Room) #[(.ref b), (.int (Int32.ofNat i))] h0 [] (fun vq hq => vq = some (.int (StrChars.pairCh (StrChars.lo8 ((cs).getD i 0)) (StrChars.hi8 ((cs).getD i 0))))) := by
  refine own_enter #[.val (.ref b), .val (.int (Int32.ofNat i))] pn_java_lang_StringUTF16_getChar___BI_C (ef_rg_get b kb cs i) hWd.1 O0 all0 ?_
  intro p e s m below meth c T0 X0 hnm hret
  refine own_getS X0 3 d24_0 (host := "") (Or.inl (ow hw 103 rfl)) Via.refl hWd.2.2.2.1 rfl ?_
  intro T1 X2
  refine og_ifY X2 28 d24_3 (XT.i0_ne_t (by decide)) (by decide) (by decide) ?_
  refine og_iloadN X2 29 d24_28 rfl rfl ?_
  refine og_iconst X2 30 (1 : Int32) d24_29 rfl rfl ?_
  refine og_ishl X2 31 d24_30 rfl ?_
  rw [own_shl1 (i := i) (by omega)]
  refine og_istoreN X2 32 #[.val (.ref b), .val (.int (Int32.ofNat (2 * i)))] d24_31 rfl rfl ?_
  refine og_aloadN X2 33 d24_32 rfl rfl rfl ?_
  refine og_iloadN X2 34 d24_33 rfl rfl ?_
  refine og_iinc X2 37 #[.val (.ref b), .val (.int ((Int32.ofNat (2 * i)) + (1 : Int32)))] d24_34 rfl rfl rfl ?_
  rw [own_o1]
  refine own_ldB X2 38 d24_37 q0 (v := .int (StrChars.lo8 ((cs).getD i 0))) (own_onn (by omega)) (own_olt (by omega) (by omega)) (by rw [own_oc (by omega)]; exact StrChars.Road.wide_lo _ cs i q2) rfl ?_
  refine og_sipush X2 41 (255 : Int32) d24_38 rfl rfl ?_
  refine og_iand X2 42 d24_41 rfl ?_
  refine own_getS X2 45 d24_42 (host := "") (Or.inl (ow hw 104 rfl)) Via.refl hWd.2.2.2.2.1 rfl ?_
  intro T3 X4
  refine og_ishl X4 46 d24_45 rfl ?_
  refine og_aloadN X4 47 d24_46 rfl rfl rfl ?_
  refine og_iloadN X4 48 d24_47 rfl rfl ?_
  refine own_ldB X4 49 d24_48 q0 (v := .int (StrChars.hi8 ((cs).getD i 0))) (own_onn (by omega)) (own_olt (by omega) (by omega)) (by rw [own_oc (by omega)]; exact StrChars.Road.wide_hi _ cs i q2) rfl ?_
  refine og_sipush X4 52 (255 : Int32) d24_49 rfl rfl ?_
  refine og_iand X4 53 d24_52 rfl ?_
  refine own_getS X4 56 d24_53 (host := "") (Or.inl (ow hw 105 rfl)) Via.refl hWd.2.2.2.2.2 rfl ?_
  intro T5 X6
  refine og_ishl X6 57 d24_56 rfl ?_
  refine og_ior X6 58 d24_57 rfl ?_
  refine og_i2c X6 59 d24_58 rfl ?_
  refine own_retC X6 d24_59 hret (own_fitC (own_lat16 _).1 (own_lat16 _).2) (by decide) (by decide) ?_
  exact rfl
theorem rg_uca (l : Launch) (Z : State) (a0 : Array Value) (hw : ∀ d ∈ tables_1, d.before a0 Z = true) (n0 : Nat) (h0 : Heap) (hWd : OWorld Z a0) (wc : List Jvm.Cond) (O0 : Old Z n0 h0) (b : Addr) (kb : ClassId) (cs : List Int32) (i : Nat) (q0 : Arv Z h0 b kb .byte (Int32.ofNat (2 * (cs).length)) (StrChars.Road.wideBytes cs) (.int 0)) (q1 : (cs).length ≤ 4000) (q2 : i < (cs).length) :
    OMet l Z own_EL n0 (⟨"java/lang/StringUTF16", "charAt", "([BI)C"⟩ : MethodName) (Jvm.Cond.code (⟨"java/lang/StringUTF16", "charAt", "([BI)C"⟩ : MethodName) jdk_52_method_83_code 2 (some .char) :: wc) ({ frames := 3, cells := 0, slots := 0, locals := 40 } : Room) #[(.ref b), (.int (Int32.ofNat i))] h0 [] (fun vq hq => vq = some (.int (StrChars.pairCh (StrChars.lo8 ((cs).getD i 0)) (StrChars.hi8 ((cs).getD i 0))))) := by
  refine own_enter #[.val (.ref b), .val (.int (Int32.ofNat i))] pn_java_lang_StringUTF16_charAt___BI_C (ef_rg_uca b kb cs i) hWd.1 O0 all0 ?_
  intro p e s m below meth c T0 X0 hnm hret
  refine og_iloadN X0 1 d31_0 rfl rfl ?_
  refine og_aloadN X0 2 d31_1 rfl rfl rfl ?_
  refine own_stat X0 5 (argsL := [(.int (Int32.ofNat i)), (.ref b)]) (rest := []) d31_2 (rg_uci l Z a0 hw n0 h0 hWd [] X0.old b kb cs i q0 q1 q2 ) (ow hw 130 rfl) (ow hw 131 rfl) (ow hw 59 rfl) (ow hw 132 rfl) (by decide) (lenOf pd__28I_5bB_29V rfl) rfl rfl rfl (W := 0) rfl (by decide) (by decide) (by decide) (by decide) all0 rfl ?_
  intro T1 h1 v1 X1 K1 hQ1
  obtain rfl := hQ1
  show OGo _ _ _ _ T1 (mkF m 5 #[.val (.ref b), .val (.int (Int32.ofNat i))] [])
  refine og_aloadN X1 6 d31_5 rfl rfl rfl ?_
  refine og_iloadN X1 7 d31_6 rfl rfl ?_
  have f2 := q0.keep K1 nin0
  refine own_stat X1 10 (argsL := [(.ref b), (.int (Int32.ofNat i))]) (rest := []) d31_7 (rg_get l Z a0 hw n0 h1 hWd [] X1.old b kb cs i f2 q1 q2 ) (ow hw 106 rfl) (ow hw 107 rfl) (ow hw 59 rfl) (ow hw 108 rfl) (by decide) (lenOf pd__28_5bBI_29C rfl) rfl rfl rfl (W := 0) rfl (by decide) (by decide) (by decide) (by decide) all0 rfl ?_
  intro T3 h3 v3 X3 K3 hQ3
  obtain rfl := hQ3
  show OGo _ _ _ _ T3 (mkF m 10 #[.val (.ref b), .val (.int (Int32.ofNat i))] [(.int (StrChars.pairCh (StrChars.lo8 ((cs).getD i 0)) (StrChars.hi8 ((cs).getD i 0))))])
  refine own_retC X3 d31_10 hret (own_fitC (own_lat16 _).1 (own_lat16 _).2) (by decide) (by decide) ?_
  exact rfl
theorem rg_lca (l : Launch) (Z : State) (a0 : Array Value) (hw : ∀ d ∈ tables_1, d.before a0 Z = true) (n0 : Nat) (h0 : Heap) (hWd : OWorld Z a0) (wc : List Jvm.Cond) (O0 : Old Z n0 h0) (b : Addr) (kb : ClassId) (cs : List Int32) (i : Nat) (q0 : Arv Z h0 b kb .byte (Int32.ofNat (cs).length) ((cs).map fun c => Value.int (StrChars.lo8 c)) (.int 0)) (q1 : (cs).length ≤ 4000) (q2 : i < (cs).length) :
    OMet l Z own_EL n0 (⟨"java/lang/StringLatin1", "charAt", "([BI)C"⟩ : MethodName) (Jvm.Cond.code (⟨"java/lang/StringLatin1", "charAt", "([BI)C"⟩ : MethodName) jdk_43_method_2_code 2 (some .char) :: wc) ({ frames := 2, cells := 0, slots := 0, locals := 27 } : Room) #[(.ref b), (.int (Int32.ofNat i))] h0 [] (fun vq hq => vq = some (.int ((StrChars.lo8 ((cs).getD i 0)) &&& (255 : Int32)))) := by
  refine own_enter #[.val (.ref b), .val (.int (Int32.ofNat i))] pn_java_lang_StringLatin1_charAt___BI_C (ef_rg_lca b kb cs i) hWd.1 O0 all0 ?_
  intro p e s m below meth c T0 X0 hnm hret
  refine og_iloadN X0 1 d16_0 rfl rfl ?_
  refine og_aloadN X0 2 d16_1 rfl rfl rfl ?_
  refine own_len X0 3 d16_2 q0 rfl ?_
  refine own_stat X0 6 (argsL := [(.int (Int32.ofNat i)), (.int (Int32.ofNat (cs).length))]) (rest := []) d16_3 (ru_sci l Z a0 hw n0 h0 hWd [] X0.old (Int32.ofNat i) (Int32.ofNat (cs).length) (own_onn (by omega)) (own_olt (by omega) (by omega)) ) (ow hw 78 rfl) (ow hw 79 rfl) (ow hw 4 rfl) (ow hw 80 rfl) (by decide) (lenOf pd__28II_29V rfl) rfl rfl rfl (W := 0) rfl (by decide) (by decide) (by decide) (by decide) all0 rfl ?_
  intro T1 h1 v1 X1 K1 hQ1
  obtain rfl := hQ1
  show OGo _ _ _ _ T1 (mkF m 6 #[.val (.ref b), .val (.int (Int32.ofNat i))] [])
  refine og_aloadN X1 7 d16_6 rfl rfl rfl ?_
  refine og_iloadN X1 8 d16_7 rfl rfl ?_
  have f2 := q0.keep K1 nin0
  refine own_ldB X1 9 d16_8 f2 (v := .int (StrChars.lo8 ((cs).getD i 0))) (own_onn (by omega)) (own_olt (by omega) (by omega)) (by rw [own_oc (by omega)]; exact StrChars.Road.low_at _ cs i q2) rfl ?_
  refine og_sipush X1 12 (255 : Int32) d16_9 rfl rfl ?_
  refine og_iand X1 13 d16_12 rfl ?_
  refine og_i2c8 X1 14 d16_13 rfl ?_
  refine own_retC X1 d16_14 hret (own_fitC (own_lat8 _).1 (own_up8 (own_lat8 _).2)) (by decide) (by decide) ?_
  exact rfl
theorem rg_ch (l : Launch) (Z : State) (a0 : Array Value) (hw : ∀ d ∈ tables_1, d.before a0 Z = true) (n0 : Nat) (h0 : Heap) (hWd : OWorld Z a0) (wc : List Jvm.Cond) (O0 : Old Z n0 h0) (a : Addr) (cs : List Int32) (i : Nat) (q0 : OStr Z h0 a cs h0.size) (q1 : i < (cs).length) :
    OMet l Z own_EL n0 (⟨"java/lang/String", "charAt", "(I)C"⟩ : MethodName) (Jvm.Cond.code (⟨"java/lang/String", "charAt", "(I)C"⟩ : MethodName) jdk_42_method_56_code 2 (some .char) :: wc) ({ frames := 4, cells := 0, slots := 0, locals := 53 } : Room) #[(.ref a), (.int (Int32.ofNat i))] h0 [] (fun vq hq => vq = some (.int ((cs).getD i 0))) := by
  refine own_enter #[.val (.ref a), .val (.int (Int32.ofNat i))] pn_java_lang_String_charAt__I_C (ef_rg_ch a cs i) hWd.1 O0 all0 ?_
  intro p e s m below meth c T0 X0 hnm hret
  obtain ⟨t, kt, cd, NN, vv, eE, eC, eV, eA, cod, bd, l4, -⟩ := q0
  rcases cod with ⟨rfl, rfl, rfl, lat⟩ | ⟨rfl, rfl, rfl, wid⟩
  · -- coder 0
    refine og_aloadN X0 1 d15_0 rfl rfl rfl ?_
    refine own_virt X0 4 (a := a) (argsL := []) (rest := []) d15_1 eE (fun _ hZ => notFace_of_selects (args := #[]) (mvT hZ (ow hw 35 rfl))) (ru_isl0 l Z a0 hw n0 h0 hWd [] X0.old a eC ) (ow hw 32 rfl) (ow hw 33 rfl) (ow hw 35 rfl) (ow hw 34 rfl) (ow hw 4 rfl) (ow hw 36 rfl) (by decide) (lenOf pd__28_29Z rfl) rfl rfl rfl (W := 0) rfl (by decide) (by decide) (by decide) (by decide) all0 rfl ?_
    intro T1 h1 v1 X1 K1 hQ1
    obtain rfl := hQ1
    show OGo _ _ _ _ T1 (mkF m 4 #[.val (.ref a), .val (.int (Int32.ofNat i))] [(.int 1)])
    refine og_ifN X1 7 d15_4 (XT.i0_eq_f (by decide)) rfl ?_
    refine og_aloadN X1 8 d15_7 rfl rfl rfl ?_
    have f2 := eV.keep K1 nin0
    refine own_get X1 11 d15_8 (host := "") (Or.inl (ow hw 21 rfl)) Via.refl f2 rfl ?_
    intro T3 X4
    refine og_iloadN X4 12 d15_11 rfl rfl ?_
    have f5 := eA.keep K1 nin0
    refine own_stat X4 15 (argsL := [(.ref t), (.int (Int32.ofNat i))]) (rest := []) d15_12 (rg_lca l Z a0 hw n0 h1 hWd [] X4.old t kt cs i f5 l4 q1 ) (ow hw 75 rfl) (ow hw 76 rfl) (ow hw 40 rfl) (ow hw 77 rfl) (by decide) (lenOf pd__28_5bBI_29C rfl) rfl rfl rfl (W := 0) rfl (by decide) (by decide) (by decide) (by decide) all0 rfl ?_
    intro T6 h6 v6 X6 K6 hQ6
    obtain rfl := hQ6
    show OGo _ _ _ _ T6 (mkF m 15 #[.val (.ref a), .val (.int (Int32.ofNat i))] [(.int ((StrChars.lo8 ((cs).getD i 0)) &&& (255 : Int32)))])
    refine own_retC X6 d15_15 hret (own_fitC (own_lat8 _).1 (own_up8 (own_lat8 _).2)) (by decide) (by decide) ?_
    rw [StrChars.lo8_mask (bd _ (own_gm q1)).1 (lat _ (own_gm q1))]
  · -- coder 1
    refine og_aloadN X0 1 d15_0 rfl rfl rfl ?_
    refine own_virt X0 4 (a := a) (argsL := []) (rest := []) d15_1 eE (fun _ hZ => notFace_of_selects (args := #[]) (mvT hZ (ow hw 35 rfl))) (ru_isl1 l Z a0 hw n0 h0 hWd [] X0.old a eC ) (ow hw 32 rfl) (ow hw 33 rfl) (ow hw 35 rfl) (ow hw 34 rfl) (ow hw 4 rfl) (ow hw 36 rfl) (by decide) (lenOf pd__28_29Z rfl) rfl rfl rfl (W := 0) rfl (by decide) (by decide) (by decide) (by decide) all0 rfl ?_
    intro T7 h7 v7 X7 K7 hQ7
    obtain rfl := hQ7
    show OGo _ _ _ _ T7 (mkF m 4 #[.val (.ref a), .val (.int (Int32.ofNat i))] [(.int 0)])
    refine og_ifY X7 16 d15_4 (XT.i0_eq_t (by decide)) (by decide) (by decide) ?_
    refine og_aloadN X7 17 d15_16 rfl rfl rfl ?_
    have f8 := eV.keep K7 nin0
    refine own_get X7 20 d15_17 (host := "") (Or.inl (ow hw 21 rfl)) Via.refl f8 rfl ?_
    intro T9 X10
    refine og_iloadN X10 21 d15_20 rfl rfl ?_
    have f11 := eA.keep K7 nin0
    refine own_stat X10 24 (argsL := [(.ref t), (.int (Int32.ofNat i))]) (rest := []) d15_21 (rg_uca l Z a0 hw n0 h7 hWd [] X10.old t kt cs i f11 l4 q1 ) (ow hw 127 rfl) (ow hw 128 rfl) (ow hw 59 rfl) (ow hw 129 rfl) (by decide) (lenOf pd__28_5bBI_29C rfl) rfl rfl rfl (W := 0) rfl (by decide) (by decide) (by decide) (by decide) all0 rfl ?_
    intro T12 h12 v12 X12 K12 hQ12
    obtain rfl := hQ12
    show OGo _ _ _ _ T12 (mkF m 24 #[.val (.ref a), .val (.int (Int32.ofNat i))] [(.int (StrChars.pairCh (StrChars.lo8 ((cs).getD i 0)) (StrChars.hi8 ((cs).getD i 0))))])
    refine own_retC X12 d15_24 hret (own_fitC (own_lat16 _).1 (own_lat16 _).2) (by decide) (by decide) ?_
    rw [StrChars.pair_says (bd _ (own_gm q1)).1 (bd _ (own_gm q1)).2]
theorem ru_nbl1 (l : Launch) (Z : State) (a0 : Array Value) (hw : ∀ d ∈ tables_1, d.before a0 Z = true) (n0 : Nat) (h0 : Heap) (hWd : OWorld Z a0) (wc : List Jvm.Cond) (O0 : Old Z n0 h0)   :
    OMet l Z own_EL n0 (⟨"java/lang/StringUTF16", "newBytesLength", "(I)I"⟩ : MethodName) (Jvm.Cond.code (⟨"java/lang/StringUTF16", "newBytesLength", "(I)I"⟩ : MethodName) jdk_52_method_3_code 1 (some .int) :: wc) ({ frames := 0, cells := 0, slots := 0, locals := 0 } : Room) #[(.int 1)] h0 [] (fun vq hq => vq = some (.int 2)) := by
  refine own_enter #[.val (.int 1)] pn_java_lang_StringUTF16_newBytesLength__I_I (ef_ru_nbl1) hWd.1 O0 all0 ?_
  intro p e s m below meth c T0 X0 hnm hret
  refine og_iloadN X0 1 d22_0 rfl rfl ?_
  refine og_ifY X0 12 d22_1 (XT.i0_ge_t (by decide)) (by decide) (by decide) ?_
  refine og_iloadN X0 13 d22_12 rfl rfl ?_
  refine own_ldcI X0 15 (v := (1073741823 : Int32)) d22_13 (ow hw 99 rfl) rfl ?_
  refine og_icmpY X0 55 d22_15 (XT.ii_lt_t (by decide)) (by decide) (by decide) ?_
  refine og_iloadN X0 56 d22_55 rfl rfl ?_
  refine og_iconst X0 57 (1 : Int32) d22_56 rfl rfl ?_
  refine og_ishl X0 58 d22_57 rfl ?_
  show OGo _ _ _ _ T0 (mkF m 58 #[.val (.int 1)] [(.int 2)])
  refine own_retI X0 d22_58 hret (by decide) (by decide) ?_
  exact rfl
theorem ru_nbf1 (l : Launch) (Z : State) (a0 : Array Value) (hw : ∀ d ∈ tables_1, d.before a0 Z = true) (n0 : Nat) (h0 : Heap) (hWd : OWorld Z a0) (wc : List Jvm.Cond) (O0 : Old Z n0 h0)   :
    OMet l Z own_EL n0 (⟨"java/lang/StringUTF16", "newBytesFor", "(I)[B"⟩ : MethodName) (Jvm.Cond.code (⟨"java/lang/StringUTF16", "newBytesFor", "(I)[B"⟩ : MethodName) jdk_52_method_2_code 1 (some (.array .byte)) :: wc) ({ frames := 1, cells := 1, slots := 2, locals := 12 } : Room) #[(.int 1)] h0 [] (fun vq hq => ∃ (r : Addr) (kb : ClassId), vq = some (.ref r) ∧ h0.size ≤ r ∧ Arv Z hq r kb .byte (2 : Int32) [(.int 0), (.int 0)] (.int 0)) := by
  refine own_enter #[.val (.int 1)] pn_java_lang_StringUTF16_newBytesFor__I__B (ef_ru_nbf1) hWd.1 O0 all0 ?_
  intro p e s m below meth c T0 X0 hnm hret
  refine og_iloadN X0 1 d21_0 rfl rfl ?_
  refine own_stat X0 4 (argsL := [(.int 1)]) (rest := []) d21_1 (ru_nbl1 l Z a0 hw n0 h0 hWd [] X0.old   ) (ow hw 96 rfl) (ow hw 97 rfl) (ow hw 59 rfl) (ow hw 98 rfl) (by decide) (lenOf pd__28I_29I rfl) rfl rfl rfl (W := 0) rfl (by decide) (by decide) (by decide) (by decide) all0 rfl ?_
  intro T1 h1 v1 X1 K1 hQ1
  obtain rfl := hQ1
  show OGo _ _ _ _ T1 (mkF m 4 #[.val (.int 1)] [(.int 2)])
  refine own_arr X1 6 d21_4 (ow hw 16 rfl) (by decide) (cap := 2) (by decide) (by decide) (by decide) (by decide) rfl ?_
  intro T2 h2 b2 kb2 X2 K2 G2 U2 A2
  have f3 : Arv Z h2 b2 kb2 .byte (2 : Int32) [(.int 0), (.int 0)] (.int 0) := A2
  refine own_retA X2 d21_6 hret rfl rfl (by decide) (by decide) ?_
  exact ⟨b2, kb2, rfl, (Nat.le_trans K1.1 G2), f3⟩
theorem ru_put1_0 (l : Launch) (Z : State) (a0 : Array Value) (hw : ∀ d ∈ tables_1, d.before a0 Z = true) (n0 : Nat) (h0 : Heap) (hWd : OWorld Z a0) (wc : List Jvm.Cond) (O0 : Old Z n0 h0) (b : Addr) (kb : ClassId) (x : Int32) (dv : Value) (e0 : Value) (e1 : Value) (q0 : Arv Z h0 b kb .byte (2 : Int32) [e0, e1] dv) (g0 : n0 ≤ b ∧ b < h0.size) :
    OMet l Z own_EL n0 (⟨"java/lang/StringUTF16", "putChar", "([BII)V"⟩ : MethodName) (Jvm.Cond.code (⟨"java/lang/StringUTF16", "putChar", "([BII)V"⟩ : MethodName) jdk_52_method_4_code 3 none :: wc) ({ frames := 0, cells := 0, slots := 0, locals := 0 } : Room) #[(.ref b), (.int 0), (.int x)] h0 [b] (fun vq hq => vq = none ∧ Arv Z hq b kb .byte (2 : Int32) [(.int (StrChars.lo8 x)), (.int (StrChars.hi8 x))] dv) := by
  refine own_enter #[.val (.ref b), .val (.int 0), .val (.int x)] pn_java_lang_StringUTF16_putChar___BII_V (ef_ru_put1_0 b kb x dv e0 e1) hWd.1 O0 (allS g0 all0) ?_
  intro p e s m below meth c T0 X0 hnm hret
  refine own_getS X0 3 d23_0 (host := "") (Or.inl (ow hw 103 rfl)) Via.refl hWd.2.2.2.1 rfl ?_
  intro T1 X2
  refine og_ifY X2 28 d23_3 (XT.i0_ne_t (by decide)) (by decide) (by decide) ?_
  refine og_iloadN X2 29 d23_28 rfl rfl ?_
  refine og_iconst X2 30 (1 : Int32) d23_29 rfl rfl ?_
  refine og_ishl X2 31 d23_30 rfl ?_
  show OGo _ _ _ _ T1 (mkF m 31 #[.val (.ref b), .val (.int 0), .val (.int x)] [(.int 0)])
  refine og_istoreN X2 32 #[.val (.ref b), .val (.int 0), .val (.int x)] d23_31 rfl rfl ?_
  refine og_aloadN X2 33 d23_32 rfl rfl rfl ?_
  refine og_iloadN X2 34 d23_33 rfl rfl ?_
  refine og_iinc X2 37 #[.val (.ref b), .val (.int 1), .val (.int x)] d23_34 rfl rfl rfl ?_
  refine og_iloadN X2 38 d23_37 rfl rfl ?_
  refine own_getS X2 41 d23_38 (host := "") (Or.inl (ow hw 104 rfl)) Via.refl hWd.2.2.2.2.1 rfl ?_
  intro T3 X4
  refine og_ishr X4 42 d23_41 rfl ?_
  refine og_i2b X4 43 d23_42 rfl ?_
  refine own_stB X4 44 d23_43 q0 (own_nbb _) (by decide) (by decide) (i := 0) (by decide) (Nat.le_of_ble_eq_true rfl) (om 0 rfl) rfl ?_
  intro T5 h5 X5 W5 K5 A5
  have f6 : Arv Z h5 b kb .byte (2 : Int32) [(.int (((x >>> ((0 : Int32) &&& 31))).toInt8.toInt32)), e1] dv := A5
  refine og_aloadN X5 45 d23_44 rfl rfl rfl ?_
  refine og_iloadN X5 46 d23_45 rfl rfl ?_
  refine og_iloadN X5 47 d23_46 rfl rfl ?_
  refine own_getS X5 50 d23_47 (host := "") (Or.inl (ow hw 105 rfl)) Via.refl hWd.2.2.2.2.2 rfl ?_
  intro T7 X8
  refine og_ishr X8 51 d23_50 rfl ?_
  refine og_i2b X8 52 d23_51 rfl ?_
  refine own_stB X8 53 d23_52 f6 (own_nbb _) (by decide) (by decide) (i := 1) (by decide) (Nat.le_of_ble_eq_true rfl) (om 0 rfl) rfl ?_
  intro T9 h9 X9 W9 K9 A9
  have f10 : Arv Z h9 b kb .byte (2 : Int32) [(.int (((x >>> ((0 : Int32) &&& 31))).toInt8.toInt32)), (.int (((x >>> ((8 : Int32) &&& 31))).toInt8.toInt32))] dv := A9
  refine own_retV X9 d23_53 hret (by decide) (by decide) ?_
  exact ⟨rfl, by have q := f10; rw [StrChars.shr0] at q; exact q⟩
theorem ru_tob1 (l : Launch) (Z : State) (a0 : Array Value) (hw : ∀ d ∈ tables_1, d.before a0 Z = true) (n0 : Nat) (h0 : Heap) (hWd : OWorld Z a0) (wc : List Jvm.Cond) (O0 : Old Z n0 h0) (b : Addr) (kb : ClassId) (dv : Value) (x0 : Int32) (q0 : Arv Z h0 b kb .char (1 : Int32) [(.int x0)] dv) :
    OMet l Z own_EL n0 (⟨"java/lang/StringUTF16", "toBytes", "([CII)[B"⟩ : MethodName) (Jvm.Cond.code (⟨"java/lang/StringUTF16", "toBytes", "([CII)[B"⟩ : MethodName) jdk_52_method_14_code 5 (some (.array .byte)) :: wc) ({ frames := 2, cells := 1, slots := 2, locals := 24 } : Room) #[(.ref b), (.int 0), (.int 1)] h0 [] (fun vq hq => ∃ (r : Addr) (kr : ClassId), vq = some (.ref r) ∧ h0.size ≤ r ∧ Arv Z hq r kr .byte (2 : Int32) [(.int (StrChars.lo8 x0)), (.int (StrChars.hi8 x0))] (.int 0)) := by
  refine own_enter #[.val (.ref b), .val (.int 0), .val (.int 1), .unset, .unset] pn_java_lang_StringUTF16_toBytes___CII__B (ef_ru_tob1 b kb dv x0) hWd.1 O0 all0 ?_
  intro p e s m below meth c T0 X0 hnm hret
  refine og_iloadN X0 1 d20_0 rfl rfl ?_
  refine own_stat X0 4 (argsL := [(.int 1)]) (rest := []) d20_1 (ru_nbf1 l Z a0 hw n0 h0 hWd [] X0.old   ) (ow hw 93 rfl) (ow hw 94 rfl) (ow hw 59 rfl) (ow hw 95 rfl) (by decide) (lenOf pd__28I_29_5bB rfl) rfl rfl rfl (W := 0) rfl (by decide) (by decide) (by decide) (by decide) all0 rfl ?_
  intro T1 h1 v1 X1 K1 hQ1
  obtain ⟨r1, kb1, rfl, ge_r1, f2⟩ := hQ1
  show OGo _ _ _ _ T1 (mkF m 4 #[.val (.ref b), .val (.int 0), .val (.int 1), .unset, .unset] [(.ref r1)])
  refine og_astoreN X1 5 #[.val (.ref b), .val (.int 0), .val (.int 1), .val (.ref r1), .unset] d20_4 rfl rfl rfl ?_
  refine og_iconst X1 6 (0 : Int32) d20_5 rfl rfl ?_
  refine og_istore X1 8 #[.val (.ref b), .val (.int 0), .val (.int 1), .val (.ref r1), .val (.int 0)] d20_6 rfl rfl ?_
  refine og_iload X1 10 d20_8 rfl rfl ?_
  refine og_iloadN X1 11 d20_10 rfl rfl ?_
  refine og_icmpN X1 14 d20_11 (XT.ii_ge_f (by decide)) rfl ?_
  refine og_aloadN X1 15 d20_14 rfl rfl rfl ?_
  refine og_iload X1 17 d20_15 rfl rfl ?_
  refine og_aloadN X1 18 d20_17 rfl rfl rfl ?_
  refine og_iloadN X1 19 d20_18 rfl rfl ?_
  have f3 := q0.keep K1 nin0
  refine own_ldC X1 20 d20_19 f3 (by decide) (by decide) rfl rfl ?_
  have X4 := own_svB X1 f2 (own_tx2 hw) (Nat.le_trans (own_n0 X0) ge_r1) ge_r1
  refine own_stat X4 23 (argsL := [(.ref r1), (.int 0), (.int x0)]) (rest := []) d20_20 (ru_put1_0 l Z a0 hw n0 h1 hWd [] X4.old r1 kb1 x0 (.int 0) (.int 0) (.int 0) f2 (own_svb X4 (om 0 rfl))) (ow hw 100 rfl) (ow hw 101 rfl) (ow hw 59 rfl) (ow hw 102 rfl) (by decide) (lenOf pd__28_5bBII_29V rfl) rfl rfl rfl (W := 0) rfl (by decide) (by decide) (by decide) (by decide) (allS (om 0 rfl) all0) rfl ?_
  intro T5 h5 v5 X5 K5 hQ5
  obtain ⟨rfl, f6⟩ := hQ5
  show OGo _ _ _ _ T5 (mkF m 23 #[.val (.ref b), .val (.int 0), .val (.int 1), .val (.ref r1), .val (.int 0)] [])
  refine og_iinc X5 26 #[.val (.ref b), .val (.int 1), .val (.int 1), .val (.ref r1), .val (.int 0)] d20_23 rfl rfl rfl ?_
  refine og_iinc X5 29 #[.val (.ref b), .val (.int 1), .val (.int 1), .val (.ref r1), .val (.int 1)] d20_26 rfl rfl rfl ?_
  refine og_goto X5 8 d20_29 (by decide) (by decide) ?_
  refine og_iload X5 10 d20_8 rfl rfl ?_
  refine og_iloadN X5 11 d20_10 rfl rfl ?_
  refine og_icmpY X5 32 d20_11 (XT.ii_ge_t (by decide)) (by decide) (by decide) ?_
  refine og_aloadN X5 33 d20_32 rfl rfl rfl ?_
  refine own_retA X5 d20_33 hret rfl rfl (by decide) (by decide) ?_
  exact ⟨r1, kb1, rfl, ge_r1, f6⟩
theorem ru_cmi1_0 (l : Launch) (Z : State) (a0 : Array Value) (hw : ∀ d ∈ tables_1, d.before a0 Z = true) (n0 : Nat) (h0 : Heap) (hWd : OWorld Z a0) (wc : List Jvm.Cond) (O0 : Old Z n0 h0) (b : Addr) (kb : ClassId) (dv : Value) (d : Addr) (kd : ClassId) (x0 : Int32) (q0 : Arv Z h0 b kb .char (1 : Int32) [(.int x0)] dv) (q1 : Arv Z h0 d kd .byte (1 : Int32) [(.int 0)] (.int 0)) (q2 : (255 : Int32) < x0) (q3 : b ≠ d) (g0 : n0 ≤ d ∧ d < h0.size) :
    OMet l Z own_EL n0 (⟨"java/lang/StringUTF16", "compress", "([CI[BII)I"⟩ : MethodName) (Jvm.Cond.code (⟨"java/lang/StringUTF16", "compress", "([CI[BII)I"⟩ : MethodName) jdk_52_method_21_code 7 (some .int) :: wc) ({ frames := 0, cells := 0, slots := 0, locals := 0 } : Room) #[(.ref b), (.int 0), (.ref d), (.int 0), (.int 1)] h0 [d] (fun vq hq => vq = some (.int 0)) := by
  refine own_enter #[.val (.ref b), .val (.int 0), .val (.ref d), .val (.int 0), .val (.int 1), .unset, .unset] pn_java_lang_StringUTF16_compress___CI_BII_I (ef_ru_cmi1_0 b kb dv d kd x0) hWd.1 O0 (allS g0 all0) ?_
  intro p e s m below meth c T0 X0 hnm hret
  refine og_iconst X0 1 (0 : Int32) d12_0 rfl rfl ?_
  refine og_istore X0 3 #[.val (.ref b), .val (.int 0), .val (.ref d), .val (.int 0), .val (.int 1), .val (.int 0), .unset] d12_1 rfl rfl ?_
  refine og_iload X0 5 d12_3 rfl rfl ?_
  refine og_iload X0 7 d12_5 rfl rfl ?_
  refine og_icmpN X0 10 d12_7 (XT.ii_ge_f (by decide)) rfl ?_
  refine og_aloadN X0 11 d12_10 rfl rfl rfl ?_
  refine og_iloadN X0 12 d12_11 rfl rfl ?_
  refine own_ldC X0 13 d12_12 q0 (by decide) (by decide) rfl rfl ?_
  refine og_istore X0 15 #[.val (.ref b), .val (.int 0), .val (.ref d), .val (.int 0), .val (.int 1), .val (.int 0), .val (.int x0)] d12_13 rfl rfl ?_
  refine og_iload X0 17 d12_15 rfl rfl ?_
  refine og_sipush X0 20 (255 : Int32) d12_17 rfl rfl ?_
  refine og_icmpN X0 23 d12_20 (XT.ii_le_f q2) rfl ?_
  refine og_iload X0 25 d12_23 rfl rfl ?_
  refine own_retI X0 d12_25 hret (by decide) (by decide) ?_
  exact rfl
theorem ru_cmp1_0 (l : Launch) (Z : State) (a0 : Array Value) (hw : ∀ d ∈ tables_1, d.before a0 Z = true) (n0 : Nat) (h0 : Heap) (hWd : OWorld Z a0) (wc : List Jvm.Cond) (O0 : Old Z n0 h0) (b : Addr) (kb : ClassId) (dv : Value) (x0 : Int32) (q0 : Arv Z h0 b kb .char (1 : Int32) [(.int x0)] dv) (q1 : (255 : Int32) < x0) (q2 : ¬ x0 < 0) (q3 : ¬ (65535 : Int32) < x0) :
    OMet l Z own_EL n0 (⟨"java/lang/StringUTF16", "compress", "([CII)[B"⟩ : MethodName) (Jvm.Cond.code (⟨"java/lang/StringUTF16", "compress", "([CII)[B"⟩ : MethodName) jdk_52_method_16_code 6 (some (.array .byte)) :: wc) ({ frames := 3, cells := 2, slots := 3, locals := 40 } : Room) #[(.ref b), (.int 0), (.int 1)] h0 [] (fun vq hq => ∃ (r : Addr) (kr : ClassId), vq = some (.ref r) ∧ h0.size ≤ r ∧ Arv Z hq r kr .byte (2 : Int32) [(.int (StrChars.lo8 x0)), (.int (StrChars.hi8 x0))] (.int 0)) := by
  refine own_enter #[.val (.ref b), .val (.int 0), .val (.int 1), .unset, .unset, .unset] pn_java_lang_StringUTF16_compress___CII__B (ef_ru_cmp1_0 b kb dv x0) hWd.1 O0 all0 ?_
  intro p e s m below meth c T0 X0 hnm hret
  refine og_iloadN X0 1 d11_0 rfl rfl ?_
  refine own_arr X0 3 d11_1 (ow hw 16 rfl) (by decide) (cap := 1) (by decide) (by decide) (by decide) (by decide) rfl ?_
  intro T1 h1 b1 kb1 X1 K1 G1 U1 A1
  have f2 : Arv Z h1 b1 kb1 .byte (1 : Int32) [(.int 0)] (.int 0) := A1
  refine og_astoreN X1 4 #[.val (.ref b), .val (.int 0), .val (.int 1), .val (.ref b1), .unset, .unset] d11_3 rfl rfl rfl ?_
  refine og_aloadN X1 5 d11_4 rfl rfl rfl ?_
  refine og_iloadN X1 6 d11_5 rfl rfl ?_
  refine og_aloadN X1 7 d11_6 rfl rfl rfl ?_
  refine og_iconst X1 8 (0 : Int32) d11_7 rfl rfl ?_
  refine og_iloadN X1 9 d11_8 rfl rfl ?_
  have f3 := q0.keep K1 nin0
  refine own_stat X1 12 (argsL := [(.ref b), (.int 0), (.ref b1), (.int 0), (.int 1)]) (rest := []) d11_9 (ru_cmi1_0 l Z a0 hw n0 h1 hWd [] X1.old b kb dv b1 kb1 x0 f3 f2 q1 (Nat.ne_of_lt (Nat.lt_of_lt_of_le q0.lt G1)) (own_svb X1 (om 0 rfl))) (ow hw 61 rfl) (ow hw 62 rfl) (ow hw 59 rfl) (ow hw 63 rfl) (by decide) (lenOf pd__28_5bCI_5bBII_29I rfl) rfl rfl rfl (W := 0) rfl (by decide) (by decide) (by decide) (by decide) (allS (om 0 rfl) all0) rfl ?_
  intro T4 h4 v4 X4 K4 hQ4
  obtain rfl := hQ4
  show OGo _ _ _ _ T4 (mkF m 12 #[.val (.ref b), .val (.int 0), .val (.int 1), .val (.ref b1), .unset, .unset] [(.int 0)])
  refine og_istore X4 14 #[.val (.ref b), .val (.int 0), .val (.int 1), .val (.ref b1), .val (.int 0), .unset] d11_12 rfl rfl ?_
  refine og_iload X4 16 d11_14 rfl rfl ?_
  refine og_iloadN X4 17 d11_16 rfl rfl ?_
  refine og_icmpN X4 20 d11_17 (XT.ii_eq_f (by decide)) rfl ?_
  refine og_aloadN X4 21 d11_20 rfl rfl rfl ?_
  refine og_iloadN X4 22 d11_21 rfl rfl ?_
  refine og_iloadN X4 23 d11_22 rfl rfl ?_
  have f5 := f3.keep K4 (ninS (Nat.ne_of_lt (Nat.lt_of_lt_of_le q0.lt G1)) nin0)
  refine own_stat X4 26 (argsL := [(.ref b), (.int 0), (.int 1)]) (rest := []) d11_23 (ru_tob1 l Z a0 hw n0 h4 hWd [] X4.old b kb dv x0 f5 ) (ow hw 90 rfl) (ow hw 91 rfl) (ow hw 59 rfl) (ow hw 92 rfl) (by decide) (lenOf pd__28_5bCII_29_5bB rfl) rfl rfl rfl (W := 0) rfl (by decide) (by decide) (by decide) (by decide) all0 rfl ?_
  intro T6 h6 v6 X6 K6 hQ6
  obtain ⟨r6, kr6, rfl, ge_r6, f7⟩ := hQ6
  show OGo _ _ _ _ T6 (mkF m 26 #[.val (.ref b), .val (.int 0), .val (.int 1), .val (.ref b1), .val (.int 0), .unset] [(.ref r6)])
  refine og_astore X6 28 #[.val (.ref b), .val (.int 0), .val (.int 1), .val (.ref b1), .val (.int 0), .val (.ref r6)] d11_26 rfl rfl rfl ?_
  refine og_aload X6 30 d11_28 rfl rfl rfl ?_
  refine og_iload X6 32 d11_30 rfl rfl ?_
  refine own_stat X6 35 (argsL := [(.ref r6), (.int 0)]) (rest := []) d11_32 (rg_get l Z a0 hw n0 h6 hWd [] X6.old r6 kr6 [x0] 0 f7 (Nat.le_of_ble_eq_true rfl) (Nat.le_of_ble_eq_true rfl) ) (ow hw 106 rfl) (ow hw 107 rfl) (ow hw 59 rfl) (ow hw 108 rfl) (by decide) (lenOf pd__28_5bBI_29C rfl) rfl rfl rfl (W := 0) rfl (by decide) (by decide) (by decide) (by decide) all0 rfl ?_
  intro T8 h8 v8 X8 K8 hQ8
  obtain rfl := hQ8
  show OGo _ _ _ _ T8 (mkF m 35 #[.val (.ref b), .val (.int 0), .val (.int 1), .val (.ref b1), .val (.int 0), .val (.ref r6)] [(.int (StrChars.pairCh (StrChars.lo8 x0) (StrChars.hi8 x0)))])
  refine og_sipush X8 38 (255 : Int32) d11_35 rfl rfl ?_
  refine og_icmpY X8 54 d11_38 (XT.ii_gt_t (by rw [StrChars.pair_says q2 q3]; exact q1)) (by decide) (by decide) ?_
  refine og_aload X8 56 d11_54 rfl rfl rfl ?_
  have f9 := f7.keep K8 nin0
  refine own_retA X8 d11_56 hret rfl rfl (by decide) (by decide) ?_
  exact ⟨r6, kr6, rfl, (Nat.le_trans (Nat.le_trans K1.1 K4.1) ge_r6), f9⟩
theorem ru_cmi1_1 (l : Launch) (Z : State) (a0 : Array Value) (hw : ∀ d ∈ tables_1, d.before a0 Z = true) (n0 : Nat) (h0 : Heap) (hWd : OWorld Z a0) (wc : List Jvm.Cond) (O0 : Old Z n0 h0) (b : Addr) (kb : ClassId) (dv : Value) (d : Addr) (kd : ClassId) (x0 : Int32) (q0 : Arv Z h0 b kb .char (1 : Int32) [(.int x0)] dv) (q1 : Arv Z h0 d kd .byte (1 : Int32) [(.int 0)] (.int 0)) (q2 : ¬ (255 : Int32) < x0) (q3 : b ≠ d) (g0 : n0 ≤ d ∧ d < h0.size) :
    OMet l Z own_EL n0 (⟨"java/lang/StringUTF16", "compress", "([CI[BII)I"⟩ : MethodName) (Jvm.Cond.code (⟨"java/lang/StringUTF16", "compress", "([CI[BII)I"⟩ : MethodName) jdk_52_method_21_code 7 (some .int) :: wc) ({ frames := 0, cells := 0, slots := 0, locals := 0 } : Room) #[(.ref b), (.int 0), (.ref d), (.int 0), (.int 1)] h0 [d] (fun vq hq => vq = some (.int 1) ∧ Arv Z hq d kd .byte (1 : Int32) [(.int ((x0).toInt8.toInt32))] (.int 0)) := by
  refine own_enter #[.val (.ref b), .val (.int 0), .val (.ref d), .val (.int 0), .val (.int 1), .unset, .unset] pn_java_lang_StringUTF16_compress___CI_BII_I (ef_ru_cmi1_1 b kb dv d kd x0) hWd.1 O0 (allS g0 all0) ?_
  intro p e s m below meth c T0 X0 hnm hret
  refine og_iconst X0 1 (0 : Int32) d12_0 rfl rfl ?_
  refine og_istore X0 3 #[.val (.ref b), .val (.int 0), .val (.ref d), .val (.int 0), .val (.int 1), .val (.int 0), .unset] d12_1 rfl rfl ?_
  refine og_iload X0 5 d12_3 rfl rfl ?_
  refine og_iload X0 7 d12_5 rfl rfl ?_
  refine og_icmpN X0 10 d12_7 (XT.ii_ge_f (by decide)) rfl ?_
  refine og_aloadN X0 11 d12_10 rfl rfl rfl ?_
  refine og_iloadN X0 12 d12_11 rfl rfl ?_
  refine own_ldC X0 13 d12_12 q0 (by decide) (by decide) rfl rfl ?_
  refine og_istore X0 15 #[.val (.ref b), .val (.int 0), .val (.ref d), .val (.int 0), .val (.int 1), .val (.int 0), .val (.int x0)] d12_13 rfl rfl ?_
  refine og_iload X0 17 d12_15 rfl rfl ?_
  refine og_sipush X0 20 (255 : Int32) d12_17 rfl rfl ?_
  refine og_icmpY X0 26 d12_20 (XT.ii_le_t q2) (by decide) (by decide) ?_
  refine og_aloadN X0 27 d12_26 rfl rfl rfl ?_
  refine og_iloadN X0 28 d12_27 rfl rfl ?_
  refine og_iload X0 30 d12_28 rfl rfl ?_
  refine og_i2b X0 31 d12_30 rfl ?_
  refine own_stB X0 32 d12_31 q1 (own_nbb _) (by decide) (by decide) (i := 0) (by decide) (Nat.le_of_ble_eq_true rfl) (om 0 rfl) rfl ?_
  intro T1 h1 X1 W1 K1 A1
  have f2 : Arv Z h1 d kd .byte (1 : Int32) [(.int ((x0).toInt8.toInt32))] (.int 0) := A1
  refine og_iinc X1 35 #[.val (.ref b), .val (.int 1), .val (.ref d), .val (.int 0), .val (.int 1), .val (.int 0), .val (.int x0)] d12_32 rfl rfl rfl ?_
  refine og_iinc X1 38 #[.val (.ref b), .val (.int 1), .val (.ref d), .val (.int 1), .val (.int 1), .val (.int 0), .val (.int x0)] d12_35 rfl rfl rfl ?_
  refine og_iinc X1 41 #[.val (.ref b), .val (.int 1), .val (.ref d), .val (.int 1), .val (.int 1), .val (.int 1), .val (.int x0)] d12_38 rfl rfl rfl ?_
  refine og_goto X1 3 d12_41 (by decide) (by decide) ?_
  refine og_iload X1 5 d12_3 rfl rfl ?_
  refine og_iload X1 7 d12_5 rfl rfl ?_
  refine og_icmpY X1 44 d12_7 (XT.ii_ge_t (by decide)) (by decide) (by decide) ?_
  refine og_iload X1 46 d12_44 rfl rfl ?_
  refine own_retI X1 d12_46 hret (by decide) (by decide) ?_
  exact ⟨rfl, f2⟩
theorem ru_cmp1_1 (l : Launch) (Z : State) (a0 : Array Value) (hw : ∀ d ∈ tables_1, d.before a0 Z = true) (n0 : Nat) (h0 : Heap) (hWd : OWorld Z a0) (wc : List Jvm.Cond) (O0 : Old Z n0 h0) (b : Addr) (kb : ClassId) (dv : Value) (x0 : Int32) (q0 : Arv Z h0 b kb .char (1 : Int32) [(.int x0)] dv) (q1 : ¬ (255 : Int32) < x0) (q2 : ¬ x0 < 0) (q3 : ¬ (65535 : Int32) < x0) :
    OMet l Z own_EL n0 (⟨"java/lang/StringUTF16", "compress", "([CII)[B"⟩ : MethodName) (Jvm.Cond.code (⟨"java/lang/StringUTF16", "compress", "([CII)[B"⟩ : MethodName) jdk_52_method_16_code 6 (some (.array .byte)) :: wc) ({ frames := 1, cells := 1, slots := 1, locals := 18 } : Room) #[(.ref b), (.int 0), (.int 1)] h0 [] (fun vq hq => ∃ (r : Addr) (kr : ClassId), vq = some (.ref r) ∧ h0.size ≤ r ∧ Arv Z hq r kr .byte (1 : Int32) [(.int ((x0).toInt8.toInt32))] (.int 0)) := by
  refine own_enter #[.val (.ref b), .val (.int 0), .val (.int 1), .unset, .unset, .unset] pn_java_lang_StringUTF16_compress___CII__B (ef_ru_cmp1_1 b kb dv x0) hWd.1 O0 all0 ?_
  intro p e s m below meth c T0 X0 hnm hret
  refine og_iloadN X0 1 d11_0 rfl rfl ?_
  refine own_arr X0 3 d11_1 (ow hw 16 rfl) (by decide) (cap := 1) (by decide) (by decide) (by decide) (by decide) rfl ?_
  intro T1 h1 b1 kb1 X1 K1 G1 U1 A1
  have f2 : Arv Z h1 b1 kb1 .byte (1 : Int32) [(.int 0)] (.int 0) := A1
  refine og_astoreN X1 4 #[.val (.ref b), .val (.int 0), .val (.int 1), .val (.ref b1), .unset, .unset] d11_3 rfl rfl rfl ?_
  refine og_aloadN X1 5 d11_4 rfl rfl rfl ?_
  refine og_iloadN X1 6 d11_5 rfl rfl ?_
  refine og_aloadN X1 7 d11_6 rfl rfl rfl ?_
  refine og_iconst X1 8 (0 : Int32) d11_7 rfl rfl ?_
  refine og_iloadN X1 9 d11_8 rfl rfl ?_
  have f3 := q0.keep K1 nin0
  refine own_stat X1 12 (argsL := [(.ref b), (.int 0), (.ref b1), (.int 0), (.int 1)]) (rest := []) d11_9 (ru_cmi1_1 l Z a0 hw n0 h1 hWd [] X1.old b kb dv b1 kb1 x0 f3 f2 q1 (Nat.ne_of_lt (Nat.lt_of_lt_of_le q0.lt G1)) (own_svb X1 (om 0 rfl))) (ow hw 61 rfl) (ow hw 62 rfl) (ow hw 59 rfl) (ow hw 63 rfl) (by decide) (lenOf pd__28_5bCI_5bBII_29I rfl) rfl rfl rfl (W := 0) rfl (by decide) (by decide) (by decide) (by decide) (allS (om 0 rfl) all0) rfl ?_
  intro T4 h4 v4 X4 K4 hQ4
  obtain ⟨rfl, f5⟩ := hQ4
  show OGo _ _ _ _ T4 (mkF m 12 #[.val (.ref b), .val (.int 0), .val (.int 1), .val (.ref b1), .unset, .unset] [(.int 1)])
  refine og_istore X4 14 #[.val (.ref b), .val (.int 0), .val (.int 1), .val (.ref b1), .val (.int 1), .unset] d11_12 rfl rfl ?_
  refine og_iload X4 16 d11_14 rfl rfl ?_
  refine og_iloadN X4 17 d11_16 rfl rfl ?_
  refine og_icmpY X4 57 d11_17 (XT.ii_eq_t (by decide)) (by decide) (by decide) ?_
  refine og_aloadN X4 58 d11_57 rfl rfl rfl ?_
  refine own_retA X4 d11_58 hret rfl rfl (by decide) (by decide) ?_
  exact ⟨b1, kb1, rfl, G1, f5⟩
theorem ru_cod1_1 (l : Launch) (Z : State) (a0 : Array Value) (hw : ∀ d ∈ tables_1, d.before a0 Z = true) (n0 : Nat) (h0 : Heap) (hWd : OWorld Z a0) (wc : List Jvm.Cond) (O0 : Old Z n0 h0) (b : Addr) (kb : ClassId) (vs : List Value) (dv : Value) (q0 : Arv Z h0 b kb .byte (1 : Int32) vs dv) :
    OMet l Z own_EL n0 (⟨"java/lang/StringUTF16", "coderFromArrayLen", "([BI)B"⟩ : MethodName) (Jvm.Cond.code (⟨"java/lang/StringUTF16", "coderFromArrayLen", "([BI)B"⟩ : MethodName) jdk_52_method_15_code 2 (some .byte) :: wc) ({ frames := 0, cells := 0, slots := 0, locals := 0 } : Room) #[(.ref b), (.int 1)] h0 [] (fun vq hq => vq = some (.int 0)) := by
  refine own_enter #[.val (.ref b), .val (.int 1)] pn_java_lang_StringUTF16_coderFromArrayLen___BI_B (ef_ru_cod1_1 b kb vs dv) hWd.1 O0 all0 ?_
  intro p e s m below meth c T0 X0 hnm hret
  refine og_iloadN X0 1 d13_0 rfl rfl ?_
  refine og_aloadN X0 2 d13_1 rfl rfl rfl ?_
  refine own_len X0 3 d13_2 q0 rfl ?_
  refine og_isub X0 4 d13_3 rfl ?_
  show OGo _ _ _ _ T0 (mkF m 4 #[.val (.ref b), .val (.int 1)] [(.int 0)])
  refine og_bipush X0 6 (31 : Int32) d13_4 rfl rfl ?_
  refine og_iushr X0 7 d13_6 rfl ?_
  show OGo _ _ _ _ T0 (mkF m 7 #[.val (.ref b), .val (.int 1)] [(.int 0)])
  refine og_i2b X0 8 d13_7 rfl ?_
  show OGo _ _ _ _ T0 (mkF m 8 #[.val (.ref b), .val (.int 1)] [(.int 0)])
  refine own_retY X0 d13_8 hret rfl (by decide) (by decide) ?_
  exact rfl
theorem ru_cod1_2 (l : Launch) (Z : State) (a0 : Array Value) (hw : ∀ d ∈ tables_1, d.before a0 Z = true) (n0 : Nat) (h0 : Heap) (hWd : OWorld Z a0) (wc : List Jvm.Cond) (O0 : Old Z n0 h0) (b : Addr) (kb : ClassId) (vs : List Value) (dv : Value) (q0 : Arv Z h0 b kb .byte (2 : Int32) vs dv) :
    OMet l Z own_EL n0 (⟨"java/lang/StringUTF16", "coderFromArrayLen", "([BI)B"⟩ : MethodName) (Jvm.Cond.code (⟨"java/lang/StringUTF16", "coderFromArrayLen", "([BI)B"⟩ : MethodName) jdk_52_method_15_code 2 (some .byte) :: wc) ({ frames := 0, cells := 0, slots := 0, locals := 0 } : Room) #[(.ref b), (.int 1)] h0 [] (fun vq hq => vq = some (.int 1)) := by
  refine own_enter #[.val (.ref b), .val (.int 1)] pn_java_lang_StringUTF16_coderFromArrayLen___BI_B (ef_ru_cod1_2 b kb vs dv) hWd.1 O0 all0 ?_
  intro p e s m below meth c T0 X0 hnm hret
  refine og_iloadN X0 1 d13_0 rfl rfl ?_
  refine og_aloadN X0 2 d13_1 rfl rfl rfl ?_
  refine own_len X0 3 d13_2 q0 rfl ?_
  refine og_isub X0 4 d13_3 rfl ?_
  show OGo _ _ _ _ T0 (mkF m 4 #[.val (.ref b), .val (.int 1)] [(.int (-1 : Int32))])
  refine og_bipush X0 6 (31 : Int32) d13_4 rfl rfl ?_
  refine og_iushr X0 7 d13_6 rfl ?_
  show OGo _ _ _ _ T0 (mkF m 7 #[.val (.ref b), .val (.int 1)] [(.int 1)])
  refine og_i2b X0 8 d13_7 rfl ?_
  show OGo _ _ _ _ T0 (mkF m 8 #[.val (.ref b), .val (.int 1)] [(.int 1)])
  refine own_retY X0 d13_8 hret rfl (by decide) (by decide) ?_
  exact rfl
theorem ru_inv1 (l : Launch) (Z : State) (a0 : Array Value) (hw : ∀ d ∈ tables_1, d.before a0 Z = true) (n0 : Nat) (h0 : Heap) (hWd : OWorld Z a0) (wc : List Jvm.Cond) (O0 : Old Z n0 h0) (a : Addr) (b : Addr) (y : Value) (z : Int32) (kb : ClassId) (dv : Value) (x0 : Int32) (q0 : Exa Z h0 a "java/lang/String") (q1 : Fld Z h0 a "java/lang/String" "value" "[B" y) (q2 : Fld Z h0 a "java/lang/String" "coder" "B" (.int z)) (q3 : Arv Z h0 b kb .char (1 : Int32) [(.int x0)] dv) (q4 : ¬ x0 < 0) (q5 : ¬ (65535 : Int32) < x0) (g0 : n0 ≤ a ∧ a < h0.size) :
    OMet l Z own_EL n0 (⟨"java/lang/String", "<init>", "([CIILjava/lang/Void;)V"⟩ : MethodName) (Jvm.Cond.code (⟨"java/lang/String", "<init>", "([CIILjava/lang/Void;)V"⟩ : MethodName) jdk_42_method_149_code 6 none :: wc) ({ frames := 4, cells := 2, slots := 3, locals := 57 } : Room) #[(.ref a), (.ref b), (.int 0), (.int 1), .null] h0 [a] (fun vq hq => vq = none ∧ OStr Z hq a [x0] hq.size) := by
  refine own_enter #[.val (.ref a), .val (.ref b), .val (.int 0), .val (.int 1), .val .null, .unset] pn_java_lang_String__init____CIILjava_lang_Void__V (ef_ru_inv1 a b y z kb dv x0) hWd.1 O0 (allS g0 all0) ?_
  intro p e s m below meth c T0 X0 hnm hret
  refine og_aloadN X0 1 d2_0 rfl rfl rfl ?_
  refine own_obj0 X0 4 (a := a) d2_1 (ow hw 12 rfl) (ow hw 13 rfl) (ow hw 14 rfl) rfl (W := 0) rfl (by decide) (by decide) rfl ?_
  intro T1 X2
  refine og_iloadN X2 5 d2_4 rfl rfl ?_
  refine og_ifY X2 27 d2_5 (XT.i0_ne_t (by decide)) (by decide) (by decide) ?_
  refine own_getS X2 30 d2_27 (host := "") (Or.inl (ow hw 37 rfl)) Via.refl hWd.2.1.1 rfl ?_
  intro T3 X4
  refine og_ifN X4 33 d2_30 (XT.i0_eq_f hWd.2.1.2) rfl ?_
  refine og_aloadN X4 34 d2_33 rfl rfl rfl ?_
  refine og_iloadN X4 35 d2_34 rfl rfl ?_
  refine og_iloadN X4 36 d2_35 rfl rfl ?_
  by_cases hc5 : (255 : Int32) < x0
  · -- (255 : Int32) < x0
    refine own_stat X4 39 (argsL := [(.ref b), (.int 0), (.int 1)]) (rest := []) d2_36 (ru_cmp1_0 l Z a0 hw n0 h0 hWd [] X4.old b kb dv x0 q3 hc5 q4 q5 ) (ow hw 57 rfl) (ow hw 58 rfl) (ow hw 59 rfl) (ow hw 60 rfl) (by decide) (lenOf pd__28_5bCII_29_5bB rfl) rfl rfl rfl (W := 0) rfl (by decide) (by decide) (by decide) (by decide) all0 rfl ?_
    intro T6 h6 v6 X6 K6 hQ6
    obtain ⟨r6, kr6, rfl, ge_r6, f7⟩ := hQ6
    show OGo _ _ _ _ T6 (mkF m 39 #[.val (.ref a), .val (.ref b), .val (.int 0), .val (.int 1), .val .null, .unset] [(.ref r6)])
    refine og_astore X6 41 #[.val (.ref a), .val (.ref b), .val (.int 0), .val (.int 1), .val .null, .val (.ref r6)] d2_39 rfl rfl rfl ?_
    refine og_aloadN X6 42 d2_41 rfl rfl rfl ?_
    refine og_aload X6 44 d2_42 rfl rfl rfl ?_
    refine og_iloadN X6 45 d2_44 rfl rfl ?_
    refine own_stat X6 48 (argsL := [(.ref r6), (.int 1)]) (rest := [(.ref a)]) d2_45 (ru_cod1_2 l Z a0 hw n0 h6 hWd [] X6.old r6 kr6 [(.int (StrChars.lo8 x0)), (.int (StrChars.hi8 x0))] (.int 0) f7 ) (ow hw 64 rfl) (ow hw 65 rfl) (ow hw 59 rfl) (ow hw 66 rfl) (by decide) (lenOf pd__28_5bBI_29B rfl) rfl rfl rfl (W := 1) rfl (by decide) (by decide) (by decide) (by decide) all0 rfl ?_
    intro T8 h8 v8 X8 K8 hQ8
    obtain rfl := hQ8
    show OGo _ _ _ _ T8 (mkF m 48 #[.val (.ref a), .val (.ref b), .val (.int 0), .val (.int 1), .val .null, .val (.ref r6)] [(.int 1), (.ref a)])
    have f9 := q2.keep K6 nin0
    have f10 := f9.keep K8 nin0
    have f11 := q0.keep K6
    have f12 := f11.keep K8
    have f13 := q1.keep K6 nin0
    have f14 := f13.keep K8 nin0
    refine own_put X8 51 d2_48 (host := "") (Or.inl (ow hw 22 rfl)) Via.refl f10 f12 (Or.inr ⟨(ow hw 18 rfl), rfl, hnm⟩) (ow hw 3 rfl) (ty := .byte) (by decide) rfl rfl (om 0 rfl) rfl ?_
    intro T15 h15 X15 W15 K15 F15
    have f16 := Fld.other W15 f14 (Or.inr (slot_ne (Or.inr (ow hw 17 rfl)) (Or.inr (ow hw 18 rfl)) (by decide) (t := (.array .byte)) (t' := .byte) (by decide) (by decide)))
    refine og_aloadN X15 52 d2_51 rfl rfl rfl ?_
    refine og_aload X15 54 d2_52 rfl rfl rfl ?_
    have f17 := f12.keep K15
    refine own_put X15 57 d2_54 (host := "") (Or.inl (ow hw 21 rfl)) Via.refl f16 f17 (Or.inr ⟨(ow hw 17 rfl), rfl, hnm⟩) (ow hw 3 rfl) (ty := (.array .byte)) (by decide) rfl rfl (om 0 rfl) rfl ?_
    intro T18 h18 X18 W18 K18 F18
    have f19 := Fld.other W18 F15 (Or.inr (slot_ne (Or.inr (ow hw 18 rfl)) (Or.inr (ow hw 17 rfl)) (by decide) (t := .byte) (t' := (.array .byte)) (by decide) (by decide)))
    have f20 := f17.keep K18
    have f21 := f7.keep K8 nin0
    have f22 := f21.keep K15 (ninS (Nat.ne_of_gt (Nat.lt_of_lt_of_le q0.lt ge_r6)) nin0)
    have f23 := f22.keep K18 (ninS (Nat.ne_of_gt (Nat.lt_of_lt_of_le q0.lt ge_r6)) nin0)
    refine own_retV X18 d2_57 hret (by decide) (by decide) ?_
    exact ⟨rfl, own_mkStrW (cs := [x0]) (n := 1) f20 f19 F18 f23 ⟨x0, List.mem_of_getElem? (i := 0) rfl, hc5⟩ (own_l16 ⟨q4, q5⟩ (fun _ q => nomatch q)) rfl rfl (Nat.le_of_ble_eq_true rfl)⟩
  · -- not
    refine own_stat X4 39 (argsL := [(.ref b), (.int 0), (.int 1)]) (rest := []) d2_36 (ru_cmp1_1 l Z a0 hw n0 h0 hWd [] X4.old b kb dv x0 q3 hc5 q4 q5 ) (ow hw 57 rfl) (ow hw 58 rfl) (ow hw 59 rfl) (ow hw 60 rfl) (by decide) (lenOf pd__28_5bCII_29_5bB rfl) rfl rfl rfl (W := 0) rfl (by decide) (by decide) (by decide) (by decide) all0 rfl ?_
    intro T24 h24 v24 X24 K24 hQ24
    obtain ⟨r24, kr24, rfl, ge_r24, f25⟩ := hQ24
    show OGo _ _ _ _ T24 (mkF m 39 #[.val (.ref a), .val (.ref b), .val (.int 0), .val (.int 1), .val .null, .unset] [(.ref r24)])
    refine og_astore X24 41 #[.val (.ref a), .val (.ref b), .val (.int 0), .val (.int 1), .val .null, .val (.ref r24)] d2_39 rfl rfl rfl ?_
    refine og_aloadN X24 42 d2_41 rfl rfl rfl ?_
    refine og_aload X24 44 d2_42 rfl rfl rfl ?_
    refine og_iloadN X24 45 d2_44 rfl rfl ?_
    refine own_stat X24 48 (argsL := [(.ref r24), (.int 1)]) (rest := [(.ref a)]) d2_45 (ru_cod1_1 l Z a0 hw n0 h24 hWd [] X24.old r24 kr24 [(.int ((x0).toInt8.toInt32))] (.int 0) f25 ) (ow hw 64 rfl) (ow hw 65 rfl) (ow hw 59 rfl) (ow hw 66 rfl) (by decide) (lenOf pd__28_5bBI_29B rfl) rfl rfl rfl (W := 1) rfl (by decide) (by decide) (by decide) (by decide) all0 rfl ?_
    intro T26 h26 v26 X26 K26 hQ26
    obtain rfl := hQ26
    show OGo _ _ _ _ T26 (mkF m 48 #[.val (.ref a), .val (.ref b), .val (.int 0), .val (.int 1), .val .null, .val (.ref r24)] [(.int 0), (.ref a)])
    have f27 := q2.keep K24 nin0
    have f28 := f27.keep K26 nin0
    have f29 := q0.keep K24
    have f30 := f29.keep K26
    have f31 := q1.keep K24 nin0
    have f32 := f31.keep K26 nin0
    refine own_put X26 51 d2_48 (host := "") (Or.inl (ow hw 22 rfl)) Via.refl f28 f30 (Or.inr ⟨(ow hw 18 rfl), rfl, hnm⟩) (ow hw 3 rfl) (ty := .byte) (by decide) rfl rfl (om 0 rfl) rfl ?_
    intro T33 h33 X33 W33 K33 F33
    have f34 := Fld.other W33 f32 (Or.inr (slot_ne (Or.inr (ow hw 17 rfl)) (Or.inr (ow hw 18 rfl)) (by decide) (t := (.array .byte)) (t' := .byte) (by decide) (by decide)))
    refine og_aloadN X33 52 d2_51 rfl rfl rfl ?_
    refine og_aload X33 54 d2_52 rfl rfl rfl ?_
    have f35 := f30.keep K33
    refine own_put X33 57 d2_54 (host := "") (Or.inl (ow hw 21 rfl)) Via.refl f34 f35 (Or.inr ⟨(ow hw 17 rfl), rfl, hnm⟩) (ow hw 3 rfl) (ty := (.array .byte)) (by decide) rfl rfl (om 0 rfl) rfl ?_
    intro T36 h36 X36 W36 K36 F36
    have f37 := Fld.other W36 F33 (Or.inr (slot_ne (Or.inr (ow hw 18 rfl)) (Or.inr (ow hw 17 rfl)) (by decide) (t := .byte) (t' := (.array .byte)) (by decide) (by decide)))
    have f38 := f35.keep K36
    have f39 := f25.keep K26 nin0
    have f40 := f39.keep K33 (ninS (Nat.ne_of_gt (Nat.lt_of_lt_of_le q0.lt ge_r24)) nin0)
    have f41 := f40.keep K36 (ninS (Nat.ne_of_gt (Nat.lt_of_lt_of_le q0.lt ge_r24)) nin0)
    refine own_retV X36 d2_57 hret (by decide) (by decide) ?_
    exact ⟨rfl, own_mkStr (cs := [x0]) (bs := [x0.toInt8.toInt32]) (n := 1) f38 f37 F36 f41 rfl (own_lS ⟨q4, hc5⟩ own_l0) rfl rfl (Nat.le_of_ble_eq_true rfl)⟩
theorem ru_ini1 (l : Launch) (Z : State) (a0 : Array Value) (hw : ∀ d ∈ tables_1, d.before a0 Z = true) (n0 : Nat) (h0 : Heap) (hWd : OWorld Z a0) (wc : List Jvm.Cond) (O0 : Old Z n0 h0) (a : Addr) (b : Addr) (y : Value) (z : Int32) (kb : ClassId) (dv : Value) (x0 : Int32) (q0 : Exa Z h0 a "java/lang/String") (q1 : Fld Z h0 a "java/lang/String" "value" "[B" y) (q2 : Fld Z h0 a "java/lang/String" "coder" "B" (.int z)) (q3 : Arv Z h0 b kb .char (1 : Int32) [(.int x0)] dv) (q4 : ¬ x0 < 0) (q5 : ¬ (65535 : Int32) < x0) (g0 : n0 ≤ a ∧ a < h0.size) :
    OMet l Z own_EL n0 (⟨"java/lang/String", "<init>", "([C)V"⟩ : MethodName) (Jvm.Cond.code (⟨"java/lang/String", "<init>", "([C)V"⟩ : MethodName) jdk_42_method_3_code 2 none :: wc) ({ frames := 5, cells := 2, slots := 3, locals := 74 } : Room) #[(.ref a), (.ref b)] h0 [a] (fun vq hq => vq = none ∧ OStr Z hq a [x0] hq.size) := by
  refine own_enter #[.val (.ref a), .val (.ref b)] pn_java_lang_String__init____C_V (ef_ru_ini1 a b y z kb dv x0) hWd.1 O0 (allS g0 all0) ?_
  intro p e s m below meth c T0 X0 hnm hret
  refine og_aloadN X0 1 d1_0 rfl rfl rfl ?_
  refine og_aloadN X0 2 d1_1 rfl rfl rfl ?_
  refine og_iconst X0 3 (0 : Int32) d1_2 rfl rfl ?_
  refine og_aloadN X0 4 d1_3 rfl rfl rfl ?_
  refine own_len X0 5 d1_4 q3 rfl ?_
  refine og_aconstNull X0 6 d1_5 rfl ?_
  refine own_spec X0 9 (a := a) (argsL := [(.ref b), (.int 0), (.int 1), .null]) (rest := []) d1_6 rfl (ru_inv1 l Z a0 hw n0 h0 hWd [] X0.old a b y z kb dv x0 q0 q1 q2 q3 q4 q5 (own_svb X0 (om 0 rfl))) (ow hw 8 rfl) (ow hw 9 rfl) (ow hw 4 rfl) (ow hw 11 rfl) (by decide) (lenOf pd__28_5bCIILjava_2flang_2fVoid_3b_29V rfl) rfl rfl rfl (W := 0) rfl (by decide) (by decide) (by decide) (by decide) (allS (om 0 rfl) all0) rfl ?_
  intro T1 h1 v1 X1 K1 hQ1
  obtain ⟨rfl, f2⟩ := hQ1
  show OGo _ _ _ _ T1 (mkF m 9 #[.val (.ref a), .val (.ref b)] [])
  refine own_retV X1 d1_9 hret (by decide) (by decide) ?_
  exact ⟨rfl, f2.top⟩
theorem ru_nbl2 (l : Launch) (Z : State) (a0 : Array Value) (hw : ∀ d ∈ tables_1, d.before a0 Z = true) (n0 : Nat) (h0 : Heap) (hWd : OWorld Z a0) (wc : List Jvm.Cond) (O0 : Old Z n0 h0)   :
    OMet l Z own_EL n0 (⟨"java/lang/StringUTF16", "newBytesLength", "(I)I"⟩ : MethodName) (Jvm.Cond.code (⟨"java/lang/StringUTF16", "newBytesLength", "(I)I"⟩ : MethodName) jdk_52_method_3_code 1 (some .int) :: wc) ({ frames := 0, cells := 0, slots := 0, locals := 0 } : Room) #[(.int 2)] h0 [] (fun vq hq => vq = some (.int 4)) := by
  refine own_enter #[.val (.int 2)] pn_java_lang_StringUTF16_newBytesLength__I_I (ef_ru_nbl2) hWd.1 O0 all0 ?_
  intro p e s m below meth c T0 X0 hnm hret
  refine og_iloadN X0 1 d22_0 rfl rfl ?_
  refine og_ifY X0 12 d22_1 (XT.i0_ge_t (by decide)) (by decide) (by decide) ?_
  refine og_iloadN X0 13 d22_12 rfl rfl ?_
  refine own_ldcI X0 15 (v := (1073741823 : Int32)) d22_13 (ow hw 99 rfl) rfl ?_
  refine og_icmpY X0 55 d22_15 (XT.ii_lt_t (by decide)) (by decide) (by decide) ?_
  refine og_iloadN X0 56 d22_55 rfl rfl ?_
  refine og_iconst X0 57 (1 : Int32) d22_56 rfl rfl ?_
  refine og_ishl X0 58 d22_57 rfl ?_
  show OGo _ _ _ _ T0 (mkF m 58 #[.val (.int 2)] [(.int 4)])
  refine own_retI X0 d22_58 hret (by decide) (by decide) ?_
  exact rfl
theorem ru_nbf2 (l : Launch) (Z : State) (a0 : Array Value) (hw : ∀ d ∈ tables_1, d.before a0 Z = true) (n0 : Nat) (h0 : Heap) (hWd : OWorld Z a0) (wc : List Jvm.Cond) (O0 : Old Z n0 h0)   :
    OMet l Z own_EL n0 (⟨"java/lang/StringUTF16", "newBytesFor", "(I)[B"⟩ : MethodName) (Jvm.Cond.code (⟨"java/lang/StringUTF16", "newBytesFor", "(I)[B"⟩ : MethodName) jdk_52_method_2_code 1 (some (.array .byte)) :: wc) ({ frames := 1, cells := 1, slots := 4, locals := 12 } : Room) #[(.int 2)] h0 [] (fun vq hq => ∃ (r : Addr) (kb : ClassId), vq = some (.ref r) ∧ h0.size ≤ r ∧ Arv Z hq r kb .byte (4 : Int32) [(.int 0), (.int 0), (.int 0), (.int 0)] (.int 0)) := by
  refine own_enter #[.val (.int 2)] pn_java_lang_StringUTF16_newBytesFor__I__B (ef_ru_nbf2) hWd.1 O0 all0 ?_
  intro p e s m below meth c T0 X0 hnm hret
  refine og_iloadN X0 1 d21_0 rfl rfl ?_
  refine own_stat X0 4 (argsL := [(.int 2)]) (rest := []) d21_1 (ru_nbl2 l Z a0 hw n0 h0 hWd [] X0.old   ) (ow hw 96 rfl) (ow hw 97 rfl) (ow hw 59 rfl) (ow hw 98 rfl) (by decide) (lenOf pd__28I_29I rfl) rfl rfl rfl (W := 0) rfl (by decide) (by decide) (by decide) (by decide) all0 rfl ?_
  intro T1 h1 v1 X1 K1 hQ1
  obtain rfl := hQ1
  show OGo _ _ _ _ T1 (mkF m 4 #[.val (.int 2)] [(.int 4)])
  refine own_arr X1 6 d21_4 (ow hw 16 rfl) (by decide) (cap := 4) (by decide) (by decide) (by decide) (by decide) rfl ?_
  intro T2 h2 b2 kb2 X2 K2 G2 U2 A2
  have f3 : Arv Z h2 b2 kb2 .byte (4 : Int32) [(.int 0), (.int 0), (.int 0), (.int 0)] (.int 0) := A2
  refine own_retA X2 d21_6 hret rfl rfl (by decide) (by decide) ?_
  exact ⟨b2, kb2, rfl, (Nat.le_trans K1.1 G2), f3⟩
theorem ru_put2_0 (l : Launch) (Z : State) (a0 : Array Value) (hw : ∀ d ∈ tables_1, d.before a0 Z = true) (n0 : Nat) (h0 : Heap) (hWd : OWorld Z a0) (wc : List Jvm.Cond) (O0 : Old Z n0 h0) (b : Addr) (kb : ClassId) (x : Int32) (dv : Value) (e0 : Value) (e1 : Value) (e2 : Value) (e3 : Value) (q0 : Arv Z h0 b kb .byte (4 : Int32) [e0, e1, e2, e3] dv) (g0 : n0 ≤ b ∧ b < h0.size) :
    OMet l Z own_EL n0 (⟨"java/lang/StringUTF16", "putChar", "([BII)V"⟩ : MethodName) (Jvm.Cond.code (⟨"java/lang/StringUTF16", "putChar", "([BII)V"⟩ : MethodName) jdk_52_method_4_code 3 none :: wc) ({ frames := 0, cells := 0, slots := 0, locals := 0 } : Room) #[(.ref b), (.int 0), (.int x)] h0 [b] (fun vq hq => vq = none ∧ Arv Z hq b kb .byte (4 : Int32) [(.int (StrChars.lo8 x)), (.int (StrChars.hi8 x)), e2, e3] dv) := by
  refine own_enter #[.val (.ref b), .val (.int 0), .val (.int x)] pn_java_lang_StringUTF16_putChar___BII_V (ef_ru_put2_0 b kb x dv e0 e1 e2 e3) hWd.1 O0 (allS g0 all0) ?_
  intro p e s m below meth c T0 X0 hnm hret
  refine own_getS X0 3 d23_0 (host := "") (Or.inl (ow hw 103 rfl)) Via.refl hWd.2.2.2.1 rfl ?_
  intro T1 X2
  refine og_ifY X2 28 d23_3 (XT.i0_ne_t (by decide)) (by decide) (by decide) ?_
  refine og_iloadN X2 29 d23_28 rfl rfl ?_
  refine og_iconst X2 30 (1 : Int32) d23_29 rfl rfl ?_
  refine og_ishl X2 31 d23_30 rfl ?_
  show OGo _ _ _ _ T1 (mkF m 31 #[.val (.ref b), .val (.int 0), .val (.int x)] [(.int 0)])
  refine og_istoreN X2 32 #[.val (.ref b), .val (.int 0), .val (.int x)] d23_31 rfl rfl ?_
  refine og_aloadN X2 33 d23_32 rfl rfl rfl ?_
  refine og_iloadN X2 34 d23_33 rfl rfl ?_
  refine og_iinc X2 37 #[.val (.ref b), .val (.int 1), .val (.int x)] d23_34 rfl rfl rfl ?_
  refine og_iloadN X2 38 d23_37 rfl rfl ?_
  refine own_getS X2 41 d23_38 (host := "") (Or.inl (ow hw 104 rfl)) Via.refl hWd.2.2.2.2.1 rfl ?_
  intro T3 X4
  refine og_ishr X4 42 d23_41 rfl ?_
  refine og_i2b X4 43 d23_42 rfl ?_
  refine own_stB X4 44 d23_43 q0 (own_nbb _) (by decide) (by decide) (i := 0) (by decide) (Nat.le_of_ble_eq_true rfl) (om 0 rfl) rfl ?_
  intro T5 h5 X5 W5 K5 A5
  have f6 : Arv Z h5 b kb .byte (4 : Int32) [(.int (((x >>> ((0 : Int32) &&& 31))).toInt8.toInt32)), e1, e2, e3] dv := A5
  refine og_aloadN X5 45 d23_44 rfl rfl rfl ?_
  refine og_iloadN X5 46 d23_45 rfl rfl ?_
  refine og_iloadN X5 47 d23_46 rfl rfl ?_
  refine own_getS X5 50 d23_47 (host := "") (Or.inl (ow hw 105 rfl)) Via.refl hWd.2.2.2.2.2 rfl ?_
  intro T7 X8
  refine og_ishr X8 51 d23_50 rfl ?_
  refine og_i2b X8 52 d23_51 rfl ?_
  refine own_stB X8 53 d23_52 f6 (own_nbb _) (by decide) (by decide) (i := 1) (by decide) (Nat.le_of_ble_eq_true rfl) (om 0 rfl) rfl ?_
  intro T9 h9 X9 W9 K9 A9
  have f10 : Arv Z h9 b kb .byte (4 : Int32) [(.int (((x >>> ((0 : Int32) &&& 31))).toInt8.toInt32)), (.int (((x >>> ((8 : Int32) &&& 31))).toInt8.toInt32)), e2, e3] dv := A9
  refine own_retV X9 d23_53 hret (by decide) (by decide) ?_
  exact ⟨rfl, by have q := f10; rw [StrChars.shr0] at q; exact q⟩
theorem ru_put2_1 (l : Launch) (Z : State) (a0 : Array Value) (hw : ∀ d ∈ tables_1, d.before a0 Z = true) (n0 : Nat) (h0 : Heap) (hWd : OWorld Z a0) (wc : List Jvm.Cond) (O0 : Old Z n0 h0) (b : Addr) (kb : ClassId) (x : Int32) (dv : Value) (e0 : Value) (e1 : Value) (e2 : Value) (e3 : Value) (q0 : Arv Z h0 b kb .byte (4 : Int32) [e0, e1, e2, e3] dv) (g0 : n0 ≤ b ∧ b < h0.size) :
    OMet l Z own_EL n0 (⟨"java/lang/StringUTF16", "putChar", "([BII)V"⟩ : MethodName) (Jvm.Cond.code (⟨"java/lang/StringUTF16", "putChar", "([BII)V"⟩ : MethodName) jdk_52_method_4_code 3 none :: wc) ({ frames := 0, cells := 0, slots := 0, locals := 0 } : Room) #[(.ref b), (.int 1), (.int x)] h0 [b] (fun vq hq => vq = none ∧ Arv Z hq b kb .byte (4 : Int32) [e0, e1, (.int (StrChars.lo8 x)), (.int (StrChars.hi8 x))] dv) := by
  refine own_enter #[.val (.ref b), .val (.int 1), .val (.int x)] pn_java_lang_StringUTF16_putChar___BII_V (ef_ru_put2_1 b kb x dv e0 e1 e2 e3) hWd.1 O0 (allS g0 all0) ?_
  intro p e s m below meth c T0 X0 hnm hret
  refine own_getS X0 3 d23_0 (host := "") (Or.inl (ow hw 103 rfl)) Via.refl hWd.2.2.2.1 rfl ?_
  intro T1 X2
  refine og_ifY X2 28 d23_3 (XT.i0_ne_t (by decide)) (by decide) (by decide) ?_
  refine og_iloadN X2 29 d23_28 rfl rfl ?_
  refine og_iconst X2 30 (1 : Int32) d23_29 rfl rfl ?_
  refine og_ishl X2 31 d23_30 rfl ?_
  show OGo _ _ _ _ T1 (mkF m 31 #[.val (.ref b), .val (.int 1), .val (.int x)] [(.int 2)])
  refine og_istoreN X2 32 #[.val (.ref b), .val (.int 2), .val (.int x)] d23_31 rfl rfl ?_
  refine og_aloadN X2 33 d23_32 rfl rfl rfl ?_
  refine og_iloadN X2 34 d23_33 rfl rfl ?_
  refine og_iinc X2 37 #[.val (.ref b), .val (.int 3), .val (.int x)] d23_34 rfl rfl rfl ?_
  refine og_iloadN X2 38 d23_37 rfl rfl ?_
  refine own_getS X2 41 d23_38 (host := "") (Or.inl (ow hw 104 rfl)) Via.refl hWd.2.2.2.2.1 rfl ?_
  intro T3 X4
  refine og_ishr X4 42 d23_41 rfl ?_
  refine og_i2b X4 43 d23_42 rfl ?_
  refine own_stB X4 44 d23_43 q0 (own_nbb _) (by decide) (by decide) (i := 2) (by decide) (Nat.le_of_ble_eq_true rfl) (om 0 rfl) rfl ?_
  intro T5 h5 X5 W5 K5 A5
  have f6 : Arv Z h5 b kb .byte (4 : Int32) [e0, e1, (.int (((x >>> ((0 : Int32) &&& 31))).toInt8.toInt32)), e3] dv := A5
  refine og_aloadN X5 45 d23_44 rfl rfl rfl ?_
  refine og_iloadN X5 46 d23_45 rfl rfl ?_
  refine og_iloadN X5 47 d23_46 rfl rfl ?_
  refine own_getS X5 50 d23_47 (host := "") (Or.inl (ow hw 105 rfl)) Via.refl hWd.2.2.2.2.2 rfl ?_
  intro T7 X8
  refine og_ishr X8 51 d23_50 rfl ?_
  refine og_i2b X8 52 d23_51 rfl ?_
  refine own_stB X8 53 d23_52 f6 (own_nbb _) (by decide) (by decide) (i := 3) (by decide) (Nat.le_of_ble_eq_true rfl) (om 0 rfl) rfl ?_
  intro T9 h9 X9 W9 K9 A9
  have f10 : Arv Z h9 b kb .byte (4 : Int32) [e0, e1, (.int (((x >>> ((0 : Int32) &&& 31))).toInt8.toInt32)), (.int (((x >>> ((8 : Int32) &&& 31))).toInt8.toInt32))] dv := A9
  refine own_retV X9 d23_53 hret (by decide) (by decide) ?_
  exact ⟨rfl, by have q := f10; rw [StrChars.shr0] at q; exact q⟩
theorem ru_tob2 (l : Launch) (Z : State) (a0 : Array Value) (hw : ∀ d ∈ tables_1, d.before a0 Z = true) (n0 : Nat) (h0 : Heap) (hWd : OWorld Z a0) (wc : List Jvm.Cond) (O0 : Old Z n0 h0) (b : Addr) (kb : ClassId) (dv : Value) (x0 : Int32) (x1 : Int32) (q0 : Arv Z h0 b kb .char (2 : Int32) [(.int x0), (.int x1)] dv) :
    OMet l Z own_EL n0 (⟨"java/lang/StringUTF16", "toBytes", "([CII)[B"⟩ : MethodName) (Jvm.Cond.code (⟨"java/lang/StringUTF16", "toBytes", "([CII)[B"⟩ : MethodName) jdk_52_method_14_code 5 (some (.array .byte)) :: wc) ({ frames := 2, cells := 1, slots := 4, locals := 24 } : Room) #[(.ref b), (.int 0), (.int 2)] h0 [] (fun vq hq => ∃ (r : Addr) (kr : ClassId), vq = some (.ref r) ∧ h0.size ≤ r ∧ Arv Z hq r kr .byte (4 : Int32) [(.int (StrChars.lo8 x0)), (.int (StrChars.hi8 x0)), (.int (StrChars.lo8 x1)), (.int (StrChars.hi8 x1))] (.int 0)) := by
  refine own_enter #[.val (.ref b), .val (.int 0), .val (.int 2), .unset, .unset] pn_java_lang_StringUTF16_toBytes___CII__B (ef_ru_tob2 b kb dv x0 x1) hWd.1 O0 all0 ?_
  intro p e s m below meth c T0 X0 hnm hret
  refine og_iloadN X0 1 d20_0 rfl rfl ?_
  refine own_stat X0 4 (argsL := [(.int 2)]) (rest := []) d20_1 (ru_nbf2 l Z a0 hw n0 h0 hWd [] X0.old   ) (ow hw 93 rfl) (ow hw 94 rfl) (ow hw 59 rfl) (ow hw 95 rfl) (by decide) (lenOf pd__28I_29_5bB rfl) rfl rfl rfl (W := 0) rfl (by decide) (by decide) (by decide) (by decide) all0 rfl ?_
  intro T1 h1 v1 X1 K1 hQ1
  obtain ⟨r1, kb1, rfl, ge_r1, f2⟩ := hQ1
  show OGo _ _ _ _ T1 (mkF m 4 #[.val (.ref b), .val (.int 0), .val (.int 2), .unset, .unset] [(.ref r1)])
  refine og_astoreN X1 5 #[.val (.ref b), .val (.int 0), .val (.int 2), .val (.ref r1), .unset] d20_4 rfl rfl rfl ?_
  refine og_iconst X1 6 (0 : Int32) d20_5 rfl rfl ?_
  refine og_istore X1 8 #[.val (.ref b), .val (.int 0), .val (.int 2), .val (.ref r1), .val (.int 0)] d20_6 rfl rfl ?_
  refine og_iload X1 10 d20_8 rfl rfl ?_
  refine og_iloadN X1 11 d20_10 rfl rfl ?_
  refine og_icmpN X1 14 d20_11 (XT.ii_ge_f (by decide)) rfl ?_
  refine og_aloadN X1 15 d20_14 rfl rfl rfl ?_
  refine og_iload X1 17 d20_15 rfl rfl ?_
  refine og_aloadN X1 18 d20_17 rfl rfl rfl ?_
  refine og_iloadN X1 19 d20_18 rfl rfl ?_
  have f3 := q0.keep K1 nin0
  refine own_ldC X1 20 d20_19 f3 (by decide) (by decide) rfl rfl ?_
  have X4 := own_svB X1 f2 (own_tx4 hw) (Nat.le_trans (own_n0 X0) ge_r1) ge_r1
  refine own_stat X4 23 (argsL := [(.ref r1), (.int 0), (.int x0)]) (rest := []) d20_20 (ru_put2_0 l Z a0 hw n0 h1 hWd [] X4.old r1 kb1 x0 (.int 0) (.int 0) (.int 0) (.int 0) (.int 0) f2 (own_svb X4 (om 0 rfl))) (ow hw 100 rfl) (ow hw 101 rfl) (ow hw 59 rfl) (ow hw 102 rfl) (by decide) (lenOf pd__28_5bBII_29V rfl) rfl rfl rfl (W := 0) rfl (by decide) (by decide) (by decide) (by decide) (allS (om 0 rfl) all0) rfl ?_
  intro T5 h5 v5 X5 K5 hQ5
  obtain ⟨rfl, f6⟩ := hQ5
  show OGo _ _ _ _ T5 (mkF m 23 #[.val (.ref b), .val (.int 0), .val (.int 2), .val (.ref r1), .val (.int 0)] [])
  refine og_iinc X5 26 #[.val (.ref b), .val (.int 1), .val (.int 2), .val (.ref r1), .val (.int 0)] d20_23 rfl rfl rfl ?_
  refine og_iinc X5 29 #[.val (.ref b), .val (.int 1), .val (.int 2), .val (.ref r1), .val (.int 1)] d20_26 rfl rfl rfl ?_
  refine og_goto X5 8 d20_29 (by decide) (by decide) ?_
  refine og_iload X5 10 d20_8 rfl rfl ?_
  refine og_iloadN X5 11 d20_10 rfl rfl ?_
  refine og_icmpN X5 14 d20_11 (XT.ii_ge_f (by decide)) rfl ?_
  refine og_aloadN X5 15 d20_14 rfl rfl rfl ?_
  refine og_iload X5 17 d20_15 rfl rfl ?_
  refine og_aloadN X5 18 d20_17 rfl rfl rfl ?_
  refine og_iloadN X5 19 d20_18 rfl rfl ?_
  have f7 := f3.keep K5 (ninS (Nat.ne_of_lt (Nat.lt_of_lt_of_le q0.lt ge_r1)) nin0)
  refine own_ldC X5 20 d20_19 f7 (by decide) (by decide) rfl rfl ?_
  refine own_stat X5 23 (argsL := [(.ref r1), (.int 1), (.int x1)]) (rest := []) d20_20 (ru_put2_1 l Z a0 hw n0 h5 hWd [] X5.old r1 kb1 x1 (.int 0) (.int (StrChars.lo8 x0)) (.int (StrChars.hi8 x0)) (.int 0) (.int 0) f6 (own_svb X5 (om 0 rfl))) (ow hw 100 rfl) (ow hw 101 rfl) (ow hw 59 rfl) (ow hw 102 rfl) (by decide) (lenOf pd__28_5bBII_29V rfl) rfl rfl rfl (W := 0) rfl (by decide) (by decide) (by decide) (by decide) (allS (om 0 rfl) all0) rfl ?_
  intro T8 h8 v8 X8 K8 hQ8
  obtain ⟨rfl, f9⟩ := hQ8
  show OGo _ _ _ _ T8 (mkF m 23 #[.val (.ref b), .val (.int 1), .val (.int 2), .val (.ref r1), .val (.int 1)] [])
  refine og_iinc X8 26 #[.val (.ref b), .val (.int 2), .val (.int 2), .val (.ref r1), .val (.int 1)] d20_23 rfl rfl rfl ?_
  refine og_iinc X8 29 #[.val (.ref b), .val (.int 2), .val (.int 2), .val (.ref r1), .val (.int 2)] d20_26 rfl rfl rfl ?_
  refine og_goto X8 8 d20_29 (by decide) (by decide) ?_
  refine og_iload X8 10 d20_8 rfl rfl ?_
  refine og_iloadN X8 11 d20_10 rfl rfl ?_
  refine og_icmpY X8 32 d20_11 (XT.ii_ge_t (by decide)) (by decide) (by decide) ?_
  refine og_aloadN X8 33 d20_32 rfl rfl rfl ?_
  refine own_retA X8 d20_33 hret rfl rfl (by decide) (by decide) ?_
  exact ⟨r1, kb1, rfl, ge_r1, f9⟩
theorem ru_cmi2_0 (l : Launch) (Z : State) (a0 : Array Value) (hw : ∀ d ∈ tables_1, d.before a0 Z = true) (n0 : Nat) (h0 : Heap) (hWd : OWorld Z a0) (wc : List Jvm.Cond) (O0 : Old Z n0 h0) (b : Addr) (kb : ClassId) (dv : Value) (d : Addr) (kd : ClassId) (x0 : Int32) (x1 : Int32) (q0 : Arv Z h0 b kb .char (2 : Int32) [(.int x0), (.int x1)] dv) (q1 : Arv Z h0 d kd .byte (2 : Int32) [(.int 0), (.int 0)] (.int 0)) (q2 : (255 : Int32) < x0) (q3 : b ≠ d) (g0 : n0 ≤ d ∧ d < h0.size) :
    OMet l Z own_EL n0 (⟨"java/lang/StringUTF16", "compress", "([CI[BII)I"⟩ : MethodName) (Jvm.Cond.code (⟨"java/lang/StringUTF16", "compress", "([CI[BII)I"⟩ : MethodName) jdk_52_method_21_code 7 (some .int) :: wc) ({ frames := 0, cells := 0, slots := 0, locals := 0 } : Room) #[(.ref b), (.int 0), (.ref d), (.int 0), (.int 2)] h0 [d] (fun vq hq => vq = some (.int 0)) := by
  refine own_enter #[.val (.ref b), .val (.int 0), .val (.ref d), .val (.int 0), .val (.int 2), .unset, .unset] pn_java_lang_StringUTF16_compress___CI_BII_I (ef_ru_cmi2_0 b kb dv d kd x0 x1) hWd.1 O0 (allS g0 all0) ?_
  intro p e s m below meth c T0 X0 hnm hret
  refine og_iconst X0 1 (0 : Int32) d12_0 rfl rfl ?_
  refine og_istore X0 3 #[.val (.ref b), .val (.int 0), .val (.ref d), .val (.int 0), .val (.int 2), .val (.int 0), .unset] d12_1 rfl rfl ?_
  refine og_iload X0 5 d12_3 rfl rfl ?_
  refine og_iload X0 7 d12_5 rfl rfl ?_
  refine og_icmpN X0 10 d12_7 (XT.ii_ge_f (by decide)) rfl ?_
  refine og_aloadN X0 11 d12_10 rfl rfl rfl ?_
  refine og_iloadN X0 12 d12_11 rfl rfl ?_
  refine own_ldC X0 13 d12_12 q0 (by decide) (by decide) rfl rfl ?_
  refine og_istore X0 15 #[.val (.ref b), .val (.int 0), .val (.ref d), .val (.int 0), .val (.int 2), .val (.int 0), .val (.int x0)] d12_13 rfl rfl ?_
  refine og_iload X0 17 d12_15 rfl rfl ?_
  refine og_sipush X0 20 (255 : Int32) d12_17 rfl rfl ?_
  refine og_icmpN X0 23 d12_20 (XT.ii_le_f q2) rfl ?_
  refine og_iload X0 25 d12_23 rfl rfl ?_
  refine own_retI X0 d12_25 hret (by decide) (by decide) ?_
  exact rfl
theorem ru_cmp2_0 (l : Launch) (Z : State) (a0 : Array Value) (hw : ∀ d ∈ tables_1, d.before a0 Z = true) (n0 : Nat) (h0 : Heap) (hWd : OWorld Z a0) (wc : List Jvm.Cond) (O0 : Old Z n0 h0) (b : Addr) (kb : ClassId) (dv : Value) (x0 : Int32) (x1 : Int32) (q0 : Arv Z h0 b kb .char (2 : Int32) [(.int x0), (.int x1)] dv) (q1 : (255 : Int32) < x0) (q2 : ¬ x0 < 0) (q3 : ¬ (65535 : Int32) < x0) (q4 : ¬ x1 < 0) (q5 : ¬ (65535 : Int32) < x1) :
    OMet l Z own_EL n0 (⟨"java/lang/StringUTF16", "compress", "([CII)[B"⟩ : MethodName) (Jvm.Cond.code (⟨"java/lang/StringUTF16", "compress", "([CII)[B"⟩ : MethodName) jdk_52_method_16_code 6 (some (.array .byte)) :: wc) ({ frames := 3, cells := 2, slots := 6, locals := 40 } : Room) #[(.ref b), (.int 0), (.int 2)] h0 [] (fun vq hq => ∃ (r : Addr) (kr : ClassId), vq = some (.ref r) ∧ h0.size ≤ r ∧ Arv Z hq r kr .byte (4 : Int32) [(.int (StrChars.lo8 x0)), (.int (StrChars.hi8 x0)), (.int (StrChars.lo8 x1)), (.int (StrChars.hi8 x1))] (.int 0)) := by
  refine own_enter #[.val (.ref b), .val (.int 0), .val (.int 2), .unset, .unset, .unset] pn_java_lang_StringUTF16_compress___CII__B (ef_ru_cmp2_0 b kb dv x0 x1) hWd.1 O0 all0 ?_
  intro p e s m below meth c T0 X0 hnm hret
  refine og_iloadN X0 1 d11_0 rfl rfl ?_
  refine own_arr X0 3 d11_1 (ow hw 16 rfl) (by decide) (cap := 2) (by decide) (by decide) (by decide) (by decide) rfl ?_
  intro T1 h1 b1 kb1 X1 K1 G1 U1 A1
  have f2 : Arv Z h1 b1 kb1 .byte (2 : Int32) [(.int 0), (.int 0)] (.int 0) := A1
  refine og_astoreN X1 4 #[.val (.ref b), .val (.int 0), .val (.int 2), .val (.ref b1), .unset, .unset] d11_3 rfl rfl rfl ?_
  refine og_aloadN X1 5 d11_4 rfl rfl rfl ?_
  refine og_iloadN X1 6 d11_5 rfl rfl ?_
  refine og_aloadN X1 7 d11_6 rfl rfl rfl ?_
  refine og_iconst X1 8 (0 : Int32) d11_7 rfl rfl ?_
  refine og_iloadN X1 9 d11_8 rfl rfl ?_
  have f3 := q0.keep K1 nin0
  refine own_stat X1 12 (argsL := [(.ref b), (.int 0), (.ref b1), (.int 0), (.int 2)]) (rest := []) d11_9 (ru_cmi2_0 l Z a0 hw n0 h1 hWd [] X1.old b kb dv b1 kb1 x0 x1 f3 f2 q1 (Nat.ne_of_lt (Nat.lt_of_lt_of_le q0.lt G1)) (own_svb X1 (om 0 rfl))) (ow hw 61 rfl) (ow hw 62 rfl) (ow hw 59 rfl) (ow hw 63 rfl) (by decide) (lenOf pd__28_5bCI_5bBII_29I rfl) rfl rfl rfl (W := 0) rfl (by decide) (by decide) (by decide) (by decide) (allS (om 0 rfl) all0) rfl ?_
  intro T4 h4 v4 X4 K4 hQ4
  obtain rfl := hQ4
  show OGo _ _ _ _ T4 (mkF m 12 #[.val (.ref b), .val (.int 0), .val (.int 2), .val (.ref b1), .unset, .unset] [(.int 0)])
  refine og_istore X4 14 #[.val (.ref b), .val (.int 0), .val (.int 2), .val (.ref b1), .val (.int 0), .unset] d11_12 rfl rfl ?_
  refine og_iload X4 16 d11_14 rfl rfl ?_
  refine og_iloadN X4 17 d11_16 rfl rfl ?_
  refine og_icmpN X4 20 d11_17 (XT.ii_eq_f (by decide)) rfl ?_
  refine og_aloadN X4 21 d11_20 rfl rfl rfl ?_
  refine og_iloadN X4 22 d11_21 rfl rfl ?_
  refine og_iloadN X4 23 d11_22 rfl rfl ?_
  have f5 := f3.keep K4 (ninS (Nat.ne_of_lt (Nat.lt_of_lt_of_le q0.lt G1)) nin0)
  refine own_stat X4 26 (argsL := [(.ref b), (.int 0), (.int 2)]) (rest := []) d11_23 (ru_tob2 l Z a0 hw n0 h4 hWd [] X4.old b kb dv x0 x1 f5 ) (ow hw 90 rfl) (ow hw 91 rfl) (ow hw 59 rfl) (ow hw 92 rfl) (by decide) (lenOf pd__28_5bCII_29_5bB rfl) rfl rfl rfl (W := 0) rfl (by decide) (by decide) (by decide) (by decide) all0 rfl ?_
  intro T6 h6 v6 X6 K6 hQ6
  obtain ⟨r6, kr6, rfl, ge_r6, f7⟩ := hQ6
  show OGo _ _ _ _ T6 (mkF m 26 #[.val (.ref b), .val (.int 0), .val (.int 2), .val (.ref b1), .val (.int 0), .unset] [(.ref r6)])
  refine og_astore X6 28 #[.val (.ref b), .val (.int 0), .val (.int 2), .val (.ref b1), .val (.int 0), .val (.ref r6)] d11_26 rfl rfl rfl ?_
  refine og_aload X6 30 d11_28 rfl rfl rfl ?_
  refine og_iload X6 32 d11_30 rfl rfl ?_
  refine own_stat X6 35 (argsL := [(.ref r6), (.int 0)]) (rest := []) d11_32 (rg_get l Z a0 hw n0 h6 hWd [] X6.old r6 kr6 [x0, x1] 0 f7 (Nat.le_of_ble_eq_true rfl) (Nat.le_of_ble_eq_true rfl) ) (ow hw 106 rfl) (ow hw 107 rfl) (ow hw 59 rfl) (ow hw 108 rfl) (by decide) (lenOf pd__28_5bBI_29C rfl) rfl rfl rfl (W := 0) rfl (by decide) (by decide) (by decide) (by decide) all0 rfl ?_
  intro T8 h8 v8 X8 K8 hQ8
  obtain rfl := hQ8
  show OGo _ _ _ _ T8 (mkF m 35 #[.val (.ref b), .val (.int 0), .val (.int 2), .val (.ref b1), .val (.int 0), .val (.ref r6)] [(.int (StrChars.pairCh (StrChars.lo8 x0) (StrChars.hi8 x0)))])
  refine og_sipush X8 38 (255 : Int32) d11_35 rfl rfl ?_
  refine og_icmpY X8 54 d11_38 (XT.ii_gt_t (by rw [StrChars.pair_says q2 q3]; exact q1)) (by decide) (by decide) ?_
  refine og_aload X8 56 d11_54 rfl rfl rfl ?_
  have f9 := f7.keep K8 nin0
  refine own_retA X8 d11_56 hret rfl rfl (by decide) (by decide) ?_
  exact ⟨r6, kr6, rfl, (Nat.le_trans (Nat.le_trans K1.1 K4.1) ge_r6), f9⟩
theorem ru_cmi2_1 (l : Launch) (Z : State) (a0 : Array Value) (hw : ∀ d ∈ tables_1, d.before a0 Z = true) (n0 : Nat) (h0 : Heap) (hWd : OWorld Z a0) (wc : List Jvm.Cond) (O0 : Old Z n0 h0) (b : Addr) (kb : ClassId) (dv : Value) (d : Addr) (kd : ClassId) (x0 : Int32) (x1 : Int32) (q0 : Arv Z h0 b kb .char (2 : Int32) [(.int x0), (.int x1)] dv) (q1 : Arv Z h0 d kd .byte (2 : Int32) [(.int 0), (.int 0)] (.int 0)) (q2 : ¬ (255 : Int32) < x0) (q3 : (255 : Int32) < x1) (q4 : b ≠ d) (g0 : n0 ≤ d ∧ d < h0.size) :
    OMet l Z own_EL n0 (⟨"java/lang/StringUTF16", "compress", "([CI[BII)I"⟩ : MethodName) (Jvm.Cond.code (⟨"java/lang/StringUTF16", "compress", "([CI[BII)I"⟩ : MethodName) jdk_52_method_21_code 7 (some .int) :: wc) ({ frames := 0, cells := 0, slots := 0, locals := 0 } : Room) #[(.ref b), (.int 0), (.ref d), (.int 0), (.int 2)] h0 [d] (fun vq hq => vq = some (.int 1)) := by
  refine own_enter #[.val (.ref b), .val (.int 0), .val (.ref d), .val (.int 0), .val (.int 2), .unset, .unset] pn_java_lang_StringUTF16_compress___CI_BII_I (ef_ru_cmi2_1 b kb dv d kd x0 x1) hWd.1 O0 (allS g0 all0) ?_
  intro p e s m below meth c T0 X0 hnm hret
  refine og_iconst X0 1 (0 : Int32) d12_0 rfl rfl ?_
  refine og_istore X0 3 #[.val (.ref b), .val (.int 0), .val (.ref d), .val (.int 0), .val (.int 2), .val (.int 0), .unset] d12_1 rfl rfl ?_
  refine og_iload X0 5 d12_3 rfl rfl ?_
  refine og_iload X0 7 d12_5 rfl rfl ?_
  refine og_icmpN X0 10 d12_7 (XT.ii_ge_f (by decide)) rfl ?_
  refine og_aloadN X0 11 d12_10 rfl rfl rfl ?_
  refine og_iloadN X0 12 d12_11 rfl rfl ?_
  refine own_ldC X0 13 d12_12 q0 (by decide) (by decide) rfl rfl ?_
  refine og_istore X0 15 #[.val (.ref b), .val (.int 0), .val (.ref d), .val (.int 0), .val (.int 2), .val (.int 0), .val (.int x0)] d12_13 rfl rfl ?_
  refine og_iload X0 17 d12_15 rfl rfl ?_
  refine og_sipush X0 20 (255 : Int32) d12_17 rfl rfl ?_
  refine og_icmpY X0 26 d12_20 (XT.ii_le_t q2) (by decide) (by decide) ?_
  refine og_aloadN X0 27 d12_26 rfl rfl rfl ?_
  refine og_iloadN X0 28 d12_27 rfl rfl ?_
  refine og_iload X0 30 d12_28 rfl rfl ?_
  refine og_i2b X0 31 d12_30 rfl ?_
  refine own_stB X0 32 d12_31 q1 (own_nbb _) (by decide) (by decide) (i := 0) (by decide) (Nat.le_of_ble_eq_true rfl) (om 0 rfl) rfl ?_
  intro T1 h1 X1 W1 K1 A1
  have f2 : Arv Z h1 d kd .byte (2 : Int32) [(.int ((x0).toInt8.toInt32)), (.int 0)] (.int 0) := A1
  refine og_iinc X1 35 #[.val (.ref b), .val (.int 1), .val (.ref d), .val (.int 0), .val (.int 2), .val (.int 0), .val (.int x0)] d12_32 rfl rfl rfl ?_
  refine og_iinc X1 38 #[.val (.ref b), .val (.int 1), .val (.ref d), .val (.int 1), .val (.int 2), .val (.int 0), .val (.int x0)] d12_35 rfl rfl rfl ?_
  refine og_iinc X1 41 #[.val (.ref b), .val (.int 1), .val (.ref d), .val (.int 1), .val (.int 2), .val (.int 1), .val (.int x0)] d12_38 rfl rfl rfl ?_
  refine og_goto X1 3 d12_41 (by decide) (by decide) ?_
  refine og_iload X1 5 d12_3 rfl rfl ?_
  refine og_iload X1 7 d12_5 rfl rfl ?_
  refine og_icmpN X1 10 d12_7 (XT.ii_ge_f (by decide)) rfl ?_
  refine og_aloadN X1 11 d12_10 rfl rfl rfl ?_
  refine og_iloadN X1 12 d12_11 rfl rfl ?_
  have f3 := q0.keep K1 (ninS q4 nin0)
  refine own_ldC X1 13 d12_12 f3 (by decide) (by decide) rfl rfl ?_
  refine og_istore X1 15 #[.val (.ref b), .val (.int 1), .val (.ref d), .val (.int 1), .val (.int 2), .val (.int 1), .val (.int x1)] d12_13 rfl rfl ?_
  refine og_iload X1 17 d12_15 rfl rfl ?_
  refine og_sipush X1 20 (255 : Int32) d12_17 rfl rfl ?_
  refine og_icmpN X1 23 d12_20 (XT.ii_le_f q3) rfl ?_
  refine og_iload X1 25 d12_23 rfl rfl ?_
  refine own_retI X1 d12_25 hret (by decide) (by decide) ?_
  exact rfl
theorem ru_cmp2_1 (l : Launch) (Z : State) (a0 : Array Value) (hw : ∀ d ∈ tables_1, d.before a0 Z = true) (n0 : Nat) (h0 : Heap) (hWd : OWorld Z a0) (wc : List Jvm.Cond) (O0 : Old Z n0 h0) (b : Addr) (kb : ClassId) (dv : Value) (x0 : Int32) (x1 : Int32) (q0 : Arv Z h0 b kb .char (2 : Int32) [(.int x0), (.int x1)] dv) (q1 : ¬ (255 : Int32) < x0) (q2 : (255 : Int32) < x1) (q3 : ¬ x0 < 0) (q4 : ¬ (65535 : Int32) < x0) (q5 : ¬ x1 < 0) (q6 : ¬ (65535 : Int32) < x1) :
    OMet l Z own_EL n0 (⟨"java/lang/StringUTF16", "compress", "([CII)[B"⟩ : MethodName) (Jvm.Cond.code (⟨"java/lang/StringUTF16", "compress", "([CII)[B"⟩ : MethodName) jdk_52_method_16_code 6 (some (.array .byte)) :: wc) ({ frames := 3, cells := 2, slots := 6, locals := 40 } : Room) #[(.ref b), (.int 0), (.int 2)] h0 [] (fun vq hq => ∃ (r : Addr) (kr : ClassId), vq = some (.ref r) ∧ h0.size ≤ r ∧ Arv Z hq r kr .byte (4 : Int32) [(.int (StrChars.lo8 x0)), (.int (StrChars.hi8 x0)), (.int (StrChars.lo8 x1)), (.int (StrChars.hi8 x1))] (.int 0)) := by
  refine own_enter #[.val (.ref b), .val (.int 0), .val (.int 2), .unset, .unset, .unset] pn_java_lang_StringUTF16_compress___CII__B (ef_ru_cmp2_1 b kb dv x0 x1) hWd.1 O0 all0 ?_
  intro p e s m below meth c T0 X0 hnm hret
  refine og_iloadN X0 1 d11_0 rfl rfl ?_
  refine own_arr X0 3 d11_1 (ow hw 16 rfl) (by decide) (cap := 2) (by decide) (by decide) (by decide) (by decide) rfl ?_
  intro T1 h1 b1 kb1 X1 K1 G1 U1 A1
  have f2 : Arv Z h1 b1 kb1 .byte (2 : Int32) [(.int 0), (.int 0)] (.int 0) := A1
  refine og_astoreN X1 4 #[.val (.ref b), .val (.int 0), .val (.int 2), .val (.ref b1), .unset, .unset] d11_3 rfl rfl rfl ?_
  refine og_aloadN X1 5 d11_4 rfl rfl rfl ?_
  refine og_iloadN X1 6 d11_5 rfl rfl ?_
  refine og_aloadN X1 7 d11_6 rfl rfl rfl ?_
  refine og_iconst X1 8 (0 : Int32) d11_7 rfl rfl ?_
  refine og_iloadN X1 9 d11_8 rfl rfl ?_
  have f3 := q0.keep K1 nin0
  refine own_stat X1 12 (argsL := [(.ref b), (.int 0), (.ref b1), (.int 0), (.int 2)]) (rest := []) d11_9 (ru_cmi2_1 l Z a0 hw n0 h1 hWd [] X1.old b kb dv b1 kb1 x0 x1 f3 f2 q1 q2 (Nat.ne_of_lt (Nat.lt_of_lt_of_le q0.lt G1)) (own_svb X1 (om 0 rfl))) (ow hw 61 rfl) (ow hw 62 rfl) (ow hw 59 rfl) (ow hw 63 rfl) (by decide) (lenOf pd__28_5bCI_5bBII_29I rfl) rfl rfl rfl (W := 0) rfl (by decide) (by decide) (by decide) (by decide) (allS (om 0 rfl) all0) rfl ?_
  intro T4 h4 v4 X4 K4 hQ4
  obtain rfl := hQ4
  show OGo _ _ _ _ T4 (mkF m 12 #[.val (.ref b), .val (.int 0), .val (.int 2), .val (.ref b1), .unset, .unset] [(.int 1)])
  refine og_istore X4 14 #[.val (.ref b), .val (.int 0), .val (.int 2), .val (.ref b1), .val (.int 1), .unset] d11_12 rfl rfl ?_
  refine og_iload X4 16 d11_14 rfl rfl ?_
  refine og_iloadN X4 17 d11_16 rfl rfl ?_
  refine og_icmpN X4 20 d11_17 (XT.ii_eq_f (by decide)) rfl ?_
  refine og_aloadN X4 21 d11_20 rfl rfl rfl ?_
  refine og_iloadN X4 22 d11_21 rfl rfl ?_
  refine og_iloadN X4 23 d11_22 rfl rfl ?_
  have f5 := f3.keep K4 (ninS (Nat.ne_of_lt (Nat.lt_of_lt_of_le q0.lt G1)) nin0)
  refine own_stat X4 26 (argsL := [(.ref b), (.int 0), (.int 2)]) (rest := []) d11_23 (ru_tob2 l Z a0 hw n0 h4 hWd [] X4.old b kb dv x0 x1 f5 ) (ow hw 90 rfl) (ow hw 91 rfl) (ow hw 59 rfl) (ow hw 92 rfl) (by decide) (lenOf pd__28_5bCII_29_5bB rfl) rfl rfl rfl (W := 0) rfl (by decide) (by decide) (by decide) (by decide) all0 rfl ?_
  intro T6 h6 v6 X6 K6 hQ6
  obtain ⟨r6, kr6, rfl, ge_r6, f7⟩ := hQ6
  show OGo _ _ _ _ T6 (mkF m 26 #[.val (.ref b), .val (.int 0), .val (.int 2), .val (.ref b1), .val (.int 1), .unset] [(.ref r6)])
  refine og_astore X6 28 #[.val (.ref b), .val (.int 0), .val (.int 2), .val (.ref b1), .val (.int 1), .val (.ref r6)] d11_26 rfl rfl rfl ?_
  refine og_aload X6 30 d11_28 rfl rfl rfl ?_
  refine og_iload X6 32 d11_30 rfl rfl ?_
  refine own_stat X6 35 (argsL := [(.ref r6), (.int 1)]) (rest := []) d11_32 (rg_get l Z a0 hw n0 h6 hWd [] X6.old r6 kr6 [x0, x1] 1 f7 (Nat.le_of_ble_eq_true rfl) (Nat.le_of_ble_eq_true rfl) ) (ow hw 106 rfl) (ow hw 107 rfl) (ow hw 59 rfl) (ow hw 108 rfl) (by decide) (lenOf pd__28_5bBI_29C rfl) rfl rfl rfl (W := 0) rfl (by decide) (by decide) (by decide) (by decide) all0 rfl ?_
  intro T8 h8 v8 X8 K8 hQ8
  obtain rfl := hQ8
  show OGo _ _ _ _ T8 (mkF m 35 #[.val (.ref b), .val (.int 0), .val (.int 2), .val (.ref b1), .val (.int 1), .val (.ref r6)] [(.int (StrChars.pairCh (StrChars.lo8 x1) (StrChars.hi8 x1)))])
  refine og_sipush X8 38 (255 : Int32) d11_35 rfl rfl ?_
  refine og_icmpY X8 54 d11_38 (XT.ii_gt_t (by rw [StrChars.pair_says q5 q6]; exact q2)) (by decide) (by decide) ?_
  refine og_aload X8 56 d11_54 rfl rfl rfl ?_
  have f9 := f7.keep K8 nin0
  refine own_retA X8 d11_56 hret rfl rfl (by decide) (by decide) ?_
  exact ⟨r6, kr6, rfl, (Nat.le_trans (Nat.le_trans K1.1 K4.1) ge_r6), f9⟩
theorem ru_cmi2_2 (l : Launch) (Z : State) (a0 : Array Value) (hw : ∀ d ∈ tables_1, d.before a0 Z = true) (n0 : Nat) (h0 : Heap) (hWd : OWorld Z a0) (wc : List Jvm.Cond) (O0 : Old Z n0 h0) (b : Addr) (kb : ClassId) (dv : Value) (d : Addr) (kd : ClassId) (x0 : Int32) (x1 : Int32) (q0 : Arv Z h0 b kb .char (2 : Int32) [(.int x0), (.int x1)] dv) (q1 : Arv Z h0 d kd .byte (2 : Int32) [(.int 0), (.int 0)] (.int 0)) (q2 : ¬ (255 : Int32) < x0) (q3 : ¬ (255 : Int32) < x1) (q4 : b ≠ d) (g0 : n0 ≤ d ∧ d < h0.size) :
    OMet l Z own_EL n0 (⟨"java/lang/StringUTF16", "compress", "([CI[BII)I"⟩ : MethodName) (Jvm.Cond.code (⟨"java/lang/StringUTF16", "compress", "([CI[BII)I"⟩ : MethodName) jdk_52_method_21_code 7 (some .int) :: wc) ({ frames := 0, cells := 0, slots := 0, locals := 0 } : Room) #[(.ref b), (.int 0), (.ref d), (.int 0), (.int 2)] h0 [d] (fun vq hq => vq = some (.int 2) ∧ Arv Z hq d kd .byte (2 : Int32) [(.int ((x0).toInt8.toInt32)), (.int ((x1).toInt8.toInt32))] (.int 0)) := by
  refine own_enter #[.val (.ref b), .val (.int 0), .val (.ref d), .val (.int 0), .val (.int 2), .unset, .unset] pn_java_lang_StringUTF16_compress___CI_BII_I (ef_ru_cmi2_2 b kb dv d kd x0 x1) hWd.1 O0 (allS g0 all0) ?_
  intro p e s m below meth c T0 X0 hnm hret
  refine og_iconst X0 1 (0 : Int32) d12_0 rfl rfl ?_
  refine og_istore X0 3 #[.val (.ref b), .val (.int 0), .val (.ref d), .val (.int 0), .val (.int 2), .val (.int 0), .unset] d12_1 rfl rfl ?_
  refine og_iload X0 5 d12_3 rfl rfl ?_
  refine og_iload X0 7 d12_5 rfl rfl ?_
  refine og_icmpN X0 10 d12_7 (XT.ii_ge_f (by decide)) rfl ?_
  refine og_aloadN X0 11 d12_10 rfl rfl rfl ?_
  refine og_iloadN X0 12 d12_11 rfl rfl ?_
  refine own_ldC X0 13 d12_12 q0 (by decide) (by decide) rfl rfl ?_
  refine og_istore X0 15 #[.val (.ref b), .val (.int 0), .val (.ref d), .val (.int 0), .val (.int 2), .val (.int 0), .val (.int x0)] d12_13 rfl rfl ?_
  refine og_iload X0 17 d12_15 rfl rfl ?_
  refine og_sipush X0 20 (255 : Int32) d12_17 rfl rfl ?_
  refine og_icmpY X0 26 d12_20 (XT.ii_le_t q2) (by decide) (by decide) ?_
  refine og_aloadN X0 27 d12_26 rfl rfl rfl ?_
  refine og_iloadN X0 28 d12_27 rfl rfl ?_
  refine og_iload X0 30 d12_28 rfl rfl ?_
  refine og_i2b X0 31 d12_30 rfl ?_
  refine own_stB X0 32 d12_31 q1 (own_nbb _) (by decide) (by decide) (i := 0) (by decide) (Nat.le_of_ble_eq_true rfl) (om 0 rfl) rfl ?_
  intro T1 h1 X1 W1 K1 A1
  have f2 : Arv Z h1 d kd .byte (2 : Int32) [(.int ((x0).toInt8.toInt32)), (.int 0)] (.int 0) := A1
  refine og_iinc X1 35 #[.val (.ref b), .val (.int 1), .val (.ref d), .val (.int 0), .val (.int 2), .val (.int 0), .val (.int x0)] d12_32 rfl rfl rfl ?_
  refine og_iinc X1 38 #[.val (.ref b), .val (.int 1), .val (.ref d), .val (.int 1), .val (.int 2), .val (.int 0), .val (.int x0)] d12_35 rfl rfl rfl ?_
  refine og_iinc X1 41 #[.val (.ref b), .val (.int 1), .val (.ref d), .val (.int 1), .val (.int 2), .val (.int 1), .val (.int x0)] d12_38 rfl rfl rfl ?_
  refine og_goto X1 3 d12_41 (by decide) (by decide) ?_
  refine og_iload X1 5 d12_3 rfl rfl ?_
  refine og_iload X1 7 d12_5 rfl rfl ?_
  refine og_icmpN X1 10 d12_7 (XT.ii_ge_f (by decide)) rfl ?_
  refine og_aloadN X1 11 d12_10 rfl rfl rfl ?_
  refine og_iloadN X1 12 d12_11 rfl rfl ?_
  have f3 := q0.keep K1 (ninS q4 nin0)
  refine own_ldC X1 13 d12_12 f3 (by decide) (by decide) rfl rfl ?_
  refine og_istore X1 15 #[.val (.ref b), .val (.int 1), .val (.ref d), .val (.int 1), .val (.int 2), .val (.int 1), .val (.int x1)] d12_13 rfl rfl ?_
  refine og_iload X1 17 d12_15 rfl rfl ?_
  refine og_sipush X1 20 (255 : Int32) d12_17 rfl rfl ?_
  refine og_icmpY X1 26 d12_20 (XT.ii_le_t q3) (by decide) (by decide) ?_
  refine og_aloadN X1 27 d12_26 rfl rfl rfl ?_
  refine og_iloadN X1 28 d12_27 rfl rfl ?_
  refine og_iload X1 30 d12_28 rfl rfl ?_
  refine og_i2b X1 31 d12_30 rfl ?_
  refine own_stB X1 32 d12_31 f2 (own_nbb _) (by decide) (by decide) (i := 1) (by decide) (Nat.le_of_ble_eq_true rfl) (om 0 rfl) rfl ?_
  intro T4 h4 X4 W4 K4 A4
  have f5 : Arv Z h4 d kd .byte (2 : Int32) [(.int ((x0).toInt8.toInt32)), (.int ((x1).toInt8.toInt32))] (.int 0) := A4
  refine og_iinc X4 35 #[.val (.ref b), .val (.int 2), .val (.ref d), .val (.int 1), .val (.int 2), .val (.int 1), .val (.int x1)] d12_32 rfl rfl rfl ?_
  refine og_iinc X4 38 #[.val (.ref b), .val (.int 2), .val (.ref d), .val (.int 2), .val (.int 2), .val (.int 1), .val (.int x1)] d12_35 rfl rfl rfl ?_
  refine og_iinc X4 41 #[.val (.ref b), .val (.int 2), .val (.ref d), .val (.int 2), .val (.int 2), .val (.int 2), .val (.int x1)] d12_38 rfl rfl rfl ?_
  refine og_goto X4 3 d12_41 (by decide) (by decide) ?_
  refine og_iload X4 5 d12_3 rfl rfl ?_
  refine og_iload X4 7 d12_5 rfl rfl ?_
  refine og_icmpY X4 44 d12_7 (XT.ii_ge_t (by decide)) (by decide) (by decide) ?_
  refine og_iload X4 46 d12_44 rfl rfl ?_
  refine own_retI X4 d12_46 hret (by decide) (by decide) ?_
  exact ⟨rfl, f5⟩
theorem ru_cmp2_2 (l : Launch) (Z : State) (a0 : Array Value) (hw : ∀ d ∈ tables_1, d.before a0 Z = true) (n0 : Nat) (h0 : Heap) (hWd : OWorld Z a0) (wc : List Jvm.Cond) (O0 : Old Z n0 h0) (b : Addr) (kb : ClassId) (dv : Value) (x0 : Int32) (x1 : Int32) (q0 : Arv Z h0 b kb .char (2 : Int32) [(.int x0), (.int x1)] dv) (q1 : ¬ (255 : Int32) < x0) (q2 : ¬ (255 : Int32) < x1) (q3 : ¬ x0 < 0) (q4 : ¬ (65535 : Int32) < x0) (q5 : ¬ x1 < 0) (q6 : ¬ (65535 : Int32) < x1) :
    OMet l Z own_EL n0 (⟨"java/lang/StringUTF16", "compress", "([CII)[B"⟩ : MethodName) (Jvm.Cond.code (⟨"java/lang/StringUTF16", "compress", "([CII)[B"⟩ : MethodName) jdk_52_method_16_code 6 (some (.array .byte)) :: wc) ({ frames := 1, cells := 1, slots := 2, locals := 18 } : Room) #[(.ref b), (.int 0), (.int 2)] h0 [] (fun vq hq => ∃ (r : Addr) (kr : ClassId), vq = some (.ref r) ∧ h0.size ≤ r ∧ Arv Z hq r kr .byte (2 : Int32) [(.int ((x0).toInt8.toInt32)), (.int ((x1).toInt8.toInt32))] (.int 0)) := by
  refine own_enter #[.val (.ref b), .val (.int 0), .val (.int 2), .unset, .unset, .unset] pn_java_lang_StringUTF16_compress___CII__B (ef_ru_cmp2_2 b kb dv x0 x1) hWd.1 O0 all0 ?_
  intro p e s m below meth c T0 X0 hnm hret
  refine og_iloadN X0 1 d11_0 rfl rfl ?_
  refine own_arr X0 3 d11_1 (ow hw 16 rfl) (by decide) (cap := 2) (by decide) (by decide) (by decide) (by decide) rfl ?_
  intro T1 h1 b1 kb1 X1 K1 G1 U1 A1
  have f2 : Arv Z h1 b1 kb1 .byte (2 : Int32) [(.int 0), (.int 0)] (.int 0) := A1
  refine og_astoreN X1 4 #[.val (.ref b), .val (.int 0), .val (.int 2), .val (.ref b1), .unset, .unset] d11_3 rfl rfl rfl ?_
  refine og_aloadN X1 5 d11_4 rfl rfl rfl ?_
  refine og_iloadN X1 6 d11_5 rfl rfl ?_
  refine og_aloadN X1 7 d11_6 rfl rfl rfl ?_
  refine og_iconst X1 8 (0 : Int32) d11_7 rfl rfl ?_
  refine og_iloadN X1 9 d11_8 rfl rfl ?_
  have f3 := q0.keep K1 nin0
  refine own_stat X1 12 (argsL := [(.ref b), (.int 0), (.ref b1), (.int 0), (.int 2)]) (rest := []) d11_9 (ru_cmi2_2 l Z a0 hw n0 h1 hWd [] X1.old b kb dv b1 kb1 x0 x1 f3 f2 q1 q2 (Nat.ne_of_lt (Nat.lt_of_lt_of_le q0.lt G1)) (own_svb X1 (om 0 rfl))) (ow hw 61 rfl) (ow hw 62 rfl) (ow hw 59 rfl) (ow hw 63 rfl) (by decide) (lenOf pd__28_5bCI_5bBII_29I rfl) rfl rfl rfl (W := 0) rfl (by decide) (by decide) (by decide) (by decide) (allS (om 0 rfl) all0) rfl ?_
  intro T4 h4 v4 X4 K4 hQ4
  obtain ⟨rfl, f5⟩ := hQ4
  show OGo _ _ _ _ T4 (mkF m 12 #[.val (.ref b), .val (.int 0), .val (.int 2), .val (.ref b1), .unset, .unset] [(.int 2)])
  refine og_istore X4 14 #[.val (.ref b), .val (.int 0), .val (.int 2), .val (.ref b1), .val (.int 2), .unset] d11_12 rfl rfl ?_
  refine og_iload X4 16 d11_14 rfl rfl ?_
  refine og_iloadN X4 17 d11_16 rfl rfl ?_
  refine og_icmpY X4 57 d11_17 (XT.ii_eq_t (by decide)) (by decide) (by decide) ?_
  refine og_aloadN X4 58 d11_57 rfl rfl rfl ?_
  refine own_retA X4 d11_58 hret rfl rfl (by decide) (by decide) ?_
  exact ⟨b1, kb1, rfl, G1, f5⟩
theorem ru_cod2_2 (l : Launch) (Z : State) (a0 : Array Value) (hw : ∀ d ∈ tables_1, d.before a0 Z = true) (n0 : Nat) (h0 : Heap) (hWd : OWorld Z a0) (wc : List Jvm.Cond) (O0 : Old Z n0 h0) (b : Addr) (kb : ClassId) (vs : List Value) (dv : Value) (q0 : Arv Z h0 b kb .byte (2 : Int32) vs dv) :
    OMet l Z own_EL n0 (⟨"java/lang/StringUTF16", "coderFromArrayLen", "([BI)B"⟩ : MethodName) (Jvm.Cond.code (⟨"java/lang/StringUTF16", "coderFromArrayLen", "([BI)B"⟩ : MethodName) jdk_52_method_15_code 2 (some .byte) :: wc) ({ frames := 0, cells := 0, slots := 0, locals := 0 } : Room) #[(.ref b), (.int 2)] h0 [] (fun vq hq => vq = some (.int 0)) := by
  refine own_enter #[.val (.ref b), .val (.int 2)] pn_java_lang_StringUTF16_coderFromArrayLen___BI_B (ef_ru_cod2_2 b kb vs dv) hWd.1 O0 all0 ?_
  intro p e s m below meth c T0 X0 hnm hret
  refine og_iloadN X0 1 d13_0 rfl rfl ?_
  refine og_aloadN X0 2 d13_1 rfl rfl rfl ?_
  refine own_len X0 3 d13_2 q0 rfl ?_
  refine og_isub X0 4 d13_3 rfl ?_
  show OGo _ _ _ _ T0 (mkF m 4 #[.val (.ref b), .val (.int 2)] [(.int 0)])
  refine og_bipush X0 6 (31 : Int32) d13_4 rfl rfl ?_
  refine og_iushr X0 7 d13_6 rfl ?_
  show OGo _ _ _ _ T0 (mkF m 7 #[.val (.ref b), .val (.int 2)] [(.int 0)])
  refine og_i2b X0 8 d13_7 rfl ?_
  show OGo _ _ _ _ T0 (mkF m 8 #[.val (.ref b), .val (.int 2)] [(.int 0)])
  refine own_retY X0 d13_8 hret rfl (by decide) (by decide) ?_
  exact rfl
theorem ru_cod2_4 (l : Launch) (Z : State) (a0 : Array Value) (hw : ∀ d ∈ tables_1, d.before a0 Z = true) (n0 : Nat) (h0 : Heap) (hWd : OWorld Z a0) (wc : List Jvm.Cond) (O0 : Old Z n0 h0) (b : Addr) (kb : ClassId) (vs : List Value) (dv : Value) (q0 : Arv Z h0 b kb .byte (4 : Int32) vs dv) :
    OMet l Z own_EL n0 (⟨"java/lang/StringUTF16", "coderFromArrayLen", "([BI)B"⟩ : MethodName) (Jvm.Cond.code (⟨"java/lang/StringUTF16", "coderFromArrayLen", "([BI)B"⟩ : MethodName) jdk_52_method_15_code 2 (some .byte) :: wc) ({ frames := 0, cells := 0, slots := 0, locals := 0 } : Room) #[(.ref b), (.int 2)] h0 [] (fun vq hq => vq = some (.int 1)) := by
  refine own_enter #[.val (.ref b), .val (.int 2)] pn_java_lang_StringUTF16_coderFromArrayLen___BI_B (ef_ru_cod2_4 b kb vs dv) hWd.1 O0 all0 ?_
  intro p e s m below meth c T0 X0 hnm hret
  refine og_iloadN X0 1 d13_0 rfl rfl ?_
  refine og_aloadN X0 2 d13_1 rfl rfl rfl ?_
  refine own_len X0 3 d13_2 q0 rfl ?_
  refine og_isub X0 4 d13_3 rfl ?_
  show OGo _ _ _ _ T0 (mkF m 4 #[.val (.ref b), .val (.int 2)] [(.int (-2 : Int32))])
  refine og_bipush X0 6 (31 : Int32) d13_4 rfl rfl ?_
  refine og_iushr X0 7 d13_6 rfl ?_
  show OGo _ _ _ _ T0 (mkF m 7 #[.val (.ref b), .val (.int 2)] [(.int 1)])
  refine og_i2b X0 8 d13_7 rfl ?_
  show OGo _ _ _ _ T0 (mkF m 8 #[.val (.ref b), .val (.int 2)] [(.int 1)])
  refine own_retY X0 d13_8 hret rfl (by decide) (by decide) ?_
  exact rfl
theorem ru_inv2 (l : Launch) (Z : State) (a0 : Array Value) (hw : ∀ d ∈ tables_1, d.before a0 Z = true) (n0 : Nat) (h0 : Heap) (hWd : OWorld Z a0) (wc : List Jvm.Cond) (O0 : Old Z n0 h0) (a : Addr) (b : Addr) (y : Value) (z : Int32) (kb : ClassId) (dv : Value) (x0 : Int32) (x1 : Int32) (q0 : Exa Z h0 a "java/lang/String") (q1 : Fld Z h0 a "java/lang/String" "value" "[B" y) (q2 : Fld Z h0 a "java/lang/String" "coder" "B" (.int z)) (q3 : Arv Z h0 b kb .char (2 : Int32) [(.int x0), (.int x1)] dv) (q4 : ¬ x0 < 0) (q5 : ¬ (65535 : Int32) < x0) (q6 : ¬ x1 < 0) (q7 : ¬ (65535 : Int32) < x1) (g0 : n0 ≤ a ∧ a < h0.size) :
    OMet l Z own_EL n0 (⟨"java/lang/String", "<init>", "([CIILjava/lang/Void;)V"⟩ : MethodName) (Jvm.Cond.code (⟨"java/lang/String", "<init>", "([CIILjava/lang/Void;)V"⟩ : MethodName) jdk_42_method_149_code 6 none :: wc) ({ frames := 4, cells := 2, slots := 6, locals := 57 } : Room) #[(.ref a), (.ref b), (.int 0), (.int 2), .null] h0 [a] (fun vq hq => vq = none ∧ OStr Z hq a [x0, x1] hq.size) := by
  refine own_enter #[.val (.ref a), .val (.ref b), .val (.int 0), .val (.int 2), .val .null, .unset] pn_java_lang_String__init____CIILjava_lang_Void__V (ef_ru_inv2 a b y z kb dv x0 x1) hWd.1 O0 (allS g0 all0) ?_
  intro p e s m below meth c T0 X0 hnm hret
  refine og_aloadN X0 1 d2_0 rfl rfl rfl ?_
  refine own_obj0 X0 4 (a := a) d2_1 (ow hw 12 rfl) (ow hw 13 rfl) (ow hw 14 rfl) rfl (W := 0) rfl (by decide) (by decide) rfl ?_
  intro T1 X2
  refine og_iloadN X2 5 d2_4 rfl rfl ?_
  refine og_ifY X2 27 d2_5 (XT.i0_ne_t (by decide)) (by decide) (by decide) ?_
  refine own_getS X2 30 d2_27 (host := "") (Or.inl (ow hw 37 rfl)) Via.refl hWd.2.1.1 rfl ?_
  intro T3 X4
  refine og_ifN X4 33 d2_30 (XT.i0_eq_f hWd.2.1.2) rfl ?_
  refine og_aloadN X4 34 d2_33 rfl rfl rfl ?_
  refine og_iloadN X4 35 d2_34 rfl rfl ?_
  refine og_iloadN X4 36 d2_35 rfl rfl ?_
  by_cases hc5 : (255 : Int32) < x0
  · -- (255 : Int32) < x0
    refine own_stat X4 39 (argsL := [(.ref b), (.int 0), (.int 2)]) (rest := []) d2_36 (ru_cmp2_0 l Z a0 hw n0 h0 hWd [] X4.old b kb dv x0 x1 q3 hc5 q4 q5 q6 q7 ) (ow hw 57 rfl) (ow hw 58 rfl) (ow hw 59 rfl) (ow hw 60 rfl) (by decide) (lenOf pd__28_5bCII_29_5bB rfl) rfl rfl rfl (W := 0) rfl (by decide) (by decide) (by decide) (by decide) all0 rfl ?_
    intro T6 h6 v6 X6 K6 hQ6
    obtain ⟨r6, kr6, rfl, ge_r6, f7⟩ := hQ6
    show OGo _ _ _ _ T6 (mkF m 39 #[.val (.ref a), .val (.ref b), .val (.int 0), .val (.int 2), .val .null, .unset] [(.ref r6)])
    refine og_astore X6 41 #[.val (.ref a), .val (.ref b), .val (.int 0), .val (.int 2), .val .null, .val (.ref r6)] d2_39 rfl rfl rfl ?_
    refine og_aloadN X6 42 d2_41 rfl rfl rfl ?_
    refine og_aload X6 44 d2_42 rfl rfl rfl ?_
    refine og_iloadN X6 45 d2_44 rfl rfl ?_
    refine own_stat X6 48 (argsL := [(.ref r6), (.int 2)]) (rest := [(.ref a)]) d2_45 (ru_cod2_4 l Z a0 hw n0 h6 hWd [] X6.old r6 kr6 [(.int (StrChars.lo8 x0)), (.int (StrChars.hi8 x0)), (.int (StrChars.lo8 x1)), (.int (StrChars.hi8 x1))] (.int 0) f7 ) (ow hw 64 rfl) (ow hw 65 rfl) (ow hw 59 rfl) (ow hw 66 rfl) (by decide) (lenOf pd__28_5bBI_29B rfl) rfl rfl rfl (W := 1) rfl (by decide) (by decide) (by decide) (by decide) all0 rfl ?_
    intro T8 h8 v8 X8 K8 hQ8
    obtain rfl := hQ8
    show OGo _ _ _ _ T8 (mkF m 48 #[.val (.ref a), .val (.ref b), .val (.int 0), .val (.int 2), .val .null, .val (.ref r6)] [(.int 1), (.ref a)])
    have f9 := q2.keep K6 nin0
    have f10 := f9.keep K8 nin0
    have f11 := q0.keep K6
    have f12 := f11.keep K8
    have f13 := q1.keep K6 nin0
    have f14 := f13.keep K8 nin0
    refine own_put X8 51 d2_48 (host := "") (Or.inl (ow hw 22 rfl)) Via.refl f10 f12 (Or.inr ⟨(ow hw 18 rfl), rfl, hnm⟩) (ow hw 3 rfl) (ty := .byte) (by decide) rfl rfl (om 0 rfl) rfl ?_
    intro T15 h15 X15 W15 K15 F15
    have f16 := Fld.other W15 f14 (Or.inr (slot_ne (Or.inr (ow hw 17 rfl)) (Or.inr (ow hw 18 rfl)) (by decide) (t := (.array .byte)) (t' := .byte) (by decide) (by decide)))
    refine og_aloadN X15 52 d2_51 rfl rfl rfl ?_
    refine og_aload X15 54 d2_52 rfl rfl rfl ?_
    have f17 := f12.keep K15
    refine own_put X15 57 d2_54 (host := "") (Or.inl (ow hw 21 rfl)) Via.refl f16 f17 (Or.inr ⟨(ow hw 17 rfl), rfl, hnm⟩) (ow hw 3 rfl) (ty := (.array .byte)) (by decide) rfl rfl (om 0 rfl) rfl ?_
    intro T18 h18 X18 W18 K18 F18
    have f19 := Fld.other W18 F15 (Or.inr (slot_ne (Or.inr (ow hw 18 rfl)) (Or.inr (ow hw 17 rfl)) (by decide) (t := .byte) (t' := (.array .byte)) (by decide) (by decide)))
    have f20 := f17.keep K18
    have f21 := f7.keep K8 nin0
    have f22 := f21.keep K15 (ninS (Nat.ne_of_gt (Nat.lt_of_lt_of_le q0.lt ge_r6)) nin0)
    have f23 := f22.keep K18 (ninS (Nat.ne_of_gt (Nat.lt_of_lt_of_le q0.lt ge_r6)) nin0)
    refine own_retV X18 d2_57 hret (by decide) (by decide) ?_
    exact ⟨rfl, own_mkStrW (cs := [x0, x1]) (n := 2) f20 f19 F18 f23 ⟨x0, List.mem_of_getElem? (i := 0) rfl, hc5⟩ (own_l16 ⟨q4, q5⟩ (own_l16 ⟨q6, q7⟩ (fun _ q => nomatch q))) rfl rfl (Nat.le_of_ble_eq_true rfl)⟩
  · -- not
    by_cases hc24 : (255 : Int32) < x1
    · -- (255 : Int32) < x1
      refine own_stat X4 39 (argsL := [(.ref b), (.int 0), (.int 2)]) (rest := []) d2_36 (ru_cmp2_1 l Z a0 hw n0 h0 hWd [] X4.old b kb dv x0 x1 q3 hc5 hc24 q4 q5 q6 q7 ) (ow hw 57 rfl) (ow hw 58 rfl) (ow hw 59 rfl) (ow hw 60 rfl) (by decide) (lenOf pd__28_5bCII_29_5bB rfl) rfl rfl rfl (W := 0) rfl (by decide) (by decide) (by decide) (by decide) all0 rfl ?_
      intro T25 h25 v25 X25 K25 hQ25
      obtain ⟨r25, kr25, rfl, ge_r25, f26⟩ := hQ25
      show OGo _ _ _ _ T25 (mkF m 39 #[.val (.ref a), .val (.ref b), .val (.int 0), .val (.int 2), .val .null, .unset] [(.ref r25)])
      refine og_astore X25 41 #[.val (.ref a), .val (.ref b), .val (.int 0), .val (.int 2), .val .null, .val (.ref r25)] d2_39 rfl rfl rfl ?_
      refine og_aloadN X25 42 d2_41 rfl rfl rfl ?_
      refine og_aload X25 44 d2_42 rfl rfl rfl ?_
      refine og_iloadN X25 45 d2_44 rfl rfl ?_
      refine own_stat X25 48 (argsL := [(.ref r25), (.int 2)]) (rest := [(.ref a)]) d2_45 (ru_cod2_4 l Z a0 hw n0 h25 hWd [] X25.old r25 kr25 [(.int (StrChars.lo8 x0)), (.int (StrChars.hi8 x0)), (.int (StrChars.lo8 x1)), (.int (StrChars.hi8 x1))] (.int 0) f26 ) (ow hw 64 rfl) (ow hw 65 rfl) (ow hw 59 rfl) (ow hw 66 rfl) (by decide) (lenOf pd__28_5bBI_29B rfl) rfl rfl rfl (W := 1) rfl (by decide) (by decide) (by decide) (by decide) all0 rfl ?_
      intro T27 h27 v27 X27 K27 hQ27
      obtain rfl := hQ27
      show OGo _ _ _ _ T27 (mkF m 48 #[.val (.ref a), .val (.ref b), .val (.int 0), .val (.int 2), .val .null, .val (.ref r25)] [(.int 1), (.ref a)])
      have f28 := q2.keep K25 nin0
      have f29 := f28.keep K27 nin0
      have f30 := q0.keep K25
      have f31 := f30.keep K27
      have f32 := q1.keep K25 nin0
      have f33 := f32.keep K27 nin0
      refine own_put X27 51 d2_48 (host := "") (Or.inl (ow hw 22 rfl)) Via.refl f29 f31 (Or.inr ⟨(ow hw 18 rfl), rfl, hnm⟩) (ow hw 3 rfl) (ty := .byte) (by decide) rfl rfl (om 0 rfl) rfl ?_
      intro T34 h34 X34 W34 K34 F34
      have f35 := Fld.other W34 f33 (Or.inr (slot_ne (Or.inr (ow hw 17 rfl)) (Or.inr (ow hw 18 rfl)) (by decide) (t := (.array .byte)) (t' := .byte) (by decide) (by decide)))
      refine og_aloadN X34 52 d2_51 rfl rfl rfl ?_
      refine og_aload X34 54 d2_52 rfl rfl rfl ?_
      have f36 := f31.keep K34
      refine own_put X34 57 d2_54 (host := "") (Or.inl (ow hw 21 rfl)) Via.refl f35 f36 (Or.inr ⟨(ow hw 17 rfl), rfl, hnm⟩) (ow hw 3 rfl) (ty := (.array .byte)) (by decide) rfl rfl (om 0 rfl) rfl ?_
      intro T37 h37 X37 W37 K37 F37
      have f38 := Fld.other W37 F34 (Or.inr (slot_ne (Or.inr (ow hw 18 rfl)) (Or.inr (ow hw 17 rfl)) (by decide) (t := .byte) (t' := (.array .byte)) (by decide) (by decide)))
      have f39 := f36.keep K37
      have f40 := f26.keep K27 nin0
      have f41 := f40.keep K34 (ninS (Nat.ne_of_gt (Nat.lt_of_lt_of_le q0.lt ge_r25)) nin0)
      have f42 := f41.keep K37 (ninS (Nat.ne_of_gt (Nat.lt_of_lt_of_le q0.lt ge_r25)) nin0)
      refine own_retV X37 d2_57 hret (by decide) (by decide) ?_
      exact ⟨rfl, own_mkStrW (cs := [x0, x1]) (n := 2) f39 f38 F37 f42 ⟨x1, List.mem_of_getElem? (i := 1) rfl, hc24⟩ (own_l16 ⟨q4, q5⟩ (own_l16 ⟨q6, q7⟩ (fun _ q => nomatch q))) rfl rfl (Nat.le_of_ble_eq_true rfl)⟩
    · -- not
      refine own_stat X4 39 (argsL := [(.ref b), (.int 0), (.int 2)]) (rest := []) d2_36 (ru_cmp2_2 l Z a0 hw n0 h0 hWd [] X4.old b kb dv x0 x1 q3 hc5 hc24 q4 q5 q6 q7 ) (ow hw 57 rfl) (ow hw 58 rfl) (ow hw 59 rfl) (ow hw 60 rfl) (by decide) (lenOf pd__28_5bCII_29_5bB rfl) rfl rfl rfl (W := 0) rfl (by decide) (by decide) (by decide) (by decide) all0 rfl ?_
      intro T43 h43 v43 X43 K43 hQ43
      obtain ⟨r43, kr43, rfl, ge_r43, f44⟩ := hQ43
      show OGo _ _ _ _ T43 (mkF m 39 #[.val (.ref a), .val (.ref b), .val (.int 0), .val (.int 2), .val .null, .unset] [(.ref r43)])
      refine og_astore X43 41 #[.val (.ref a), .val (.ref b), .val (.int 0), .val (.int 2), .val .null, .val (.ref r43)] d2_39 rfl rfl rfl ?_
      refine og_aloadN X43 42 d2_41 rfl rfl rfl ?_
      refine og_aload X43 44 d2_42 rfl rfl rfl ?_
      refine og_iloadN X43 45 d2_44 rfl rfl ?_
      refine own_stat X43 48 (argsL := [(.ref r43), (.int 2)]) (rest := [(.ref a)]) d2_45 (ru_cod2_2 l Z a0 hw n0 h43 hWd [] X43.old r43 kr43 [(.int ((x0).toInt8.toInt32)), (.int ((x1).toInt8.toInt32))] (.int 0) f44 ) (ow hw 64 rfl) (ow hw 65 rfl) (ow hw 59 rfl) (ow hw 66 rfl) (by decide) (lenOf pd__28_5bBI_29B rfl) rfl rfl rfl (W := 1) rfl (by decide) (by decide) (by decide) (by decide) all0 rfl ?_
      intro T45 h45 v45 X45 K45 hQ45
      obtain rfl := hQ45
      show OGo _ _ _ _ T45 (mkF m 48 #[.val (.ref a), .val (.ref b), .val (.int 0), .val (.int 2), .val .null, .val (.ref r43)] [(.int 0), (.ref a)])
      have f46 := q2.keep K43 nin0
      have f47 := f46.keep K45 nin0
      have f48 := q0.keep K43
      have f49 := f48.keep K45
      have f50 := q1.keep K43 nin0
      have f51 := f50.keep K45 nin0
      refine own_put X45 51 d2_48 (host := "") (Or.inl (ow hw 22 rfl)) Via.refl f47 f49 (Or.inr ⟨(ow hw 18 rfl), rfl, hnm⟩) (ow hw 3 rfl) (ty := .byte) (by decide) rfl rfl (om 0 rfl) rfl ?_
      intro T52 h52 X52 W52 K52 F52
      have f53 := Fld.other W52 f51 (Or.inr (slot_ne (Or.inr (ow hw 17 rfl)) (Or.inr (ow hw 18 rfl)) (by decide) (t := (.array .byte)) (t' := .byte) (by decide) (by decide)))
      refine og_aloadN X52 52 d2_51 rfl rfl rfl ?_
      refine og_aload X52 54 d2_52 rfl rfl rfl ?_
      have f54 := f49.keep K52
      refine own_put X52 57 d2_54 (host := "") (Or.inl (ow hw 21 rfl)) Via.refl f53 f54 (Or.inr ⟨(ow hw 17 rfl), rfl, hnm⟩) (ow hw 3 rfl) (ty := (.array .byte)) (by decide) rfl rfl (om 0 rfl) rfl ?_
      intro T55 h55 X55 W55 K55 F55
      have f56 := Fld.other W55 F52 (Or.inr (slot_ne (Or.inr (ow hw 18 rfl)) (Or.inr (ow hw 17 rfl)) (by decide) (t := .byte) (t' := (.array .byte)) (by decide) (by decide)))
      have f57 := f54.keep K55
      have f58 := f44.keep K45 nin0
      have f59 := f58.keep K52 (ninS (Nat.ne_of_gt (Nat.lt_of_lt_of_le q0.lt ge_r43)) nin0)
      have f60 := f59.keep K55 (ninS (Nat.ne_of_gt (Nat.lt_of_lt_of_le q0.lt ge_r43)) nin0)
      refine own_retV X55 d2_57 hret (by decide) (by decide) ?_
      exact ⟨rfl, own_mkStr (cs := [x0, x1]) (bs := [x0.toInt8.toInt32, x1.toInt8.toInt32]) (n := 2) f57 f56 F55 f60 rfl (own_lS ⟨q4, hc5⟩ (own_lS ⟨q6, hc24⟩ own_l0)) rfl rfl (Nat.le_of_ble_eq_true rfl)⟩
theorem ru_ini2 (l : Launch) (Z : State) (a0 : Array Value) (hw : ∀ d ∈ tables_1, d.before a0 Z = true) (n0 : Nat) (h0 : Heap) (hWd : OWorld Z a0) (wc : List Jvm.Cond) (O0 : Old Z n0 h0) (a : Addr) (b : Addr) (y : Value) (z : Int32) (kb : ClassId) (dv : Value) (x0 : Int32) (x1 : Int32) (q0 : Exa Z h0 a "java/lang/String") (q1 : Fld Z h0 a "java/lang/String" "value" "[B" y) (q2 : Fld Z h0 a "java/lang/String" "coder" "B" (.int z)) (q3 : Arv Z h0 b kb .char (2 : Int32) [(.int x0), (.int x1)] dv) (q4 : ¬ x0 < 0) (q5 : ¬ (65535 : Int32) < x0) (q6 : ¬ x1 < 0) (q7 : ¬ (65535 : Int32) < x1) (g0 : n0 ≤ a ∧ a < h0.size) :
    OMet l Z own_EL n0 (⟨"java/lang/String", "<init>", "([C)V"⟩ : MethodName) (Jvm.Cond.code (⟨"java/lang/String", "<init>", "([C)V"⟩ : MethodName) jdk_42_method_3_code 2 none :: wc) ({ frames := 5, cells := 2, slots := 6, locals := 74 } : Room) #[(.ref a), (.ref b)] h0 [a] (fun vq hq => vq = none ∧ OStr Z hq a [x0, x1] hq.size) := by
  refine own_enter #[.val (.ref a), .val (.ref b)] pn_java_lang_String__init____C_V (ef_ru_ini2 a b y z kb dv x0 x1) hWd.1 O0 (allS g0 all0) ?_
  intro p e s m below meth c T0 X0 hnm hret
  refine og_aloadN X0 1 d1_0 rfl rfl rfl ?_
  refine og_aloadN X0 2 d1_1 rfl rfl rfl ?_
  refine og_iconst X0 3 (0 : Int32) d1_2 rfl rfl ?_
  refine og_aloadN X0 4 d1_3 rfl rfl rfl ?_
  refine own_len X0 5 d1_4 q3 rfl ?_
  refine og_aconstNull X0 6 d1_5 rfl ?_
  refine own_spec X0 9 (a := a) (argsL := [(.ref b), (.int 0), (.int 2), .null]) (rest := []) d1_6 rfl (ru_inv2 l Z a0 hw n0 h0 hWd [] X0.old a b y z kb dv x0 x1 q0 q1 q2 q3 q4 q5 q6 q7 (own_svb X0 (om 0 rfl))) (ow hw 8 rfl) (ow hw 9 rfl) (ow hw 4 rfl) (ow hw 11 rfl) (by decide) (lenOf pd__28_5bCIILjava_2flang_2fVoid_3b_29V rfl) rfl rfl rfl (W := 0) rfl (by decide) (by decide) (by decide) (by decide) (allS (om 0 rfl) all0) rfl ?_
  intro T1 h1 v1 X1 K1 hQ1
  obtain ⟨rfl, f2⟩ := hQ1
  show OGo _ _ _ _ T1 (mkF m 9 #[.val (.ref a), .val (.ref b)] [])
  refine own_retV X1 d1_9 hret (by decide) (by decide) ?_
  exact ⟨rfl, f2.top⟩
theorem ru_nbl3 (l : Launch) (Z : State) (a0 : Array Value) (hw : ∀ d ∈ tables_1, d.before a0 Z = true) (n0 : Nat) (h0 : Heap) (hWd : OWorld Z a0) (wc : List Jvm.Cond) (O0 : Old Z n0 h0)   :
    OMet l Z own_EL n0 (⟨"java/lang/StringUTF16", "newBytesLength", "(I)I"⟩ : MethodName) (Jvm.Cond.code (⟨"java/lang/StringUTF16", "newBytesLength", "(I)I"⟩ : MethodName) jdk_52_method_3_code 1 (some .int) :: wc) ({ frames := 0, cells := 0, slots := 0, locals := 0 } : Room) #[(.int 3)] h0 [] (fun vq hq => vq = some (.int 6)) := by
  refine own_enter #[.val (.int 3)] pn_java_lang_StringUTF16_newBytesLength__I_I (ef_ru_nbl3) hWd.1 O0 all0 ?_
  intro p e s m below meth c T0 X0 hnm hret
  refine og_iloadN X0 1 d22_0 rfl rfl ?_
  refine og_ifY X0 12 d22_1 (XT.i0_ge_t (by decide)) (by decide) (by decide) ?_
  refine og_iloadN X0 13 d22_12 rfl rfl ?_
  refine own_ldcI X0 15 (v := (1073741823 : Int32)) d22_13 (ow hw 99 rfl) rfl ?_
  refine og_icmpY X0 55 d22_15 (XT.ii_lt_t (by decide)) (by decide) (by decide) ?_
  refine og_iloadN X0 56 d22_55 rfl rfl ?_
  refine og_iconst X0 57 (1 : Int32) d22_56 rfl rfl ?_
  refine og_ishl X0 58 d22_57 rfl ?_
  show OGo _ _ _ _ T0 (mkF m 58 #[.val (.int 3)] [(.int 6)])
  refine own_retI X0 d22_58 hret (by decide) (by decide) ?_
  exact rfl
theorem ru_nbf3 (l : Launch) (Z : State) (a0 : Array Value) (hw : ∀ d ∈ tables_1, d.before a0 Z = true) (n0 : Nat) (h0 : Heap) (hWd : OWorld Z a0) (wc : List Jvm.Cond) (O0 : Old Z n0 h0)   :
    OMet l Z own_EL n0 (⟨"java/lang/StringUTF16", "newBytesFor", "(I)[B"⟩ : MethodName) (Jvm.Cond.code (⟨"java/lang/StringUTF16", "newBytesFor", "(I)[B"⟩ : MethodName) jdk_52_method_2_code 1 (some (.array .byte)) :: wc) ({ frames := 1, cells := 1, slots := 6, locals := 12 } : Room) #[(.int 3)] h0 [] (fun vq hq => ∃ (r : Addr) (kb : ClassId), vq = some (.ref r) ∧ h0.size ≤ r ∧ Arv Z hq r kb .byte (6 : Int32) [(.int 0), (.int 0), (.int 0), (.int 0), (.int 0), (.int 0)] (.int 0)) := by
  refine own_enter #[.val (.int 3)] pn_java_lang_StringUTF16_newBytesFor__I__B (ef_ru_nbf3) hWd.1 O0 all0 ?_
  intro p e s m below meth c T0 X0 hnm hret
  refine og_iloadN X0 1 d21_0 rfl rfl ?_
  refine own_stat X0 4 (argsL := [(.int 3)]) (rest := []) d21_1 (ru_nbl3 l Z a0 hw n0 h0 hWd [] X0.old   ) (ow hw 96 rfl) (ow hw 97 rfl) (ow hw 59 rfl) (ow hw 98 rfl) (by decide) (lenOf pd__28I_29I rfl) rfl rfl rfl (W := 0) rfl (by decide) (by decide) (by decide) (by decide) all0 rfl ?_
  intro T1 h1 v1 X1 K1 hQ1
  obtain rfl := hQ1
  show OGo _ _ _ _ T1 (mkF m 4 #[.val (.int 3)] [(.int 6)])
  refine own_arr X1 6 d21_4 (ow hw 16 rfl) (by decide) (cap := 6) (by decide) (by decide) (by decide) (by decide) rfl ?_
  intro T2 h2 b2 kb2 X2 K2 G2 U2 A2
  have f3 : Arv Z h2 b2 kb2 .byte (6 : Int32) [(.int 0), (.int 0), (.int 0), (.int 0), (.int 0), (.int 0)] (.int 0) := A2
  refine own_retA X2 d21_6 hret rfl rfl (by decide) (by decide) ?_
  exact ⟨b2, kb2, rfl, (Nat.le_trans K1.1 G2), f3⟩
theorem ru_put3_0 (l : Launch) (Z : State) (a0 : Array Value) (hw : ∀ d ∈ tables_1, d.before a0 Z = true) (n0 : Nat) (h0 : Heap) (hWd : OWorld Z a0) (wc : List Jvm.Cond) (O0 : Old Z n0 h0) (b : Addr) (kb : ClassId) (x : Int32) (dv : Value) (e0 : Value) (e1 : Value) (e2 : Value) (e3 : Value) (e4 : Value) (e5 : Value) (q0 : Arv Z h0 b kb .byte (6 : Int32) [e0, e1, e2, e3, e4, e5] dv) (g0 : n0 ≤ b ∧ b < h0.size) :
    OMet l Z own_EL n0 (⟨"java/lang/StringUTF16", "putChar", "([BII)V"⟩ : MethodName) (Jvm.Cond.code (⟨"java/lang/StringUTF16", "putChar", "([BII)V"⟩ : MethodName) jdk_52_method_4_code 3 none :: wc) ({ frames := 0, cells := 0, slots := 0, locals := 0 } : Room) #[(.ref b), (.int 0), (.int x)] h0 [b] (fun vq hq => vq = none ∧ Arv Z hq b kb .byte (6 : Int32) [(.int (StrChars.lo8 x)), (.int (StrChars.hi8 x)), e2, e3, e4, e5] dv) := by
  refine own_enter #[.val (.ref b), .val (.int 0), .val (.int x)] pn_java_lang_StringUTF16_putChar___BII_V (ef_ru_put3_0 b kb x dv e0 e1 e2 e3 e4 e5) hWd.1 O0 (allS g0 all0) ?_
  intro p e s m below meth c T0 X0 hnm hret
  refine own_getS X0 3 d23_0 (host := "") (Or.inl (ow hw 103 rfl)) Via.refl hWd.2.2.2.1 rfl ?_
  intro T1 X2
  refine og_ifY X2 28 d23_3 (XT.i0_ne_t (by decide)) (by decide) (by decide) ?_
  refine og_iloadN X2 29 d23_28 rfl rfl ?_
  refine og_iconst X2 30 (1 : Int32) d23_29 rfl rfl ?_
  refine og_ishl X2 31 d23_30 rfl ?_
  show OGo _ _ _ _ T1 (mkF m 31 #[.val (.ref b), .val (.int 0), .val (.int x)] [(.int 0)])
  refine og_istoreN X2 32 #[.val (.ref b), .val (.int 0), .val (.int x)] d23_31 rfl rfl ?_
  refine og_aloadN X2 33 d23_32 rfl rfl rfl ?_
  refine og_iloadN X2 34 d23_33 rfl rfl ?_
  refine og_iinc X2 37 #[.val (.ref b), .val (.int 1), .val (.int x)] d23_34 rfl rfl rfl ?_
  refine og_iloadN X2 38 d23_37 rfl rfl ?_
  refine own_getS X2 41 d23_38 (host := "") (Or.inl (ow hw 104 rfl)) Via.refl hWd.2.2.2.2.1 rfl ?_
  intro T3 X4
  refine og_ishr X4 42 d23_41 rfl ?_
  refine og_i2b X4 43 d23_42 rfl ?_
  refine own_stB X4 44 d23_43 q0 (own_nbb _) (by decide) (by decide) (i := 0) (by decide) (Nat.le_of_ble_eq_true rfl) (om 0 rfl) rfl ?_
  intro T5 h5 X5 W5 K5 A5
  have f6 : Arv Z h5 b kb .byte (6 : Int32) [(.int (((x >>> ((0 : Int32) &&& 31))).toInt8.toInt32)), e1, e2, e3, e4, e5] dv := A5
  refine og_aloadN X5 45 d23_44 rfl rfl rfl ?_
  refine og_iloadN X5 46 d23_45 rfl rfl ?_
  refine og_iloadN X5 47 d23_46 rfl rfl ?_
  refine own_getS X5 50 d23_47 (host := "") (Or.inl (ow hw 105 rfl)) Via.refl hWd.2.2.2.2.2 rfl ?_
  intro T7 X8
  refine og_ishr X8 51 d23_50 rfl ?_
  refine og_i2b X8 52 d23_51 rfl ?_
  refine own_stB X8 53 d23_52 f6 (own_nbb _) (by decide) (by decide) (i := 1) (by decide) (Nat.le_of_ble_eq_true rfl) (om 0 rfl) rfl ?_
  intro T9 h9 X9 W9 K9 A9
  have f10 : Arv Z h9 b kb .byte (6 : Int32) [(.int (((x >>> ((0 : Int32) &&& 31))).toInt8.toInt32)), (.int (((x >>> ((8 : Int32) &&& 31))).toInt8.toInt32)), e2, e3, e4, e5] dv := A9
  refine own_retV X9 d23_53 hret (by decide) (by decide) ?_
  exact ⟨rfl, by have q := f10; rw [StrChars.shr0] at q; exact q⟩
theorem ru_put3_1 (l : Launch) (Z : State) (a0 : Array Value) (hw : ∀ d ∈ tables_1, d.before a0 Z = true) (n0 : Nat) (h0 : Heap) (hWd : OWorld Z a0) (wc : List Jvm.Cond) (O0 : Old Z n0 h0) (b : Addr) (kb : ClassId) (x : Int32) (dv : Value) (e0 : Value) (e1 : Value) (e2 : Value) (e3 : Value) (e4 : Value) (e5 : Value) (q0 : Arv Z h0 b kb .byte (6 : Int32) [e0, e1, e2, e3, e4, e5] dv) (g0 : n0 ≤ b ∧ b < h0.size) :
    OMet l Z own_EL n0 (⟨"java/lang/StringUTF16", "putChar", "([BII)V"⟩ : MethodName) (Jvm.Cond.code (⟨"java/lang/StringUTF16", "putChar", "([BII)V"⟩ : MethodName) jdk_52_method_4_code 3 none :: wc) ({ frames := 0, cells := 0, slots := 0, locals := 0 } : Room) #[(.ref b), (.int 1), (.int x)] h0 [b] (fun vq hq => vq = none ∧ Arv Z hq b kb .byte (6 : Int32) [e0, e1, (.int (StrChars.lo8 x)), (.int (StrChars.hi8 x)), e4, e5] dv) := by
  refine own_enter #[.val (.ref b), .val (.int 1), .val (.int x)] pn_java_lang_StringUTF16_putChar___BII_V (ef_ru_put3_1 b kb x dv e0 e1 e2 e3 e4 e5) hWd.1 O0 (allS g0 all0) ?_
  intro p e s m below meth c T0 X0 hnm hret
  refine own_getS X0 3 d23_0 (host := "") (Or.inl (ow hw 103 rfl)) Via.refl hWd.2.2.2.1 rfl ?_
  intro T1 X2
  refine og_ifY X2 28 d23_3 (XT.i0_ne_t (by decide)) (by decide) (by decide) ?_
  refine og_iloadN X2 29 d23_28 rfl rfl ?_
  refine og_iconst X2 30 (1 : Int32) d23_29 rfl rfl ?_
  refine og_ishl X2 31 d23_30 rfl ?_
  show OGo _ _ _ _ T1 (mkF m 31 #[.val (.ref b), .val (.int 1), .val (.int x)] [(.int 2)])
  refine og_istoreN X2 32 #[.val (.ref b), .val (.int 2), .val (.int x)] d23_31 rfl rfl ?_
  refine og_aloadN X2 33 d23_32 rfl rfl rfl ?_
  refine og_iloadN X2 34 d23_33 rfl rfl ?_
  refine og_iinc X2 37 #[.val (.ref b), .val (.int 3), .val (.int x)] d23_34 rfl rfl rfl ?_
  refine og_iloadN X2 38 d23_37 rfl rfl ?_
  refine own_getS X2 41 d23_38 (host := "") (Or.inl (ow hw 104 rfl)) Via.refl hWd.2.2.2.2.1 rfl ?_
  intro T3 X4
  refine og_ishr X4 42 d23_41 rfl ?_
  refine og_i2b X4 43 d23_42 rfl ?_
  refine own_stB X4 44 d23_43 q0 (own_nbb _) (by decide) (by decide) (i := 2) (by decide) (Nat.le_of_ble_eq_true rfl) (om 0 rfl) rfl ?_
  intro T5 h5 X5 W5 K5 A5
  have f6 : Arv Z h5 b kb .byte (6 : Int32) [e0, e1, (.int (((x >>> ((0 : Int32) &&& 31))).toInt8.toInt32)), e3, e4, e5] dv := A5
  refine og_aloadN X5 45 d23_44 rfl rfl rfl ?_
  refine og_iloadN X5 46 d23_45 rfl rfl ?_
  refine og_iloadN X5 47 d23_46 rfl rfl ?_
  refine own_getS X5 50 d23_47 (host := "") (Or.inl (ow hw 105 rfl)) Via.refl hWd.2.2.2.2.2 rfl ?_
  intro T7 X8
  refine og_ishr X8 51 d23_50 rfl ?_
  refine og_i2b X8 52 d23_51 rfl ?_
  refine own_stB X8 53 d23_52 f6 (own_nbb _) (by decide) (by decide) (i := 3) (by decide) (Nat.le_of_ble_eq_true rfl) (om 0 rfl) rfl ?_
  intro T9 h9 X9 W9 K9 A9
  have f10 : Arv Z h9 b kb .byte (6 : Int32) [e0, e1, (.int (((x >>> ((0 : Int32) &&& 31))).toInt8.toInt32)), (.int (((x >>> ((8 : Int32) &&& 31))).toInt8.toInt32)), e4, e5] dv := A9
  refine own_retV X9 d23_53 hret (by decide) (by decide) ?_
  exact ⟨rfl, by have q := f10; rw [StrChars.shr0] at q; exact q⟩
theorem ru_put3_2 (l : Launch) (Z : State) (a0 : Array Value) (hw : ∀ d ∈ tables_1, d.before a0 Z = true) (n0 : Nat) (h0 : Heap) (hWd : OWorld Z a0) (wc : List Jvm.Cond) (O0 : Old Z n0 h0) (b : Addr) (kb : ClassId) (x : Int32) (dv : Value) (e0 : Value) (e1 : Value) (e2 : Value) (e3 : Value) (e4 : Value) (e5 : Value) (q0 : Arv Z h0 b kb .byte (6 : Int32) [e0, e1, e2, e3, e4, e5] dv) (g0 : n0 ≤ b ∧ b < h0.size) :
    OMet l Z own_EL n0 (⟨"java/lang/StringUTF16", "putChar", "([BII)V"⟩ : MethodName) (Jvm.Cond.code (⟨"java/lang/StringUTF16", "putChar", "([BII)V"⟩ : MethodName) jdk_52_method_4_code 3 none :: wc) ({ frames := 0, cells := 0, slots := 0, locals := 0 } : Room) #[(.ref b), (.int 2), (.int x)] h0 [b] (fun vq hq => vq = none ∧ Arv Z hq b kb .byte (6 : Int32) [e0, e1, e2, e3, (.int (StrChars.lo8 x)), (.int (StrChars.hi8 x))] dv) := by
  refine own_enter #[.val (.ref b), .val (.int 2), .val (.int x)] pn_java_lang_StringUTF16_putChar___BII_V (ef_ru_put3_2 b kb x dv e0 e1 e2 e3 e4 e5) hWd.1 O0 (allS g0 all0) ?_
  intro p e s m below meth c T0 X0 hnm hret
  refine own_getS X0 3 d23_0 (host := "") (Or.inl (ow hw 103 rfl)) Via.refl hWd.2.2.2.1 rfl ?_
  intro T1 X2
  refine og_ifY X2 28 d23_3 (XT.i0_ne_t (by decide)) (by decide) (by decide) ?_
  refine og_iloadN X2 29 d23_28 rfl rfl ?_
  refine og_iconst X2 30 (1 : Int32) d23_29 rfl rfl ?_
  refine og_ishl X2 31 d23_30 rfl ?_
  show OGo _ _ _ _ T1 (mkF m 31 #[.val (.ref b), .val (.int 2), .val (.int x)] [(.int 4)])
  refine og_istoreN X2 32 #[.val (.ref b), .val (.int 4), .val (.int x)] d23_31 rfl rfl ?_
  refine og_aloadN X2 33 d23_32 rfl rfl rfl ?_
  refine og_iloadN X2 34 d23_33 rfl rfl ?_
  refine og_iinc X2 37 #[.val (.ref b), .val (.int 5), .val (.int x)] d23_34 rfl rfl rfl ?_
  refine og_iloadN X2 38 d23_37 rfl rfl ?_
  refine own_getS X2 41 d23_38 (host := "") (Or.inl (ow hw 104 rfl)) Via.refl hWd.2.2.2.2.1 rfl ?_
  intro T3 X4
  refine og_ishr X4 42 d23_41 rfl ?_
  refine og_i2b X4 43 d23_42 rfl ?_
  refine own_stB X4 44 d23_43 q0 (own_nbb _) (by decide) (by decide) (i := 4) (by decide) (Nat.le_of_ble_eq_true rfl) (om 0 rfl) rfl ?_
  intro T5 h5 X5 W5 K5 A5
  have f6 : Arv Z h5 b kb .byte (6 : Int32) [e0, e1, e2, e3, (.int (((x >>> ((0 : Int32) &&& 31))).toInt8.toInt32)), e5] dv := A5
  refine og_aloadN X5 45 d23_44 rfl rfl rfl ?_
  refine og_iloadN X5 46 d23_45 rfl rfl ?_
  refine og_iloadN X5 47 d23_46 rfl rfl ?_
  refine own_getS X5 50 d23_47 (host := "") (Or.inl (ow hw 105 rfl)) Via.refl hWd.2.2.2.2.2 rfl ?_
  intro T7 X8
  refine og_ishr X8 51 d23_50 rfl ?_
  refine og_i2b X8 52 d23_51 rfl ?_
  refine own_stB X8 53 d23_52 f6 (own_nbb _) (by decide) (by decide) (i := 5) (by decide) (Nat.le_of_ble_eq_true rfl) (om 0 rfl) rfl ?_
  intro T9 h9 X9 W9 K9 A9
  have f10 : Arv Z h9 b kb .byte (6 : Int32) [e0, e1, e2, e3, (.int (((x >>> ((0 : Int32) &&& 31))).toInt8.toInt32)), (.int (((x >>> ((8 : Int32) &&& 31))).toInt8.toInt32))] dv := A9
  refine own_retV X9 d23_53 hret (by decide) (by decide) ?_
  exact ⟨rfl, by have q := f10; rw [StrChars.shr0] at q; exact q⟩
theorem ru_tob3 (l : Launch) (Z : State) (a0 : Array Value) (hw : ∀ d ∈ tables_1, d.before a0 Z = true) (n0 : Nat) (h0 : Heap) (hWd : OWorld Z a0) (wc : List Jvm.Cond) (O0 : Old Z n0 h0) (b : Addr) (kb : ClassId) (dv : Value) (x0 : Int32) (x1 : Int32) (x2 : Int32) (q0 : Arv Z h0 b kb .char (3 : Int32) [(.int x0), (.int x1), (.int x2)] dv) :
    OMet l Z own_EL n0 (⟨"java/lang/StringUTF16", "toBytes", "([CII)[B"⟩ : MethodName) (Jvm.Cond.code (⟨"java/lang/StringUTF16", "toBytes", "([CII)[B"⟩ : MethodName) jdk_52_method_14_code 5 (some (.array .byte)) :: wc) ({ frames := 2, cells := 1, slots := 6, locals := 24 } : Room) #[(.ref b), (.int 0), (.int 3)] h0 [] (fun vq hq => ∃ (r : Addr) (kr : ClassId), vq = some (.ref r) ∧ h0.size ≤ r ∧ Arv Z hq r kr .byte (6 : Int32) [(.int (StrChars.lo8 x0)), (.int (StrChars.hi8 x0)), (.int (StrChars.lo8 x1)), (.int (StrChars.hi8 x1)), (.int (StrChars.lo8 x2)), (.int (StrChars.hi8 x2))] (.int 0)) := by
  refine own_enter #[.val (.ref b), .val (.int 0), .val (.int 3), .unset, .unset] pn_java_lang_StringUTF16_toBytes___CII__B (ef_ru_tob3 b kb dv x0 x1 x2) hWd.1 O0 all0 ?_
  intro p e s m below meth c T0 X0 hnm hret
  refine og_iloadN X0 1 d20_0 rfl rfl ?_
  refine own_stat X0 4 (argsL := [(.int 3)]) (rest := []) d20_1 (ru_nbf3 l Z a0 hw n0 h0 hWd [] X0.old   ) (ow hw 93 rfl) (ow hw 94 rfl) (ow hw 59 rfl) (ow hw 95 rfl) (by decide) (lenOf pd__28I_29_5bB rfl) rfl rfl rfl (W := 0) rfl (by decide) (by decide) (by decide) (by decide) all0 rfl ?_
  intro T1 h1 v1 X1 K1 hQ1
  obtain ⟨r1, kb1, rfl, ge_r1, f2⟩ := hQ1
  show OGo _ _ _ _ T1 (mkF m 4 #[.val (.ref b), .val (.int 0), .val (.int 3), .unset, .unset] [(.ref r1)])
  refine og_astoreN X1 5 #[.val (.ref b), .val (.int 0), .val (.int 3), .val (.ref r1), .unset] d20_4 rfl rfl rfl ?_
  refine og_iconst X1 6 (0 : Int32) d20_5 rfl rfl ?_
  refine og_istore X1 8 #[.val (.ref b), .val (.int 0), .val (.int 3), .val (.ref r1), .val (.int 0)] d20_6 rfl rfl ?_
  refine og_iload X1 10 d20_8 rfl rfl ?_
  refine og_iloadN X1 11 d20_10 rfl rfl ?_
  refine og_icmpN X1 14 d20_11 (XT.ii_ge_f (by decide)) rfl ?_
  refine og_aloadN X1 15 d20_14 rfl rfl rfl ?_
  refine og_iload X1 17 d20_15 rfl rfl ?_
  refine og_aloadN X1 18 d20_17 rfl rfl rfl ?_
  refine og_iloadN X1 19 d20_18 rfl rfl ?_
  have f3 := q0.keep K1 nin0
  refine own_ldC X1 20 d20_19 f3 (by decide) (by decide) rfl rfl ?_
  have X4 := own_svB X1 f2 (own_tx6 hw) (Nat.le_trans (own_n0 X0) ge_r1) ge_r1
  refine own_stat X4 23 (argsL := [(.ref r1), (.int 0), (.int x0)]) (rest := []) d20_20 (ru_put3_0 l Z a0 hw n0 h1 hWd [] X4.old r1 kb1 x0 (.int 0) (.int 0) (.int 0) (.int 0) (.int 0) (.int 0) (.int 0) f2 (own_svb X4 (om 0 rfl))) (ow hw 100 rfl) (ow hw 101 rfl) (ow hw 59 rfl) (ow hw 102 rfl) (by decide) (lenOf pd__28_5bBII_29V rfl) rfl rfl rfl (W := 0) rfl (by decide) (by decide) (by decide) (by decide) (allS (om 0 rfl) all0) rfl ?_
  intro T5 h5 v5 X5 K5 hQ5
  obtain ⟨rfl, f6⟩ := hQ5
  show OGo _ _ _ _ T5 (mkF m 23 #[.val (.ref b), .val (.int 0), .val (.int 3), .val (.ref r1), .val (.int 0)] [])
  refine og_iinc X5 26 #[.val (.ref b), .val (.int 1), .val (.int 3), .val (.ref r1), .val (.int 0)] d20_23 rfl rfl rfl ?_
  refine og_iinc X5 29 #[.val (.ref b), .val (.int 1), .val (.int 3), .val (.ref r1), .val (.int 1)] d20_26 rfl rfl rfl ?_
  refine og_goto X5 8 d20_29 (by decide) (by decide) ?_
  refine og_iload X5 10 d20_8 rfl rfl ?_
  refine og_iloadN X5 11 d20_10 rfl rfl ?_
  refine og_icmpN X5 14 d20_11 (XT.ii_ge_f (by decide)) rfl ?_
  refine og_aloadN X5 15 d20_14 rfl rfl rfl ?_
  refine og_iload X5 17 d20_15 rfl rfl ?_
  refine og_aloadN X5 18 d20_17 rfl rfl rfl ?_
  refine og_iloadN X5 19 d20_18 rfl rfl ?_
  have f7 := f3.keep K5 (ninS (Nat.ne_of_lt (Nat.lt_of_lt_of_le q0.lt ge_r1)) nin0)
  refine own_ldC X5 20 d20_19 f7 (by decide) (by decide) rfl rfl ?_
  refine own_stat X5 23 (argsL := [(.ref r1), (.int 1), (.int x1)]) (rest := []) d20_20 (ru_put3_1 l Z a0 hw n0 h5 hWd [] X5.old r1 kb1 x1 (.int 0) (.int (StrChars.lo8 x0)) (.int (StrChars.hi8 x0)) (.int 0) (.int 0) (.int 0) (.int 0) f6 (own_svb X5 (om 0 rfl))) (ow hw 100 rfl) (ow hw 101 rfl) (ow hw 59 rfl) (ow hw 102 rfl) (by decide) (lenOf pd__28_5bBII_29V rfl) rfl rfl rfl (W := 0) rfl (by decide) (by decide) (by decide) (by decide) (allS (om 0 rfl) all0) rfl ?_
  intro T8 h8 v8 X8 K8 hQ8
  obtain ⟨rfl, f9⟩ := hQ8
  show OGo _ _ _ _ T8 (mkF m 23 #[.val (.ref b), .val (.int 1), .val (.int 3), .val (.ref r1), .val (.int 1)] [])
  refine og_iinc X8 26 #[.val (.ref b), .val (.int 2), .val (.int 3), .val (.ref r1), .val (.int 1)] d20_23 rfl rfl rfl ?_
  refine og_iinc X8 29 #[.val (.ref b), .val (.int 2), .val (.int 3), .val (.ref r1), .val (.int 2)] d20_26 rfl rfl rfl ?_
  refine og_goto X8 8 d20_29 (by decide) (by decide) ?_
  refine og_iload X8 10 d20_8 rfl rfl ?_
  refine og_iloadN X8 11 d20_10 rfl rfl ?_
  refine og_icmpN X8 14 d20_11 (XT.ii_ge_f (by decide)) rfl ?_
  refine og_aloadN X8 15 d20_14 rfl rfl rfl ?_
  refine og_iload X8 17 d20_15 rfl rfl ?_
  refine og_aloadN X8 18 d20_17 rfl rfl rfl ?_
  refine og_iloadN X8 19 d20_18 rfl rfl ?_
  have f10 := f7.keep K8 (ninS (Nat.ne_of_lt (Nat.lt_of_lt_of_le q0.lt ge_r1)) nin0)
  refine own_ldC X8 20 d20_19 f10 (by decide) (by decide) rfl rfl ?_
  refine own_stat X8 23 (argsL := [(.ref r1), (.int 2), (.int x2)]) (rest := []) d20_20 (ru_put3_2 l Z a0 hw n0 h8 hWd [] X8.old r1 kb1 x2 (.int 0) (.int (StrChars.lo8 x0)) (.int (StrChars.hi8 x0)) (.int (StrChars.lo8 x1)) (.int (StrChars.hi8 x1)) (.int 0) (.int 0) f9 (own_svb X8 (om 0 rfl))) (ow hw 100 rfl) (ow hw 101 rfl) (ow hw 59 rfl) (ow hw 102 rfl) (by decide) (lenOf pd__28_5bBII_29V rfl) rfl rfl rfl (W := 0) rfl (by decide) (by decide) (by decide) (by decide) (allS (om 0 rfl) all0) rfl ?_
  intro T11 h11 v11 X11 K11 hQ11
  obtain ⟨rfl, f12⟩ := hQ11
  show OGo _ _ _ _ T11 (mkF m 23 #[.val (.ref b), .val (.int 2), .val (.int 3), .val (.ref r1), .val (.int 2)] [])
  refine og_iinc X11 26 #[.val (.ref b), .val (.int 3), .val (.int 3), .val (.ref r1), .val (.int 2)] d20_23 rfl rfl rfl ?_
  refine og_iinc X11 29 #[.val (.ref b), .val (.int 3), .val (.int 3), .val (.ref r1), .val (.int 3)] d20_26 rfl rfl rfl ?_
  refine og_goto X11 8 d20_29 (by decide) (by decide) ?_
  refine og_iload X11 10 d20_8 rfl rfl ?_
  refine og_iloadN X11 11 d20_10 rfl rfl ?_
  refine og_icmpY X11 32 d20_11 (XT.ii_ge_t (by decide)) (by decide) (by decide) ?_
  refine og_aloadN X11 33 d20_32 rfl rfl rfl ?_
  refine own_retA X11 d20_33 hret rfl rfl (by decide) (by decide) ?_
  exact ⟨r1, kb1, rfl, ge_r1, f12⟩
theorem ru_cmi3_0 (l : Launch) (Z : State) (a0 : Array Value) (hw : ∀ d ∈ tables_1, d.before a0 Z = true) (n0 : Nat) (h0 : Heap) (hWd : OWorld Z a0) (wc : List Jvm.Cond) (O0 : Old Z n0 h0) (b : Addr) (kb : ClassId) (dv : Value) (d : Addr) (kd : ClassId) (x0 : Int32) (x1 : Int32) (x2 : Int32) (q0 : Arv Z h0 b kb .char (3 : Int32) [(.int x0), (.int x1), (.int x2)] dv) (q1 : Arv Z h0 d kd .byte (3 : Int32) [(.int 0), (.int 0), (.int 0)] (.int 0)) (q2 : (255 : Int32) < x0) (q3 : b ≠ d) (g0 : n0 ≤ d ∧ d < h0.size) :
    OMet l Z own_EL n0 (⟨"java/lang/StringUTF16", "compress", "([CI[BII)I"⟩ : MethodName) (Jvm.Cond.code (⟨"java/lang/StringUTF16", "compress", "([CI[BII)I"⟩ : MethodName) jdk_52_method_21_code 7 (some .int) :: wc) ({ frames := 0, cells := 0, slots := 0, locals := 0 } : Room) #[(.ref b), (.int 0), (.ref d), (.int 0), (.int 3)] h0 [d] (fun vq hq => vq = some (.int 0)) := by
  refine own_enter #[.val (.ref b), .val (.int 0), .val (.ref d), .val (.int 0), .val (.int 3), .unset, .unset] pn_java_lang_StringUTF16_compress___CI_BII_I (ef_ru_cmi3_0 b kb dv d kd x0 x1 x2) hWd.1 O0 (allS g0 all0) ?_
  intro p e s m below meth c T0 X0 hnm hret
  refine og_iconst X0 1 (0 : Int32) d12_0 rfl rfl ?_
  refine og_istore X0 3 #[.val (.ref b), .val (.int 0), .val (.ref d), .val (.int 0), .val (.int 3), .val (.int 0), .unset] d12_1 rfl rfl ?_
  refine og_iload X0 5 d12_3 rfl rfl ?_
  refine og_iload X0 7 d12_5 rfl rfl ?_
  refine og_icmpN X0 10 d12_7 (XT.ii_ge_f (by decide)) rfl ?_
  refine og_aloadN X0 11 d12_10 rfl rfl rfl ?_
  refine og_iloadN X0 12 d12_11 rfl rfl ?_
  refine own_ldC X0 13 d12_12 q0 (by decide) (by decide) rfl rfl ?_
  refine og_istore X0 15 #[.val (.ref b), .val (.int 0), .val (.ref d), .val (.int 0), .val (.int 3), .val (.int 0), .val (.int x0)] d12_13 rfl rfl ?_
  refine og_iload X0 17 d12_15 rfl rfl ?_
  refine og_sipush X0 20 (255 : Int32) d12_17 rfl rfl ?_
  refine og_icmpN X0 23 d12_20 (XT.ii_le_f q2) rfl ?_
  refine og_iload X0 25 d12_23 rfl rfl ?_
  refine own_retI X0 d12_25 hret (by decide) (by decide) ?_
  exact rfl
theorem ru_cmp3_0 (l : Launch) (Z : State) (a0 : Array Value) (hw : ∀ d ∈ tables_1, d.before a0 Z = true) (n0 : Nat) (h0 : Heap) (hWd : OWorld Z a0) (wc : List Jvm.Cond) (O0 : Old Z n0 h0) (b : Addr) (kb : ClassId) (dv : Value) (x0 : Int32) (x1 : Int32) (x2 : Int32) (q0 : Arv Z h0 b kb .char (3 : Int32) [(.int x0), (.int x1), (.int x2)] dv) (q1 : (255 : Int32) < x0) (q2 : ¬ x0 < 0) (q3 : ¬ (65535 : Int32) < x0) (q4 : ¬ x1 < 0) (q5 : ¬ (65535 : Int32) < x1) (q6 : ¬ x2 < 0) (q7 : ¬ (65535 : Int32) < x2) :
    OMet l Z own_EL n0 (⟨"java/lang/StringUTF16", "compress", "([CII)[B"⟩ : MethodName) (Jvm.Cond.code (⟨"java/lang/StringUTF16", "compress", "([CII)[B"⟩ : MethodName) jdk_52_method_16_code 6 (some (.array .byte)) :: wc) ({ frames := 3, cells := 2, slots := 9, locals := 40 } : Room) #[(.ref b), (.int 0), (.int 3)] h0 [] (fun vq hq => ∃ (r : Addr) (kr : ClassId), vq = some (.ref r) ∧ h0.size ≤ r ∧ Arv Z hq r kr .byte (6 : Int32) [(.int (StrChars.lo8 x0)), (.int (StrChars.hi8 x0)), (.int (StrChars.lo8 x1)), (.int (StrChars.hi8 x1)), (.int (StrChars.lo8 x2)), (.int (StrChars.hi8 x2))] (.int 0)) := by
  refine own_enter #[.val (.ref b), .val (.int 0), .val (.int 3), .unset, .unset, .unset] pn_java_lang_StringUTF16_compress___CII__B (ef_ru_cmp3_0 b kb dv x0 x1 x2) hWd.1 O0 all0 ?_
  intro p e s m below meth c T0 X0 hnm hret
  refine og_iloadN X0 1 d11_0 rfl rfl ?_
  refine own_arr X0 3 d11_1 (ow hw 16 rfl) (by decide) (cap := 3) (by decide) (by decide) (by decide) (by decide) rfl ?_
  intro T1 h1 b1 kb1 X1 K1 G1 U1 A1
  have f2 : Arv Z h1 b1 kb1 .byte (3 : Int32) [(.int 0), (.int 0), (.int 0)] (.int 0) := A1
  refine og_astoreN X1 4 #[.val (.ref b), .val (.int 0), .val (.int 3), .val (.ref b1), .unset, .unset] d11_3 rfl rfl rfl ?_
  refine og_aloadN X1 5 d11_4 rfl rfl rfl ?_
  refine og_iloadN X1 6 d11_5 rfl rfl ?_
  refine og_aloadN X1 7 d11_6 rfl rfl rfl ?_
  refine og_iconst X1 8 (0 : Int32) d11_7 rfl rfl ?_
  refine og_iloadN X1 9 d11_8 rfl rfl ?_
  have f3 := q0.keep K1 nin0
  refine own_stat X1 12 (argsL := [(.ref b), (.int 0), (.ref b1), (.int 0), (.int 3)]) (rest := []) d11_9 (ru_cmi3_0 l Z a0 hw n0 h1 hWd [] X1.old b kb dv b1 kb1 x0 x1 x2 f3 f2 q1 (Nat.ne_of_lt (Nat.lt_of_lt_of_le q0.lt G1)) (own_svb X1 (om 0 rfl))) (ow hw 61 rfl) (ow hw 62 rfl) (ow hw 59 rfl) (ow hw 63 rfl) (by decide) (lenOf pd__28_5bCI_5bBII_29I rfl) rfl rfl rfl (W := 0) rfl (by decide) (by decide) (by decide) (by decide) (allS (om 0 rfl) all0) rfl ?_
  intro T4 h4 v4 X4 K4 hQ4
  obtain rfl := hQ4
  show OGo _ _ _ _ T4 (mkF m 12 #[.val (.ref b), .val (.int 0), .val (.int 3), .val (.ref b1), .unset, .unset] [(.int 0)])
  refine og_istore X4 14 #[.val (.ref b), .val (.int 0), .val (.int 3), .val (.ref b1), .val (.int 0), .unset] d11_12 rfl rfl ?_
  refine og_iload X4 16 d11_14 rfl rfl ?_
  refine og_iloadN X4 17 d11_16 rfl rfl ?_
  refine og_icmpN X4 20 d11_17 (XT.ii_eq_f (by decide)) rfl ?_
  refine og_aloadN X4 21 d11_20 rfl rfl rfl ?_
  refine og_iloadN X4 22 d11_21 rfl rfl ?_
  refine og_iloadN X4 23 d11_22 rfl rfl ?_
  have f5 := f3.keep K4 (ninS (Nat.ne_of_lt (Nat.lt_of_lt_of_le q0.lt G1)) nin0)
  refine own_stat X4 26 (argsL := [(.ref b), (.int 0), (.int 3)]) (rest := []) d11_23 (ru_tob3 l Z a0 hw n0 h4 hWd [] X4.old b kb dv x0 x1 x2 f5 ) (ow hw 90 rfl) (ow hw 91 rfl) (ow hw 59 rfl) (ow hw 92 rfl) (by decide) (lenOf pd__28_5bCII_29_5bB rfl) rfl rfl rfl (W := 0) rfl (by decide) (by decide) (by decide) (by decide) all0 rfl ?_
  intro T6 h6 v6 X6 K6 hQ6
  obtain ⟨r6, kr6, rfl, ge_r6, f7⟩ := hQ6
  show OGo _ _ _ _ T6 (mkF m 26 #[.val (.ref b), .val (.int 0), .val (.int 3), .val (.ref b1), .val (.int 0), .unset] [(.ref r6)])
  refine og_astore X6 28 #[.val (.ref b), .val (.int 0), .val (.int 3), .val (.ref b1), .val (.int 0), .val (.ref r6)] d11_26 rfl rfl rfl ?_
  refine og_aload X6 30 d11_28 rfl rfl rfl ?_
  refine og_iload X6 32 d11_30 rfl rfl ?_
  refine own_stat X6 35 (argsL := [(.ref r6), (.int 0)]) (rest := []) d11_32 (rg_get l Z a0 hw n0 h6 hWd [] X6.old r6 kr6 [x0, x1, x2] 0 f7 (Nat.le_of_ble_eq_true rfl) (Nat.le_of_ble_eq_true rfl) ) (ow hw 106 rfl) (ow hw 107 rfl) (ow hw 59 rfl) (ow hw 108 rfl) (by decide) (lenOf pd__28_5bBI_29C rfl) rfl rfl rfl (W := 0) rfl (by decide) (by decide) (by decide) (by decide) all0 rfl ?_
  intro T8 h8 v8 X8 K8 hQ8
  obtain rfl := hQ8
  show OGo _ _ _ _ T8 (mkF m 35 #[.val (.ref b), .val (.int 0), .val (.int 3), .val (.ref b1), .val (.int 0), .val (.ref r6)] [(.int (StrChars.pairCh (StrChars.lo8 x0) (StrChars.hi8 x0)))])
  refine og_sipush X8 38 (255 : Int32) d11_35 rfl rfl ?_
  refine og_icmpY X8 54 d11_38 (XT.ii_gt_t (by rw [StrChars.pair_says q2 q3]; exact q1)) (by decide) (by decide) ?_
  refine og_aload X8 56 d11_54 rfl rfl rfl ?_
  have f9 := f7.keep K8 nin0
  refine own_retA X8 d11_56 hret rfl rfl (by decide) (by decide) ?_
  exact ⟨r6, kr6, rfl, (Nat.le_trans (Nat.le_trans K1.1 K4.1) ge_r6), f9⟩
theorem ru_cmi3_1 (l : Launch) (Z : State) (a0 : Array Value) (hw : ∀ d ∈ tables_1, d.before a0 Z = true) (n0 : Nat) (h0 : Heap) (hWd : OWorld Z a0) (wc : List Jvm.Cond) (O0 : Old Z n0 h0) (b : Addr) (kb : ClassId) (dv : Value) (d : Addr) (kd : ClassId) (x0 : Int32) (x1 : Int32) (x2 : Int32) (q0 : Arv Z h0 b kb .char (3 : Int32) [(.int x0), (.int x1), (.int x2)] dv) (q1 : Arv Z h0 d kd .byte (3 : Int32) [(.int 0), (.int 0), (.int 0)] (.int 0)) (q2 : ¬ (255 : Int32) < x0) (q3 : (255 : Int32) < x1) (q4 : b ≠ d) (g0 : n0 ≤ d ∧ d < h0.size) :
    OMet l Z own_EL n0 (⟨"java/lang/StringUTF16", "compress", "([CI[BII)I"⟩ : MethodName) (Jvm.Cond.code (⟨"java/lang/StringUTF16", "compress", "([CI[BII)I"⟩ : MethodName) jdk_52_method_21_code 7 (some .int) :: wc) ({ frames := 0, cells := 0, slots := 0, locals := 0 } : Room) #[(.ref b), (.int 0), (.ref d), (.int 0), (.int 3)] h0 [d] (fun vq hq => vq = some (.int 1)) := by
  refine own_enter #[.val (.ref b), .val (.int 0), .val (.ref d), .val (.int 0), .val (.int 3), .unset, .unset] pn_java_lang_StringUTF16_compress___CI_BII_I (ef_ru_cmi3_1 b kb dv d kd x0 x1 x2) hWd.1 O0 (allS g0 all0) ?_
  intro p e s m below meth c T0 X0 hnm hret
  refine og_iconst X0 1 (0 : Int32) d12_0 rfl rfl ?_
  refine og_istore X0 3 #[.val (.ref b), .val (.int 0), .val (.ref d), .val (.int 0), .val (.int 3), .val (.int 0), .unset] d12_1 rfl rfl ?_
  refine og_iload X0 5 d12_3 rfl rfl ?_
  refine og_iload X0 7 d12_5 rfl rfl ?_
  refine og_icmpN X0 10 d12_7 (XT.ii_ge_f (by decide)) rfl ?_
  refine og_aloadN X0 11 d12_10 rfl rfl rfl ?_
  refine og_iloadN X0 12 d12_11 rfl rfl ?_
  refine own_ldC X0 13 d12_12 q0 (by decide) (by decide) rfl rfl ?_
  refine og_istore X0 15 #[.val (.ref b), .val (.int 0), .val (.ref d), .val (.int 0), .val (.int 3), .val (.int 0), .val (.int x0)] d12_13 rfl rfl ?_
  refine og_iload X0 17 d12_15 rfl rfl ?_
  refine og_sipush X0 20 (255 : Int32) d12_17 rfl rfl ?_
  refine og_icmpY X0 26 d12_20 (XT.ii_le_t q2) (by decide) (by decide) ?_
  refine og_aloadN X0 27 d12_26 rfl rfl rfl ?_
  refine og_iloadN X0 28 d12_27 rfl rfl ?_
  refine og_iload X0 30 d12_28 rfl rfl ?_
  refine og_i2b X0 31 d12_30 rfl ?_
  refine own_stB X0 32 d12_31 q1 (own_nbb _) (by decide) (by decide) (i := 0) (by decide) (Nat.le_of_ble_eq_true rfl) (om 0 rfl) rfl ?_
  intro T1 h1 X1 W1 K1 A1
  have f2 : Arv Z h1 d kd .byte (3 : Int32) [(.int ((x0).toInt8.toInt32)), (.int 0), (.int 0)] (.int 0) := A1
  refine og_iinc X1 35 #[.val (.ref b), .val (.int 1), .val (.ref d), .val (.int 0), .val (.int 3), .val (.int 0), .val (.int x0)] d12_32 rfl rfl rfl ?_
  refine og_iinc X1 38 #[.val (.ref b), .val (.int 1), .val (.ref d), .val (.int 1), .val (.int 3), .val (.int 0), .val (.int x0)] d12_35 rfl rfl rfl ?_
  refine og_iinc X1 41 #[.val (.ref b), .val (.int 1), .val (.ref d), .val (.int 1), .val (.int 3), .val (.int 1), .val (.int x0)] d12_38 rfl rfl rfl ?_
  refine og_goto X1 3 d12_41 (by decide) (by decide) ?_
  refine og_iload X1 5 d12_3 rfl rfl ?_
  refine og_iload X1 7 d12_5 rfl rfl ?_
  refine og_icmpN X1 10 d12_7 (XT.ii_ge_f (by decide)) rfl ?_
  refine og_aloadN X1 11 d12_10 rfl rfl rfl ?_
  refine og_iloadN X1 12 d12_11 rfl rfl ?_
  have f3 := q0.keep K1 (ninS q4 nin0)
  refine own_ldC X1 13 d12_12 f3 (by decide) (by decide) rfl rfl ?_
  refine og_istore X1 15 #[.val (.ref b), .val (.int 1), .val (.ref d), .val (.int 1), .val (.int 3), .val (.int 1), .val (.int x1)] d12_13 rfl rfl ?_
  refine og_iload X1 17 d12_15 rfl rfl ?_
  refine og_sipush X1 20 (255 : Int32) d12_17 rfl rfl ?_
  refine og_icmpN X1 23 d12_20 (XT.ii_le_f q3) rfl ?_
  refine og_iload X1 25 d12_23 rfl rfl ?_
  refine own_retI X1 d12_25 hret (by decide) (by decide) ?_
  exact rfl
theorem ru_cmp3_1 (l : Launch) (Z : State) (a0 : Array Value) (hw : ∀ d ∈ tables_1, d.before a0 Z = true) (n0 : Nat) (h0 : Heap) (hWd : OWorld Z a0) (wc : List Jvm.Cond) (O0 : Old Z n0 h0) (b : Addr) (kb : ClassId) (dv : Value) (x0 : Int32) (x1 : Int32) (x2 : Int32) (q0 : Arv Z h0 b kb .char (3 : Int32) [(.int x0), (.int x1), (.int x2)] dv) (q1 : ¬ (255 : Int32) < x0) (q2 : (255 : Int32) < x1) (q3 : ¬ x0 < 0) (q4 : ¬ (65535 : Int32) < x0) (q5 : ¬ x1 < 0) (q6 : ¬ (65535 : Int32) < x1) (q7 : ¬ x2 < 0) (q8 : ¬ (65535 : Int32) < x2) :
    OMet l Z own_EL n0 (⟨"java/lang/StringUTF16", "compress", "([CII)[B"⟩ : MethodName) (Jvm.Cond.code (⟨"java/lang/StringUTF16", "compress", "([CII)[B"⟩ : MethodName) jdk_52_method_16_code 6 (some (.array .byte)) :: wc) ({ frames := 3, cells := 2, slots := 9, locals := 40 } : Room) #[(.ref b), (.int 0), (.int 3)] h0 [] (fun vq hq => ∃ (r : Addr) (kr : ClassId), vq = some (.ref r) ∧ h0.size ≤ r ∧ Arv Z hq r kr .byte (6 : Int32) [(.int (StrChars.lo8 x0)), (.int (StrChars.hi8 x0)), (.int (StrChars.lo8 x1)), (.int (StrChars.hi8 x1)), (.int (StrChars.lo8 x2)), (.int (StrChars.hi8 x2))] (.int 0)) := by
  refine own_enter #[.val (.ref b), .val (.int 0), .val (.int 3), .unset, .unset, .unset] pn_java_lang_StringUTF16_compress___CII__B (ef_ru_cmp3_1 b kb dv x0 x1 x2) hWd.1 O0 all0 ?_
  intro p e s m below meth c T0 X0 hnm hret
  refine og_iloadN X0 1 d11_0 rfl rfl ?_
  refine own_arr X0 3 d11_1 (ow hw 16 rfl) (by decide) (cap := 3) (by decide) (by decide) (by decide) (by decide) rfl ?_
  intro T1 h1 b1 kb1 X1 K1 G1 U1 A1
  have f2 : Arv Z h1 b1 kb1 .byte (3 : Int32) [(.int 0), (.int 0), (.int 0)] (.int 0) := A1
  refine og_astoreN X1 4 #[.val (.ref b), .val (.int 0), .val (.int 3), .val (.ref b1), .unset, .unset] d11_3 rfl rfl rfl ?_
  refine og_aloadN X1 5 d11_4 rfl rfl rfl ?_
  refine og_iloadN X1 6 d11_5 rfl rfl ?_
  refine og_aloadN X1 7 d11_6 rfl rfl rfl ?_
  refine og_iconst X1 8 (0 : Int32) d11_7 rfl rfl ?_
  refine og_iloadN X1 9 d11_8 rfl rfl ?_
  have f3 := q0.keep K1 nin0
  refine own_stat X1 12 (argsL := [(.ref b), (.int 0), (.ref b1), (.int 0), (.int 3)]) (rest := []) d11_9 (ru_cmi3_1 l Z a0 hw n0 h1 hWd [] X1.old b kb dv b1 kb1 x0 x1 x2 f3 f2 q1 q2 (Nat.ne_of_lt (Nat.lt_of_lt_of_le q0.lt G1)) (own_svb X1 (om 0 rfl))) (ow hw 61 rfl) (ow hw 62 rfl) (ow hw 59 rfl) (ow hw 63 rfl) (by decide) (lenOf pd__28_5bCI_5bBII_29I rfl) rfl rfl rfl (W := 0) rfl (by decide) (by decide) (by decide) (by decide) (allS (om 0 rfl) all0) rfl ?_
  intro T4 h4 v4 X4 K4 hQ4
  obtain rfl := hQ4
  show OGo _ _ _ _ T4 (mkF m 12 #[.val (.ref b), .val (.int 0), .val (.int 3), .val (.ref b1), .unset, .unset] [(.int 1)])
  refine og_istore X4 14 #[.val (.ref b), .val (.int 0), .val (.int 3), .val (.ref b1), .val (.int 1), .unset] d11_12 rfl rfl ?_
  refine og_iload X4 16 d11_14 rfl rfl ?_
  refine og_iloadN X4 17 d11_16 rfl rfl ?_
  refine og_icmpN X4 20 d11_17 (XT.ii_eq_f (by decide)) rfl ?_
  refine og_aloadN X4 21 d11_20 rfl rfl rfl ?_
  refine og_iloadN X4 22 d11_21 rfl rfl ?_
  refine og_iloadN X4 23 d11_22 rfl rfl ?_
  have f5 := f3.keep K4 (ninS (Nat.ne_of_lt (Nat.lt_of_lt_of_le q0.lt G1)) nin0)
  refine own_stat X4 26 (argsL := [(.ref b), (.int 0), (.int 3)]) (rest := []) d11_23 (ru_tob3 l Z a0 hw n0 h4 hWd [] X4.old b kb dv x0 x1 x2 f5 ) (ow hw 90 rfl) (ow hw 91 rfl) (ow hw 59 rfl) (ow hw 92 rfl) (by decide) (lenOf pd__28_5bCII_29_5bB rfl) rfl rfl rfl (W := 0) rfl (by decide) (by decide) (by decide) (by decide) all0 rfl ?_
  intro T6 h6 v6 X6 K6 hQ6
  obtain ⟨r6, kr6, rfl, ge_r6, f7⟩ := hQ6
  show OGo _ _ _ _ T6 (mkF m 26 #[.val (.ref b), .val (.int 0), .val (.int 3), .val (.ref b1), .val (.int 1), .unset] [(.ref r6)])
  refine og_astore X6 28 #[.val (.ref b), .val (.int 0), .val (.int 3), .val (.ref b1), .val (.int 1), .val (.ref r6)] d11_26 rfl rfl rfl ?_
  refine og_aload X6 30 d11_28 rfl rfl rfl ?_
  refine og_iload X6 32 d11_30 rfl rfl ?_
  refine own_stat X6 35 (argsL := [(.ref r6), (.int 1)]) (rest := []) d11_32 (rg_get l Z a0 hw n0 h6 hWd [] X6.old r6 kr6 [x0, x1, x2] 1 f7 (Nat.le_of_ble_eq_true rfl) (Nat.le_of_ble_eq_true rfl) ) (ow hw 106 rfl) (ow hw 107 rfl) (ow hw 59 rfl) (ow hw 108 rfl) (by decide) (lenOf pd__28_5bBI_29C rfl) rfl rfl rfl (W := 0) rfl (by decide) (by decide) (by decide) (by decide) all0 rfl ?_
  intro T8 h8 v8 X8 K8 hQ8
  obtain rfl := hQ8
  show OGo _ _ _ _ T8 (mkF m 35 #[.val (.ref b), .val (.int 0), .val (.int 3), .val (.ref b1), .val (.int 1), .val (.ref r6)] [(.int (StrChars.pairCh (StrChars.lo8 x1) (StrChars.hi8 x1)))])
  refine og_sipush X8 38 (255 : Int32) d11_35 rfl rfl ?_
  refine og_icmpY X8 54 d11_38 (XT.ii_gt_t (by rw [StrChars.pair_says q5 q6]; exact q2)) (by decide) (by decide) ?_
  refine og_aload X8 56 d11_54 rfl rfl rfl ?_
  have f9 := f7.keep K8 nin0
  refine own_retA X8 d11_56 hret rfl rfl (by decide) (by decide) ?_
  exact ⟨r6, kr6, rfl, (Nat.le_trans (Nat.le_trans K1.1 K4.1) ge_r6), f9⟩
theorem ru_cmi3_2 (l : Launch) (Z : State) (a0 : Array Value) (hw : ∀ d ∈ tables_1, d.before a0 Z = true) (n0 : Nat) (h0 : Heap) (hWd : OWorld Z a0) (wc : List Jvm.Cond) (O0 : Old Z n0 h0) (b : Addr) (kb : ClassId) (dv : Value) (d : Addr) (kd : ClassId) (x0 : Int32) (x1 : Int32) (x2 : Int32) (q0 : Arv Z h0 b kb .char (3 : Int32) [(.int x0), (.int x1), (.int x2)] dv) (q1 : Arv Z h0 d kd .byte (3 : Int32) [(.int 0), (.int 0), (.int 0)] (.int 0)) (q2 : ¬ (255 : Int32) < x0) (q3 : ¬ (255 : Int32) < x1) (q4 : (255 : Int32) < x2) (q5 : b ≠ d) (g0 : n0 ≤ d ∧ d < h0.size) :
    OMet l Z own_EL n0 (⟨"java/lang/StringUTF16", "compress", "([CI[BII)I"⟩ : MethodName) (Jvm.Cond.code (⟨"java/lang/StringUTF16", "compress", "([CI[BII)I"⟩ : MethodName) jdk_52_method_21_code 7 (some .int) :: wc) ({ frames := 0, cells := 0, slots := 0, locals := 0 } : Room) #[(.ref b), (.int 0), (.ref d), (.int 0), (.int 3)] h0 [d] (fun vq hq => vq = some (.int 2)) := by
  refine own_enter #[.val (.ref b), .val (.int 0), .val (.ref d), .val (.int 0), .val (.int 3), .unset, .unset] pn_java_lang_StringUTF16_compress___CI_BII_I (ef_ru_cmi3_2 b kb dv d kd x0 x1 x2) hWd.1 O0 (allS g0 all0) ?_
  intro p e s m below meth c T0 X0 hnm hret
  refine og_iconst X0 1 (0 : Int32) d12_0 rfl rfl ?_
  refine og_istore X0 3 #[.val (.ref b), .val (.int 0), .val (.ref d), .val (.int 0), .val (.int 3), .val (.int 0), .unset] d12_1 rfl rfl ?_
  refine og_iload X0 5 d12_3 rfl rfl ?_
  refine og_iload X0 7 d12_5 rfl rfl ?_
  refine og_icmpN X0 10 d12_7 (XT.ii_ge_f (by decide)) rfl ?_
  refine og_aloadN X0 11 d12_10 rfl rfl rfl ?_
  refine og_iloadN X0 12 d12_11 rfl rfl ?_
  refine own_ldC X0 13 d12_12 q0 (by decide) (by decide) rfl rfl ?_
  refine og_istore X0 15 #[.val (.ref b), .val (.int 0), .val (.ref d), .val (.int 0), .val (.int 3), .val (.int 0), .val (.int x0)] d12_13 rfl rfl ?_
  refine og_iload X0 17 d12_15 rfl rfl ?_
  refine og_sipush X0 20 (255 : Int32) d12_17 rfl rfl ?_
  refine og_icmpY X0 26 d12_20 (XT.ii_le_t q2) (by decide) (by decide) ?_
  refine og_aloadN X0 27 d12_26 rfl rfl rfl ?_
  refine og_iloadN X0 28 d12_27 rfl rfl ?_
  refine og_iload X0 30 d12_28 rfl rfl ?_
  refine og_i2b X0 31 d12_30 rfl ?_
  refine own_stB X0 32 d12_31 q1 (own_nbb _) (by decide) (by decide) (i := 0) (by decide) (Nat.le_of_ble_eq_true rfl) (om 0 rfl) rfl ?_
  intro T1 h1 X1 W1 K1 A1
  have f2 : Arv Z h1 d kd .byte (3 : Int32) [(.int ((x0).toInt8.toInt32)), (.int 0), (.int 0)] (.int 0) := A1
  refine og_iinc X1 35 #[.val (.ref b), .val (.int 1), .val (.ref d), .val (.int 0), .val (.int 3), .val (.int 0), .val (.int x0)] d12_32 rfl rfl rfl ?_
  refine og_iinc X1 38 #[.val (.ref b), .val (.int 1), .val (.ref d), .val (.int 1), .val (.int 3), .val (.int 0), .val (.int x0)] d12_35 rfl rfl rfl ?_
  refine og_iinc X1 41 #[.val (.ref b), .val (.int 1), .val (.ref d), .val (.int 1), .val (.int 3), .val (.int 1), .val (.int x0)] d12_38 rfl rfl rfl ?_
  refine og_goto X1 3 d12_41 (by decide) (by decide) ?_
  refine og_iload X1 5 d12_3 rfl rfl ?_
  refine og_iload X1 7 d12_5 rfl rfl ?_
  refine og_icmpN X1 10 d12_7 (XT.ii_ge_f (by decide)) rfl ?_
  refine og_aloadN X1 11 d12_10 rfl rfl rfl ?_
  refine og_iloadN X1 12 d12_11 rfl rfl ?_
  have f3 := q0.keep K1 (ninS q5 nin0)
  refine own_ldC X1 13 d12_12 f3 (by decide) (by decide) rfl rfl ?_
  refine og_istore X1 15 #[.val (.ref b), .val (.int 1), .val (.ref d), .val (.int 1), .val (.int 3), .val (.int 1), .val (.int x1)] d12_13 rfl rfl ?_
  refine og_iload X1 17 d12_15 rfl rfl ?_
  refine og_sipush X1 20 (255 : Int32) d12_17 rfl rfl ?_
  refine og_icmpY X1 26 d12_20 (XT.ii_le_t q3) (by decide) (by decide) ?_
  refine og_aloadN X1 27 d12_26 rfl rfl rfl ?_
  refine og_iloadN X1 28 d12_27 rfl rfl ?_
  refine og_iload X1 30 d12_28 rfl rfl ?_
  refine og_i2b X1 31 d12_30 rfl ?_
  refine own_stB X1 32 d12_31 f2 (own_nbb _) (by decide) (by decide) (i := 1) (by decide) (Nat.le_of_ble_eq_true rfl) (om 0 rfl) rfl ?_
  intro T4 h4 X4 W4 K4 A4
  have f5 : Arv Z h4 d kd .byte (3 : Int32) [(.int ((x0).toInt8.toInt32)), (.int ((x1).toInt8.toInt32)), (.int 0)] (.int 0) := A4
  refine og_iinc X4 35 #[.val (.ref b), .val (.int 2), .val (.ref d), .val (.int 1), .val (.int 3), .val (.int 1), .val (.int x1)] d12_32 rfl rfl rfl ?_
  refine og_iinc X4 38 #[.val (.ref b), .val (.int 2), .val (.ref d), .val (.int 2), .val (.int 3), .val (.int 1), .val (.int x1)] d12_35 rfl rfl rfl ?_
  refine og_iinc X4 41 #[.val (.ref b), .val (.int 2), .val (.ref d), .val (.int 2), .val (.int 3), .val (.int 2), .val (.int x1)] d12_38 rfl rfl rfl ?_
  refine og_goto X4 3 d12_41 (by decide) (by decide) ?_
  refine og_iload X4 5 d12_3 rfl rfl ?_
  refine og_iload X4 7 d12_5 rfl rfl ?_
  refine og_icmpN X4 10 d12_7 (XT.ii_ge_f (by decide)) rfl ?_
  refine og_aloadN X4 11 d12_10 rfl rfl rfl ?_
  refine og_iloadN X4 12 d12_11 rfl rfl ?_
  have f6 := f3.keep K4 (ninS q5 nin0)
  refine own_ldC X4 13 d12_12 f6 (by decide) (by decide) rfl rfl ?_
  refine og_istore X4 15 #[.val (.ref b), .val (.int 2), .val (.ref d), .val (.int 2), .val (.int 3), .val (.int 2), .val (.int x2)] d12_13 rfl rfl ?_
  refine og_iload X4 17 d12_15 rfl rfl ?_
  refine og_sipush X4 20 (255 : Int32) d12_17 rfl rfl ?_
  refine og_icmpN X4 23 d12_20 (XT.ii_le_f q4) rfl ?_
  refine og_iload X4 25 d12_23 rfl rfl ?_
  refine own_retI X4 d12_25 hret (by decide) (by decide) ?_
  exact rfl
theorem ru_cmp3_2 (l : Launch) (Z : State) (a0 : Array Value) (hw : ∀ d ∈ tables_1, d.before a0 Z = true) (n0 : Nat) (h0 : Heap) (hWd : OWorld Z a0) (wc : List Jvm.Cond) (O0 : Old Z n0 h0) (b : Addr) (kb : ClassId) (dv : Value) (x0 : Int32) (x1 : Int32) (x2 : Int32) (q0 : Arv Z h0 b kb .char (3 : Int32) [(.int x0), (.int x1), (.int x2)] dv) (q1 : ¬ (255 : Int32) < x0) (q2 : ¬ (255 : Int32) < x1) (q3 : (255 : Int32) < x2) (q4 : ¬ x0 < 0) (q5 : ¬ (65535 : Int32) < x0) (q6 : ¬ x1 < 0) (q7 : ¬ (65535 : Int32) < x1) (q8 : ¬ x2 < 0) (q9 : ¬ (65535 : Int32) < x2) :
    OMet l Z own_EL n0 (⟨"java/lang/StringUTF16", "compress", "([CII)[B"⟩ : MethodName) (Jvm.Cond.code (⟨"java/lang/StringUTF16", "compress", "([CII)[B"⟩ : MethodName) jdk_52_method_16_code 6 (some (.array .byte)) :: wc) ({ frames := 3, cells := 2, slots := 9, locals := 40 } : Room) #[(.ref b), (.int 0), (.int 3)] h0 [] (fun vq hq => ∃ (r : Addr) (kr : ClassId), vq = some (.ref r) ∧ h0.size ≤ r ∧ Arv Z hq r kr .byte (6 : Int32) [(.int (StrChars.lo8 x0)), (.int (StrChars.hi8 x0)), (.int (StrChars.lo8 x1)), (.int (StrChars.hi8 x1)), (.int (StrChars.lo8 x2)), (.int (StrChars.hi8 x2))] (.int 0)) := by
  refine own_enter #[.val (.ref b), .val (.int 0), .val (.int 3), .unset, .unset, .unset] pn_java_lang_StringUTF16_compress___CII__B (ef_ru_cmp3_2 b kb dv x0 x1 x2) hWd.1 O0 all0 ?_
  intro p e s m below meth c T0 X0 hnm hret
  refine og_iloadN X0 1 d11_0 rfl rfl ?_
  refine own_arr X0 3 d11_1 (ow hw 16 rfl) (by decide) (cap := 3) (by decide) (by decide) (by decide) (by decide) rfl ?_
  intro T1 h1 b1 kb1 X1 K1 G1 U1 A1
  have f2 : Arv Z h1 b1 kb1 .byte (3 : Int32) [(.int 0), (.int 0), (.int 0)] (.int 0) := A1
  refine og_astoreN X1 4 #[.val (.ref b), .val (.int 0), .val (.int 3), .val (.ref b1), .unset, .unset] d11_3 rfl rfl rfl ?_
  refine og_aloadN X1 5 d11_4 rfl rfl rfl ?_
  refine og_iloadN X1 6 d11_5 rfl rfl ?_
  refine og_aloadN X1 7 d11_6 rfl rfl rfl ?_
  refine og_iconst X1 8 (0 : Int32) d11_7 rfl rfl ?_
  refine og_iloadN X1 9 d11_8 rfl rfl ?_
  have f3 := q0.keep K1 nin0
  refine own_stat X1 12 (argsL := [(.ref b), (.int 0), (.ref b1), (.int 0), (.int 3)]) (rest := []) d11_9 (ru_cmi3_2 l Z a0 hw n0 h1 hWd [] X1.old b kb dv b1 kb1 x0 x1 x2 f3 f2 q1 q2 q3 (Nat.ne_of_lt (Nat.lt_of_lt_of_le q0.lt G1)) (own_svb X1 (om 0 rfl))) (ow hw 61 rfl) (ow hw 62 rfl) (ow hw 59 rfl) (ow hw 63 rfl) (by decide) (lenOf pd__28_5bCI_5bBII_29I rfl) rfl rfl rfl (W := 0) rfl (by decide) (by decide) (by decide) (by decide) (allS (om 0 rfl) all0) rfl ?_
  intro T4 h4 v4 X4 K4 hQ4
  obtain rfl := hQ4
  show OGo _ _ _ _ T4 (mkF m 12 #[.val (.ref b), .val (.int 0), .val (.int 3), .val (.ref b1), .unset, .unset] [(.int 2)])
  refine og_istore X4 14 #[.val (.ref b), .val (.int 0), .val (.int 3), .val (.ref b1), .val (.int 2), .unset] d11_12 rfl rfl ?_
  refine og_iload X4 16 d11_14 rfl rfl ?_
  refine og_iloadN X4 17 d11_16 rfl rfl ?_
  refine og_icmpN X4 20 d11_17 (XT.ii_eq_f (by decide)) rfl ?_
  refine og_aloadN X4 21 d11_20 rfl rfl rfl ?_
  refine og_iloadN X4 22 d11_21 rfl rfl ?_
  refine og_iloadN X4 23 d11_22 rfl rfl ?_
  have f5 := f3.keep K4 (ninS (Nat.ne_of_lt (Nat.lt_of_lt_of_le q0.lt G1)) nin0)
  refine own_stat X4 26 (argsL := [(.ref b), (.int 0), (.int 3)]) (rest := []) d11_23 (ru_tob3 l Z a0 hw n0 h4 hWd [] X4.old b kb dv x0 x1 x2 f5 ) (ow hw 90 rfl) (ow hw 91 rfl) (ow hw 59 rfl) (ow hw 92 rfl) (by decide) (lenOf pd__28_5bCII_29_5bB rfl) rfl rfl rfl (W := 0) rfl (by decide) (by decide) (by decide) (by decide) all0 rfl ?_
  intro T6 h6 v6 X6 K6 hQ6
  obtain ⟨r6, kr6, rfl, ge_r6, f7⟩ := hQ6
  show OGo _ _ _ _ T6 (mkF m 26 #[.val (.ref b), .val (.int 0), .val (.int 3), .val (.ref b1), .val (.int 2), .unset] [(.ref r6)])
  refine og_astore X6 28 #[.val (.ref b), .val (.int 0), .val (.int 3), .val (.ref b1), .val (.int 2), .val (.ref r6)] d11_26 rfl rfl rfl ?_
  refine og_aload X6 30 d11_28 rfl rfl rfl ?_
  refine og_iload X6 32 d11_30 rfl rfl ?_
  refine own_stat X6 35 (argsL := [(.ref r6), (.int 2)]) (rest := []) d11_32 (rg_get l Z a0 hw n0 h6 hWd [] X6.old r6 kr6 [x0, x1, x2] 2 f7 (Nat.le_of_ble_eq_true rfl) (Nat.le_of_ble_eq_true rfl) ) (ow hw 106 rfl) (ow hw 107 rfl) (ow hw 59 rfl) (ow hw 108 rfl) (by decide) (lenOf pd__28_5bBI_29C rfl) rfl rfl rfl (W := 0) rfl (by decide) (by decide) (by decide) (by decide) all0 rfl ?_
  intro T8 h8 v8 X8 K8 hQ8
  obtain rfl := hQ8
  show OGo _ _ _ _ T8 (mkF m 35 #[.val (.ref b), .val (.int 0), .val (.int 3), .val (.ref b1), .val (.int 2), .val (.ref r6)] [(.int (StrChars.pairCh (StrChars.lo8 x2) (StrChars.hi8 x2)))])
  refine og_sipush X8 38 (255 : Int32) d11_35 rfl rfl ?_
  refine og_icmpY X8 54 d11_38 (XT.ii_gt_t (by rw [StrChars.pair_says q8 q9]; exact q3)) (by decide) (by decide) ?_
  refine og_aload X8 56 d11_54 rfl rfl rfl ?_
  have f9 := f7.keep K8 nin0
  refine own_retA X8 d11_56 hret rfl rfl (by decide) (by decide) ?_
  exact ⟨r6, kr6, rfl, (Nat.le_trans (Nat.le_trans K1.1 K4.1) ge_r6), f9⟩
theorem ru_cmi3_3 (l : Launch) (Z : State) (a0 : Array Value) (hw : ∀ d ∈ tables_1, d.before a0 Z = true) (n0 : Nat) (h0 : Heap) (hWd : OWorld Z a0) (wc : List Jvm.Cond) (O0 : Old Z n0 h0) (b : Addr) (kb : ClassId) (dv : Value) (d : Addr) (kd : ClassId) (x0 : Int32) (x1 : Int32) (x2 : Int32) (q0 : Arv Z h0 b kb .char (3 : Int32) [(.int x0), (.int x1), (.int x2)] dv) (q1 : Arv Z h0 d kd .byte (3 : Int32) [(.int 0), (.int 0), (.int 0)] (.int 0)) (q2 : ¬ (255 : Int32) < x0) (q3 : ¬ (255 : Int32) < x1) (q4 : ¬ (255 : Int32) < x2) (q5 : b ≠ d) (g0 : n0 ≤ d ∧ d < h0.size) :
    OMet l Z own_EL n0 (⟨"java/lang/StringUTF16", "compress", "([CI[BII)I"⟩ : MethodName) (Jvm.Cond.code (⟨"java/lang/StringUTF16", "compress", "([CI[BII)I"⟩ : MethodName) jdk_52_method_21_code 7 (some .int) :: wc) ({ frames := 0, cells := 0, slots := 0, locals := 0 } : Room) #[(.ref b), (.int 0), (.ref d), (.int 0), (.int 3)] h0 [d] (fun vq hq => vq = some (.int 3) ∧ Arv Z hq d kd .byte (3 : Int32) [(.int ((x0).toInt8.toInt32)), (.int ((x1).toInt8.toInt32)), (.int ((x2).toInt8.toInt32))] (.int 0)) := by
  refine own_enter #[.val (.ref b), .val (.int 0), .val (.ref d), .val (.int 0), .val (.int 3), .unset, .unset] pn_java_lang_StringUTF16_compress___CI_BII_I (ef_ru_cmi3_3 b kb dv d kd x0 x1 x2) hWd.1 O0 (allS g0 all0) ?_
  intro p e s m below meth c T0 X0 hnm hret
  refine og_iconst X0 1 (0 : Int32) d12_0 rfl rfl ?_
  refine og_istore X0 3 #[.val (.ref b), .val (.int 0), .val (.ref d), .val (.int 0), .val (.int 3), .val (.int 0), .unset] d12_1 rfl rfl ?_
  refine og_iload X0 5 d12_3 rfl rfl ?_
  refine og_iload X0 7 d12_5 rfl rfl ?_
  refine og_icmpN X0 10 d12_7 (XT.ii_ge_f (by decide)) rfl ?_
  refine og_aloadN X0 11 d12_10 rfl rfl rfl ?_
  refine og_iloadN X0 12 d12_11 rfl rfl ?_
  refine own_ldC X0 13 d12_12 q0 (by decide) (by decide) rfl rfl ?_
  refine og_istore X0 15 #[.val (.ref b), .val (.int 0), .val (.ref d), .val (.int 0), .val (.int 3), .val (.int 0), .val (.int x0)] d12_13 rfl rfl ?_
  refine og_iload X0 17 d12_15 rfl rfl ?_
  refine og_sipush X0 20 (255 : Int32) d12_17 rfl rfl ?_
  refine og_icmpY X0 26 d12_20 (XT.ii_le_t q2) (by decide) (by decide) ?_
  refine og_aloadN X0 27 d12_26 rfl rfl rfl ?_
  refine og_iloadN X0 28 d12_27 rfl rfl ?_
  refine og_iload X0 30 d12_28 rfl rfl ?_
  refine og_i2b X0 31 d12_30 rfl ?_
  refine own_stB X0 32 d12_31 q1 (own_nbb _) (by decide) (by decide) (i := 0) (by decide) (Nat.le_of_ble_eq_true rfl) (om 0 rfl) rfl ?_
  intro T1 h1 X1 W1 K1 A1
  have f2 : Arv Z h1 d kd .byte (3 : Int32) [(.int ((x0).toInt8.toInt32)), (.int 0), (.int 0)] (.int 0) := A1
  refine og_iinc X1 35 #[.val (.ref b), .val (.int 1), .val (.ref d), .val (.int 0), .val (.int 3), .val (.int 0), .val (.int x0)] d12_32 rfl rfl rfl ?_
  refine og_iinc X1 38 #[.val (.ref b), .val (.int 1), .val (.ref d), .val (.int 1), .val (.int 3), .val (.int 0), .val (.int x0)] d12_35 rfl rfl rfl ?_
  refine og_iinc X1 41 #[.val (.ref b), .val (.int 1), .val (.ref d), .val (.int 1), .val (.int 3), .val (.int 1), .val (.int x0)] d12_38 rfl rfl rfl ?_
  refine og_goto X1 3 d12_41 (by decide) (by decide) ?_
  refine og_iload X1 5 d12_3 rfl rfl ?_
  refine og_iload X1 7 d12_5 rfl rfl ?_
  refine og_icmpN X1 10 d12_7 (XT.ii_ge_f (by decide)) rfl ?_
  refine og_aloadN X1 11 d12_10 rfl rfl rfl ?_
  refine og_iloadN X1 12 d12_11 rfl rfl ?_
  have f3 := q0.keep K1 (ninS q5 nin0)
  refine own_ldC X1 13 d12_12 f3 (by decide) (by decide) rfl rfl ?_
  refine og_istore X1 15 #[.val (.ref b), .val (.int 1), .val (.ref d), .val (.int 1), .val (.int 3), .val (.int 1), .val (.int x1)] d12_13 rfl rfl ?_
  refine og_iload X1 17 d12_15 rfl rfl ?_
  refine og_sipush X1 20 (255 : Int32) d12_17 rfl rfl ?_
  refine og_icmpY X1 26 d12_20 (XT.ii_le_t q3) (by decide) (by decide) ?_
  refine og_aloadN X1 27 d12_26 rfl rfl rfl ?_
  refine og_iloadN X1 28 d12_27 rfl rfl ?_
  refine og_iload X1 30 d12_28 rfl rfl ?_
  refine og_i2b X1 31 d12_30 rfl ?_
  refine own_stB X1 32 d12_31 f2 (own_nbb _) (by decide) (by decide) (i := 1) (by decide) (Nat.le_of_ble_eq_true rfl) (om 0 rfl) rfl ?_
  intro T4 h4 X4 W4 K4 A4
  have f5 : Arv Z h4 d kd .byte (3 : Int32) [(.int ((x0).toInt8.toInt32)), (.int ((x1).toInt8.toInt32)), (.int 0)] (.int 0) := A4
  refine og_iinc X4 35 #[.val (.ref b), .val (.int 2), .val (.ref d), .val (.int 1), .val (.int 3), .val (.int 1), .val (.int x1)] d12_32 rfl rfl rfl ?_
  refine og_iinc X4 38 #[.val (.ref b), .val (.int 2), .val (.ref d), .val (.int 2), .val (.int 3), .val (.int 1), .val (.int x1)] d12_35 rfl rfl rfl ?_
  refine og_iinc X4 41 #[.val (.ref b), .val (.int 2), .val (.ref d), .val (.int 2), .val (.int 3), .val (.int 2), .val (.int x1)] d12_38 rfl rfl rfl ?_
  refine og_goto X4 3 d12_41 (by decide) (by decide) ?_
  refine og_iload X4 5 d12_3 rfl rfl ?_
  refine og_iload X4 7 d12_5 rfl rfl ?_
  refine og_icmpN X4 10 d12_7 (XT.ii_ge_f (by decide)) rfl ?_
  refine og_aloadN X4 11 d12_10 rfl rfl rfl ?_
  refine og_iloadN X4 12 d12_11 rfl rfl ?_
  have f6 := f3.keep K4 (ninS q5 nin0)
  refine own_ldC X4 13 d12_12 f6 (by decide) (by decide) rfl rfl ?_
  refine og_istore X4 15 #[.val (.ref b), .val (.int 2), .val (.ref d), .val (.int 2), .val (.int 3), .val (.int 2), .val (.int x2)] d12_13 rfl rfl ?_
  refine og_iload X4 17 d12_15 rfl rfl ?_
  refine og_sipush X4 20 (255 : Int32) d12_17 rfl rfl ?_
  refine og_icmpY X4 26 d12_20 (XT.ii_le_t q4) (by decide) (by decide) ?_
  refine og_aloadN X4 27 d12_26 rfl rfl rfl ?_
  refine og_iloadN X4 28 d12_27 rfl rfl ?_
  refine og_iload X4 30 d12_28 rfl rfl ?_
  refine og_i2b X4 31 d12_30 rfl ?_
  refine own_stB X4 32 d12_31 f5 (own_nbb _) (by decide) (by decide) (i := 2) (by decide) (Nat.le_of_ble_eq_true rfl) (om 0 rfl) rfl ?_
  intro T7 h7 X7 W7 K7 A7
  have f8 : Arv Z h7 d kd .byte (3 : Int32) [(.int ((x0).toInt8.toInt32)), (.int ((x1).toInt8.toInt32)), (.int ((x2).toInt8.toInt32))] (.int 0) := A7
  refine og_iinc X7 35 #[.val (.ref b), .val (.int 3), .val (.ref d), .val (.int 2), .val (.int 3), .val (.int 2), .val (.int x2)] d12_32 rfl rfl rfl ?_
  refine og_iinc X7 38 #[.val (.ref b), .val (.int 3), .val (.ref d), .val (.int 3), .val (.int 3), .val (.int 2), .val (.int x2)] d12_35 rfl rfl rfl ?_
  refine og_iinc X7 41 #[.val (.ref b), .val (.int 3), .val (.ref d), .val (.int 3), .val (.int 3), .val (.int 3), .val (.int x2)] d12_38 rfl rfl rfl ?_
  refine og_goto X7 3 d12_41 (by decide) (by decide) ?_
  refine og_iload X7 5 d12_3 rfl rfl ?_
  refine og_iload X7 7 d12_5 rfl rfl ?_
  refine og_icmpY X7 44 d12_7 (XT.ii_ge_t (by decide)) (by decide) (by decide) ?_
  refine og_iload X7 46 d12_44 rfl rfl ?_
  refine own_retI X7 d12_46 hret (by decide) (by decide) ?_
  exact ⟨rfl, f8⟩
theorem ru_cmp3_3 (l : Launch) (Z : State) (a0 : Array Value) (hw : ∀ d ∈ tables_1, d.before a0 Z = true) (n0 : Nat) (h0 : Heap) (hWd : OWorld Z a0) (wc : List Jvm.Cond) (O0 : Old Z n0 h0) (b : Addr) (kb : ClassId) (dv : Value) (x0 : Int32) (x1 : Int32) (x2 : Int32) (q0 : Arv Z h0 b kb .char (3 : Int32) [(.int x0), (.int x1), (.int x2)] dv) (q1 : ¬ (255 : Int32) < x0) (q2 : ¬ (255 : Int32) < x1) (q3 : ¬ (255 : Int32) < x2) (q4 : ¬ x0 < 0) (q5 : ¬ (65535 : Int32) < x0) (q6 : ¬ x1 < 0) (q7 : ¬ (65535 : Int32) < x1) (q8 : ¬ x2 < 0) (q9 : ¬ (65535 : Int32) < x2) :
    OMet l Z own_EL n0 (⟨"java/lang/StringUTF16", "compress", "([CII)[B"⟩ : MethodName) (Jvm.Cond.code (⟨"java/lang/StringUTF16", "compress", "([CII)[B"⟩ : MethodName) jdk_52_method_16_code 6 (some (.array .byte)) :: wc) ({ frames := 1, cells := 1, slots := 3, locals := 18 } : Room) #[(.ref b), (.int 0), (.int 3)] h0 [] (fun vq hq => ∃ (r : Addr) (kr : ClassId), vq = some (.ref r) ∧ h0.size ≤ r ∧ Arv Z hq r kr .byte (3 : Int32) [(.int ((x0).toInt8.toInt32)), (.int ((x1).toInt8.toInt32)), (.int ((x2).toInt8.toInt32))] (.int 0)) := by
  refine own_enter #[.val (.ref b), .val (.int 0), .val (.int 3), .unset, .unset, .unset] pn_java_lang_StringUTF16_compress___CII__B (ef_ru_cmp3_3 b kb dv x0 x1 x2) hWd.1 O0 all0 ?_
  intro p e s m below meth c T0 X0 hnm hret
  refine og_iloadN X0 1 d11_0 rfl rfl ?_
  refine own_arr X0 3 d11_1 (ow hw 16 rfl) (by decide) (cap := 3) (by decide) (by decide) (by decide) (by decide) rfl ?_
  intro T1 h1 b1 kb1 X1 K1 G1 U1 A1
  have f2 : Arv Z h1 b1 kb1 .byte (3 : Int32) [(.int 0), (.int 0), (.int 0)] (.int 0) := A1
  refine og_astoreN X1 4 #[.val (.ref b), .val (.int 0), .val (.int 3), .val (.ref b1), .unset, .unset] d11_3 rfl rfl rfl ?_
  refine og_aloadN X1 5 d11_4 rfl rfl rfl ?_
  refine og_iloadN X1 6 d11_5 rfl rfl ?_
  refine og_aloadN X1 7 d11_6 rfl rfl rfl ?_
  refine og_iconst X1 8 (0 : Int32) d11_7 rfl rfl ?_
  refine og_iloadN X1 9 d11_8 rfl rfl ?_
  have f3 := q0.keep K1 nin0
  refine own_stat X1 12 (argsL := [(.ref b), (.int 0), (.ref b1), (.int 0), (.int 3)]) (rest := []) d11_9 (ru_cmi3_3 l Z a0 hw n0 h1 hWd [] X1.old b kb dv b1 kb1 x0 x1 x2 f3 f2 q1 q2 q3 (Nat.ne_of_lt (Nat.lt_of_lt_of_le q0.lt G1)) (own_svb X1 (om 0 rfl))) (ow hw 61 rfl) (ow hw 62 rfl) (ow hw 59 rfl) (ow hw 63 rfl) (by decide) (lenOf pd__28_5bCI_5bBII_29I rfl) rfl rfl rfl (W := 0) rfl (by decide) (by decide) (by decide) (by decide) (allS (om 0 rfl) all0) rfl ?_
  intro T4 h4 v4 X4 K4 hQ4
  obtain ⟨rfl, f5⟩ := hQ4
  show OGo _ _ _ _ T4 (mkF m 12 #[.val (.ref b), .val (.int 0), .val (.int 3), .val (.ref b1), .unset, .unset] [(.int 3)])
  refine og_istore X4 14 #[.val (.ref b), .val (.int 0), .val (.int 3), .val (.ref b1), .val (.int 3), .unset] d11_12 rfl rfl ?_
  refine og_iload X4 16 d11_14 rfl rfl ?_
  refine og_iloadN X4 17 d11_16 rfl rfl ?_
  refine og_icmpY X4 57 d11_17 (XT.ii_eq_t (by decide)) (by decide) (by decide) ?_
  refine og_aloadN X4 58 d11_57 rfl rfl rfl ?_
  refine own_retA X4 d11_58 hret rfl rfl (by decide) (by decide) ?_
  exact ⟨b1, kb1, rfl, G1, f5⟩
theorem ru_cod3_3 (l : Launch) (Z : State) (a0 : Array Value) (hw : ∀ d ∈ tables_1, d.before a0 Z = true) (n0 : Nat) (h0 : Heap) (hWd : OWorld Z a0) (wc : List Jvm.Cond) (O0 : Old Z n0 h0) (b : Addr) (kb : ClassId) (vs : List Value) (dv : Value) (q0 : Arv Z h0 b kb .byte (3 : Int32) vs dv) :
    OMet l Z own_EL n0 (⟨"java/lang/StringUTF16", "coderFromArrayLen", "([BI)B"⟩ : MethodName) (Jvm.Cond.code (⟨"java/lang/StringUTF16", "coderFromArrayLen", "([BI)B"⟩ : MethodName) jdk_52_method_15_code 2 (some .byte) :: wc) ({ frames := 0, cells := 0, slots := 0, locals := 0 } : Room) #[(.ref b), (.int 3)] h0 [] (fun vq hq => vq = some (.int 0)) := by
  refine own_enter #[.val (.ref b), .val (.int 3)] pn_java_lang_StringUTF16_coderFromArrayLen___BI_B (ef_ru_cod3_3 b kb vs dv) hWd.1 O0 all0 ?_
  intro p e s m below meth c T0 X0 hnm hret
  refine og_iloadN X0 1 d13_0 rfl rfl ?_
  refine og_aloadN X0 2 d13_1 rfl rfl rfl ?_
  refine own_len X0 3 d13_2 q0 rfl ?_
  refine og_isub X0 4 d13_3 rfl ?_
  show OGo _ _ _ _ T0 (mkF m 4 #[.val (.ref b), .val (.int 3)] [(.int 0)])
  refine og_bipush X0 6 (31 : Int32) d13_4 rfl rfl ?_
  refine og_iushr X0 7 d13_6 rfl ?_
  show OGo _ _ _ _ T0 (mkF m 7 #[.val (.ref b), .val (.int 3)] [(.int 0)])
  refine og_i2b X0 8 d13_7 rfl ?_
  show OGo _ _ _ _ T0 (mkF m 8 #[.val (.ref b), .val (.int 3)] [(.int 0)])
  refine own_retY X0 d13_8 hret rfl (by decide) (by decide) ?_
  exact rfl
theorem ru_cod3_6 (l : Launch) (Z : State) (a0 : Array Value) (hw : ∀ d ∈ tables_1, d.before a0 Z = true) (n0 : Nat) (h0 : Heap) (hWd : OWorld Z a0) (wc : List Jvm.Cond) (O0 : Old Z n0 h0) (b : Addr) (kb : ClassId) (vs : List Value) (dv : Value) (q0 : Arv Z h0 b kb .byte (6 : Int32) vs dv) :
    OMet l Z own_EL n0 (⟨"java/lang/StringUTF16", "coderFromArrayLen", "([BI)B"⟩ : MethodName) (Jvm.Cond.code (⟨"java/lang/StringUTF16", "coderFromArrayLen", "([BI)B"⟩ : MethodName) jdk_52_method_15_code 2 (some .byte) :: wc) ({ frames := 0, cells := 0, slots := 0, locals := 0 } : Room) #[(.ref b), (.int 3)] h0 [] (fun vq hq => vq = some (.int 1)) := by
  refine own_enter #[.val (.ref b), .val (.int 3)] pn_java_lang_StringUTF16_coderFromArrayLen___BI_B (ef_ru_cod3_6 b kb vs dv) hWd.1 O0 all0 ?_
  intro p e s m below meth c T0 X0 hnm hret
  refine og_iloadN X0 1 d13_0 rfl rfl ?_
  refine og_aloadN X0 2 d13_1 rfl rfl rfl ?_
  refine own_len X0 3 d13_2 q0 rfl ?_
  refine og_isub X0 4 d13_3 rfl ?_
  show OGo _ _ _ _ T0 (mkF m 4 #[.val (.ref b), .val (.int 3)] [(.int (-3 : Int32))])
  refine og_bipush X0 6 (31 : Int32) d13_4 rfl rfl ?_
  refine og_iushr X0 7 d13_6 rfl ?_
  show OGo _ _ _ _ T0 (mkF m 7 #[.val (.ref b), .val (.int 3)] [(.int 1)])
  refine og_i2b X0 8 d13_7 rfl ?_
  show OGo _ _ _ _ T0 (mkF m 8 #[.val (.ref b), .val (.int 3)] [(.int 1)])
  refine own_retY X0 d13_8 hret rfl (by decide) (by decide) ?_
  exact rfl
theorem ru_inv3 (l : Launch) (Z : State) (a0 : Array Value) (hw : ∀ d ∈ tables_1, d.before a0 Z = true) (n0 : Nat) (h0 : Heap) (hWd : OWorld Z a0) (wc : List Jvm.Cond) (O0 : Old Z n0 h0) (a : Addr) (b : Addr) (y : Value) (z : Int32) (kb : ClassId) (dv : Value) (x0 : Int32) (x1 : Int32) (x2 : Int32) (q0 : Exa Z h0 a "java/lang/String") (q1 : Fld Z h0 a "java/lang/String" "value" "[B" y) (q2 : Fld Z h0 a "java/lang/String" "coder" "B" (.int z)) (q3 : Arv Z h0 b kb .char (3 : Int32) [(.int x0), (.int x1), (.int x2)] dv) (q4 : ¬ x0 < 0) (q5 : ¬ (65535 : Int32) < x0) (q6 : ¬ x1 < 0) (q7 : ¬ (65535 : Int32) < x1) (q8 : ¬ x2 < 0) (q9 : ¬ (65535 : Int32) < x2) (g0 : n0 ≤ a ∧ a < h0.size) :
    OMet l Z own_EL n0 (⟨"java/lang/String", "<init>", "([CIILjava/lang/Void;)V"⟩ : MethodName) (Jvm.Cond.code (⟨"java/lang/String", "<init>", "([CIILjava/lang/Void;)V"⟩ : MethodName) jdk_42_method_149_code 6 none :: wc) ({ frames := 4, cells := 2, slots := 9, locals := 57 } : Room) #[(.ref a), (.ref b), (.int 0), (.int 3), .null] h0 [a] (fun vq hq => vq = none ∧ OStr Z hq a [x0, x1, x2] hq.size) := by
  refine own_enter #[.val (.ref a), .val (.ref b), .val (.int 0), .val (.int 3), .val .null, .unset] pn_java_lang_String__init____CIILjava_lang_Void__V (ef_ru_inv3 a b y z kb dv x0 x1 x2) hWd.1 O0 (allS g0 all0) ?_
  intro p e s m below meth c T0 X0 hnm hret
  refine og_aloadN X0 1 d2_0 rfl rfl rfl ?_
  refine own_obj0 X0 4 (a := a) d2_1 (ow hw 12 rfl) (ow hw 13 rfl) (ow hw 14 rfl) rfl (W := 0) rfl (by decide) (by decide) rfl ?_
  intro T1 X2
  refine og_iloadN X2 5 d2_4 rfl rfl ?_
  refine og_ifY X2 27 d2_5 (XT.i0_ne_t (by decide)) (by decide) (by decide) ?_
  refine own_getS X2 30 d2_27 (host := "") (Or.inl (ow hw 37 rfl)) Via.refl hWd.2.1.1 rfl ?_
  intro T3 X4
  refine og_ifN X4 33 d2_30 (XT.i0_eq_f hWd.2.1.2) rfl ?_
  refine og_aloadN X4 34 d2_33 rfl rfl rfl ?_
  refine og_iloadN X4 35 d2_34 rfl rfl ?_
  refine og_iloadN X4 36 d2_35 rfl rfl ?_
  by_cases hc5 : (255 : Int32) < x0
  · -- (255 : Int32) < x0
    refine own_stat X4 39 (argsL := [(.ref b), (.int 0), (.int 3)]) (rest := []) d2_36 (ru_cmp3_0 l Z a0 hw n0 h0 hWd [] X4.old b kb dv x0 x1 x2 q3 hc5 q4 q5 q6 q7 q8 q9 ) (ow hw 57 rfl) (ow hw 58 rfl) (ow hw 59 rfl) (ow hw 60 rfl) (by decide) (lenOf pd__28_5bCII_29_5bB rfl) rfl rfl rfl (W := 0) rfl (by decide) (by decide) (by decide) (by decide) all0 rfl ?_
    intro T6 h6 v6 X6 K6 hQ6
    obtain ⟨r6, kr6, rfl, ge_r6, f7⟩ := hQ6
    show OGo _ _ _ _ T6 (mkF m 39 #[.val (.ref a), .val (.ref b), .val (.int 0), .val (.int 3), .val .null, .unset] [(.ref r6)])
    refine og_astore X6 41 #[.val (.ref a), .val (.ref b), .val (.int 0), .val (.int 3), .val .null, .val (.ref r6)] d2_39 rfl rfl rfl ?_
    refine og_aloadN X6 42 d2_41 rfl rfl rfl ?_
    refine og_aload X6 44 d2_42 rfl rfl rfl ?_
    refine og_iloadN X6 45 d2_44 rfl rfl ?_
    refine own_stat X6 48 (argsL := [(.ref r6), (.int 3)]) (rest := [(.ref a)]) d2_45 (ru_cod3_6 l Z a0 hw n0 h6 hWd [] X6.old r6 kr6 [(.int (StrChars.lo8 x0)), (.int (StrChars.hi8 x0)), (.int (StrChars.lo8 x1)), (.int (StrChars.hi8 x1)), (.int (StrChars.lo8 x2)), (.int (StrChars.hi8 x2))] (.int 0) f7 ) (ow hw 64 rfl) (ow hw 65 rfl) (ow hw 59 rfl) (ow hw 66 rfl) (by decide) (lenOf pd__28_5bBI_29B rfl) rfl rfl rfl (W := 1) rfl (by decide) (by decide) (by decide) (by decide) all0 rfl ?_
    intro T8 h8 v8 X8 K8 hQ8
    obtain rfl := hQ8
    show OGo _ _ _ _ T8 (mkF m 48 #[.val (.ref a), .val (.ref b), .val (.int 0), .val (.int 3), .val .null, .val (.ref r6)] [(.int 1), (.ref a)])
    have f9 := q2.keep K6 nin0
    have f10 := f9.keep K8 nin0
    have f11 := q0.keep K6
    have f12 := f11.keep K8
    have f13 := q1.keep K6 nin0
    have f14 := f13.keep K8 nin0
    refine own_put X8 51 d2_48 (host := "") (Or.inl (ow hw 22 rfl)) Via.refl f10 f12 (Or.inr ⟨(ow hw 18 rfl), rfl, hnm⟩) (ow hw 3 rfl) (ty := .byte) (by decide) rfl rfl (om 0 rfl) rfl ?_
    intro T15 h15 X15 W15 K15 F15
    have f16 := Fld.other W15 f14 (Or.inr (slot_ne (Or.inr (ow hw 17 rfl)) (Or.inr (ow hw 18 rfl)) (by decide) (t := (.array .byte)) (t' := .byte) (by decide) (by decide)))
    refine og_aloadN X15 52 d2_51 rfl rfl rfl ?_
    refine og_aload X15 54 d2_52 rfl rfl rfl ?_
    have f17 := f12.keep K15
    refine own_put X15 57 d2_54 (host := "") (Or.inl (ow hw 21 rfl)) Via.refl f16 f17 (Or.inr ⟨(ow hw 17 rfl), rfl, hnm⟩) (ow hw 3 rfl) (ty := (.array .byte)) (by decide) rfl rfl (om 0 rfl) rfl ?_
    intro T18 h18 X18 W18 K18 F18
    have f19 := Fld.other W18 F15 (Or.inr (slot_ne (Or.inr (ow hw 18 rfl)) (Or.inr (ow hw 17 rfl)) (by decide) (t := .byte) (t' := (.array .byte)) (by decide) (by decide)))
    have f20 := f17.keep K18
    have f21 := f7.keep K8 nin0
    have f22 := f21.keep K15 (ninS (Nat.ne_of_gt (Nat.lt_of_lt_of_le q0.lt ge_r6)) nin0)
    have f23 := f22.keep K18 (ninS (Nat.ne_of_gt (Nat.lt_of_lt_of_le q0.lt ge_r6)) nin0)
    refine own_retV X18 d2_57 hret (by decide) (by decide) ?_
    exact ⟨rfl, own_mkStrW (cs := [x0, x1, x2]) (n := 3) f20 f19 F18 f23 ⟨x0, List.mem_of_getElem? (i := 0) rfl, hc5⟩ (own_l16 ⟨q4, q5⟩ (own_l16 ⟨q6, q7⟩ (own_l16 ⟨q8, q9⟩ (fun _ q => nomatch q)))) rfl rfl (Nat.le_of_ble_eq_true rfl)⟩
  · -- not
    by_cases hc24 : (255 : Int32) < x1
    · -- (255 : Int32) < x1
      refine own_stat X4 39 (argsL := [(.ref b), (.int 0), (.int 3)]) (rest := []) d2_36 (ru_cmp3_1 l Z a0 hw n0 h0 hWd [] X4.old b kb dv x0 x1 x2 q3 hc5 hc24 q4 q5 q6 q7 q8 q9 ) (ow hw 57 rfl) (ow hw 58 rfl) (ow hw 59 rfl) (ow hw 60 rfl) (by decide) (lenOf pd__28_5bCII_29_5bB rfl) rfl rfl rfl (W := 0) rfl (by decide) (by decide) (by decide) (by decide) all0 rfl ?_
      intro T25 h25 v25 X25 K25 hQ25
      obtain ⟨r25, kr25, rfl, ge_r25, f26⟩ := hQ25
      show OGo _ _ _ _ T25 (mkF m 39 #[.val (.ref a), .val (.ref b), .val (.int 0), .val (.int 3), .val .null, .unset] [(.ref r25)])
      refine og_astore X25 41 #[.val (.ref a), .val (.ref b), .val (.int 0), .val (.int 3), .val .null, .val (.ref r25)] d2_39 rfl rfl rfl ?_
      refine og_aloadN X25 42 d2_41 rfl rfl rfl ?_
      refine og_aload X25 44 d2_42 rfl rfl rfl ?_
      refine og_iloadN X25 45 d2_44 rfl rfl ?_
      refine own_stat X25 48 (argsL := [(.ref r25), (.int 3)]) (rest := [(.ref a)]) d2_45 (ru_cod3_6 l Z a0 hw n0 h25 hWd [] X25.old r25 kr25 [(.int (StrChars.lo8 x0)), (.int (StrChars.hi8 x0)), (.int (StrChars.lo8 x1)), (.int (StrChars.hi8 x1)), (.int (StrChars.lo8 x2)), (.int (StrChars.hi8 x2))] (.int 0) f26 ) (ow hw 64 rfl) (ow hw 65 rfl) (ow hw 59 rfl) (ow hw 66 rfl) (by decide) (lenOf pd__28_5bBI_29B rfl) rfl rfl rfl (W := 1) rfl (by decide) (by decide) (by decide) (by decide) all0 rfl ?_
      intro T27 h27 v27 X27 K27 hQ27
      obtain rfl := hQ27
      show OGo _ _ _ _ T27 (mkF m 48 #[.val (.ref a), .val (.ref b), .val (.int 0), .val (.int 3), .val .null, .val (.ref r25)] [(.int 1), (.ref a)])
      have f28 := q2.keep K25 nin0
      have f29 := f28.keep K27 nin0
      have f30 := q0.keep K25
      have f31 := f30.keep K27
      have f32 := q1.keep K25 nin0
      have f33 := f32.keep K27 nin0
      refine own_put X27 51 d2_48 (host := "") (Or.inl (ow hw 22 rfl)) Via.refl f29 f31 (Or.inr ⟨(ow hw 18 rfl), rfl, hnm⟩) (ow hw 3 rfl) (ty := .byte) (by decide) rfl rfl (om 0 rfl) rfl ?_
      intro T34 h34 X34 W34 K34 F34
      have f35 := Fld.other W34 f33 (Or.inr (slot_ne (Or.inr (ow hw 17 rfl)) (Or.inr (ow hw 18 rfl)) (by decide) (t := (.array .byte)) (t' := .byte) (by decide) (by decide)))
      refine og_aloadN X34 52 d2_51 rfl rfl rfl ?_
      refine og_aload X34 54 d2_52 rfl rfl rfl ?_
      have f36 := f31.keep K34
      refine own_put X34 57 d2_54 (host := "") (Or.inl (ow hw 21 rfl)) Via.refl f35 f36 (Or.inr ⟨(ow hw 17 rfl), rfl, hnm⟩) (ow hw 3 rfl) (ty := (.array .byte)) (by decide) rfl rfl (om 0 rfl) rfl ?_
      intro T37 h37 X37 W37 K37 F37
      have f38 := Fld.other W37 F34 (Or.inr (slot_ne (Or.inr (ow hw 18 rfl)) (Or.inr (ow hw 17 rfl)) (by decide) (t := .byte) (t' := (.array .byte)) (by decide) (by decide)))
      have f39 := f36.keep K37
      have f40 := f26.keep K27 nin0
      have f41 := f40.keep K34 (ninS (Nat.ne_of_gt (Nat.lt_of_lt_of_le q0.lt ge_r25)) nin0)
      have f42 := f41.keep K37 (ninS (Nat.ne_of_gt (Nat.lt_of_lt_of_le q0.lt ge_r25)) nin0)
      refine own_retV X37 d2_57 hret (by decide) (by decide) ?_
      exact ⟨rfl, own_mkStrW (cs := [x0, x1, x2]) (n := 3) f39 f38 F37 f42 ⟨x1, List.mem_of_getElem? (i := 1) rfl, hc24⟩ (own_l16 ⟨q4, q5⟩ (own_l16 ⟨q6, q7⟩ (own_l16 ⟨q8, q9⟩ (fun _ q => nomatch q)))) rfl rfl (Nat.le_of_ble_eq_true rfl)⟩
    · -- not
      by_cases hc43 : (255 : Int32) < x2
      · -- (255 : Int32) < x2
        refine own_stat X4 39 (argsL := [(.ref b), (.int 0), (.int 3)]) (rest := []) d2_36 (ru_cmp3_2 l Z a0 hw n0 h0 hWd [] X4.old b kb dv x0 x1 x2 q3 hc5 hc24 hc43 q4 q5 q6 q7 q8 q9 ) (ow hw 57 rfl) (ow hw 58 rfl) (ow hw 59 rfl) (ow hw 60 rfl) (by decide) (lenOf pd__28_5bCII_29_5bB rfl) rfl rfl rfl (W := 0) rfl (by decide) (by decide) (by decide) (by decide) all0 rfl ?_
        intro T44 h44 v44 X44 K44 hQ44
        obtain ⟨r44, kr44, rfl, ge_r44, f45⟩ := hQ44
        show OGo _ _ _ _ T44 (mkF m 39 #[.val (.ref a), .val (.ref b), .val (.int 0), .val (.int 3), .val .null, .unset] [(.ref r44)])
        refine og_astore X44 41 #[.val (.ref a), .val (.ref b), .val (.int 0), .val (.int 3), .val .null, .val (.ref r44)] d2_39 rfl rfl rfl ?_
        refine og_aloadN X44 42 d2_41 rfl rfl rfl ?_
        refine og_aload X44 44 d2_42 rfl rfl rfl ?_
        refine og_iloadN X44 45 d2_44 rfl rfl ?_
        refine own_stat X44 48 (argsL := [(.ref r44), (.int 3)]) (rest := [(.ref a)]) d2_45 (ru_cod3_6 l Z a0 hw n0 h44 hWd [] X44.old r44 kr44 [(.int (StrChars.lo8 x0)), (.int (StrChars.hi8 x0)), (.int (StrChars.lo8 x1)), (.int (StrChars.hi8 x1)), (.int (StrChars.lo8 x2)), (.int (StrChars.hi8 x2))] (.int 0) f45 ) (ow hw 64 rfl) (ow hw 65 rfl) (ow hw 59 rfl) (ow hw 66 rfl) (by decide) (lenOf pd__28_5bBI_29B rfl) rfl rfl rfl (W := 1) rfl (by decide) (by decide) (by decide) (by decide) all0 rfl ?_
        intro T46 h46 v46 X46 K46 hQ46
        obtain rfl := hQ46
        show OGo _ _ _ _ T46 (mkF m 48 #[.val (.ref a), .val (.ref b), .val (.int 0), .val (.int 3), .val .null, .val (.ref r44)] [(.int 1), (.ref a)])
        have f47 := q2.keep K44 nin0
        have f48 := f47.keep K46 nin0
        have f49 := q0.keep K44
        have f50 := f49.keep K46
        have f51 := q1.keep K44 nin0
        have f52 := f51.keep K46 nin0
        refine own_put X46 51 d2_48 (host := "") (Or.inl (ow hw 22 rfl)) Via.refl f48 f50 (Or.inr ⟨(ow hw 18 rfl), rfl, hnm⟩) (ow hw 3 rfl) (ty := .byte) (by decide) rfl rfl (om 0 rfl) rfl ?_
        intro T53 h53 X53 W53 K53 F53
        have f54 := Fld.other W53 f52 (Or.inr (slot_ne (Or.inr (ow hw 17 rfl)) (Or.inr (ow hw 18 rfl)) (by decide) (t := (.array .byte)) (t' := .byte) (by decide) (by decide)))
        refine og_aloadN X53 52 d2_51 rfl rfl rfl ?_
        refine og_aload X53 54 d2_52 rfl rfl rfl ?_
        have f55 := f50.keep K53
        refine own_put X53 57 d2_54 (host := "") (Or.inl (ow hw 21 rfl)) Via.refl f54 f55 (Or.inr ⟨(ow hw 17 rfl), rfl, hnm⟩) (ow hw 3 rfl) (ty := (.array .byte)) (by decide) rfl rfl (om 0 rfl) rfl ?_
        intro T56 h56 X56 W56 K56 F56
        have f57 := Fld.other W56 F53 (Or.inr (slot_ne (Or.inr (ow hw 18 rfl)) (Or.inr (ow hw 17 rfl)) (by decide) (t := .byte) (t' := (.array .byte)) (by decide) (by decide)))
        have f58 := f55.keep K56
        have f59 := f45.keep K46 nin0
        have f60 := f59.keep K53 (ninS (Nat.ne_of_gt (Nat.lt_of_lt_of_le q0.lt ge_r44)) nin0)
        have f61 := f60.keep K56 (ninS (Nat.ne_of_gt (Nat.lt_of_lt_of_le q0.lt ge_r44)) nin0)
        refine own_retV X56 d2_57 hret (by decide) (by decide) ?_
        exact ⟨rfl, own_mkStrW (cs := [x0, x1, x2]) (n := 3) f58 f57 F56 f61 ⟨x2, List.mem_of_getElem? (i := 2) rfl, hc43⟩ (own_l16 ⟨q4, q5⟩ (own_l16 ⟨q6, q7⟩ (own_l16 ⟨q8, q9⟩ (fun _ q => nomatch q)))) rfl rfl (Nat.le_of_ble_eq_true rfl)⟩
      · -- not
        refine own_stat X4 39 (argsL := [(.ref b), (.int 0), (.int 3)]) (rest := []) d2_36 (ru_cmp3_3 l Z a0 hw n0 h0 hWd [] X4.old b kb dv x0 x1 x2 q3 hc5 hc24 hc43 q4 q5 q6 q7 q8 q9 ) (ow hw 57 rfl) (ow hw 58 rfl) (ow hw 59 rfl) (ow hw 60 rfl) (by decide) (lenOf pd__28_5bCII_29_5bB rfl) rfl rfl rfl (W := 0) rfl (by decide) (by decide) (by decide) (by decide) all0 rfl ?_
        intro T62 h62 v62 X62 K62 hQ62
        obtain ⟨r62, kr62, rfl, ge_r62, f63⟩ := hQ62
        show OGo _ _ _ _ T62 (mkF m 39 #[.val (.ref a), .val (.ref b), .val (.int 0), .val (.int 3), .val .null, .unset] [(.ref r62)])
        refine og_astore X62 41 #[.val (.ref a), .val (.ref b), .val (.int 0), .val (.int 3), .val .null, .val (.ref r62)] d2_39 rfl rfl rfl ?_
        refine og_aloadN X62 42 d2_41 rfl rfl rfl ?_
        refine og_aload X62 44 d2_42 rfl rfl rfl ?_
        refine og_iloadN X62 45 d2_44 rfl rfl ?_
        refine own_stat X62 48 (argsL := [(.ref r62), (.int 3)]) (rest := [(.ref a)]) d2_45 (ru_cod3_3 l Z a0 hw n0 h62 hWd [] X62.old r62 kr62 [(.int ((x0).toInt8.toInt32)), (.int ((x1).toInt8.toInt32)), (.int ((x2).toInt8.toInt32))] (.int 0) f63 ) (ow hw 64 rfl) (ow hw 65 rfl) (ow hw 59 rfl) (ow hw 66 rfl) (by decide) (lenOf pd__28_5bBI_29B rfl) rfl rfl rfl (W := 1) rfl (by decide) (by decide) (by decide) (by decide) all0 rfl ?_
        intro T64 h64 v64 X64 K64 hQ64
        obtain rfl := hQ64
        show OGo _ _ _ _ T64 (mkF m 48 #[.val (.ref a), .val (.ref b), .val (.int 0), .val (.int 3), .val .null, .val (.ref r62)] [(.int 0), (.ref a)])
        have f65 := q2.keep K62 nin0
        have f66 := f65.keep K64 nin0
        have f67 := q0.keep K62
        have f68 := f67.keep K64
        have f69 := q1.keep K62 nin0
        have f70 := f69.keep K64 nin0
        refine own_put X64 51 d2_48 (host := "") (Or.inl (ow hw 22 rfl)) Via.refl f66 f68 (Or.inr ⟨(ow hw 18 rfl), rfl, hnm⟩) (ow hw 3 rfl) (ty := .byte) (by decide) rfl rfl (om 0 rfl) rfl ?_
        intro T71 h71 X71 W71 K71 F71
        have f72 := Fld.other W71 f70 (Or.inr (slot_ne (Or.inr (ow hw 17 rfl)) (Or.inr (ow hw 18 rfl)) (by decide) (t := (.array .byte)) (t' := .byte) (by decide) (by decide)))
        refine og_aloadN X71 52 d2_51 rfl rfl rfl ?_
        refine og_aload X71 54 d2_52 rfl rfl rfl ?_
        have f73 := f68.keep K71
        refine own_put X71 57 d2_54 (host := "") (Or.inl (ow hw 21 rfl)) Via.refl f72 f73 (Or.inr ⟨(ow hw 17 rfl), rfl, hnm⟩) (ow hw 3 rfl) (ty := (.array .byte)) (by decide) rfl rfl (om 0 rfl) rfl ?_
        intro T74 h74 X74 W74 K74 F74
        have f75 := Fld.other W74 F71 (Or.inr (slot_ne (Or.inr (ow hw 18 rfl)) (Or.inr (ow hw 17 rfl)) (by decide) (t := .byte) (t' := (.array .byte)) (by decide) (by decide)))
        have f76 := f73.keep K74
        have f77 := f63.keep K64 nin0
        have f78 := f77.keep K71 (ninS (Nat.ne_of_gt (Nat.lt_of_lt_of_le q0.lt ge_r62)) nin0)
        have f79 := f78.keep K74 (ninS (Nat.ne_of_gt (Nat.lt_of_lt_of_le q0.lt ge_r62)) nin0)
        refine own_retV X74 d2_57 hret (by decide) (by decide) ?_
        exact ⟨rfl, own_mkStr (cs := [x0, x1, x2]) (bs := [x0.toInt8.toInt32, x1.toInt8.toInt32, x2.toInt8.toInt32]) (n := 3) f76 f75 F74 f79 rfl (own_lS ⟨q4, hc5⟩ (own_lS ⟨q6, hc24⟩ (own_lS ⟨q8, hc43⟩ own_l0))) rfl rfl (Nat.le_of_ble_eq_true rfl)⟩
theorem ru_ini3 (l : Launch) (Z : State) (a0 : Array Value) (hw : ∀ d ∈ tables_1, d.before a0 Z = true) (n0 : Nat) (h0 : Heap) (hWd : OWorld Z a0) (wc : List Jvm.Cond) (O0 : Old Z n0 h0) (a : Addr) (b : Addr) (y : Value) (z : Int32) (kb : ClassId) (dv : Value) (x0 : Int32) (x1 : Int32) (x2 : Int32) (q0 : Exa Z h0 a "java/lang/String") (q1 : Fld Z h0 a "java/lang/String" "value" "[B" y) (q2 : Fld Z h0 a "java/lang/String" "coder" "B" (.int z)) (q3 : Arv Z h0 b kb .char (3 : Int32) [(.int x0), (.int x1), (.int x2)] dv) (q4 : ¬ x0 < 0) (q5 : ¬ (65535 : Int32) < x0) (q6 : ¬ x1 < 0) (q7 : ¬ (65535 : Int32) < x1) (q8 : ¬ x2 < 0) (q9 : ¬ (65535 : Int32) < x2) (g0 : n0 ≤ a ∧ a < h0.size) :
    OMet l Z own_EL n0 (⟨"java/lang/String", "<init>", "([C)V"⟩ : MethodName) (Jvm.Cond.code (⟨"java/lang/String", "<init>", "([C)V"⟩ : MethodName) jdk_42_method_3_code 2 none :: wc) ({ frames := 5, cells := 2, slots := 9, locals := 74 } : Room) #[(.ref a), (.ref b)] h0 [a] (fun vq hq => vq = none ∧ OStr Z hq a [x0, x1, x2] hq.size) := by
  refine own_enter #[.val (.ref a), .val (.ref b)] pn_java_lang_String__init____C_V (ef_ru_ini3 a b y z kb dv x0 x1 x2) hWd.1 O0 (allS g0 all0) ?_
  intro p e s m below meth c T0 X0 hnm hret
  refine og_aloadN X0 1 d1_0 rfl rfl rfl ?_
  refine og_aloadN X0 2 d1_1 rfl rfl rfl ?_
  refine og_iconst X0 3 (0 : Int32) d1_2 rfl rfl ?_
  refine og_aloadN X0 4 d1_3 rfl rfl rfl ?_
  refine own_len X0 5 d1_4 q3 rfl ?_
  refine og_aconstNull X0 6 d1_5 rfl ?_
  refine own_spec X0 9 (a := a) (argsL := [(.ref b), (.int 0), (.int 3), .null]) (rest := []) d1_6 rfl (ru_inv3 l Z a0 hw n0 h0 hWd [] X0.old a b y z kb dv x0 x1 x2 q0 q1 q2 q3 q4 q5 q6 q7 q8 q9 (own_svb X0 (om 0 rfl))) (ow hw 8 rfl) (ow hw 9 rfl) (ow hw 4 rfl) (ow hw 11 rfl) (by decide) (lenOf pd__28_5bCIILjava_2flang_2fVoid_3b_29V rfl) rfl rfl rfl (W := 0) rfl (by decide) (by decide) (by decide) (by decide) (allS (om 0 rfl) all0) rfl ?_
  intro T1 h1 v1 X1 K1 hQ1
  obtain ⟨rfl, f2⟩ := hQ1
  show OGo _ _ _ _ T1 (mkF m 9 #[.val (.ref a), .val (.ref b)] [])
  refine own_retV X1 d1_9 hret (by decide) (by decide) ?_
  exact ⟨rfl, f2.top⟩
theorem ru_nbl4 (l : Launch) (Z : State) (a0 : Array Value) (hw : ∀ d ∈ tables_1, d.before a0 Z = true) (n0 : Nat) (h0 : Heap) (hWd : OWorld Z a0) (wc : List Jvm.Cond) (O0 : Old Z n0 h0)   :
    OMet l Z own_EL n0 (⟨"java/lang/StringUTF16", "newBytesLength", "(I)I"⟩ : MethodName) (Jvm.Cond.code (⟨"java/lang/StringUTF16", "newBytesLength", "(I)I"⟩ : MethodName) jdk_52_method_3_code 1 (some .int) :: wc) ({ frames := 0, cells := 0, slots := 0, locals := 0 } : Room) #[(.int 4)] h0 [] (fun vq hq => vq = some (.int 8)) := by
  refine own_enter #[.val (.int 4)] pn_java_lang_StringUTF16_newBytesLength__I_I (ef_ru_nbl4) hWd.1 O0 all0 ?_
  intro p e s m below meth c T0 X0 hnm hret
  refine og_iloadN X0 1 d22_0 rfl rfl ?_
  refine og_ifY X0 12 d22_1 (XT.i0_ge_t (by decide)) (by decide) (by decide) ?_
  refine og_iloadN X0 13 d22_12 rfl rfl ?_
  refine own_ldcI X0 15 (v := (1073741823 : Int32)) d22_13 (ow hw 99 rfl) rfl ?_
  refine og_icmpY X0 55 d22_15 (XT.ii_lt_t (by decide)) (by decide) (by decide) ?_
  refine og_iloadN X0 56 d22_55 rfl rfl ?_
  refine og_iconst X0 57 (1 : Int32) d22_56 rfl rfl ?_
  refine og_ishl X0 58 d22_57 rfl ?_
  show OGo _ _ _ _ T0 (mkF m 58 #[.val (.int 4)] [(.int 8)])
  refine own_retI X0 d22_58 hret (by decide) (by decide) ?_
  exact rfl
theorem ru_nbf4 (l : Launch) (Z : State) (a0 : Array Value) (hw : ∀ d ∈ tables_1, d.before a0 Z = true) (n0 : Nat) (h0 : Heap) (hWd : OWorld Z a0) (wc : List Jvm.Cond) (O0 : Old Z n0 h0)   :
    OMet l Z own_EL n0 (⟨"java/lang/StringUTF16", "newBytesFor", "(I)[B"⟩ : MethodName) (Jvm.Cond.code (⟨"java/lang/StringUTF16", "newBytesFor", "(I)[B"⟩ : MethodName) jdk_52_method_2_code 1 (some (.array .byte)) :: wc) ({ frames := 1, cells := 1, slots := 8, locals := 12 } : Room) #[(.int 4)] h0 [] (fun vq hq => ∃ (r : Addr) (kb : ClassId), vq = some (.ref r) ∧ h0.size ≤ r ∧ Arv Z hq r kb .byte (8 : Int32) [(.int 0), (.int 0), (.int 0), (.int 0), (.int 0), (.int 0), (.int 0), (.int 0)] (.int 0)) := by
  refine own_enter #[.val (.int 4)] pn_java_lang_StringUTF16_newBytesFor__I__B (ef_ru_nbf4) hWd.1 O0 all0 ?_
  intro p e s m below meth c T0 X0 hnm hret
  refine og_iloadN X0 1 d21_0 rfl rfl ?_
  refine own_stat X0 4 (argsL := [(.int 4)]) (rest := []) d21_1 (ru_nbl4 l Z a0 hw n0 h0 hWd [] X0.old   ) (ow hw 96 rfl) (ow hw 97 rfl) (ow hw 59 rfl) (ow hw 98 rfl) (by decide) (lenOf pd__28I_29I rfl) rfl rfl rfl (W := 0) rfl (by decide) (by decide) (by decide) (by decide) all0 rfl ?_
  intro T1 h1 v1 X1 K1 hQ1
  obtain rfl := hQ1
  show OGo _ _ _ _ T1 (mkF m 4 #[.val (.int 4)] [(.int 8)])
  refine own_arr X1 6 d21_4 (ow hw 16 rfl) (by decide) (cap := 8) (by decide) (by decide) (by decide) (by decide) rfl ?_
  intro T2 h2 b2 kb2 X2 K2 G2 U2 A2
  have f3 : Arv Z h2 b2 kb2 .byte (8 : Int32) [(.int 0), (.int 0), (.int 0), (.int 0), (.int 0), (.int 0), (.int 0), (.int 0)] (.int 0) := A2
  refine own_retA X2 d21_6 hret rfl rfl (by decide) (by decide) ?_
  exact ⟨b2, kb2, rfl, (Nat.le_trans K1.1 G2), f3⟩
theorem ru_put4_0 (l : Launch) (Z : State) (a0 : Array Value) (hw : ∀ d ∈ tables_1, d.before a0 Z = true) (n0 : Nat) (h0 : Heap) (hWd : OWorld Z a0) (wc : List Jvm.Cond) (O0 : Old Z n0 h0) (b : Addr) (kb : ClassId) (x : Int32) (dv : Value) (e0 : Value) (e1 : Value) (e2 : Value) (e3 : Value) (e4 : Value) (e5 : Value) (e6 : Value) (e7 : Value) (q0 : Arv Z h0 b kb .byte (8 : Int32) [e0, e1, e2, e3, e4, e5, e6, e7] dv) (g0 : n0 ≤ b ∧ b < h0.size) :
    OMet l Z own_EL n0 (⟨"java/lang/StringUTF16", "putChar", "([BII)V"⟩ : MethodName) (Jvm.Cond.code (⟨"java/lang/StringUTF16", "putChar", "([BII)V"⟩ : MethodName) jdk_52_method_4_code 3 none :: wc) ({ frames := 0, cells := 0, slots := 0, locals := 0 } : Room) #[(.ref b), (.int 0), (.int x)] h0 [b] (fun vq hq => vq = none ∧ Arv Z hq b kb .byte (8 : Int32) [(.int (StrChars.lo8 x)), (.int (StrChars.hi8 x)), e2, e3, e4, e5, e6, e7] dv) := by
  refine own_enter #[.val (.ref b), .val (.int 0), .val (.int x)] pn_java_lang_StringUTF16_putChar___BII_V (ef_ru_put4_0 b kb x dv e0 e1 e2 e3 e4 e5 e6 e7) hWd.1 O0 (allS g0 all0) ?_
  intro p e s m below meth c T0 X0 hnm hret
  refine own_getS X0 3 d23_0 (host := "") (Or.inl (ow hw 103 rfl)) Via.refl hWd.2.2.2.1 rfl ?_
  intro T1 X2
  refine og_ifY X2 28 d23_3 (XT.i0_ne_t (by decide)) (by decide) (by decide) ?_
  refine og_iloadN X2 29 d23_28 rfl rfl ?_
  refine og_iconst X2 30 (1 : Int32) d23_29 rfl rfl ?_
  refine og_ishl X2 31 d23_30 rfl ?_
  show OGo _ _ _ _ T1 (mkF m 31 #[.val (.ref b), .val (.int 0), .val (.int x)] [(.int 0)])
  refine og_istoreN X2 32 #[.val (.ref b), .val (.int 0), .val (.int x)] d23_31 rfl rfl ?_
  refine og_aloadN X2 33 d23_32 rfl rfl rfl ?_
  refine og_iloadN X2 34 d23_33 rfl rfl ?_
  refine og_iinc X2 37 #[.val (.ref b), .val (.int 1), .val (.int x)] d23_34 rfl rfl rfl ?_
  refine og_iloadN X2 38 d23_37 rfl rfl ?_
  refine own_getS X2 41 d23_38 (host := "") (Or.inl (ow hw 104 rfl)) Via.refl hWd.2.2.2.2.1 rfl ?_
  intro T3 X4
  refine og_ishr X4 42 d23_41 rfl ?_
  refine og_i2b X4 43 d23_42 rfl ?_
  refine own_stB X4 44 d23_43 q0 (own_nbb _) (by decide) (by decide) (i := 0) (by decide) (Nat.le_of_ble_eq_true rfl) (om 0 rfl) rfl ?_
  intro T5 h5 X5 W5 K5 A5
  have f6 : Arv Z h5 b kb .byte (8 : Int32) [(.int (((x >>> ((0 : Int32) &&& 31))).toInt8.toInt32)), e1, e2, e3, e4, e5, e6, e7] dv := A5
  refine og_aloadN X5 45 d23_44 rfl rfl rfl ?_
  refine og_iloadN X5 46 d23_45 rfl rfl ?_
  refine og_iloadN X5 47 d23_46 rfl rfl ?_
  refine own_getS X5 50 d23_47 (host := "") (Or.inl (ow hw 105 rfl)) Via.refl hWd.2.2.2.2.2 rfl ?_
  intro T7 X8
  refine og_ishr X8 51 d23_50 rfl ?_
  refine og_i2b X8 52 d23_51 rfl ?_
  refine own_stB X8 53 d23_52 f6 (own_nbb _) (by decide) (by decide) (i := 1) (by decide) (Nat.le_of_ble_eq_true rfl) (om 0 rfl) rfl ?_
  intro T9 h9 X9 W9 K9 A9
  have f10 : Arv Z h9 b kb .byte (8 : Int32) [(.int (((x >>> ((0 : Int32) &&& 31))).toInt8.toInt32)), (.int (((x >>> ((8 : Int32) &&& 31))).toInt8.toInt32)), e2, e3, e4, e5, e6, e7] dv := A9
  refine own_retV X9 d23_53 hret (by decide) (by decide) ?_
  exact ⟨rfl, by have q := f10; rw [StrChars.shr0] at q; exact q⟩
theorem ru_put4_1 (l : Launch) (Z : State) (a0 : Array Value) (hw : ∀ d ∈ tables_1, d.before a0 Z = true) (n0 : Nat) (h0 : Heap) (hWd : OWorld Z a0) (wc : List Jvm.Cond) (O0 : Old Z n0 h0) (b : Addr) (kb : ClassId) (x : Int32) (dv : Value) (e0 : Value) (e1 : Value) (e2 : Value) (e3 : Value) (e4 : Value) (e5 : Value) (e6 : Value) (e7 : Value) (q0 : Arv Z h0 b kb .byte (8 : Int32) [e0, e1, e2, e3, e4, e5, e6, e7] dv) (g0 : n0 ≤ b ∧ b < h0.size) :
    OMet l Z own_EL n0 (⟨"java/lang/StringUTF16", "putChar", "([BII)V"⟩ : MethodName) (Jvm.Cond.code (⟨"java/lang/StringUTF16", "putChar", "([BII)V"⟩ : MethodName) jdk_52_method_4_code 3 none :: wc) ({ frames := 0, cells := 0, slots := 0, locals := 0 } : Room) #[(.ref b), (.int 1), (.int x)] h0 [b] (fun vq hq => vq = none ∧ Arv Z hq b kb .byte (8 : Int32) [e0, e1, (.int (StrChars.lo8 x)), (.int (StrChars.hi8 x)), e4, e5, e6, e7] dv) := by
  refine own_enter #[.val (.ref b), .val (.int 1), .val (.int x)] pn_java_lang_StringUTF16_putChar___BII_V (ef_ru_put4_1 b kb x dv e0 e1 e2 e3 e4 e5 e6 e7) hWd.1 O0 (allS g0 all0) ?_
  intro p e s m below meth c T0 X0 hnm hret
  refine own_getS X0 3 d23_0 (host := "") (Or.inl (ow hw 103 rfl)) Via.refl hWd.2.2.2.1 rfl ?_
  intro T1 X2
  refine og_ifY X2 28 d23_3 (XT.i0_ne_t (by decide)) (by decide) (by decide) ?_
  refine og_iloadN X2 29 d23_28 rfl rfl ?_
  refine og_iconst X2 30 (1 : Int32) d23_29 rfl rfl ?_
  refine og_ishl X2 31 d23_30 rfl ?_
  show OGo _ _ _ _ T1 (mkF m 31 #[.val (.ref b), .val (.int 1), .val (.int x)] [(.int 2)])
  refine og_istoreN X2 32 #[.val (.ref b), .val (.int 2), .val (.int x)] d23_31 rfl rfl ?_
  refine og_aloadN X2 33 d23_32 rfl rfl rfl ?_
  refine og_iloadN X2 34 d23_33 rfl rfl ?_
  refine og_iinc X2 37 #[.val (.ref b), .val (.int 3), .val (.int x)] d23_34 rfl rfl rfl ?_
  refine og_iloadN X2 38 d23_37 rfl rfl ?_
  refine own_getS X2 41 d23_38 (host := "") (Or.inl (ow hw 104 rfl)) Via.refl hWd.2.2.2.2.1 rfl ?_
  intro T3 X4
  refine og_ishr X4 42 d23_41 rfl ?_
  refine og_i2b X4 43 d23_42 rfl ?_
  refine own_stB X4 44 d23_43 q0 (own_nbb _) (by decide) (by decide) (i := 2) (by decide) (Nat.le_of_ble_eq_true rfl) (om 0 rfl) rfl ?_
  intro T5 h5 X5 W5 K5 A5
  have f6 : Arv Z h5 b kb .byte (8 : Int32) [e0, e1, (.int (((x >>> ((0 : Int32) &&& 31))).toInt8.toInt32)), e3, e4, e5, e6, e7] dv := A5
  refine og_aloadN X5 45 d23_44 rfl rfl rfl ?_
  refine og_iloadN X5 46 d23_45 rfl rfl ?_
  refine og_iloadN X5 47 d23_46 rfl rfl ?_
  refine own_getS X5 50 d23_47 (host := "") (Or.inl (ow hw 105 rfl)) Via.refl hWd.2.2.2.2.2 rfl ?_
  intro T7 X8
  refine og_ishr X8 51 d23_50 rfl ?_
  refine og_i2b X8 52 d23_51 rfl ?_
  refine own_stB X8 53 d23_52 f6 (own_nbb _) (by decide) (by decide) (i := 3) (by decide) (Nat.le_of_ble_eq_true rfl) (om 0 rfl) rfl ?_
  intro T9 h9 X9 W9 K9 A9
  have f10 : Arv Z h9 b kb .byte (8 : Int32) [e0, e1, (.int (((x >>> ((0 : Int32) &&& 31))).toInt8.toInt32)), (.int (((x >>> ((8 : Int32) &&& 31))).toInt8.toInt32)), e4, e5, e6, e7] dv := A9
  refine own_retV X9 d23_53 hret (by decide) (by decide) ?_
  exact ⟨rfl, by have q := f10; rw [StrChars.shr0] at q; exact q⟩
theorem ru_put4_2 (l : Launch) (Z : State) (a0 : Array Value) (hw : ∀ d ∈ tables_1, d.before a0 Z = true) (n0 : Nat) (h0 : Heap) (hWd : OWorld Z a0) (wc : List Jvm.Cond) (O0 : Old Z n0 h0) (b : Addr) (kb : ClassId) (x : Int32) (dv : Value) (e0 : Value) (e1 : Value) (e2 : Value) (e3 : Value) (e4 : Value) (e5 : Value) (e6 : Value) (e7 : Value) (q0 : Arv Z h0 b kb .byte (8 : Int32) [e0, e1, e2, e3, e4, e5, e6, e7] dv) (g0 : n0 ≤ b ∧ b < h0.size) :
    OMet l Z own_EL n0 (⟨"java/lang/StringUTF16", "putChar", "([BII)V"⟩ : MethodName) (Jvm.Cond.code (⟨"java/lang/StringUTF16", "putChar", "([BII)V"⟩ : MethodName) jdk_52_method_4_code 3 none :: wc) ({ frames := 0, cells := 0, slots := 0, locals := 0 } : Room) #[(.ref b), (.int 2), (.int x)] h0 [b] (fun vq hq => vq = none ∧ Arv Z hq b kb .byte (8 : Int32) [e0, e1, e2, e3, (.int (StrChars.lo8 x)), (.int (StrChars.hi8 x)), e6, e7] dv) := by
  refine own_enter #[.val (.ref b), .val (.int 2), .val (.int x)] pn_java_lang_StringUTF16_putChar___BII_V (ef_ru_put4_2 b kb x dv e0 e1 e2 e3 e4 e5 e6 e7) hWd.1 O0 (allS g0 all0) ?_
  intro p e s m below meth c T0 X0 hnm hret
  refine own_getS X0 3 d23_0 (host := "") (Or.inl (ow hw 103 rfl)) Via.refl hWd.2.2.2.1 rfl ?_
  intro T1 X2
  refine og_ifY X2 28 d23_3 (XT.i0_ne_t (by decide)) (by decide) (by decide) ?_
  refine og_iloadN X2 29 d23_28 rfl rfl ?_
  refine og_iconst X2 30 (1 : Int32) d23_29 rfl rfl ?_
  refine og_ishl X2 31 d23_30 rfl ?_
  show OGo _ _ _ _ T1 (mkF m 31 #[.val (.ref b), .val (.int 2), .val (.int x)] [(.int 4)])
  refine og_istoreN X2 32 #[.val (.ref b), .val (.int 4), .val (.int x)] d23_31 rfl rfl ?_
  refine og_aloadN X2 33 d23_32 rfl rfl rfl ?_
  refine og_iloadN X2 34 d23_33 rfl rfl ?_
  refine og_iinc X2 37 #[.val (.ref b), .val (.int 5), .val (.int x)] d23_34 rfl rfl rfl ?_
  refine og_iloadN X2 38 d23_37 rfl rfl ?_
  refine own_getS X2 41 d23_38 (host := "") (Or.inl (ow hw 104 rfl)) Via.refl hWd.2.2.2.2.1 rfl ?_
  intro T3 X4
  refine og_ishr X4 42 d23_41 rfl ?_
  refine og_i2b X4 43 d23_42 rfl ?_
  refine own_stB X4 44 d23_43 q0 (own_nbb _) (by decide) (by decide) (i := 4) (by decide) (Nat.le_of_ble_eq_true rfl) (om 0 rfl) rfl ?_
  intro T5 h5 X5 W5 K5 A5
  have f6 : Arv Z h5 b kb .byte (8 : Int32) [e0, e1, e2, e3, (.int (((x >>> ((0 : Int32) &&& 31))).toInt8.toInt32)), e5, e6, e7] dv := A5
  refine og_aloadN X5 45 d23_44 rfl rfl rfl ?_
  refine og_iloadN X5 46 d23_45 rfl rfl ?_
  refine og_iloadN X5 47 d23_46 rfl rfl ?_
  refine own_getS X5 50 d23_47 (host := "") (Or.inl (ow hw 105 rfl)) Via.refl hWd.2.2.2.2.2 rfl ?_
  intro T7 X8
  refine og_ishr X8 51 d23_50 rfl ?_
  refine og_i2b X8 52 d23_51 rfl ?_
  refine own_stB X8 53 d23_52 f6 (own_nbb _) (by decide) (by decide) (i := 5) (by decide) (Nat.le_of_ble_eq_true rfl) (om 0 rfl) rfl ?_
  intro T9 h9 X9 W9 K9 A9
  have f10 : Arv Z h9 b kb .byte (8 : Int32) [e0, e1, e2, e3, (.int (((x >>> ((0 : Int32) &&& 31))).toInt8.toInt32)), (.int (((x >>> ((8 : Int32) &&& 31))).toInt8.toInt32)), e6, e7] dv := A9
  refine own_retV X9 d23_53 hret (by decide) (by decide) ?_
  exact ⟨rfl, by have q := f10; rw [StrChars.shr0] at q; exact q⟩
theorem ru_put4_3 (l : Launch) (Z : State) (a0 : Array Value) (hw : ∀ d ∈ tables_1, d.before a0 Z = true) (n0 : Nat) (h0 : Heap) (hWd : OWorld Z a0) (wc : List Jvm.Cond) (O0 : Old Z n0 h0) (b : Addr) (kb : ClassId) (x : Int32) (dv : Value) (e0 : Value) (e1 : Value) (e2 : Value) (e3 : Value) (e4 : Value) (e5 : Value) (e6 : Value) (e7 : Value) (q0 : Arv Z h0 b kb .byte (8 : Int32) [e0, e1, e2, e3, e4, e5, e6, e7] dv) (g0 : n0 ≤ b ∧ b < h0.size) :
    OMet l Z own_EL n0 (⟨"java/lang/StringUTF16", "putChar", "([BII)V"⟩ : MethodName) (Jvm.Cond.code (⟨"java/lang/StringUTF16", "putChar", "([BII)V"⟩ : MethodName) jdk_52_method_4_code 3 none :: wc) ({ frames := 0, cells := 0, slots := 0, locals := 0 } : Room) #[(.ref b), (.int 3), (.int x)] h0 [b] (fun vq hq => vq = none ∧ Arv Z hq b kb .byte (8 : Int32) [e0, e1, e2, e3, e4, e5, (.int (StrChars.lo8 x)), (.int (StrChars.hi8 x))] dv) := by
  refine own_enter #[.val (.ref b), .val (.int 3), .val (.int x)] pn_java_lang_StringUTF16_putChar___BII_V (ef_ru_put4_3 b kb x dv e0 e1 e2 e3 e4 e5 e6 e7) hWd.1 O0 (allS g0 all0) ?_
  intro p e s m below meth c T0 X0 hnm hret
  refine own_getS X0 3 d23_0 (host := "") (Or.inl (ow hw 103 rfl)) Via.refl hWd.2.2.2.1 rfl ?_
  intro T1 X2
  refine og_ifY X2 28 d23_3 (XT.i0_ne_t (by decide)) (by decide) (by decide) ?_
  refine og_iloadN X2 29 d23_28 rfl rfl ?_
  refine og_iconst X2 30 (1 : Int32) d23_29 rfl rfl ?_
  refine og_ishl X2 31 d23_30 rfl ?_
  show OGo _ _ _ _ T1 (mkF m 31 #[.val (.ref b), .val (.int 3), .val (.int x)] [(.int 6)])
  refine og_istoreN X2 32 #[.val (.ref b), .val (.int 6), .val (.int x)] d23_31 rfl rfl ?_
  refine og_aloadN X2 33 d23_32 rfl rfl rfl ?_
  refine og_iloadN X2 34 d23_33 rfl rfl ?_
  refine og_iinc X2 37 #[.val (.ref b), .val (.int 7), .val (.int x)] d23_34 rfl rfl rfl ?_
  refine og_iloadN X2 38 d23_37 rfl rfl ?_
  refine own_getS X2 41 d23_38 (host := "") (Or.inl (ow hw 104 rfl)) Via.refl hWd.2.2.2.2.1 rfl ?_
  intro T3 X4
  refine og_ishr X4 42 d23_41 rfl ?_
  refine og_i2b X4 43 d23_42 rfl ?_
  refine own_stB X4 44 d23_43 q0 (own_nbb _) (by decide) (by decide) (i := 6) (by decide) (Nat.le_of_ble_eq_true rfl) (om 0 rfl) rfl ?_
  intro T5 h5 X5 W5 K5 A5
  have f6 : Arv Z h5 b kb .byte (8 : Int32) [e0, e1, e2, e3, e4, e5, (.int (((x >>> ((0 : Int32) &&& 31))).toInt8.toInt32)), e7] dv := A5
  refine og_aloadN X5 45 d23_44 rfl rfl rfl ?_
  refine og_iloadN X5 46 d23_45 rfl rfl ?_
  refine og_iloadN X5 47 d23_46 rfl rfl ?_
  refine own_getS X5 50 d23_47 (host := "") (Or.inl (ow hw 105 rfl)) Via.refl hWd.2.2.2.2.2 rfl ?_
  intro T7 X8
  refine og_ishr X8 51 d23_50 rfl ?_
  refine og_i2b X8 52 d23_51 rfl ?_
  refine own_stB X8 53 d23_52 f6 (own_nbb _) (by decide) (by decide) (i := 7) (by decide) (Nat.le_of_ble_eq_true rfl) (om 0 rfl) rfl ?_
  intro T9 h9 X9 W9 K9 A9
  have f10 : Arv Z h9 b kb .byte (8 : Int32) [e0, e1, e2, e3, e4, e5, (.int (((x >>> ((0 : Int32) &&& 31))).toInt8.toInt32)), (.int (((x >>> ((8 : Int32) &&& 31))).toInt8.toInt32))] dv := A9
  refine own_retV X9 d23_53 hret (by decide) (by decide) ?_
  exact ⟨rfl, by have q := f10; rw [StrChars.shr0] at q; exact q⟩
theorem ru_tob4 (l : Launch) (Z : State) (a0 : Array Value) (hw : ∀ d ∈ tables_1, d.before a0 Z = true) (n0 : Nat) (h0 : Heap) (hWd : OWorld Z a0) (wc : List Jvm.Cond) (O0 : Old Z n0 h0) (b : Addr) (kb : ClassId) (dv : Value) (x0 : Int32) (x1 : Int32) (x2 : Int32) (x3 : Int32) (q0 : Arv Z h0 b kb .char (4 : Int32) [(.int x0), (.int x1), (.int x2), (.int x3)] dv) :
    OMet l Z own_EL n0 (⟨"java/lang/StringUTF16", "toBytes", "([CII)[B"⟩ : MethodName) (Jvm.Cond.code (⟨"java/lang/StringUTF16", "toBytes", "([CII)[B"⟩ : MethodName) jdk_52_method_14_code 5 (some (.array .byte)) :: wc) ({ frames := 2, cells := 1, slots := 8, locals := 24 } : Room) #[(.ref b), (.int 0), (.int 4)] h0 [] (fun vq hq => ∃ (r : Addr) (kr : ClassId), vq = some (.ref r) ∧ h0.size ≤ r ∧ Arv Z hq r kr .byte (8 : Int32) [(.int (StrChars.lo8 x0)), (.int (StrChars.hi8 x0)), (.int (StrChars.lo8 x1)), (.int (StrChars.hi8 x1)), (.int (StrChars.lo8 x2)), (.int (StrChars.hi8 x2)), (.int (StrChars.lo8 x3)), (.int (StrChars.hi8 x3))] (.int 0)) := by
  refine own_enter #[.val (.ref b), .val (.int 0), .val (.int 4), .unset, .unset] pn_java_lang_StringUTF16_toBytes___CII__B (ef_ru_tob4 b kb dv x0 x1 x2 x3) hWd.1 O0 all0 ?_
  intro p e s m below meth c T0 X0 hnm hret
  refine og_iloadN X0 1 d20_0 rfl rfl ?_
  refine own_stat X0 4 (argsL := [(.int 4)]) (rest := []) d20_1 (ru_nbf4 l Z a0 hw n0 h0 hWd [] X0.old   ) (ow hw 93 rfl) (ow hw 94 rfl) (ow hw 59 rfl) (ow hw 95 rfl) (by decide) (lenOf pd__28I_29_5bB rfl) rfl rfl rfl (W := 0) rfl (by decide) (by decide) (by decide) (by decide) all0 rfl ?_
  intro T1 h1 v1 X1 K1 hQ1
  obtain ⟨r1, kb1, rfl, ge_r1, f2⟩ := hQ1
  show OGo _ _ _ _ T1 (mkF m 4 #[.val (.ref b), .val (.int 0), .val (.int 4), .unset, .unset] [(.ref r1)])
  refine og_astoreN X1 5 #[.val (.ref b), .val (.int 0), .val (.int 4), .val (.ref r1), .unset] d20_4 rfl rfl rfl ?_
  refine og_iconst X1 6 (0 : Int32) d20_5 rfl rfl ?_
  refine og_istore X1 8 #[.val (.ref b), .val (.int 0), .val (.int 4), .val (.ref r1), .val (.int 0)] d20_6 rfl rfl ?_
  refine og_iload X1 10 d20_8 rfl rfl ?_
  refine og_iloadN X1 11 d20_10 rfl rfl ?_
  refine og_icmpN X1 14 d20_11 (XT.ii_ge_f (by decide)) rfl ?_
  refine og_aloadN X1 15 d20_14 rfl rfl rfl ?_
  refine og_iload X1 17 d20_15 rfl rfl ?_
  refine og_aloadN X1 18 d20_17 rfl rfl rfl ?_
  refine og_iloadN X1 19 d20_18 rfl rfl ?_
  have f3 := q0.keep K1 nin0
  refine own_ldC X1 20 d20_19 f3 (by decide) (by decide) rfl rfl ?_
  have X4 := own_svB X1 f2 (own_tx8 hw) (Nat.le_trans (own_n0 X0) ge_r1) ge_r1
  refine own_stat X4 23 (argsL := [(.ref r1), (.int 0), (.int x0)]) (rest := []) d20_20 (ru_put4_0 l Z a0 hw n0 h1 hWd [] X4.old r1 kb1 x0 (.int 0) (.int 0) (.int 0) (.int 0) (.int 0) (.int 0) (.int 0) (.int 0) (.int 0) f2 (own_svb X4 (om 0 rfl))) (ow hw 100 rfl) (ow hw 101 rfl) (ow hw 59 rfl) (ow hw 102 rfl) (by decide) (lenOf pd__28_5bBII_29V rfl) rfl rfl rfl (W := 0) rfl (by decide) (by decide) (by decide) (by decide) (allS (om 0 rfl) all0) rfl ?_
  intro T5 h5 v5 X5 K5 hQ5
  obtain ⟨rfl, f6⟩ := hQ5
  show OGo _ _ _ _ T5 (mkF m 23 #[.val (.ref b), .val (.int 0), .val (.int 4), .val (.ref r1), .val (.int 0)] [])
  refine og_iinc X5 26 #[.val (.ref b), .val (.int 1), .val (.int 4), .val (.ref r1), .val (.int 0)] d20_23 rfl rfl rfl ?_
  refine og_iinc X5 29 #[.val (.ref b), .val (.int 1), .val (.int 4), .val (.ref r1), .val (.int 1)] d20_26 rfl rfl rfl ?_
  refine og_goto X5 8 d20_29 (by decide) (by decide) ?_
  refine og_iload X5 10 d20_8 rfl rfl ?_
  refine og_iloadN X5 11 d20_10 rfl rfl ?_
  refine og_icmpN X5 14 d20_11 (XT.ii_ge_f (by decide)) rfl ?_
  refine og_aloadN X5 15 d20_14 rfl rfl rfl ?_
  refine og_iload X5 17 d20_15 rfl rfl ?_
  refine og_aloadN X5 18 d20_17 rfl rfl rfl ?_
  refine og_iloadN X5 19 d20_18 rfl rfl ?_
  have f7 := f3.keep K5 (ninS (Nat.ne_of_lt (Nat.lt_of_lt_of_le q0.lt ge_r1)) nin0)
  refine own_ldC X5 20 d20_19 f7 (by decide) (by decide) rfl rfl ?_
  refine own_stat X5 23 (argsL := [(.ref r1), (.int 1), (.int x1)]) (rest := []) d20_20 (ru_put4_1 l Z a0 hw n0 h5 hWd [] X5.old r1 kb1 x1 (.int 0) (.int (StrChars.lo8 x0)) (.int (StrChars.hi8 x0)) (.int 0) (.int 0) (.int 0) (.int 0) (.int 0) (.int 0) f6 (own_svb X5 (om 0 rfl))) (ow hw 100 rfl) (ow hw 101 rfl) (ow hw 59 rfl) (ow hw 102 rfl) (by decide) (lenOf pd__28_5bBII_29V rfl) rfl rfl rfl (W := 0) rfl (by decide) (by decide) (by decide) (by decide) (allS (om 0 rfl) all0) rfl ?_
  intro T8 h8 v8 X8 K8 hQ8
  obtain ⟨rfl, f9⟩ := hQ8
  show OGo _ _ _ _ T8 (mkF m 23 #[.val (.ref b), .val (.int 1), .val (.int 4), .val (.ref r1), .val (.int 1)] [])
  refine og_iinc X8 26 #[.val (.ref b), .val (.int 2), .val (.int 4), .val (.ref r1), .val (.int 1)] d20_23 rfl rfl rfl ?_
  refine og_iinc X8 29 #[.val (.ref b), .val (.int 2), .val (.int 4), .val (.ref r1), .val (.int 2)] d20_26 rfl rfl rfl ?_
  refine og_goto X8 8 d20_29 (by decide) (by decide) ?_
  refine og_iload X8 10 d20_8 rfl rfl ?_
  refine og_iloadN X8 11 d20_10 rfl rfl ?_
  refine og_icmpN X8 14 d20_11 (XT.ii_ge_f (by decide)) rfl ?_
  refine og_aloadN X8 15 d20_14 rfl rfl rfl ?_
  refine og_iload X8 17 d20_15 rfl rfl ?_
  refine og_aloadN X8 18 d20_17 rfl rfl rfl ?_
  refine og_iloadN X8 19 d20_18 rfl rfl ?_
  have f10 := f7.keep K8 (ninS (Nat.ne_of_lt (Nat.lt_of_lt_of_le q0.lt ge_r1)) nin0)
  refine own_ldC X8 20 d20_19 f10 (by decide) (by decide) rfl rfl ?_
  refine own_stat X8 23 (argsL := [(.ref r1), (.int 2), (.int x2)]) (rest := []) d20_20 (ru_put4_2 l Z a0 hw n0 h8 hWd [] X8.old r1 kb1 x2 (.int 0) (.int (StrChars.lo8 x0)) (.int (StrChars.hi8 x0)) (.int (StrChars.lo8 x1)) (.int (StrChars.hi8 x1)) (.int 0) (.int 0) (.int 0) (.int 0) f9 (own_svb X8 (om 0 rfl))) (ow hw 100 rfl) (ow hw 101 rfl) (ow hw 59 rfl) (ow hw 102 rfl) (by decide) (lenOf pd__28_5bBII_29V rfl) rfl rfl rfl (W := 0) rfl (by decide) (by decide) (by decide) (by decide) (allS (om 0 rfl) all0) rfl ?_
  intro T11 h11 v11 X11 K11 hQ11
  obtain ⟨rfl, f12⟩ := hQ11
  show OGo _ _ _ _ T11 (mkF m 23 #[.val (.ref b), .val (.int 2), .val (.int 4), .val (.ref r1), .val (.int 2)] [])
  refine og_iinc X11 26 #[.val (.ref b), .val (.int 3), .val (.int 4), .val (.ref r1), .val (.int 2)] d20_23 rfl rfl rfl ?_
  refine og_iinc X11 29 #[.val (.ref b), .val (.int 3), .val (.int 4), .val (.ref r1), .val (.int 3)] d20_26 rfl rfl rfl ?_
  refine og_goto X11 8 d20_29 (by decide) (by decide) ?_
  refine og_iload X11 10 d20_8 rfl rfl ?_
  refine og_iloadN X11 11 d20_10 rfl rfl ?_
  refine og_icmpN X11 14 d20_11 (XT.ii_ge_f (by decide)) rfl ?_
  refine og_aloadN X11 15 d20_14 rfl rfl rfl ?_
  refine og_iload X11 17 d20_15 rfl rfl ?_
  refine og_aloadN X11 18 d20_17 rfl rfl rfl ?_
  refine og_iloadN X11 19 d20_18 rfl rfl ?_
  have f13 := f10.keep K11 (ninS (Nat.ne_of_lt (Nat.lt_of_lt_of_le q0.lt ge_r1)) nin0)
  refine own_ldC X11 20 d20_19 f13 (by decide) (by decide) rfl rfl ?_
  refine own_stat X11 23 (argsL := [(.ref r1), (.int 3), (.int x3)]) (rest := []) d20_20 (ru_put4_3 l Z a0 hw n0 h11 hWd [] X11.old r1 kb1 x3 (.int 0) (.int (StrChars.lo8 x0)) (.int (StrChars.hi8 x0)) (.int (StrChars.lo8 x1)) (.int (StrChars.hi8 x1)) (.int (StrChars.lo8 x2)) (.int (StrChars.hi8 x2)) (.int 0) (.int 0) f12 (own_svb X11 (om 0 rfl))) (ow hw 100 rfl) (ow hw 101 rfl) (ow hw 59 rfl) (ow hw 102 rfl) (by decide) (lenOf pd__28_5bBII_29V rfl) rfl rfl rfl (W := 0) rfl (by decide) (by decide) (by decide) (by decide) (allS (om 0 rfl) all0) rfl ?_
  intro T14 h14 v14 X14 K14 hQ14
  obtain ⟨rfl, f15⟩ := hQ14
  show OGo _ _ _ _ T14 (mkF m 23 #[.val (.ref b), .val (.int 3), .val (.int 4), .val (.ref r1), .val (.int 3)] [])
  refine og_iinc X14 26 #[.val (.ref b), .val (.int 4), .val (.int 4), .val (.ref r1), .val (.int 3)] d20_23 rfl rfl rfl ?_
  refine og_iinc X14 29 #[.val (.ref b), .val (.int 4), .val (.int 4), .val (.ref r1), .val (.int 4)] d20_26 rfl rfl rfl ?_
  refine og_goto X14 8 d20_29 (by decide) (by decide) ?_
  refine og_iload X14 10 d20_8 rfl rfl ?_
  refine og_iloadN X14 11 d20_10 rfl rfl ?_
  refine og_icmpY X14 32 d20_11 (XT.ii_ge_t (by decide)) (by decide) (by decide) ?_
  refine og_aloadN X14 33 d20_32 rfl rfl rfl ?_
  refine own_retA X14 d20_33 hret rfl rfl (by decide) (by decide) ?_
  exact ⟨r1, kb1, rfl, ge_r1, f15⟩
theorem ru_cmi4_0 (l : Launch) (Z : State) (a0 : Array Value) (hw : ∀ d ∈ tables_1, d.before a0 Z = true) (n0 : Nat) (h0 : Heap) (hWd : OWorld Z a0) (wc : List Jvm.Cond) (O0 : Old Z n0 h0) (b : Addr) (kb : ClassId) (dv : Value) (d : Addr) (kd : ClassId) (x0 : Int32) (x1 : Int32) (x2 : Int32) (x3 : Int32) (q0 : Arv Z h0 b kb .char (4 : Int32) [(.int x0), (.int x1), (.int x2), (.int x3)] dv) (q1 : Arv Z h0 d kd .byte (4 : Int32) [(.int 0), (.int 0), (.int 0), (.int 0)] (.int 0)) (q2 : (255 : Int32) < x0) (q3 : b ≠ d) (g0 : n0 ≤ d ∧ d < h0.size) :
    OMet l Z own_EL n0 (⟨"java/lang/StringUTF16", "compress", "([CI[BII)I"⟩ : MethodName) (Jvm.Cond.code (⟨"java/lang/StringUTF16", "compress", "([CI[BII)I"⟩ : MethodName) jdk_52_method_21_code 7 (some .int) :: wc) ({ frames := 0, cells := 0, slots := 0, locals := 0 } : Room) #[(.ref b), (.int 0), (.ref d), (.int 0), (.int 4)] h0 [d] (fun vq hq => vq = some (.int 0)) := by
  refine own_enter #[.val (.ref b), .val (.int 0), .val (.ref d), .val (.int 0), .val (.int 4), .unset, .unset] pn_java_lang_StringUTF16_compress___CI_BII_I (ef_ru_cmi4_0 b kb dv d kd x0 x1 x2 x3) hWd.1 O0 (allS g0 all0) ?_
  intro p e s m below meth c T0 X0 hnm hret
  refine og_iconst X0 1 (0 : Int32) d12_0 rfl rfl ?_
  refine og_istore X0 3 #[.val (.ref b), .val (.int 0), .val (.ref d), .val (.int 0), .val (.int 4), .val (.int 0), .unset] d12_1 rfl rfl ?_
  refine og_iload X0 5 d12_3 rfl rfl ?_
  refine og_iload X0 7 d12_5 rfl rfl ?_
  refine og_icmpN X0 10 d12_7 (XT.ii_ge_f (by decide)) rfl ?_
  refine og_aloadN X0 11 d12_10 rfl rfl rfl ?_
  refine og_iloadN X0 12 d12_11 rfl rfl ?_
  refine own_ldC X0 13 d12_12 q0 (by decide) (by decide) rfl rfl ?_
  refine og_istore X0 15 #[.val (.ref b), .val (.int 0), .val (.ref d), .val (.int 0), .val (.int 4), .val (.int 0), .val (.int x0)] d12_13 rfl rfl ?_
  refine og_iload X0 17 d12_15 rfl rfl ?_
  refine og_sipush X0 20 (255 : Int32) d12_17 rfl rfl ?_
  refine og_icmpN X0 23 d12_20 (XT.ii_le_f q2) rfl ?_
  refine og_iload X0 25 d12_23 rfl rfl ?_
  refine own_retI X0 d12_25 hret (by decide) (by decide) ?_
  exact rfl
theorem ru_cmp4_0 (l : Launch) (Z : State) (a0 : Array Value) (hw : ∀ d ∈ tables_1, d.before a0 Z = true) (n0 : Nat) (h0 : Heap) (hWd : OWorld Z a0) (wc : List Jvm.Cond) (O0 : Old Z n0 h0) (b : Addr) (kb : ClassId) (dv : Value) (x0 : Int32) (x1 : Int32) (x2 : Int32) (x3 : Int32) (q0 : Arv Z h0 b kb .char (4 : Int32) [(.int x0), (.int x1), (.int x2), (.int x3)] dv) (q1 : (255 : Int32) < x0) (q2 : ¬ x0 < 0) (q3 : ¬ (65535 : Int32) < x0) (q4 : ¬ x1 < 0) (q5 : ¬ (65535 : Int32) < x1) (q6 : ¬ x2 < 0) (q7 : ¬ (65535 : Int32) < x2) (q8 : ¬ x3 < 0) (q9 : ¬ (65535 : Int32) < x3) :
    OMet l Z own_EL n0 (⟨"java/lang/StringUTF16", "compress", "([CII)[B"⟩ : MethodName) (Jvm.Cond.code (⟨"java/lang/StringUTF16", "compress", "([CII)[B"⟩ : MethodName) jdk_52_method_16_code 6 (some (.array .byte)) :: wc) ({ frames := 3, cells := 2, slots := 12, locals := 40 } : Room) #[(.ref b), (.int 0), (.int 4)] h0 [] (fun vq hq => ∃ (r : Addr) (kr : ClassId), vq = some (.ref r) ∧ h0.size ≤ r ∧ Arv Z hq r kr .byte (8 : Int32) [(.int (StrChars.lo8 x0)), (.int (StrChars.hi8 x0)), (.int (StrChars.lo8 x1)), (.int (StrChars.hi8 x1)), (.int (StrChars.lo8 x2)), (.int (StrChars.hi8 x2)), (.int (StrChars.lo8 x3)), (.int (StrChars.hi8 x3))] (.int 0)) := by
  refine own_enter #[.val (.ref b), .val (.int 0), .val (.int 4), .unset, .unset, .unset] pn_java_lang_StringUTF16_compress___CII__B (ef_ru_cmp4_0 b kb dv x0 x1 x2 x3) hWd.1 O0 all0 ?_
  intro p e s m below meth c T0 X0 hnm hret
  refine og_iloadN X0 1 d11_0 rfl rfl ?_
  refine own_arr X0 3 d11_1 (ow hw 16 rfl) (by decide) (cap := 4) (by decide) (by decide) (by decide) (by decide) rfl ?_
  intro T1 h1 b1 kb1 X1 K1 G1 U1 A1
  have f2 : Arv Z h1 b1 kb1 .byte (4 : Int32) [(.int 0), (.int 0), (.int 0), (.int 0)] (.int 0) := A1
  refine og_astoreN X1 4 #[.val (.ref b), .val (.int 0), .val (.int 4), .val (.ref b1), .unset, .unset] d11_3 rfl rfl rfl ?_
  refine og_aloadN X1 5 d11_4 rfl rfl rfl ?_
  refine og_iloadN X1 6 d11_5 rfl rfl ?_
  refine og_aloadN X1 7 d11_6 rfl rfl rfl ?_
  refine og_iconst X1 8 (0 : Int32) d11_7 rfl rfl ?_
  refine og_iloadN X1 9 d11_8 rfl rfl ?_
  have f3 := q0.keep K1 nin0
  refine own_stat X1 12 (argsL := [(.ref b), (.int 0), (.ref b1), (.int 0), (.int 4)]) (rest := []) d11_9 (ru_cmi4_0 l Z a0 hw n0 h1 hWd [] X1.old b kb dv b1 kb1 x0 x1 x2 x3 f3 f2 q1 (Nat.ne_of_lt (Nat.lt_of_lt_of_le q0.lt G1)) (own_svb X1 (om 0 rfl))) (ow hw 61 rfl) (ow hw 62 rfl) (ow hw 59 rfl) (ow hw 63 rfl) (by decide) (lenOf pd__28_5bCI_5bBII_29I rfl) rfl rfl rfl (W := 0) rfl (by decide) (by decide) (by decide) (by decide) (allS (om 0 rfl) all0) rfl ?_
  intro T4 h4 v4 X4 K4 hQ4
  obtain rfl := hQ4
  show OGo _ _ _ _ T4 (mkF m 12 #[.val (.ref b), .val (.int 0), .val (.int 4), .val (.ref b1), .unset, .unset] [(.int 0)])
  refine og_istore X4 14 #[.val (.ref b), .val (.int 0), .val (.int 4), .val (.ref b1), .val (.int 0), .unset] d11_12 rfl rfl ?_
  refine og_iload X4 16 d11_14 rfl rfl ?_
  refine og_iloadN X4 17 d11_16 rfl rfl ?_
  refine og_icmpN X4 20 d11_17 (XT.ii_eq_f (by decide)) rfl ?_
  refine og_aloadN X4 21 d11_20 rfl rfl rfl ?_
  refine og_iloadN X4 22 d11_21 rfl rfl ?_
  refine og_iloadN X4 23 d11_22 rfl rfl ?_
  have f5 := f3.keep K4 (ninS (Nat.ne_of_lt (Nat.lt_of_lt_of_le q0.lt G1)) nin0)
  refine own_stat X4 26 (argsL := [(.ref b), (.int 0), (.int 4)]) (rest := []) d11_23 (ru_tob4 l Z a0 hw n0 h4 hWd [] X4.old b kb dv x0 x1 x2 x3 f5 ) (ow hw 90 rfl) (ow hw 91 rfl) (ow hw 59 rfl) (ow hw 92 rfl) (by decide) (lenOf pd__28_5bCII_29_5bB rfl) rfl rfl rfl (W := 0) rfl (by decide) (by decide) (by decide) (by decide) all0 rfl ?_
  intro T6 h6 v6 X6 K6 hQ6
  obtain ⟨r6, kr6, rfl, ge_r6, f7⟩ := hQ6
  show OGo _ _ _ _ T6 (mkF m 26 #[.val (.ref b), .val (.int 0), .val (.int 4), .val (.ref b1), .val (.int 0), .unset] [(.ref r6)])
  refine og_astore X6 28 #[.val (.ref b), .val (.int 0), .val (.int 4), .val (.ref b1), .val (.int 0), .val (.ref r6)] d11_26 rfl rfl rfl ?_
  refine og_aload X6 30 d11_28 rfl rfl rfl ?_
  refine og_iload X6 32 d11_30 rfl rfl ?_
  refine own_stat X6 35 (argsL := [(.ref r6), (.int 0)]) (rest := []) d11_32 (rg_get l Z a0 hw n0 h6 hWd [] X6.old r6 kr6 [x0, x1, x2, x3] 0 f7 (Nat.le_of_ble_eq_true rfl) (Nat.le_of_ble_eq_true rfl) ) (ow hw 106 rfl) (ow hw 107 rfl) (ow hw 59 rfl) (ow hw 108 rfl) (by decide) (lenOf pd__28_5bBI_29C rfl) rfl rfl rfl (W := 0) rfl (by decide) (by decide) (by decide) (by decide) all0 rfl ?_
  intro T8 h8 v8 X8 K8 hQ8
  obtain rfl := hQ8
  show OGo _ _ _ _ T8 (mkF m 35 #[.val (.ref b), .val (.int 0), .val (.int 4), .val (.ref b1), .val (.int 0), .val (.ref r6)] [(.int (StrChars.pairCh (StrChars.lo8 x0) (StrChars.hi8 x0)))])
  refine og_sipush X8 38 (255 : Int32) d11_35 rfl rfl ?_
  refine og_icmpY X8 54 d11_38 (XT.ii_gt_t (by rw [StrChars.pair_says q2 q3]; exact q1)) (by decide) (by decide) ?_
  refine og_aload X8 56 d11_54 rfl rfl rfl ?_
  have f9 := f7.keep K8 nin0
  refine own_retA X8 d11_56 hret rfl rfl (by decide) (by decide) ?_
  exact ⟨r6, kr6, rfl, (Nat.le_trans (Nat.le_trans K1.1 K4.1) ge_r6), f9⟩
theorem ru_cmi4_1 (l : Launch) (Z : State) (a0 : Array Value) (hw : ∀ d ∈ tables_1, d.before a0 Z = true) (n0 : Nat) (h0 : Heap) (hWd : OWorld Z a0) (wc : List Jvm.Cond) (O0 : Old Z n0 h0) (b : Addr) (kb : ClassId) (dv : Value) (d : Addr) (kd : ClassId) (x0 : Int32) (x1 : Int32) (x2 : Int32) (x3 : Int32) (q0 : Arv Z h0 b kb .char (4 : Int32) [(.int x0), (.int x1), (.int x2), (.int x3)] dv) (q1 : Arv Z h0 d kd .byte (4 : Int32) [(.int 0), (.int 0), (.int 0), (.int 0)] (.int 0)) (q2 : ¬ (255 : Int32) < x0) (q3 : (255 : Int32) < x1) (q4 : b ≠ d) (g0 : n0 ≤ d ∧ d < h0.size) :
    OMet l Z own_EL n0 (⟨"java/lang/StringUTF16", "compress", "([CI[BII)I"⟩ : MethodName) (Jvm.Cond.code (⟨"java/lang/StringUTF16", "compress", "([CI[BII)I"⟩ : MethodName) jdk_52_method_21_code 7 (some .int) :: wc) ({ frames := 0, cells := 0, slots := 0, locals := 0 } : Room) #[(.ref b), (.int 0), (.ref d), (.int 0), (.int 4)] h0 [d] (fun vq hq => vq = some (.int 1)) := by
  refine own_enter #[.val (.ref b), .val (.int 0), .val (.ref d), .val (.int 0), .val (.int 4), .unset, .unset] pn_java_lang_StringUTF16_compress___CI_BII_I (ef_ru_cmi4_1 b kb dv d kd x0 x1 x2 x3) hWd.1 O0 (allS g0 all0) ?_
  intro p e s m below meth c T0 X0 hnm hret
  refine og_iconst X0 1 (0 : Int32) d12_0 rfl rfl ?_
  refine og_istore X0 3 #[.val (.ref b), .val (.int 0), .val (.ref d), .val (.int 0), .val (.int 4), .val (.int 0), .unset] d12_1 rfl rfl ?_
  refine og_iload X0 5 d12_3 rfl rfl ?_
  refine og_iload X0 7 d12_5 rfl rfl ?_
  refine og_icmpN X0 10 d12_7 (XT.ii_ge_f (by decide)) rfl ?_
  refine og_aloadN X0 11 d12_10 rfl rfl rfl ?_
  refine og_iloadN X0 12 d12_11 rfl rfl ?_
  refine own_ldC X0 13 d12_12 q0 (by decide) (by decide) rfl rfl ?_
  refine og_istore X0 15 #[.val (.ref b), .val (.int 0), .val (.ref d), .val (.int 0), .val (.int 4), .val (.int 0), .val (.int x0)] d12_13 rfl rfl ?_
  refine og_iload X0 17 d12_15 rfl rfl ?_
  refine og_sipush X0 20 (255 : Int32) d12_17 rfl rfl ?_
  refine og_icmpY X0 26 d12_20 (XT.ii_le_t q2) (by decide) (by decide) ?_
  refine og_aloadN X0 27 d12_26 rfl rfl rfl ?_
  refine og_iloadN X0 28 d12_27 rfl rfl ?_
  refine og_iload X0 30 d12_28 rfl rfl ?_
  refine og_i2b X0 31 d12_30 rfl ?_
  refine own_stB X0 32 d12_31 q1 (own_nbb _) (by decide) (by decide) (i := 0) (by decide) (Nat.le_of_ble_eq_true rfl) (om 0 rfl) rfl ?_
  intro T1 h1 X1 W1 K1 A1
  have f2 : Arv Z h1 d kd .byte (4 : Int32) [(.int ((x0).toInt8.toInt32)), (.int 0), (.int 0), (.int 0)] (.int 0) := A1
  refine og_iinc X1 35 #[.val (.ref b), .val (.int 1), .val (.ref d), .val (.int 0), .val (.int 4), .val (.int 0), .val (.int x0)] d12_32 rfl rfl rfl ?_
  refine og_iinc X1 38 #[.val (.ref b), .val (.int 1), .val (.ref d), .val (.int 1), .val (.int 4), .val (.int 0), .val (.int x0)] d12_35 rfl rfl rfl ?_
  refine og_iinc X1 41 #[.val (.ref b), .val (.int 1), .val (.ref d), .val (.int 1), .val (.int 4), .val (.int 1), .val (.int x0)] d12_38 rfl rfl rfl ?_
  refine og_goto X1 3 d12_41 (by decide) (by decide) ?_
  refine og_iload X1 5 d12_3 rfl rfl ?_
  refine og_iload X1 7 d12_5 rfl rfl ?_
  refine og_icmpN X1 10 d12_7 (XT.ii_ge_f (by decide)) rfl ?_
  refine og_aloadN X1 11 d12_10 rfl rfl rfl ?_
  refine og_iloadN X1 12 d12_11 rfl rfl ?_
  have f3 := q0.keep K1 (ninS q4 nin0)
  refine own_ldC X1 13 d12_12 f3 (by decide) (by decide) rfl rfl ?_
  refine og_istore X1 15 #[.val (.ref b), .val (.int 1), .val (.ref d), .val (.int 1), .val (.int 4), .val (.int 1), .val (.int x1)] d12_13 rfl rfl ?_
  refine og_iload X1 17 d12_15 rfl rfl ?_
  refine og_sipush X1 20 (255 : Int32) d12_17 rfl rfl ?_
  refine og_icmpN X1 23 d12_20 (XT.ii_le_f q3) rfl ?_
  refine og_iload X1 25 d12_23 rfl rfl ?_
  refine own_retI X1 d12_25 hret (by decide) (by decide) ?_
  exact rfl
theorem ru_cmp4_1 (l : Launch) (Z : State) (a0 : Array Value) (hw : ∀ d ∈ tables_1, d.before a0 Z = true) (n0 : Nat) (h0 : Heap) (hWd : OWorld Z a0) (wc : List Jvm.Cond) (O0 : Old Z n0 h0) (b : Addr) (kb : ClassId) (dv : Value) (x0 : Int32) (x1 : Int32) (x2 : Int32) (x3 : Int32) (q0 : Arv Z h0 b kb .char (4 : Int32) [(.int x0), (.int x1), (.int x2), (.int x3)] dv) (q1 : ¬ (255 : Int32) < x0) (q2 : (255 : Int32) < x1) (q3 : ¬ x0 < 0) (q4 : ¬ (65535 : Int32) < x0) (q5 : ¬ x1 < 0) (q6 : ¬ (65535 : Int32) < x1) (q7 : ¬ x2 < 0) (q8 : ¬ (65535 : Int32) < x2) (q9 : ¬ x3 < 0) (q10 : ¬ (65535 : Int32) < x3) :
    OMet l Z own_EL n0 (⟨"java/lang/StringUTF16", "compress", "([CII)[B"⟩ : MethodName) (Jvm.Cond.code (⟨"java/lang/StringUTF16", "compress", "([CII)[B"⟩ : MethodName) jdk_52_method_16_code 6 (some (.array .byte)) :: wc) ({ frames := 3, cells := 2, slots := 12, locals := 40 } : Room) #[(.ref b), (.int 0), (.int 4)] h0 [] (fun vq hq => ∃ (r : Addr) (kr : ClassId), vq = some (.ref r) ∧ h0.size ≤ r ∧ Arv Z hq r kr .byte (8 : Int32) [(.int (StrChars.lo8 x0)), (.int (StrChars.hi8 x0)), (.int (StrChars.lo8 x1)), (.int (StrChars.hi8 x1)), (.int (StrChars.lo8 x2)), (.int (StrChars.hi8 x2)), (.int (StrChars.lo8 x3)), (.int (StrChars.hi8 x3))] (.int 0)) := by
  refine own_enter #[.val (.ref b), .val (.int 0), .val (.int 4), .unset, .unset, .unset] pn_java_lang_StringUTF16_compress___CII__B (ef_ru_cmp4_1 b kb dv x0 x1 x2 x3) hWd.1 O0 all0 ?_
  intro p e s m below meth c T0 X0 hnm hret
  refine og_iloadN X0 1 d11_0 rfl rfl ?_
  refine own_arr X0 3 d11_1 (ow hw 16 rfl) (by decide) (cap := 4) (by decide) (by decide) (by decide) (by decide) rfl ?_
  intro T1 h1 b1 kb1 X1 K1 G1 U1 A1
  have f2 : Arv Z h1 b1 kb1 .byte (4 : Int32) [(.int 0), (.int 0), (.int 0), (.int 0)] (.int 0) := A1
  refine og_astoreN X1 4 #[.val (.ref b), .val (.int 0), .val (.int 4), .val (.ref b1), .unset, .unset] d11_3 rfl rfl rfl ?_
  refine og_aloadN X1 5 d11_4 rfl rfl rfl ?_
  refine og_iloadN X1 6 d11_5 rfl rfl ?_
  refine og_aloadN X1 7 d11_6 rfl rfl rfl ?_
  refine og_iconst X1 8 (0 : Int32) d11_7 rfl rfl ?_
  refine og_iloadN X1 9 d11_8 rfl rfl ?_
  have f3 := q0.keep K1 nin0
  refine own_stat X1 12 (argsL := [(.ref b), (.int 0), (.ref b1), (.int 0), (.int 4)]) (rest := []) d11_9 (ru_cmi4_1 l Z a0 hw n0 h1 hWd [] X1.old b kb dv b1 kb1 x0 x1 x2 x3 f3 f2 q1 q2 (Nat.ne_of_lt (Nat.lt_of_lt_of_le q0.lt G1)) (own_svb X1 (om 0 rfl))) (ow hw 61 rfl) (ow hw 62 rfl) (ow hw 59 rfl) (ow hw 63 rfl) (by decide) (lenOf pd__28_5bCI_5bBII_29I rfl) rfl rfl rfl (W := 0) rfl (by decide) (by decide) (by decide) (by decide) (allS (om 0 rfl) all0) rfl ?_
  intro T4 h4 v4 X4 K4 hQ4
  obtain rfl := hQ4
  show OGo _ _ _ _ T4 (mkF m 12 #[.val (.ref b), .val (.int 0), .val (.int 4), .val (.ref b1), .unset, .unset] [(.int 1)])
  refine og_istore X4 14 #[.val (.ref b), .val (.int 0), .val (.int 4), .val (.ref b1), .val (.int 1), .unset] d11_12 rfl rfl ?_
  refine og_iload X4 16 d11_14 rfl rfl ?_
  refine og_iloadN X4 17 d11_16 rfl rfl ?_
  refine og_icmpN X4 20 d11_17 (XT.ii_eq_f (by decide)) rfl ?_
  refine og_aloadN X4 21 d11_20 rfl rfl rfl ?_
  refine og_iloadN X4 22 d11_21 rfl rfl ?_
  refine og_iloadN X4 23 d11_22 rfl rfl ?_
  have f5 := f3.keep K4 (ninS (Nat.ne_of_lt (Nat.lt_of_lt_of_le q0.lt G1)) nin0)
  refine own_stat X4 26 (argsL := [(.ref b), (.int 0), (.int 4)]) (rest := []) d11_23 (ru_tob4 l Z a0 hw n0 h4 hWd [] X4.old b kb dv x0 x1 x2 x3 f5 ) (ow hw 90 rfl) (ow hw 91 rfl) (ow hw 59 rfl) (ow hw 92 rfl) (by decide) (lenOf pd__28_5bCII_29_5bB rfl) rfl rfl rfl (W := 0) rfl (by decide) (by decide) (by decide) (by decide) all0 rfl ?_
  intro T6 h6 v6 X6 K6 hQ6
  obtain ⟨r6, kr6, rfl, ge_r6, f7⟩ := hQ6
  show OGo _ _ _ _ T6 (mkF m 26 #[.val (.ref b), .val (.int 0), .val (.int 4), .val (.ref b1), .val (.int 1), .unset] [(.ref r6)])
  refine og_astore X6 28 #[.val (.ref b), .val (.int 0), .val (.int 4), .val (.ref b1), .val (.int 1), .val (.ref r6)] d11_26 rfl rfl rfl ?_
  refine og_aload X6 30 d11_28 rfl rfl rfl ?_
  refine og_iload X6 32 d11_30 rfl rfl ?_
  refine own_stat X6 35 (argsL := [(.ref r6), (.int 1)]) (rest := []) d11_32 (rg_get l Z a0 hw n0 h6 hWd [] X6.old r6 kr6 [x0, x1, x2, x3] 1 f7 (Nat.le_of_ble_eq_true rfl) (Nat.le_of_ble_eq_true rfl) ) (ow hw 106 rfl) (ow hw 107 rfl) (ow hw 59 rfl) (ow hw 108 rfl) (by decide) (lenOf pd__28_5bBI_29C rfl) rfl rfl rfl (W := 0) rfl (by decide) (by decide) (by decide) (by decide) all0 rfl ?_
  intro T8 h8 v8 X8 K8 hQ8
  obtain rfl := hQ8
  show OGo _ _ _ _ T8 (mkF m 35 #[.val (.ref b), .val (.int 0), .val (.int 4), .val (.ref b1), .val (.int 1), .val (.ref r6)] [(.int (StrChars.pairCh (StrChars.lo8 x1) (StrChars.hi8 x1)))])
  refine og_sipush X8 38 (255 : Int32) d11_35 rfl rfl ?_
  refine og_icmpY X8 54 d11_38 (XT.ii_gt_t (by rw [StrChars.pair_says q5 q6]; exact q2)) (by decide) (by decide) ?_
  refine og_aload X8 56 d11_54 rfl rfl rfl ?_
  have f9 := f7.keep K8 nin0
  refine own_retA X8 d11_56 hret rfl rfl (by decide) (by decide) ?_
  exact ⟨r6, kr6, rfl, (Nat.le_trans (Nat.le_trans K1.1 K4.1) ge_r6), f9⟩
theorem ru_cmi4_2 (l : Launch) (Z : State) (a0 : Array Value) (hw : ∀ d ∈ tables_1, d.before a0 Z = true) (n0 : Nat) (h0 : Heap) (hWd : OWorld Z a0) (wc : List Jvm.Cond) (O0 : Old Z n0 h0) (b : Addr) (kb : ClassId) (dv : Value) (d : Addr) (kd : ClassId) (x0 : Int32) (x1 : Int32) (x2 : Int32) (x3 : Int32) (q0 : Arv Z h0 b kb .char (4 : Int32) [(.int x0), (.int x1), (.int x2), (.int x3)] dv) (q1 : Arv Z h0 d kd .byte (4 : Int32) [(.int 0), (.int 0), (.int 0), (.int 0)] (.int 0)) (q2 : ¬ (255 : Int32) < x0) (q3 : ¬ (255 : Int32) < x1) (q4 : (255 : Int32) < x2) (q5 : b ≠ d) (g0 : n0 ≤ d ∧ d < h0.size) :
    OMet l Z own_EL n0 (⟨"java/lang/StringUTF16", "compress", "([CI[BII)I"⟩ : MethodName) (Jvm.Cond.code (⟨"java/lang/StringUTF16", "compress", "([CI[BII)I"⟩ : MethodName) jdk_52_method_21_code 7 (some .int) :: wc) ({ frames := 0, cells := 0, slots := 0, locals := 0 } : Room) #[(.ref b), (.int 0), (.ref d), (.int 0), (.int 4)] h0 [d] (fun vq hq => vq = some (.int 2)) := by
  refine own_enter #[.val (.ref b), .val (.int 0), .val (.ref d), .val (.int 0), .val (.int 4), .unset, .unset] pn_java_lang_StringUTF16_compress___CI_BII_I (ef_ru_cmi4_2 b kb dv d kd x0 x1 x2 x3) hWd.1 O0 (allS g0 all0) ?_
  intro p e s m below meth c T0 X0 hnm hret
  refine og_iconst X0 1 (0 : Int32) d12_0 rfl rfl ?_
  refine og_istore X0 3 #[.val (.ref b), .val (.int 0), .val (.ref d), .val (.int 0), .val (.int 4), .val (.int 0), .unset] d12_1 rfl rfl ?_
  refine og_iload X0 5 d12_3 rfl rfl ?_
  refine og_iload X0 7 d12_5 rfl rfl ?_
  refine og_icmpN X0 10 d12_7 (XT.ii_ge_f (by decide)) rfl ?_
  refine og_aloadN X0 11 d12_10 rfl rfl rfl ?_
  refine og_iloadN X0 12 d12_11 rfl rfl ?_
  refine own_ldC X0 13 d12_12 q0 (by decide) (by decide) rfl rfl ?_
  refine og_istore X0 15 #[.val (.ref b), .val (.int 0), .val (.ref d), .val (.int 0), .val (.int 4), .val (.int 0), .val (.int x0)] d12_13 rfl rfl ?_
  refine og_iload X0 17 d12_15 rfl rfl ?_
  refine og_sipush X0 20 (255 : Int32) d12_17 rfl rfl ?_
  refine og_icmpY X0 26 d12_20 (XT.ii_le_t q2) (by decide) (by decide) ?_
  refine og_aloadN X0 27 d12_26 rfl rfl rfl ?_
  refine og_iloadN X0 28 d12_27 rfl rfl ?_
  refine og_iload X0 30 d12_28 rfl rfl ?_
  refine og_i2b X0 31 d12_30 rfl ?_
  refine own_stB X0 32 d12_31 q1 (own_nbb _) (by decide) (by decide) (i := 0) (by decide) (Nat.le_of_ble_eq_true rfl) (om 0 rfl) rfl ?_
  intro T1 h1 X1 W1 K1 A1
  have f2 : Arv Z h1 d kd .byte (4 : Int32) [(.int ((x0).toInt8.toInt32)), (.int 0), (.int 0), (.int 0)] (.int 0) := A1
  refine og_iinc X1 35 #[.val (.ref b), .val (.int 1), .val (.ref d), .val (.int 0), .val (.int 4), .val (.int 0), .val (.int x0)] d12_32 rfl rfl rfl ?_
  refine og_iinc X1 38 #[.val (.ref b), .val (.int 1), .val (.ref d), .val (.int 1), .val (.int 4), .val (.int 0), .val (.int x0)] d12_35 rfl rfl rfl ?_
  refine og_iinc X1 41 #[.val (.ref b), .val (.int 1), .val (.ref d), .val (.int 1), .val (.int 4), .val (.int 1), .val (.int x0)] d12_38 rfl rfl rfl ?_
  refine og_goto X1 3 d12_41 (by decide) (by decide) ?_
  refine og_iload X1 5 d12_3 rfl rfl ?_
  refine og_iload X1 7 d12_5 rfl rfl ?_
  refine og_icmpN X1 10 d12_7 (XT.ii_ge_f (by decide)) rfl ?_
  refine og_aloadN X1 11 d12_10 rfl rfl rfl ?_
  refine og_iloadN X1 12 d12_11 rfl rfl ?_
  have f3 := q0.keep K1 (ninS q5 nin0)
  refine own_ldC X1 13 d12_12 f3 (by decide) (by decide) rfl rfl ?_
  refine og_istore X1 15 #[.val (.ref b), .val (.int 1), .val (.ref d), .val (.int 1), .val (.int 4), .val (.int 1), .val (.int x1)] d12_13 rfl rfl ?_
  refine og_iload X1 17 d12_15 rfl rfl ?_
  refine og_sipush X1 20 (255 : Int32) d12_17 rfl rfl ?_
  refine og_icmpY X1 26 d12_20 (XT.ii_le_t q3) (by decide) (by decide) ?_
  refine og_aloadN X1 27 d12_26 rfl rfl rfl ?_
  refine og_iloadN X1 28 d12_27 rfl rfl ?_
  refine og_iload X1 30 d12_28 rfl rfl ?_
  refine og_i2b X1 31 d12_30 rfl ?_
  refine own_stB X1 32 d12_31 f2 (own_nbb _) (by decide) (by decide) (i := 1) (by decide) (Nat.le_of_ble_eq_true rfl) (om 0 rfl) rfl ?_
  intro T4 h4 X4 W4 K4 A4
  have f5 : Arv Z h4 d kd .byte (4 : Int32) [(.int ((x0).toInt8.toInt32)), (.int ((x1).toInt8.toInt32)), (.int 0), (.int 0)] (.int 0) := A4
  refine og_iinc X4 35 #[.val (.ref b), .val (.int 2), .val (.ref d), .val (.int 1), .val (.int 4), .val (.int 1), .val (.int x1)] d12_32 rfl rfl rfl ?_
  refine og_iinc X4 38 #[.val (.ref b), .val (.int 2), .val (.ref d), .val (.int 2), .val (.int 4), .val (.int 1), .val (.int x1)] d12_35 rfl rfl rfl ?_
  refine og_iinc X4 41 #[.val (.ref b), .val (.int 2), .val (.ref d), .val (.int 2), .val (.int 4), .val (.int 2), .val (.int x1)] d12_38 rfl rfl rfl ?_
  refine og_goto X4 3 d12_41 (by decide) (by decide) ?_
  refine og_iload X4 5 d12_3 rfl rfl ?_
  refine og_iload X4 7 d12_5 rfl rfl ?_
  refine og_icmpN X4 10 d12_7 (XT.ii_ge_f (by decide)) rfl ?_
  refine og_aloadN X4 11 d12_10 rfl rfl rfl ?_
  refine og_iloadN X4 12 d12_11 rfl rfl ?_
  have f6 := f3.keep K4 (ninS q5 nin0)
  refine own_ldC X4 13 d12_12 f6 (by decide) (by decide) rfl rfl ?_
  refine og_istore X4 15 #[.val (.ref b), .val (.int 2), .val (.ref d), .val (.int 2), .val (.int 4), .val (.int 2), .val (.int x2)] d12_13 rfl rfl ?_
  refine og_iload X4 17 d12_15 rfl rfl ?_
  refine og_sipush X4 20 (255 : Int32) d12_17 rfl rfl ?_
  refine og_icmpN X4 23 d12_20 (XT.ii_le_f q4) rfl ?_
  refine og_iload X4 25 d12_23 rfl rfl ?_
  refine own_retI X4 d12_25 hret (by decide) (by decide) ?_
  exact rfl
theorem ru_cmp4_2 (l : Launch) (Z : State) (a0 : Array Value) (hw : ∀ d ∈ tables_1, d.before a0 Z = true) (n0 : Nat) (h0 : Heap) (hWd : OWorld Z a0) (wc : List Jvm.Cond) (O0 : Old Z n0 h0) (b : Addr) (kb : ClassId) (dv : Value) (x0 : Int32) (x1 : Int32) (x2 : Int32) (x3 : Int32) (q0 : Arv Z h0 b kb .char (4 : Int32) [(.int x0), (.int x1), (.int x2), (.int x3)] dv) (q1 : ¬ (255 : Int32) < x0) (q2 : ¬ (255 : Int32) < x1) (q3 : (255 : Int32) < x2) (q4 : ¬ x0 < 0) (q5 : ¬ (65535 : Int32) < x0) (q6 : ¬ x1 < 0) (q7 : ¬ (65535 : Int32) < x1) (q8 : ¬ x2 < 0) (q9 : ¬ (65535 : Int32) < x2) (q10 : ¬ x3 < 0) (q11 : ¬ (65535 : Int32) < x3) :
    OMet l Z own_EL n0 (⟨"java/lang/StringUTF16", "compress", "([CII)[B"⟩ : MethodName) (Jvm.Cond.code (⟨"java/lang/StringUTF16", "compress", "([CII)[B"⟩ : MethodName) jdk_52_method_16_code 6 (some (.array .byte)) :: wc) ({ frames := 3, cells := 2, slots := 12, locals := 40 } : Room) #[(.ref b), (.int 0), (.int 4)] h0 [] (fun vq hq => ∃ (r : Addr) (kr : ClassId), vq = some (.ref r) ∧ h0.size ≤ r ∧ Arv Z hq r kr .byte (8 : Int32) [(.int (StrChars.lo8 x0)), (.int (StrChars.hi8 x0)), (.int (StrChars.lo8 x1)), (.int (StrChars.hi8 x1)), (.int (StrChars.lo8 x2)), (.int (StrChars.hi8 x2)), (.int (StrChars.lo8 x3)), (.int (StrChars.hi8 x3))] (.int 0)) := by
  refine own_enter #[.val (.ref b), .val (.int 0), .val (.int 4), .unset, .unset, .unset] pn_java_lang_StringUTF16_compress___CII__B (ef_ru_cmp4_2 b kb dv x0 x1 x2 x3) hWd.1 O0 all0 ?_
  intro p e s m below meth c T0 X0 hnm hret
  refine og_iloadN X0 1 d11_0 rfl rfl ?_
  refine own_arr X0 3 d11_1 (ow hw 16 rfl) (by decide) (cap := 4) (by decide) (by decide) (by decide) (by decide) rfl ?_
  intro T1 h1 b1 kb1 X1 K1 G1 U1 A1
  have f2 : Arv Z h1 b1 kb1 .byte (4 : Int32) [(.int 0), (.int 0), (.int 0), (.int 0)] (.int 0) := A1
  refine og_astoreN X1 4 #[.val (.ref b), .val (.int 0), .val (.int 4), .val (.ref b1), .unset, .unset] d11_3 rfl rfl rfl ?_
  refine og_aloadN X1 5 d11_4 rfl rfl rfl ?_
  refine og_iloadN X1 6 d11_5 rfl rfl ?_
  refine og_aloadN X1 7 d11_6 rfl rfl rfl ?_
  refine og_iconst X1 8 (0 : Int32) d11_7 rfl rfl ?_
  refine og_iloadN X1 9 d11_8 rfl rfl ?_
  have f3 := q0.keep K1 nin0
  refine own_stat X1 12 (argsL := [(.ref b), (.int 0), (.ref b1), (.int 0), (.int 4)]) (rest := []) d11_9 (ru_cmi4_2 l Z a0 hw n0 h1 hWd [] X1.old b kb dv b1 kb1 x0 x1 x2 x3 f3 f2 q1 q2 q3 (Nat.ne_of_lt (Nat.lt_of_lt_of_le q0.lt G1)) (own_svb X1 (om 0 rfl))) (ow hw 61 rfl) (ow hw 62 rfl) (ow hw 59 rfl) (ow hw 63 rfl) (by decide) (lenOf pd__28_5bCI_5bBII_29I rfl) rfl rfl rfl (W := 0) rfl (by decide) (by decide) (by decide) (by decide) (allS (om 0 rfl) all0) rfl ?_
  intro T4 h4 v4 X4 K4 hQ4
  obtain rfl := hQ4
  show OGo _ _ _ _ T4 (mkF m 12 #[.val (.ref b), .val (.int 0), .val (.int 4), .val (.ref b1), .unset, .unset] [(.int 2)])
  refine og_istore X4 14 #[.val (.ref b), .val (.int 0), .val (.int 4), .val (.ref b1), .val (.int 2), .unset] d11_12 rfl rfl ?_
  refine og_iload X4 16 d11_14 rfl rfl ?_
  refine og_iloadN X4 17 d11_16 rfl rfl ?_
  refine og_icmpN X4 20 d11_17 (XT.ii_eq_f (by decide)) rfl ?_
  refine og_aloadN X4 21 d11_20 rfl rfl rfl ?_
  refine og_iloadN X4 22 d11_21 rfl rfl ?_
  refine og_iloadN X4 23 d11_22 rfl rfl ?_
  have f5 := f3.keep K4 (ninS (Nat.ne_of_lt (Nat.lt_of_lt_of_le q0.lt G1)) nin0)
  refine own_stat X4 26 (argsL := [(.ref b), (.int 0), (.int 4)]) (rest := []) d11_23 (ru_tob4 l Z a0 hw n0 h4 hWd [] X4.old b kb dv x0 x1 x2 x3 f5 ) (ow hw 90 rfl) (ow hw 91 rfl) (ow hw 59 rfl) (ow hw 92 rfl) (by decide) (lenOf pd__28_5bCII_29_5bB rfl) rfl rfl rfl (W := 0) rfl (by decide) (by decide) (by decide) (by decide) all0 rfl ?_
  intro T6 h6 v6 X6 K6 hQ6
  obtain ⟨r6, kr6, rfl, ge_r6, f7⟩ := hQ6
  show OGo _ _ _ _ T6 (mkF m 26 #[.val (.ref b), .val (.int 0), .val (.int 4), .val (.ref b1), .val (.int 2), .unset] [(.ref r6)])
  refine og_astore X6 28 #[.val (.ref b), .val (.int 0), .val (.int 4), .val (.ref b1), .val (.int 2), .val (.ref r6)] d11_26 rfl rfl rfl ?_
  refine og_aload X6 30 d11_28 rfl rfl rfl ?_
  refine og_iload X6 32 d11_30 rfl rfl ?_
  refine own_stat X6 35 (argsL := [(.ref r6), (.int 2)]) (rest := []) d11_32 (rg_get l Z a0 hw n0 h6 hWd [] X6.old r6 kr6 [x0, x1, x2, x3] 2 f7 (Nat.le_of_ble_eq_true rfl) (Nat.le_of_ble_eq_true rfl) ) (ow hw 106 rfl) (ow hw 107 rfl) (ow hw 59 rfl) (ow hw 108 rfl) (by decide) (lenOf pd__28_5bBI_29C rfl) rfl rfl rfl (W := 0) rfl (by decide) (by decide) (by decide) (by decide) all0 rfl ?_
  intro T8 h8 v8 X8 K8 hQ8
  obtain rfl := hQ8
  show OGo _ _ _ _ T8 (mkF m 35 #[.val (.ref b), .val (.int 0), .val (.int 4), .val (.ref b1), .val (.int 2), .val (.ref r6)] [(.int (StrChars.pairCh (StrChars.lo8 x2) (StrChars.hi8 x2)))])
  refine og_sipush X8 38 (255 : Int32) d11_35 rfl rfl ?_
  refine og_icmpY X8 54 d11_38 (XT.ii_gt_t (by rw [StrChars.pair_says q8 q9]; exact q3)) (by decide) (by decide) ?_
  refine og_aload X8 56 d11_54 rfl rfl rfl ?_
  have f9 := f7.keep K8 nin0
  refine own_retA X8 d11_56 hret rfl rfl (by decide) (by decide) ?_
  exact ⟨r6, kr6, rfl, (Nat.le_trans (Nat.le_trans K1.1 K4.1) ge_r6), f9⟩
theorem ru_cmi4_3 (l : Launch) (Z : State) (a0 : Array Value) (hw : ∀ d ∈ tables_1, d.before a0 Z = true) (n0 : Nat) (h0 : Heap) (hWd : OWorld Z a0) (wc : List Jvm.Cond) (O0 : Old Z n0 h0) (b : Addr) (kb : ClassId) (dv : Value) (d : Addr) (kd : ClassId) (x0 : Int32) (x1 : Int32) (x2 : Int32) (x3 : Int32) (q0 : Arv Z h0 b kb .char (4 : Int32) [(.int x0), (.int x1), (.int x2), (.int x3)] dv) (q1 : Arv Z h0 d kd .byte (4 : Int32) [(.int 0), (.int 0), (.int 0), (.int 0)] (.int 0)) (q2 : ¬ (255 : Int32) < x0) (q3 : ¬ (255 : Int32) < x1) (q4 : ¬ (255 : Int32) < x2) (q5 : (255 : Int32) < x3) (q6 : b ≠ d) (g0 : n0 ≤ d ∧ d < h0.size) :
    OMet l Z own_EL n0 (⟨"java/lang/StringUTF16", "compress", "([CI[BII)I"⟩ : MethodName) (Jvm.Cond.code (⟨"java/lang/StringUTF16", "compress", "([CI[BII)I"⟩ : MethodName) jdk_52_method_21_code 7 (some .int) :: wc) ({ frames := 0, cells := 0, slots := 0, locals := 0 } : Room) #[(.ref b), (.int 0), (.ref d), (.int 0), (.int 4)] h0 [d] (fun vq hq => vq = some (.int 3)) := by
  refine own_enter #[.val (.ref b), .val (.int 0), .val (.ref d), .val (.int 0), .val (.int 4), .unset, .unset] pn_java_lang_StringUTF16_compress___CI_BII_I (ef_ru_cmi4_3 b kb dv d kd x0 x1 x2 x3) hWd.1 O0 (allS g0 all0) ?_
  intro p e s m below meth c T0 X0 hnm hret
  refine og_iconst X0 1 (0 : Int32) d12_0 rfl rfl ?_
  refine og_istore X0 3 #[.val (.ref b), .val (.int 0), .val (.ref d), .val (.int 0), .val (.int 4), .val (.int 0), .unset] d12_1 rfl rfl ?_
  refine og_iload X0 5 d12_3 rfl rfl ?_
  refine og_iload X0 7 d12_5 rfl rfl ?_
  refine og_icmpN X0 10 d12_7 (XT.ii_ge_f (by decide)) rfl ?_
  refine og_aloadN X0 11 d12_10 rfl rfl rfl ?_
  refine og_iloadN X0 12 d12_11 rfl rfl ?_
  refine own_ldC X0 13 d12_12 q0 (by decide) (by decide) rfl rfl ?_
  refine og_istore X0 15 #[.val (.ref b), .val (.int 0), .val (.ref d), .val (.int 0), .val (.int 4), .val (.int 0), .val (.int x0)] d12_13 rfl rfl ?_
  refine og_iload X0 17 d12_15 rfl rfl ?_
  refine og_sipush X0 20 (255 : Int32) d12_17 rfl rfl ?_
  refine og_icmpY X0 26 d12_20 (XT.ii_le_t q2) (by decide) (by decide) ?_
  refine og_aloadN X0 27 d12_26 rfl rfl rfl ?_
  refine og_iloadN X0 28 d12_27 rfl rfl ?_
  refine og_iload X0 30 d12_28 rfl rfl ?_
  refine og_i2b X0 31 d12_30 rfl ?_
  refine own_stB X0 32 d12_31 q1 (own_nbb _) (by decide) (by decide) (i := 0) (by decide) (Nat.le_of_ble_eq_true rfl) (om 0 rfl) rfl ?_
  intro T1 h1 X1 W1 K1 A1
  have f2 : Arv Z h1 d kd .byte (4 : Int32) [(.int ((x0).toInt8.toInt32)), (.int 0), (.int 0), (.int 0)] (.int 0) := A1
  refine og_iinc X1 35 #[.val (.ref b), .val (.int 1), .val (.ref d), .val (.int 0), .val (.int 4), .val (.int 0), .val (.int x0)] d12_32 rfl rfl rfl ?_
  refine og_iinc X1 38 #[.val (.ref b), .val (.int 1), .val (.ref d), .val (.int 1), .val (.int 4), .val (.int 0), .val (.int x0)] d12_35 rfl rfl rfl ?_
  refine og_iinc X1 41 #[.val (.ref b), .val (.int 1), .val (.ref d), .val (.int 1), .val (.int 4), .val (.int 1), .val (.int x0)] d12_38 rfl rfl rfl ?_
  refine og_goto X1 3 d12_41 (by decide) (by decide) ?_
  refine og_iload X1 5 d12_3 rfl rfl ?_
  refine og_iload X1 7 d12_5 rfl rfl ?_
  refine og_icmpN X1 10 d12_7 (XT.ii_ge_f (by decide)) rfl ?_
  refine og_aloadN X1 11 d12_10 rfl rfl rfl ?_
  refine og_iloadN X1 12 d12_11 rfl rfl ?_
  have f3 := q0.keep K1 (ninS q6 nin0)
  refine own_ldC X1 13 d12_12 f3 (by decide) (by decide) rfl rfl ?_
  refine og_istore X1 15 #[.val (.ref b), .val (.int 1), .val (.ref d), .val (.int 1), .val (.int 4), .val (.int 1), .val (.int x1)] d12_13 rfl rfl ?_
  refine og_iload X1 17 d12_15 rfl rfl ?_
  refine og_sipush X1 20 (255 : Int32) d12_17 rfl rfl ?_
  refine og_icmpY X1 26 d12_20 (XT.ii_le_t q3) (by decide) (by decide) ?_
  refine og_aloadN X1 27 d12_26 rfl rfl rfl ?_
  refine og_iloadN X1 28 d12_27 rfl rfl ?_
  refine og_iload X1 30 d12_28 rfl rfl ?_
  refine og_i2b X1 31 d12_30 rfl ?_
  refine own_stB X1 32 d12_31 f2 (own_nbb _) (by decide) (by decide) (i := 1) (by decide) (Nat.le_of_ble_eq_true rfl) (om 0 rfl) rfl ?_
  intro T4 h4 X4 W4 K4 A4
  have f5 : Arv Z h4 d kd .byte (4 : Int32) [(.int ((x0).toInt8.toInt32)), (.int ((x1).toInt8.toInt32)), (.int 0), (.int 0)] (.int 0) := A4
  refine og_iinc X4 35 #[.val (.ref b), .val (.int 2), .val (.ref d), .val (.int 1), .val (.int 4), .val (.int 1), .val (.int x1)] d12_32 rfl rfl rfl ?_
  refine og_iinc X4 38 #[.val (.ref b), .val (.int 2), .val (.ref d), .val (.int 2), .val (.int 4), .val (.int 1), .val (.int x1)] d12_35 rfl rfl rfl ?_
  refine og_iinc X4 41 #[.val (.ref b), .val (.int 2), .val (.ref d), .val (.int 2), .val (.int 4), .val (.int 2), .val (.int x1)] d12_38 rfl rfl rfl ?_
  refine og_goto X4 3 d12_41 (by decide) (by decide) ?_
  refine og_iload X4 5 d12_3 rfl rfl ?_
  refine og_iload X4 7 d12_5 rfl rfl ?_
  refine og_icmpN X4 10 d12_7 (XT.ii_ge_f (by decide)) rfl ?_
  refine og_aloadN X4 11 d12_10 rfl rfl rfl ?_
  refine og_iloadN X4 12 d12_11 rfl rfl ?_
  have f6 := f3.keep K4 (ninS q6 nin0)
  refine own_ldC X4 13 d12_12 f6 (by decide) (by decide) rfl rfl ?_
  refine og_istore X4 15 #[.val (.ref b), .val (.int 2), .val (.ref d), .val (.int 2), .val (.int 4), .val (.int 2), .val (.int x2)] d12_13 rfl rfl ?_
  refine og_iload X4 17 d12_15 rfl rfl ?_
  refine og_sipush X4 20 (255 : Int32) d12_17 rfl rfl ?_
  refine og_icmpY X4 26 d12_20 (XT.ii_le_t q4) (by decide) (by decide) ?_
  refine og_aloadN X4 27 d12_26 rfl rfl rfl ?_
  refine og_iloadN X4 28 d12_27 rfl rfl ?_
  refine og_iload X4 30 d12_28 rfl rfl ?_
  refine og_i2b X4 31 d12_30 rfl ?_
  refine own_stB X4 32 d12_31 f5 (own_nbb _) (by decide) (by decide) (i := 2) (by decide) (Nat.le_of_ble_eq_true rfl) (om 0 rfl) rfl ?_
  intro T7 h7 X7 W7 K7 A7
  have f8 : Arv Z h7 d kd .byte (4 : Int32) [(.int ((x0).toInt8.toInt32)), (.int ((x1).toInt8.toInt32)), (.int ((x2).toInt8.toInt32)), (.int 0)] (.int 0) := A7
  refine og_iinc X7 35 #[.val (.ref b), .val (.int 3), .val (.ref d), .val (.int 2), .val (.int 4), .val (.int 2), .val (.int x2)] d12_32 rfl rfl rfl ?_
  refine og_iinc X7 38 #[.val (.ref b), .val (.int 3), .val (.ref d), .val (.int 3), .val (.int 4), .val (.int 2), .val (.int x2)] d12_35 rfl rfl rfl ?_
  refine og_iinc X7 41 #[.val (.ref b), .val (.int 3), .val (.ref d), .val (.int 3), .val (.int 4), .val (.int 3), .val (.int x2)] d12_38 rfl rfl rfl ?_
  refine og_goto X7 3 d12_41 (by decide) (by decide) ?_
  refine og_iload X7 5 d12_3 rfl rfl ?_
  refine og_iload X7 7 d12_5 rfl rfl ?_
  refine og_icmpN X7 10 d12_7 (XT.ii_ge_f (by decide)) rfl ?_
  refine og_aloadN X7 11 d12_10 rfl rfl rfl ?_
  refine og_iloadN X7 12 d12_11 rfl rfl ?_
  have f9 := f6.keep K7 (ninS q6 nin0)
  refine own_ldC X7 13 d12_12 f9 (by decide) (by decide) rfl rfl ?_
  refine og_istore X7 15 #[.val (.ref b), .val (.int 3), .val (.ref d), .val (.int 3), .val (.int 4), .val (.int 3), .val (.int x3)] d12_13 rfl rfl ?_
  refine og_iload X7 17 d12_15 rfl rfl ?_
  refine og_sipush X7 20 (255 : Int32) d12_17 rfl rfl ?_
  refine og_icmpN X7 23 d12_20 (XT.ii_le_f q5) rfl ?_
  refine og_iload X7 25 d12_23 rfl rfl ?_
  refine own_retI X7 d12_25 hret (by decide) (by decide) ?_
  exact rfl
theorem ru_cmp4_3 (l : Launch) (Z : State) (a0 : Array Value) (hw : ∀ d ∈ tables_1, d.before a0 Z = true) (n0 : Nat) (h0 : Heap) (hWd : OWorld Z a0) (wc : List Jvm.Cond) (O0 : Old Z n0 h0) (b : Addr) (kb : ClassId) (dv : Value) (x0 : Int32) (x1 : Int32) (x2 : Int32) (x3 : Int32) (q0 : Arv Z h0 b kb .char (4 : Int32) [(.int x0), (.int x1), (.int x2), (.int x3)] dv) (q1 : ¬ (255 : Int32) < x0) (q2 : ¬ (255 : Int32) < x1) (q3 : ¬ (255 : Int32) < x2) (q4 : (255 : Int32) < x3) (q5 : ¬ x0 < 0) (q6 : ¬ (65535 : Int32) < x0) (q7 : ¬ x1 < 0) (q8 : ¬ (65535 : Int32) < x1) (q9 : ¬ x2 < 0) (q10 : ¬ (65535 : Int32) < x2) (q11 : ¬ x3 < 0) (q12 : ¬ (65535 : Int32) < x3) :
    OMet l Z own_EL n0 (⟨"java/lang/StringUTF16", "compress", "([CII)[B"⟩ : MethodName) (Jvm.Cond.code (⟨"java/lang/StringUTF16", "compress", "([CII)[B"⟩ : MethodName) jdk_52_method_16_code 6 (some (.array .byte)) :: wc) ({ frames := 3, cells := 2, slots := 12, locals := 40 } : Room) #[(.ref b), (.int 0), (.int 4)] h0 [] (fun vq hq => ∃ (r : Addr) (kr : ClassId), vq = some (.ref r) ∧ h0.size ≤ r ∧ Arv Z hq r kr .byte (8 : Int32) [(.int (StrChars.lo8 x0)), (.int (StrChars.hi8 x0)), (.int (StrChars.lo8 x1)), (.int (StrChars.hi8 x1)), (.int (StrChars.lo8 x2)), (.int (StrChars.hi8 x2)), (.int (StrChars.lo8 x3)), (.int (StrChars.hi8 x3))] (.int 0)) := by
  refine own_enter #[.val (.ref b), .val (.int 0), .val (.int 4), .unset, .unset, .unset] pn_java_lang_StringUTF16_compress___CII__B (ef_ru_cmp4_3 b kb dv x0 x1 x2 x3) hWd.1 O0 all0 ?_
  intro p e s m below meth c T0 X0 hnm hret
  refine og_iloadN X0 1 d11_0 rfl rfl ?_
  refine own_arr X0 3 d11_1 (ow hw 16 rfl) (by decide) (cap := 4) (by decide) (by decide) (by decide) (by decide) rfl ?_
  intro T1 h1 b1 kb1 X1 K1 G1 U1 A1
  have f2 : Arv Z h1 b1 kb1 .byte (4 : Int32) [(.int 0), (.int 0), (.int 0), (.int 0)] (.int 0) := A1
  refine og_astoreN X1 4 #[.val (.ref b), .val (.int 0), .val (.int 4), .val (.ref b1), .unset, .unset] d11_3 rfl rfl rfl ?_
  refine og_aloadN X1 5 d11_4 rfl rfl rfl ?_
  refine og_iloadN X1 6 d11_5 rfl rfl ?_
  refine og_aloadN X1 7 d11_6 rfl rfl rfl ?_
  refine og_iconst X1 8 (0 : Int32) d11_7 rfl rfl ?_
  refine og_iloadN X1 9 d11_8 rfl rfl ?_
  have f3 := q0.keep K1 nin0
  refine own_stat X1 12 (argsL := [(.ref b), (.int 0), (.ref b1), (.int 0), (.int 4)]) (rest := []) d11_9 (ru_cmi4_3 l Z a0 hw n0 h1 hWd [] X1.old b kb dv b1 kb1 x0 x1 x2 x3 f3 f2 q1 q2 q3 q4 (Nat.ne_of_lt (Nat.lt_of_lt_of_le q0.lt G1)) (own_svb X1 (om 0 rfl))) (ow hw 61 rfl) (ow hw 62 rfl) (ow hw 59 rfl) (ow hw 63 rfl) (by decide) (lenOf pd__28_5bCI_5bBII_29I rfl) rfl rfl rfl (W := 0) rfl (by decide) (by decide) (by decide) (by decide) (allS (om 0 rfl) all0) rfl ?_
  intro T4 h4 v4 X4 K4 hQ4
  obtain rfl := hQ4
  show OGo _ _ _ _ T4 (mkF m 12 #[.val (.ref b), .val (.int 0), .val (.int 4), .val (.ref b1), .unset, .unset] [(.int 3)])
  refine og_istore X4 14 #[.val (.ref b), .val (.int 0), .val (.int 4), .val (.ref b1), .val (.int 3), .unset] d11_12 rfl rfl ?_
  refine og_iload X4 16 d11_14 rfl rfl ?_
  refine og_iloadN X4 17 d11_16 rfl rfl ?_
  refine og_icmpN X4 20 d11_17 (XT.ii_eq_f (by decide)) rfl ?_
  refine og_aloadN X4 21 d11_20 rfl rfl rfl ?_
  refine og_iloadN X4 22 d11_21 rfl rfl ?_
  refine og_iloadN X4 23 d11_22 rfl rfl ?_
  have f5 := f3.keep K4 (ninS (Nat.ne_of_lt (Nat.lt_of_lt_of_le q0.lt G1)) nin0)
  refine own_stat X4 26 (argsL := [(.ref b), (.int 0), (.int 4)]) (rest := []) d11_23 (ru_tob4 l Z a0 hw n0 h4 hWd [] X4.old b kb dv x0 x1 x2 x3 f5 ) (ow hw 90 rfl) (ow hw 91 rfl) (ow hw 59 rfl) (ow hw 92 rfl) (by decide) (lenOf pd__28_5bCII_29_5bB rfl) rfl rfl rfl (W := 0) rfl (by decide) (by decide) (by decide) (by decide) all0 rfl ?_
  intro T6 h6 v6 X6 K6 hQ6
  obtain ⟨r6, kr6, rfl, ge_r6, f7⟩ := hQ6
  show OGo _ _ _ _ T6 (mkF m 26 #[.val (.ref b), .val (.int 0), .val (.int 4), .val (.ref b1), .val (.int 3), .unset] [(.ref r6)])
  refine og_astore X6 28 #[.val (.ref b), .val (.int 0), .val (.int 4), .val (.ref b1), .val (.int 3), .val (.ref r6)] d11_26 rfl rfl rfl ?_
  refine og_aload X6 30 d11_28 rfl rfl rfl ?_
  refine og_iload X6 32 d11_30 rfl rfl ?_
  refine own_stat X6 35 (argsL := [(.ref r6), (.int 3)]) (rest := []) d11_32 (rg_get l Z a0 hw n0 h6 hWd [] X6.old r6 kr6 [x0, x1, x2, x3] 3 f7 (Nat.le_of_ble_eq_true rfl) (Nat.le_of_ble_eq_true rfl) ) (ow hw 106 rfl) (ow hw 107 rfl) (ow hw 59 rfl) (ow hw 108 rfl) (by decide) (lenOf pd__28_5bBI_29C rfl) rfl rfl rfl (W := 0) rfl (by decide) (by decide) (by decide) (by decide) all0 rfl ?_
  intro T8 h8 v8 X8 K8 hQ8
  obtain rfl := hQ8
  show OGo _ _ _ _ T8 (mkF m 35 #[.val (.ref b), .val (.int 0), .val (.int 4), .val (.ref b1), .val (.int 3), .val (.ref r6)] [(.int (StrChars.pairCh (StrChars.lo8 x3) (StrChars.hi8 x3)))])
  refine og_sipush X8 38 (255 : Int32) d11_35 rfl rfl ?_
  refine og_icmpY X8 54 d11_38 (XT.ii_gt_t (by rw [StrChars.pair_says q11 q12]; exact q4)) (by decide) (by decide) ?_
  refine og_aload X8 56 d11_54 rfl rfl rfl ?_
  have f9 := f7.keep K8 nin0
  refine own_retA X8 d11_56 hret rfl rfl (by decide) (by decide) ?_
  exact ⟨r6, kr6, rfl, (Nat.le_trans (Nat.le_trans K1.1 K4.1) ge_r6), f9⟩
theorem ru_cmi4_4 (l : Launch) (Z : State) (a0 : Array Value) (hw : ∀ d ∈ tables_1, d.before a0 Z = true) (n0 : Nat) (h0 : Heap) (hWd : OWorld Z a0) (wc : List Jvm.Cond) (O0 : Old Z n0 h0) (b : Addr) (kb : ClassId) (dv : Value) (d : Addr) (kd : ClassId) (x0 : Int32) (x1 : Int32) (x2 : Int32) (x3 : Int32) (q0 : Arv Z h0 b kb .char (4 : Int32) [(.int x0), (.int x1), (.int x2), (.int x3)] dv) (q1 : Arv Z h0 d kd .byte (4 : Int32) [(.int 0), (.int 0), (.int 0), (.int 0)] (.int 0)) (q2 : ¬ (255 : Int32) < x0) (q3 : ¬ (255 : Int32) < x1) (q4 : ¬ (255 : Int32) < x2) (q5 : ¬ (255 : Int32) < x3) (q6 : b ≠ d) (g0 : n0 ≤ d ∧ d < h0.size) :
    OMet l Z own_EL n0 (⟨"java/lang/StringUTF16", "compress", "([CI[BII)I"⟩ : MethodName) (Jvm.Cond.code (⟨"java/lang/StringUTF16", "compress", "([CI[BII)I"⟩ : MethodName) jdk_52_method_21_code 7 (some .int) :: wc) ({ frames := 0, cells := 0, slots := 0, locals := 0 } : Room) #[(.ref b), (.int 0), (.ref d), (.int 0), (.int 4)] h0 [d] (fun vq hq => vq = some (.int 4) ∧ Arv Z hq d kd .byte (4 : Int32) [(.int ((x0).toInt8.toInt32)), (.int ((x1).toInt8.toInt32)), (.int ((x2).toInt8.toInt32)), (.int ((x3).toInt8.toInt32))] (.int 0)) := by
  refine own_enter #[.val (.ref b), .val (.int 0), .val (.ref d), .val (.int 0), .val (.int 4), .unset, .unset] pn_java_lang_StringUTF16_compress___CI_BII_I (ef_ru_cmi4_4 b kb dv d kd x0 x1 x2 x3) hWd.1 O0 (allS g0 all0) ?_
  intro p e s m below meth c T0 X0 hnm hret
  refine og_iconst X0 1 (0 : Int32) d12_0 rfl rfl ?_
  refine og_istore X0 3 #[.val (.ref b), .val (.int 0), .val (.ref d), .val (.int 0), .val (.int 4), .val (.int 0), .unset] d12_1 rfl rfl ?_
  refine og_iload X0 5 d12_3 rfl rfl ?_
  refine og_iload X0 7 d12_5 rfl rfl ?_
  refine og_icmpN X0 10 d12_7 (XT.ii_ge_f (by decide)) rfl ?_
  refine og_aloadN X0 11 d12_10 rfl rfl rfl ?_
  refine og_iloadN X0 12 d12_11 rfl rfl ?_
  refine own_ldC X0 13 d12_12 q0 (by decide) (by decide) rfl rfl ?_
  refine og_istore X0 15 #[.val (.ref b), .val (.int 0), .val (.ref d), .val (.int 0), .val (.int 4), .val (.int 0), .val (.int x0)] d12_13 rfl rfl ?_
  refine og_iload X0 17 d12_15 rfl rfl ?_
  refine og_sipush X0 20 (255 : Int32) d12_17 rfl rfl ?_
  refine og_icmpY X0 26 d12_20 (XT.ii_le_t q2) (by decide) (by decide) ?_
  refine og_aloadN X0 27 d12_26 rfl rfl rfl ?_
  refine og_iloadN X0 28 d12_27 rfl rfl ?_
  refine og_iload X0 30 d12_28 rfl rfl ?_
  refine og_i2b X0 31 d12_30 rfl ?_
  refine own_stB X0 32 d12_31 q1 (own_nbb _) (by decide) (by decide) (i := 0) (by decide) (Nat.le_of_ble_eq_true rfl) (om 0 rfl) rfl ?_
  intro T1 h1 X1 W1 K1 A1
  have f2 : Arv Z h1 d kd .byte (4 : Int32) [(.int ((x0).toInt8.toInt32)), (.int 0), (.int 0), (.int 0)] (.int 0) := A1
  refine og_iinc X1 35 #[.val (.ref b), .val (.int 1), .val (.ref d), .val (.int 0), .val (.int 4), .val (.int 0), .val (.int x0)] d12_32 rfl rfl rfl ?_
  refine og_iinc X1 38 #[.val (.ref b), .val (.int 1), .val (.ref d), .val (.int 1), .val (.int 4), .val (.int 0), .val (.int x0)] d12_35 rfl rfl rfl ?_
  refine og_iinc X1 41 #[.val (.ref b), .val (.int 1), .val (.ref d), .val (.int 1), .val (.int 4), .val (.int 1), .val (.int x0)] d12_38 rfl rfl rfl ?_
  refine og_goto X1 3 d12_41 (by decide) (by decide) ?_
  refine og_iload X1 5 d12_3 rfl rfl ?_
  refine og_iload X1 7 d12_5 rfl rfl ?_
  refine og_icmpN X1 10 d12_7 (XT.ii_ge_f (by decide)) rfl ?_
  refine og_aloadN X1 11 d12_10 rfl rfl rfl ?_
  refine og_iloadN X1 12 d12_11 rfl rfl ?_
  have f3 := q0.keep K1 (ninS q6 nin0)
  refine own_ldC X1 13 d12_12 f3 (by decide) (by decide) rfl rfl ?_
  refine og_istore X1 15 #[.val (.ref b), .val (.int 1), .val (.ref d), .val (.int 1), .val (.int 4), .val (.int 1), .val (.int x1)] d12_13 rfl rfl ?_
  refine og_iload X1 17 d12_15 rfl rfl ?_
  refine og_sipush X1 20 (255 : Int32) d12_17 rfl rfl ?_
  refine og_icmpY X1 26 d12_20 (XT.ii_le_t q3) (by decide) (by decide) ?_
  refine og_aloadN X1 27 d12_26 rfl rfl rfl ?_
  refine og_iloadN X1 28 d12_27 rfl rfl ?_
  refine og_iload X1 30 d12_28 rfl rfl ?_
  refine og_i2b X1 31 d12_30 rfl ?_
  refine own_stB X1 32 d12_31 f2 (own_nbb _) (by decide) (by decide) (i := 1) (by decide) (Nat.le_of_ble_eq_true rfl) (om 0 rfl) rfl ?_
  intro T4 h4 X4 W4 K4 A4
  have f5 : Arv Z h4 d kd .byte (4 : Int32) [(.int ((x0).toInt8.toInt32)), (.int ((x1).toInt8.toInt32)), (.int 0), (.int 0)] (.int 0) := A4
  refine og_iinc X4 35 #[.val (.ref b), .val (.int 2), .val (.ref d), .val (.int 1), .val (.int 4), .val (.int 1), .val (.int x1)] d12_32 rfl rfl rfl ?_
  refine og_iinc X4 38 #[.val (.ref b), .val (.int 2), .val (.ref d), .val (.int 2), .val (.int 4), .val (.int 1), .val (.int x1)] d12_35 rfl rfl rfl ?_
  refine og_iinc X4 41 #[.val (.ref b), .val (.int 2), .val (.ref d), .val (.int 2), .val (.int 4), .val (.int 2), .val (.int x1)] d12_38 rfl rfl rfl ?_
  refine og_goto X4 3 d12_41 (by decide) (by decide) ?_
  refine og_iload X4 5 d12_3 rfl rfl ?_
  refine og_iload X4 7 d12_5 rfl rfl ?_
  refine og_icmpN X4 10 d12_7 (XT.ii_ge_f (by decide)) rfl ?_
  refine og_aloadN X4 11 d12_10 rfl rfl rfl ?_
  refine og_iloadN X4 12 d12_11 rfl rfl ?_
  have f6 := f3.keep K4 (ninS q6 nin0)
  refine own_ldC X4 13 d12_12 f6 (by decide) (by decide) rfl rfl ?_
  refine og_istore X4 15 #[.val (.ref b), .val (.int 2), .val (.ref d), .val (.int 2), .val (.int 4), .val (.int 2), .val (.int x2)] d12_13 rfl rfl ?_
  refine og_iload X4 17 d12_15 rfl rfl ?_
  refine og_sipush X4 20 (255 : Int32) d12_17 rfl rfl ?_
  refine og_icmpY X4 26 d12_20 (XT.ii_le_t q4) (by decide) (by decide) ?_
  refine og_aloadN X4 27 d12_26 rfl rfl rfl ?_
  refine og_iloadN X4 28 d12_27 rfl rfl ?_
  refine og_iload X4 30 d12_28 rfl rfl ?_
  refine og_i2b X4 31 d12_30 rfl ?_
  refine own_stB X4 32 d12_31 f5 (own_nbb _) (by decide) (by decide) (i := 2) (by decide) (Nat.le_of_ble_eq_true rfl) (om 0 rfl) rfl ?_
  intro T7 h7 X7 W7 K7 A7
  have f8 : Arv Z h7 d kd .byte (4 : Int32) [(.int ((x0).toInt8.toInt32)), (.int ((x1).toInt8.toInt32)), (.int ((x2).toInt8.toInt32)), (.int 0)] (.int 0) := A7
  refine og_iinc X7 35 #[.val (.ref b), .val (.int 3), .val (.ref d), .val (.int 2), .val (.int 4), .val (.int 2), .val (.int x2)] d12_32 rfl rfl rfl ?_
  refine og_iinc X7 38 #[.val (.ref b), .val (.int 3), .val (.ref d), .val (.int 3), .val (.int 4), .val (.int 2), .val (.int x2)] d12_35 rfl rfl rfl ?_
  refine og_iinc X7 41 #[.val (.ref b), .val (.int 3), .val (.ref d), .val (.int 3), .val (.int 4), .val (.int 3), .val (.int x2)] d12_38 rfl rfl rfl ?_
  refine og_goto X7 3 d12_41 (by decide) (by decide) ?_
  refine og_iload X7 5 d12_3 rfl rfl ?_
  refine og_iload X7 7 d12_5 rfl rfl ?_
  refine og_icmpN X7 10 d12_7 (XT.ii_ge_f (by decide)) rfl ?_
  refine og_aloadN X7 11 d12_10 rfl rfl rfl ?_
  refine og_iloadN X7 12 d12_11 rfl rfl ?_
  have f9 := f6.keep K7 (ninS q6 nin0)
  refine own_ldC X7 13 d12_12 f9 (by decide) (by decide) rfl rfl ?_
  refine og_istore X7 15 #[.val (.ref b), .val (.int 3), .val (.ref d), .val (.int 3), .val (.int 4), .val (.int 3), .val (.int x3)] d12_13 rfl rfl ?_
  refine og_iload X7 17 d12_15 rfl rfl ?_
  refine og_sipush X7 20 (255 : Int32) d12_17 rfl rfl ?_
  refine og_icmpY X7 26 d12_20 (XT.ii_le_t q5) (by decide) (by decide) ?_
  refine og_aloadN X7 27 d12_26 rfl rfl rfl ?_
  refine og_iloadN X7 28 d12_27 rfl rfl ?_
  refine og_iload X7 30 d12_28 rfl rfl ?_
  refine og_i2b X7 31 d12_30 rfl ?_
  refine own_stB X7 32 d12_31 f8 (own_nbb _) (by decide) (by decide) (i := 3) (by decide) (Nat.le_of_ble_eq_true rfl) (om 0 rfl) rfl ?_
  intro T10 h10 X10 W10 K10 A10
  have f11 : Arv Z h10 d kd .byte (4 : Int32) [(.int ((x0).toInt8.toInt32)), (.int ((x1).toInt8.toInt32)), (.int ((x2).toInt8.toInt32)), (.int ((x3).toInt8.toInt32))] (.int 0) := A10
  refine og_iinc X10 35 #[.val (.ref b), .val (.int 4), .val (.ref d), .val (.int 3), .val (.int 4), .val (.int 3), .val (.int x3)] d12_32 rfl rfl rfl ?_
  refine og_iinc X10 38 #[.val (.ref b), .val (.int 4), .val (.ref d), .val (.int 4), .val (.int 4), .val (.int 3), .val (.int x3)] d12_35 rfl rfl rfl ?_
  refine og_iinc X10 41 #[.val (.ref b), .val (.int 4), .val (.ref d), .val (.int 4), .val (.int 4), .val (.int 4), .val (.int x3)] d12_38 rfl rfl rfl ?_
  refine og_goto X10 3 d12_41 (by decide) (by decide) ?_
  refine og_iload X10 5 d12_3 rfl rfl ?_
  refine og_iload X10 7 d12_5 rfl rfl ?_
  refine og_icmpY X10 44 d12_7 (XT.ii_ge_t (by decide)) (by decide) (by decide) ?_
  refine og_iload X10 46 d12_44 rfl rfl ?_
  refine own_retI X10 d12_46 hret (by decide) (by decide) ?_
  exact ⟨rfl, f11⟩
theorem ru_cmp4_4 (l : Launch) (Z : State) (a0 : Array Value) (hw : ∀ d ∈ tables_1, d.before a0 Z = true) (n0 : Nat) (h0 : Heap) (hWd : OWorld Z a0) (wc : List Jvm.Cond) (O0 : Old Z n0 h0) (b : Addr) (kb : ClassId) (dv : Value) (x0 : Int32) (x1 : Int32) (x2 : Int32) (x3 : Int32) (q0 : Arv Z h0 b kb .char (4 : Int32) [(.int x0), (.int x1), (.int x2), (.int x3)] dv) (q1 : ¬ (255 : Int32) < x0) (q2 : ¬ (255 : Int32) < x1) (q3 : ¬ (255 : Int32) < x2) (q4 : ¬ (255 : Int32) < x3) (q5 : ¬ x0 < 0) (q6 : ¬ (65535 : Int32) < x0) (q7 : ¬ x1 < 0) (q8 : ¬ (65535 : Int32) < x1) (q9 : ¬ x2 < 0) (q10 : ¬ (65535 : Int32) < x2) (q11 : ¬ x3 < 0) (q12 : ¬ (65535 : Int32) < x3) :
    OMet l Z own_EL n0 (⟨"java/lang/StringUTF16", "compress", "([CII)[B"⟩ : MethodName) (Jvm.Cond.code (⟨"java/lang/StringUTF16", "compress", "([CII)[B"⟩ : MethodName) jdk_52_method_16_code 6 (some (.array .byte)) :: wc) ({ frames := 1, cells := 1, slots := 4, locals := 18 } : Room) #[(.ref b), (.int 0), (.int 4)] h0 [] (fun vq hq => ∃ (r : Addr) (kr : ClassId), vq = some (.ref r) ∧ h0.size ≤ r ∧ Arv Z hq r kr .byte (4 : Int32) [(.int ((x0).toInt8.toInt32)), (.int ((x1).toInt8.toInt32)), (.int ((x2).toInt8.toInt32)), (.int ((x3).toInt8.toInt32))] (.int 0)) := by
  refine own_enter #[.val (.ref b), .val (.int 0), .val (.int 4), .unset, .unset, .unset] pn_java_lang_StringUTF16_compress___CII__B (ef_ru_cmp4_4 b kb dv x0 x1 x2 x3) hWd.1 O0 all0 ?_
  intro p e s m below meth c T0 X0 hnm hret
  refine og_iloadN X0 1 d11_0 rfl rfl ?_
  refine own_arr X0 3 d11_1 (ow hw 16 rfl) (by decide) (cap := 4) (by decide) (by decide) (by decide) (by decide) rfl ?_
  intro T1 h1 b1 kb1 X1 K1 G1 U1 A1
  have f2 : Arv Z h1 b1 kb1 .byte (4 : Int32) [(.int 0), (.int 0), (.int 0), (.int 0)] (.int 0) := A1
  refine og_astoreN X1 4 #[.val (.ref b), .val (.int 0), .val (.int 4), .val (.ref b1), .unset, .unset] d11_3 rfl rfl rfl ?_
  refine og_aloadN X1 5 d11_4 rfl rfl rfl ?_
  refine og_iloadN X1 6 d11_5 rfl rfl ?_
  refine og_aloadN X1 7 d11_6 rfl rfl rfl ?_
  refine og_iconst X1 8 (0 : Int32) d11_7 rfl rfl ?_
  refine og_iloadN X1 9 d11_8 rfl rfl ?_
  have f3 := q0.keep K1 nin0
  refine own_stat X1 12 (argsL := [(.ref b), (.int 0), (.ref b1), (.int 0), (.int 4)]) (rest := []) d11_9 (ru_cmi4_4 l Z a0 hw n0 h1 hWd [] X1.old b kb dv b1 kb1 x0 x1 x2 x3 f3 f2 q1 q2 q3 q4 (Nat.ne_of_lt (Nat.lt_of_lt_of_le q0.lt G1)) (own_svb X1 (om 0 rfl))) (ow hw 61 rfl) (ow hw 62 rfl) (ow hw 59 rfl) (ow hw 63 rfl) (by decide) (lenOf pd__28_5bCI_5bBII_29I rfl) rfl rfl rfl (W := 0) rfl (by decide) (by decide) (by decide) (by decide) (allS (om 0 rfl) all0) rfl ?_
  intro T4 h4 v4 X4 K4 hQ4
  obtain ⟨rfl, f5⟩ := hQ4
  show OGo _ _ _ _ T4 (mkF m 12 #[.val (.ref b), .val (.int 0), .val (.int 4), .val (.ref b1), .unset, .unset] [(.int 4)])
  refine og_istore X4 14 #[.val (.ref b), .val (.int 0), .val (.int 4), .val (.ref b1), .val (.int 4), .unset] d11_12 rfl rfl ?_
  refine og_iload X4 16 d11_14 rfl rfl ?_
  refine og_iloadN X4 17 d11_16 rfl rfl ?_
  refine og_icmpY X4 57 d11_17 (XT.ii_eq_t (by decide)) (by decide) (by decide) ?_
  refine og_aloadN X4 58 d11_57 rfl rfl rfl ?_
  refine own_retA X4 d11_58 hret rfl rfl (by decide) (by decide) ?_
  exact ⟨b1, kb1, rfl, G1, f5⟩
theorem ru_cod4_4 (l : Launch) (Z : State) (a0 : Array Value) (hw : ∀ d ∈ tables_1, d.before a0 Z = true) (n0 : Nat) (h0 : Heap) (hWd : OWorld Z a0) (wc : List Jvm.Cond) (O0 : Old Z n0 h0) (b : Addr) (kb : ClassId) (vs : List Value) (dv : Value) (q0 : Arv Z h0 b kb .byte (4 : Int32) vs dv) :
    OMet l Z own_EL n0 (⟨"java/lang/StringUTF16", "coderFromArrayLen", "([BI)B"⟩ : MethodName) (Jvm.Cond.code (⟨"java/lang/StringUTF16", "coderFromArrayLen", "([BI)B"⟩ : MethodName) jdk_52_method_15_code 2 (some .byte) :: wc) ({ frames := 0, cells := 0, slots := 0, locals := 0 } : Room) #[(.ref b), (.int 4)] h0 [] (fun vq hq => vq = some (.int 0)) := by
  refine own_enter #[.val (.ref b), .val (.int 4)] pn_java_lang_StringUTF16_coderFromArrayLen___BI_B (ef_ru_cod4_4 b kb vs dv) hWd.1 O0 all0 ?_
  intro p e s m below meth c T0 X0 hnm hret
  refine og_iloadN X0 1 d13_0 rfl rfl ?_
  refine og_aloadN X0 2 d13_1 rfl rfl rfl ?_
  refine own_len X0 3 d13_2 q0 rfl ?_
  refine og_isub X0 4 d13_3 rfl ?_
  show OGo _ _ _ _ T0 (mkF m 4 #[.val (.ref b), .val (.int 4)] [(.int 0)])
  refine og_bipush X0 6 (31 : Int32) d13_4 rfl rfl ?_
  refine og_iushr X0 7 d13_6 rfl ?_
  show OGo _ _ _ _ T0 (mkF m 7 #[.val (.ref b), .val (.int 4)] [(.int 0)])
  refine og_i2b X0 8 d13_7 rfl ?_
  show OGo _ _ _ _ T0 (mkF m 8 #[.val (.ref b), .val (.int 4)] [(.int 0)])
  refine own_retY X0 d13_8 hret rfl (by decide) (by decide) ?_
  exact rfl
theorem ru_cod4_8 (l : Launch) (Z : State) (a0 : Array Value) (hw : ∀ d ∈ tables_1, d.before a0 Z = true) (n0 : Nat) (h0 : Heap) (hWd : OWorld Z a0) (wc : List Jvm.Cond) (O0 : Old Z n0 h0) (b : Addr) (kb : ClassId) (vs : List Value) (dv : Value) (q0 : Arv Z h0 b kb .byte (8 : Int32) vs dv) :
    OMet l Z own_EL n0 (⟨"java/lang/StringUTF16", "coderFromArrayLen", "([BI)B"⟩ : MethodName) (Jvm.Cond.code (⟨"java/lang/StringUTF16", "coderFromArrayLen", "([BI)B"⟩ : MethodName) jdk_52_method_15_code 2 (some .byte) :: wc) ({ frames := 0, cells := 0, slots := 0, locals := 0 } : Room) #[(.ref b), (.int 4)] h0 [] (fun vq hq => vq = some (.int 1)) := by
  refine own_enter #[.val (.ref b), .val (.int 4)] pn_java_lang_StringUTF16_coderFromArrayLen___BI_B (ef_ru_cod4_8 b kb vs dv) hWd.1 O0 all0 ?_
  intro p e s m below meth c T0 X0 hnm hret
  refine og_iloadN X0 1 d13_0 rfl rfl ?_
  refine og_aloadN X0 2 d13_1 rfl rfl rfl ?_
  refine own_len X0 3 d13_2 q0 rfl ?_
  refine og_isub X0 4 d13_3 rfl ?_
  show OGo _ _ _ _ T0 (mkF m 4 #[.val (.ref b), .val (.int 4)] [(.int (-4 : Int32))])
  refine og_bipush X0 6 (31 : Int32) d13_4 rfl rfl ?_
  refine og_iushr X0 7 d13_6 rfl ?_
  show OGo _ _ _ _ T0 (mkF m 7 #[.val (.ref b), .val (.int 4)] [(.int 1)])
  refine og_i2b X0 8 d13_7 rfl ?_
  show OGo _ _ _ _ T0 (mkF m 8 #[.val (.ref b), .val (.int 4)] [(.int 1)])
  refine own_retY X0 d13_8 hret rfl (by decide) (by decide) ?_
  exact rfl
theorem ru_inv4 (l : Launch) (Z : State) (a0 : Array Value) (hw : ∀ d ∈ tables_1, d.before a0 Z = true) (n0 : Nat) (h0 : Heap) (hWd : OWorld Z a0) (wc : List Jvm.Cond) (O0 : Old Z n0 h0) (a : Addr) (b : Addr) (y : Value) (z : Int32) (kb : ClassId) (dv : Value) (x0 : Int32) (x1 : Int32) (x2 : Int32) (x3 : Int32) (q0 : Exa Z h0 a "java/lang/String") (q1 : Fld Z h0 a "java/lang/String" "value" "[B" y) (q2 : Fld Z h0 a "java/lang/String" "coder" "B" (.int z)) (q3 : Arv Z h0 b kb .char (4 : Int32) [(.int x0), (.int x1), (.int x2), (.int x3)] dv) (q4 : ¬ x0 < 0) (q5 : ¬ (65535 : Int32) < x0) (q6 : ¬ x1 < 0) (q7 : ¬ (65535 : Int32) < x1) (q8 : ¬ x2 < 0) (q9 : ¬ (65535 : Int32) < x2) (q10 : ¬ x3 < 0) (q11 : ¬ (65535 : Int32) < x3) (g0 : n0 ≤ a ∧ a < h0.size) :
    OMet l Z own_EL n0 (⟨"java/lang/String", "<init>", "([CIILjava/lang/Void;)V"⟩ : MethodName) (Jvm.Cond.code (⟨"java/lang/String", "<init>", "([CIILjava/lang/Void;)V"⟩ : MethodName) jdk_42_method_149_code 6 none :: wc) ({ frames := 4, cells := 2, slots := 12, locals := 57 } : Room) #[(.ref a), (.ref b), (.int 0), (.int 4), .null] h0 [a] (fun vq hq => vq = none ∧ OStr Z hq a [x0, x1, x2, x3] hq.size) := by
  refine own_enter #[.val (.ref a), .val (.ref b), .val (.int 0), .val (.int 4), .val .null, .unset] pn_java_lang_String__init____CIILjava_lang_Void__V (ef_ru_inv4 a b y z kb dv x0 x1 x2 x3) hWd.1 O0 (allS g0 all0) ?_
  intro p e s m below meth c T0 X0 hnm hret
  refine og_aloadN X0 1 d2_0 rfl rfl rfl ?_
  refine own_obj0 X0 4 (a := a) d2_1 (ow hw 12 rfl) (ow hw 13 rfl) (ow hw 14 rfl) rfl (W := 0) rfl (by decide) (by decide) rfl ?_
  intro T1 X2
  refine og_iloadN X2 5 d2_4 rfl rfl ?_
  refine og_ifY X2 27 d2_5 (XT.i0_ne_t (by decide)) (by decide) (by decide) ?_
  refine own_getS X2 30 d2_27 (host := "") (Or.inl (ow hw 37 rfl)) Via.refl hWd.2.1.1 rfl ?_
  intro T3 X4
  refine og_ifN X4 33 d2_30 (XT.i0_eq_f hWd.2.1.2) rfl ?_
  refine og_aloadN X4 34 d2_33 rfl rfl rfl ?_
  refine og_iloadN X4 35 d2_34 rfl rfl ?_
  refine og_iloadN X4 36 d2_35 rfl rfl ?_
  by_cases hc5 : (255 : Int32) < x0
  · -- (255 : Int32) < x0
    refine own_stat X4 39 (argsL := [(.ref b), (.int 0), (.int 4)]) (rest := []) d2_36 (ru_cmp4_0 l Z a0 hw n0 h0 hWd [] X4.old b kb dv x0 x1 x2 x3 q3 hc5 q4 q5 q6 q7 q8 q9 q10 q11 ) (ow hw 57 rfl) (ow hw 58 rfl) (ow hw 59 rfl) (ow hw 60 rfl) (by decide) (lenOf pd__28_5bCII_29_5bB rfl) rfl rfl rfl (W := 0) rfl (by decide) (by decide) (by decide) (by decide) all0 rfl ?_
    intro T6 h6 v6 X6 K6 hQ6
    obtain ⟨r6, kr6, rfl, ge_r6, f7⟩ := hQ6
    show OGo _ _ _ _ T6 (mkF m 39 #[.val (.ref a), .val (.ref b), .val (.int 0), .val (.int 4), .val .null, .unset] [(.ref r6)])
    refine og_astore X6 41 #[.val (.ref a), .val (.ref b), .val (.int 0), .val (.int 4), .val .null, .val (.ref r6)] d2_39 rfl rfl rfl ?_
    refine og_aloadN X6 42 d2_41 rfl rfl rfl ?_
    refine og_aload X6 44 d2_42 rfl rfl rfl ?_
    refine og_iloadN X6 45 d2_44 rfl rfl ?_
    refine own_stat X6 48 (argsL := [(.ref r6), (.int 4)]) (rest := [(.ref a)]) d2_45 (ru_cod4_8 l Z a0 hw n0 h6 hWd [] X6.old r6 kr6 [(.int (StrChars.lo8 x0)), (.int (StrChars.hi8 x0)), (.int (StrChars.lo8 x1)), (.int (StrChars.hi8 x1)), (.int (StrChars.lo8 x2)), (.int (StrChars.hi8 x2)), (.int (StrChars.lo8 x3)), (.int (StrChars.hi8 x3))] (.int 0) f7 ) (ow hw 64 rfl) (ow hw 65 rfl) (ow hw 59 rfl) (ow hw 66 rfl) (by decide) (lenOf pd__28_5bBI_29B rfl) rfl rfl rfl (W := 1) rfl (by decide) (by decide) (by decide) (by decide) all0 rfl ?_
    intro T8 h8 v8 X8 K8 hQ8
    obtain rfl := hQ8
    show OGo _ _ _ _ T8 (mkF m 48 #[.val (.ref a), .val (.ref b), .val (.int 0), .val (.int 4), .val .null, .val (.ref r6)] [(.int 1), (.ref a)])
    have f9 := q2.keep K6 nin0
    have f10 := f9.keep K8 nin0
    have f11 := q0.keep K6
    have f12 := f11.keep K8
    have f13 := q1.keep K6 nin0
    have f14 := f13.keep K8 nin0
    refine own_put X8 51 d2_48 (host := "") (Or.inl (ow hw 22 rfl)) Via.refl f10 f12 (Or.inr ⟨(ow hw 18 rfl), rfl, hnm⟩) (ow hw 3 rfl) (ty := .byte) (by decide) rfl rfl (om 0 rfl) rfl ?_
    intro T15 h15 X15 W15 K15 F15
    have f16 := Fld.other W15 f14 (Or.inr (slot_ne (Or.inr (ow hw 17 rfl)) (Or.inr (ow hw 18 rfl)) (by decide) (t := (.array .byte)) (t' := .byte) (by decide) (by decide)))
    refine og_aloadN X15 52 d2_51 rfl rfl rfl ?_
    refine og_aload X15 54 d2_52 rfl rfl rfl ?_
    have f17 := f12.keep K15
    refine own_put X15 57 d2_54 (host := "") (Or.inl (ow hw 21 rfl)) Via.refl f16 f17 (Or.inr ⟨(ow hw 17 rfl), rfl, hnm⟩) (ow hw 3 rfl) (ty := (.array .byte)) (by decide) rfl rfl (om 0 rfl) rfl ?_
    intro T18 h18 X18 W18 K18 F18
    have f19 := Fld.other W18 F15 (Or.inr (slot_ne (Or.inr (ow hw 18 rfl)) (Or.inr (ow hw 17 rfl)) (by decide) (t := .byte) (t' := (.array .byte)) (by decide) (by decide)))
    have f20 := f17.keep K18
    have f21 := f7.keep K8 nin0
    have f22 := f21.keep K15 (ninS (Nat.ne_of_gt (Nat.lt_of_lt_of_le q0.lt ge_r6)) nin0)
    have f23 := f22.keep K18 (ninS (Nat.ne_of_gt (Nat.lt_of_lt_of_le q0.lt ge_r6)) nin0)
    refine own_retV X18 d2_57 hret (by decide) (by decide) ?_
    exact ⟨rfl, own_mkStrW (cs := [x0, x1, x2, x3]) (n := 4) f20 f19 F18 f23 ⟨x0, List.mem_of_getElem? (i := 0) rfl, hc5⟩ (own_l16 ⟨q4, q5⟩ (own_l16 ⟨q6, q7⟩ (own_l16 ⟨q8, q9⟩ (own_l16 ⟨q10, q11⟩ (fun _ q => nomatch q))))) rfl rfl (Nat.le_of_ble_eq_true rfl)⟩
  · -- not
    by_cases hc24 : (255 : Int32) < x1
    · -- (255 : Int32) < x1
      refine own_stat X4 39 (argsL := [(.ref b), (.int 0), (.int 4)]) (rest := []) d2_36 (ru_cmp4_1 l Z a0 hw n0 h0 hWd [] X4.old b kb dv x0 x1 x2 x3 q3 hc5 hc24 q4 q5 q6 q7 q8 q9 q10 q11 ) (ow hw 57 rfl) (ow hw 58 rfl) (ow hw 59 rfl) (ow hw 60 rfl) (by decide) (lenOf pd__28_5bCII_29_5bB rfl) rfl rfl rfl (W := 0) rfl (by decide) (by decide) (by decide) (by decide) all0 rfl ?_
      intro T25 h25 v25 X25 K25 hQ25
      obtain ⟨r25, kr25, rfl, ge_r25, f26⟩ := hQ25
      show OGo _ _ _ _ T25 (mkF m 39 #[.val (.ref a), .val (.ref b), .val (.int 0), .val (.int 4), .val .null, .unset] [(.ref r25)])
      refine og_astore X25 41 #[.val (.ref a), .val (.ref b), .val (.int 0), .val (.int 4), .val .null, .val (.ref r25)] d2_39 rfl rfl rfl ?_
      refine og_aloadN X25 42 d2_41 rfl rfl rfl ?_
      refine og_aload X25 44 d2_42 rfl rfl rfl ?_
      refine og_iloadN X25 45 d2_44 rfl rfl ?_
      refine own_stat X25 48 (argsL := [(.ref r25), (.int 4)]) (rest := [(.ref a)]) d2_45 (ru_cod4_8 l Z a0 hw n0 h25 hWd [] X25.old r25 kr25 [(.int (StrChars.lo8 x0)), (.int (StrChars.hi8 x0)), (.int (StrChars.lo8 x1)), (.int (StrChars.hi8 x1)), (.int (StrChars.lo8 x2)), (.int (StrChars.hi8 x2)), (.int (StrChars.lo8 x3)), (.int (StrChars.hi8 x3))] (.int 0) f26 ) (ow hw 64 rfl) (ow hw 65 rfl) (ow hw 59 rfl) (ow hw 66 rfl) (by decide) (lenOf pd__28_5bBI_29B rfl) rfl rfl rfl (W := 1) rfl (by decide) (by decide) (by decide) (by decide) all0 rfl ?_
      intro T27 h27 v27 X27 K27 hQ27
      obtain rfl := hQ27
      show OGo _ _ _ _ T27 (mkF m 48 #[.val (.ref a), .val (.ref b), .val (.int 0), .val (.int 4), .val .null, .val (.ref r25)] [(.int 1), (.ref a)])
      have f28 := q2.keep K25 nin0
      have f29 := f28.keep K27 nin0
      have f30 := q0.keep K25
      have f31 := f30.keep K27
      have f32 := q1.keep K25 nin0
      have f33 := f32.keep K27 nin0
      refine own_put X27 51 d2_48 (host := "") (Or.inl (ow hw 22 rfl)) Via.refl f29 f31 (Or.inr ⟨(ow hw 18 rfl), rfl, hnm⟩) (ow hw 3 rfl) (ty := .byte) (by decide) rfl rfl (om 0 rfl) rfl ?_
      intro T34 h34 X34 W34 K34 F34
      have f35 := Fld.other W34 f33 (Or.inr (slot_ne (Or.inr (ow hw 17 rfl)) (Or.inr (ow hw 18 rfl)) (by decide) (t := (.array .byte)) (t' := .byte) (by decide) (by decide)))
      refine og_aloadN X34 52 d2_51 rfl rfl rfl ?_
      refine og_aload X34 54 d2_52 rfl rfl rfl ?_
      have f36 := f31.keep K34
      refine own_put X34 57 d2_54 (host := "") (Or.inl (ow hw 21 rfl)) Via.refl f35 f36 (Or.inr ⟨(ow hw 17 rfl), rfl, hnm⟩) (ow hw 3 rfl) (ty := (.array .byte)) (by decide) rfl rfl (om 0 rfl) rfl ?_
      intro T37 h37 X37 W37 K37 F37
      have f38 := Fld.other W37 F34 (Or.inr (slot_ne (Or.inr (ow hw 18 rfl)) (Or.inr (ow hw 17 rfl)) (by decide) (t := .byte) (t' := (.array .byte)) (by decide) (by decide)))
      have f39 := f36.keep K37
      have f40 := f26.keep K27 nin0
      have f41 := f40.keep K34 (ninS (Nat.ne_of_gt (Nat.lt_of_lt_of_le q0.lt ge_r25)) nin0)
      have f42 := f41.keep K37 (ninS (Nat.ne_of_gt (Nat.lt_of_lt_of_le q0.lt ge_r25)) nin0)
      refine own_retV X37 d2_57 hret (by decide) (by decide) ?_
      exact ⟨rfl, own_mkStrW (cs := [x0, x1, x2, x3]) (n := 4) f39 f38 F37 f42 ⟨x1, List.mem_of_getElem? (i := 1) rfl, hc24⟩ (own_l16 ⟨q4, q5⟩ (own_l16 ⟨q6, q7⟩ (own_l16 ⟨q8, q9⟩ (own_l16 ⟨q10, q11⟩ (fun _ q => nomatch q))))) rfl rfl (Nat.le_of_ble_eq_true rfl)⟩
    · -- not
      by_cases hc43 : (255 : Int32) < x2
      · -- (255 : Int32) < x2
        refine own_stat X4 39 (argsL := [(.ref b), (.int 0), (.int 4)]) (rest := []) d2_36 (ru_cmp4_2 l Z a0 hw n0 h0 hWd [] X4.old b kb dv x0 x1 x2 x3 q3 hc5 hc24 hc43 q4 q5 q6 q7 q8 q9 q10 q11 ) (ow hw 57 rfl) (ow hw 58 rfl) (ow hw 59 rfl) (ow hw 60 rfl) (by decide) (lenOf pd__28_5bCII_29_5bB rfl) rfl rfl rfl (W := 0) rfl (by decide) (by decide) (by decide) (by decide) all0 rfl ?_
        intro T44 h44 v44 X44 K44 hQ44
        obtain ⟨r44, kr44, rfl, ge_r44, f45⟩ := hQ44
        show OGo _ _ _ _ T44 (mkF m 39 #[.val (.ref a), .val (.ref b), .val (.int 0), .val (.int 4), .val .null, .unset] [(.ref r44)])
        refine og_astore X44 41 #[.val (.ref a), .val (.ref b), .val (.int 0), .val (.int 4), .val .null, .val (.ref r44)] d2_39 rfl rfl rfl ?_
        refine og_aloadN X44 42 d2_41 rfl rfl rfl ?_
        refine og_aload X44 44 d2_42 rfl rfl rfl ?_
        refine og_iloadN X44 45 d2_44 rfl rfl ?_
        refine own_stat X44 48 (argsL := [(.ref r44), (.int 4)]) (rest := [(.ref a)]) d2_45 (ru_cod4_8 l Z a0 hw n0 h44 hWd [] X44.old r44 kr44 [(.int (StrChars.lo8 x0)), (.int (StrChars.hi8 x0)), (.int (StrChars.lo8 x1)), (.int (StrChars.hi8 x1)), (.int (StrChars.lo8 x2)), (.int (StrChars.hi8 x2)), (.int (StrChars.lo8 x3)), (.int (StrChars.hi8 x3))] (.int 0) f45 ) (ow hw 64 rfl) (ow hw 65 rfl) (ow hw 59 rfl) (ow hw 66 rfl) (by decide) (lenOf pd__28_5bBI_29B rfl) rfl rfl rfl (W := 1) rfl (by decide) (by decide) (by decide) (by decide) all0 rfl ?_
        intro T46 h46 v46 X46 K46 hQ46
        obtain rfl := hQ46
        show OGo _ _ _ _ T46 (mkF m 48 #[.val (.ref a), .val (.ref b), .val (.int 0), .val (.int 4), .val .null, .val (.ref r44)] [(.int 1), (.ref a)])
        have f47 := q2.keep K44 nin0
        have f48 := f47.keep K46 nin0
        have f49 := q0.keep K44
        have f50 := f49.keep K46
        have f51 := q1.keep K44 nin0
        have f52 := f51.keep K46 nin0
        refine own_put X46 51 d2_48 (host := "") (Or.inl (ow hw 22 rfl)) Via.refl f48 f50 (Or.inr ⟨(ow hw 18 rfl), rfl, hnm⟩) (ow hw 3 rfl) (ty := .byte) (by decide) rfl rfl (om 0 rfl) rfl ?_
        intro T53 h53 X53 W53 K53 F53
        have f54 := Fld.other W53 f52 (Or.inr (slot_ne (Or.inr (ow hw 17 rfl)) (Or.inr (ow hw 18 rfl)) (by decide) (t := (.array .byte)) (t' := .byte) (by decide) (by decide)))
        refine og_aloadN X53 52 d2_51 rfl rfl rfl ?_
        refine og_aload X53 54 d2_52 rfl rfl rfl ?_
        have f55 := f50.keep K53
        refine own_put X53 57 d2_54 (host := "") (Or.inl (ow hw 21 rfl)) Via.refl f54 f55 (Or.inr ⟨(ow hw 17 rfl), rfl, hnm⟩) (ow hw 3 rfl) (ty := (.array .byte)) (by decide) rfl rfl (om 0 rfl) rfl ?_
        intro T56 h56 X56 W56 K56 F56
        have f57 := Fld.other W56 F53 (Or.inr (slot_ne (Or.inr (ow hw 18 rfl)) (Or.inr (ow hw 17 rfl)) (by decide) (t := .byte) (t' := (.array .byte)) (by decide) (by decide)))
        have f58 := f55.keep K56
        have f59 := f45.keep K46 nin0
        have f60 := f59.keep K53 (ninS (Nat.ne_of_gt (Nat.lt_of_lt_of_le q0.lt ge_r44)) nin0)
        have f61 := f60.keep K56 (ninS (Nat.ne_of_gt (Nat.lt_of_lt_of_le q0.lt ge_r44)) nin0)
        refine own_retV X56 d2_57 hret (by decide) (by decide) ?_
        exact ⟨rfl, own_mkStrW (cs := [x0, x1, x2, x3]) (n := 4) f58 f57 F56 f61 ⟨x2, List.mem_of_getElem? (i := 2) rfl, hc43⟩ (own_l16 ⟨q4, q5⟩ (own_l16 ⟨q6, q7⟩ (own_l16 ⟨q8, q9⟩ (own_l16 ⟨q10, q11⟩ (fun _ q => nomatch q))))) rfl rfl (Nat.le_of_ble_eq_true rfl)⟩
      · -- not
        by_cases hc62 : (255 : Int32) < x3
        · -- (255 : Int32) < x3
          refine own_stat X4 39 (argsL := [(.ref b), (.int 0), (.int 4)]) (rest := []) d2_36 (ru_cmp4_3 l Z a0 hw n0 h0 hWd [] X4.old b kb dv x0 x1 x2 x3 q3 hc5 hc24 hc43 hc62 q4 q5 q6 q7 q8 q9 q10 q11 ) (ow hw 57 rfl) (ow hw 58 rfl) (ow hw 59 rfl) (ow hw 60 rfl) (by decide) (lenOf pd__28_5bCII_29_5bB rfl) rfl rfl rfl (W := 0) rfl (by decide) (by decide) (by decide) (by decide) all0 rfl ?_
          intro T63 h63 v63 X63 K63 hQ63
          obtain ⟨r63, kr63, rfl, ge_r63, f64⟩ := hQ63
          show OGo _ _ _ _ T63 (mkF m 39 #[.val (.ref a), .val (.ref b), .val (.int 0), .val (.int 4), .val .null, .unset] [(.ref r63)])
          refine og_astore X63 41 #[.val (.ref a), .val (.ref b), .val (.int 0), .val (.int 4), .val .null, .val (.ref r63)] d2_39 rfl rfl rfl ?_
          refine og_aloadN X63 42 d2_41 rfl rfl rfl ?_
          refine og_aload X63 44 d2_42 rfl rfl rfl ?_
          refine og_iloadN X63 45 d2_44 rfl rfl ?_
          refine own_stat X63 48 (argsL := [(.ref r63), (.int 4)]) (rest := [(.ref a)]) d2_45 (ru_cod4_8 l Z a0 hw n0 h63 hWd [] X63.old r63 kr63 [(.int (StrChars.lo8 x0)), (.int (StrChars.hi8 x0)), (.int (StrChars.lo8 x1)), (.int (StrChars.hi8 x1)), (.int (StrChars.lo8 x2)), (.int (StrChars.hi8 x2)), (.int (StrChars.lo8 x3)), (.int (StrChars.hi8 x3))] (.int 0) f64 ) (ow hw 64 rfl) (ow hw 65 rfl) (ow hw 59 rfl) (ow hw 66 rfl) (by decide) (lenOf pd__28_5bBI_29B rfl) rfl rfl rfl (W := 1) rfl (by decide) (by decide) (by decide) (by decide) all0 rfl ?_
          intro T65 h65 v65 X65 K65 hQ65
          obtain rfl := hQ65
          show OGo _ _ _ _ T65 (mkF m 48 #[.val (.ref a), .val (.ref b), .val (.int 0), .val (.int 4), .val .null, .val (.ref r63)] [(.int 1), (.ref a)])
          have f66 := q2.keep K63 nin0
          have f67 := f66.keep K65 nin0
          have f68 := q0.keep K63
          have f69 := f68.keep K65
          have f70 := q1.keep K63 nin0
          have f71 := f70.keep K65 nin0
          refine own_put X65 51 d2_48 (host := "") (Or.inl (ow hw 22 rfl)) Via.refl f67 f69 (Or.inr ⟨(ow hw 18 rfl), rfl, hnm⟩) (ow hw 3 rfl) (ty := .byte) (by decide) rfl rfl (om 0 rfl) rfl ?_
          intro T72 h72 X72 W72 K72 F72
          have f73 := Fld.other W72 f71 (Or.inr (slot_ne (Or.inr (ow hw 17 rfl)) (Or.inr (ow hw 18 rfl)) (by decide) (t := (.array .byte)) (t' := .byte) (by decide) (by decide)))
          refine og_aloadN X72 52 d2_51 rfl rfl rfl ?_
          refine og_aload X72 54 d2_52 rfl rfl rfl ?_
          have f74 := f69.keep K72
          refine own_put X72 57 d2_54 (host := "") (Or.inl (ow hw 21 rfl)) Via.refl f73 f74 (Or.inr ⟨(ow hw 17 rfl), rfl, hnm⟩) (ow hw 3 rfl) (ty := (.array .byte)) (by decide) rfl rfl (om 0 rfl) rfl ?_
          intro T75 h75 X75 W75 K75 F75
          have f76 := Fld.other W75 F72 (Or.inr (slot_ne (Or.inr (ow hw 18 rfl)) (Or.inr (ow hw 17 rfl)) (by decide) (t := .byte) (t' := (.array .byte)) (by decide) (by decide)))
          have f77 := f74.keep K75
          have f78 := f64.keep K65 nin0
          have f79 := f78.keep K72 (ninS (Nat.ne_of_gt (Nat.lt_of_lt_of_le q0.lt ge_r63)) nin0)
          have f80 := f79.keep K75 (ninS (Nat.ne_of_gt (Nat.lt_of_lt_of_le q0.lt ge_r63)) nin0)
          refine own_retV X75 d2_57 hret (by decide) (by decide) ?_
          exact ⟨rfl, own_mkStrW (cs := [x0, x1, x2, x3]) (n := 4) f77 f76 F75 f80 ⟨x3, List.mem_of_getElem? (i := 3) rfl, hc62⟩ (own_l16 ⟨q4, q5⟩ (own_l16 ⟨q6, q7⟩ (own_l16 ⟨q8, q9⟩ (own_l16 ⟨q10, q11⟩ (fun _ q => nomatch q))))) rfl rfl (Nat.le_of_ble_eq_true rfl)⟩
        · -- not
          refine own_stat X4 39 (argsL := [(.ref b), (.int 0), (.int 4)]) (rest := []) d2_36 (ru_cmp4_4 l Z a0 hw n0 h0 hWd [] X4.old b kb dv x0 x1 x2 x3 q3 hc5 hc24 hc43 hc62 q4 q5 q6 q7 q8 q9 q10 q11 ) (ow hw 57 rfl) (ow hw 58 rfl) (ow hw 59 rfl) (ow hw 60 rfl) (by decide) (lenOf pd__28_5bCII_29_5bB rfl) rfl rfl rfl (W := 0) rfl (by decide) (by decide) (by decide) (by decide) all0 rfl ?_
          intro T81 h81 v81 X81 K81 hQ81
          obtain ⟨r81, kr81, rfl, ge_r81, f82⟩ := hQ81
          show OGo _ _ _ _ T81 (mkF m 39 #[.val (.ref a), .val (.ref b), .val (.int 0), .val (.int 4), .val .null, .unset] [(.ref r81)])
          refine og_astore X81 41 #[.val (.ref a), .val (.ref b), .val (.int 0), .val (.int 4), .val .null, .val (.ref r81)] d2_39 rfl rfl rfl ?_
          refine og_aloadN X81 42 d2_41 rfl rfl rfl ?_
          refine og_aload X81 44 d2_42 rfl rfl rfl ?_
          refine og_iloadN X81 45 d2_44 rfl rfl ?_
          refine own_stat X81 48 (argsL := [(.ref r81), (.int 4)]) (rest := [(.ref a)]) d2_45 (ru_cod4_4 l Z a0 hw n0 h81 hWd [] X81.old r81 kr81 [(.int ((x0).toInt8.toInt32)), (.int ((x1).toInt8.toInt32)), (.int ((x2).toInt8.toInt32)), (.int ((x3).toInt8.toInt32))] (.int 0) f82 ) (ow hw 64 rfl) (ow hw 65 rfl) (ow hw 59 rfl) (ow hw 66 rfl) (by decide) (lenOf pd__28_5bBI_29B rfl) rfl rfl rfl (W := 1) rfl (by decide) (by decide) (by decide) (by decide) all0 rfl ?_
          intro T83 h83 v83 X83 K83 hQ83
          obtain rfl := hQ83
          show OGo _ _ _ _ T83 (mkF m 48 #[.val (.ref a), .val (.ref b), .val (.int 0), .val (.int 4), .val .null, .val (.ref r81)] [(.int 0), (.ref a)])
          have f84 := q2.keep K81 nin0
          have f85 := f84.keep K83 nin0
          have f86 := q0.keep K81
          have f87 := f86.keep K83
          have f88 := q1.keep K81 nin0
          have f89 := f88.keep K83 nin0
          refine own_put X83 51 d2_48 (host := "") (Or.inl (ow hw 22 rfl)) Via.refl f85 f87 (Or.inr ⟨(ow hw 18 rfl), rfl, hnm⟩) (ow hw 3 rfl) (ty := .byte) (by decide) rfl rfl (om 0 rfl) rfl ?_
          intro T90 h90 X90 W90 K90 F90
          have f91 := Fld.other W90 f89 (Or.inr (slot_ne (Or.inr (ow hw 17 rfl)) (Or.inr (ow hw 18 rfl)) (by decide) (t := (.array .byte)) (t' := .byte) (by decide) (by decide)))
          refine og_aloadN X90 52 d2_51 rfl rfl rfl ?_
          refine og_aload X90 54 d2_52 rfl rfl rfl ?_
          have f92 := f87.keep K90
          refine own_put X90 57 d2_54 (host := "") (Or.inl (ow hw 21 rfl)) Via.refl f91 f92 (Or.inr ⟨(ow hw 17 rfl), rfl, hnm⟩) (ow hw 3 rfl) (ty := (.array .byte)) (by decide) rfl rfl (om 0 rfl) rfl ?_
          intro T93 h93 X93 W93 K93 F93
          have f94 := Fld.other W93 F90 (Or.inr (slot_ne (Or.inr (ow hw 18 rfl)) (Or.inr (ow hw 17 rfl)) (by decide) (t := .byte) (t' := (.array .byte)) (by decide) (by decide)))
          have f95 := f92.keep K93
          have f96 := f82.keep K83 nin0
          have f97 := f96.keep K90 (ninS (Nat.ne_of_gt (Nat.lt_of_lt_of_le q0.lt ge_r81)) nin0)
          have f98 := f97.keep K93 (ninS (Nat.ne_of_gt (Nat.lt_of_lt_of_le q0.lt ge_r81)) nin0)
          refine own_retV X93 d2_57 hret (by decide) (by decide) ?_
          exact ⟨rfl, own_mkStr (cs := [x0, x1, x2, x3]) (bs := [x0.toInt8.toInt32, x1.toInt8.toInt32, x2.toInt8.toInt32, x3.toInt8.toInt32]) (n := 4) f95 f94 F93 f98 rfl (own_lS ⟨q4, hc5⟩ (own_lS ⟨q6, hc24⟩ (own_lS ⟨q8, hc43⟩ (own_lS ⟨q10, hc62⟩ own_l0)))) rfl rfl (Nat.le_of_ble_eq_true rfl)⟩
theorem ru_ini4 (l : Launch) (Z : State) (a0 : Array Value) (hw : ∀ d ∈ tables_1, d.before a0 Z = true) (n0 : Nat) (h0 : Heap) (hWd : OWorld Z a0) (wc : List Jvm.Cond) (O0 : Old Z n0 h0) (a : Addr) (b : Addr) (y : Value) (z : Int32) (kb : ClassId) (dv : Value) (x0 : Int32) (x1 : Int32) (x2 : Int32) (x3 : Int32) (q0 : Exa Z h0 a "java/lang/String") (q1 : Fld Z h0 a "java/lang/String" "value" "[B" y) (q2 : Fld Z h0 a "java/lang/String" "coder" "B" (.int z)) (q3 : Arv Z h0 b kb .char (4 : Int32) [(.int x0), (.int x1), (.int x2), (.int x3)] dv) (q4 : ¬ x0 < 0) (q5 : ¬ (65535 : Int32) < x0) (q6 : ¬ x1 < 0) (q7 : ¬ (65535 : Int32) < x1) (q8 : ¬ x2 < 0) (q9 : ¬ (65535 : Int32) < x2) (q10 : ¬ x3 < 0) (q11 : ¬ (65535 : Int32) < x3) (g0 : n0 ≤ a ∧ a < h0.size) :
    OMet l Z own_EL n0 (⟨"java/lang/String", "<init>", "([C)V"⟩ : MethodName) (Jvm.Cond.code (⟨"java/lang/String", "<init>", "([C)V"⟩ : MethodName) jdk_42_method_3_code 2 none :: wc) ({ frames := 5, cells := 2, slots := 12, locals := 74 } : Room) #[(.ref a), (.ref b)] h0 [a] (fun vq hq => vq = none ∧ OStr Z hq a [x0, x1, x2, x3] hq.size) := by
  refine own_enter #[.val (.ref a), .val (.ref b)] pn_java_lang_String__init____C_V (ef_ru_ini4 a b y z kb dv x0 x1 x2 x3) hWd.1 O0 (allS g0 all0) ?_
  intro p e s m below meth c T0 X0 hnm hret
  refine og_aloadN X0 1 d1_0 rfl rfl rfl ?_
  refine og_aloadN X0 2 d1_1 rfl rfl rfl ?_
  refine og_iconst X0 3 (0 : Int32) d1_2 rfl rfl ?_
  refine og_aloadN X0 4 d1_3 rfl rfl rfl ?_
  refine own_len X0 5 d1_4 q3 rfl ?_
  refine og_aconstNull X0 6 d1_5 rfl ?_
  refine own_spec X0 9 (a := a) (argsL := [(.ref b), (.int 0), (.int 4), .null]) (rest := []) d1_6 rfl (ru_inv4 l Z a0 hw n0 h0 hWd [] X0.old a b y z kb dv x0 x1 x2 x3 q0 q1 q2 q3 q4 q5 q6 q7 q8 q9 q10 q11 (own_svb X0 (om 0 rfl))) (ow hw 8 rfl) (ow hw 9 rfl) (ow hw 4 rfl) (ow hw 11 rfl) (by decide) (lenOf pd__28_5bCIILjava_2flang_2fVoid_3b_29V rfl) rfl rfl rfl (W := 0) rfl (by decide) (by decide) (by decide) (by decide) (allS (om 0 rfl) all0) rfl ?_
  intro T1 h1 v1 X1 K1 hQ1
  obtain ⟨rfl, f2⟩ := hQ1
  show OGo _ _ _ _ T1 (mkF m 9 #[.val (.ref a), .val (.ref b)] [])
  refine own_retV X1 d1_9 hret (by decide) (by decide) ?_
  exact ⟨rfl, f2.top⟩
theorem rt_inf0 (l : Launch) (Z : State) (a0 : Array Value) (hw : ∀ d ∈ tables_1, d.before a0 Z = true) (n0 : Nat) (h0 : Heap) (hWd : OWorld Z a0) (wc : List Jvm.Cond) (O0 : Old Z n0 h0) (b : Addr) (kb : ClassId) (dv : Value) (d : Addr) (kd : ClassId) (q0 : Arv Z h0 b kb .byte (0 : Int32) [] dv) (q1 : Arv Z h0 d kd .char (0 : Int32) [] (.int 0)) (q2 : b ≠ d) (g0 : n0 ≤ d ∧ d < h0.size) :
    OMet l Z own_EL n0 (⟨"java/lang/StringLatin1", "inflate", "([BI[CII)V"⟩ : MethodName) (Jvm.Cond.code (⟨"java/lang/StringLatin1", "inflate", "([BI[CII)V"⟩ : MethodName) jdk_43_method_49_code 6 none :: wc) ({ frames := 0, cells := 0, slots := 0, locals := 0 } : Room) #[(.ref b), (.int 0), (.ref d), (.int 0), (.int 0)] h0 [d] (fun vq hq => vq = none ∧ Arv Z hq d kd .char (0 : Int32) [] (.int 0)) := by
  refine own_enter #[.val (.ref b), .val (.int 0), .val (.ref d), .val (.int 0), .val (.int 0), .unset] pn_java_lang_StringLatin1_inflate___BI_CII_V (ef_rt_inf0 b kb dv d kd) hWd.1 O0 (allS g0 all0) ?_
  intro p e s m below meth c T0 X0 hnm hret
  refine og_iconst X0 1 (0 : Int32) d8_0 rfl rfl ?_
  refine og_istore X0 3 #[.val (.ref b), .val (.int 0), .val (.ref d), .val (.int 0), .val (.int 0), .val (.int 0)] d8_1 rfl rfl ?_
  refine og_iload X0 5 d8_3 rfl rfl ?_
  refine og_iload X0 7 d8_5 rfl rfl ?_
  refine og_icmpY X0 33 d8_7 (XT.ii_ge_t (by decide)) (by decide) (by decide) ?_
  refine own_retV X0 d8_33 hret (by decide) (by decide) ?_
  exact ⟨rfl, q1⟩
theorem rt_ltc0 (l : Launch) (Z : State) (a0 : Array Value) (hw : ∀ d ∈ tables_1, d.before a0 Z = true) (n0 : Nat) (h0 : Heap) (hWd : OWorld Z a0) (wc : List Jvm.Cond) (O0 : Old Z n0 h0) (b : Addr) (kb : ClassId) (dv : Value) (q0 : Arv Z h0 b kb .byte (0 : Int32) [] dv) :
    OMet l Z own_EL n0 (⟨"java/lang/StringLatin1", "toChars", "([B)[C"⟩ : MethodName) (Jvm.Cond.code (⟨"java/lang/StringLatin1", "toChars", "([B)[C"⟩ : MethodName) jdk_43_method_9_code 2 (some (.array .char)) :: wc) ({ frames := 1, cells := 1, slots := 0, locals := 17 } : Room) #[(.ref b)] h0 [] (fun vq hq => ∃ (r : Addr) (kr : ClassId), vq = some (.ref r) ∧ h0.size ≤ r ∧ Arv Z hq r kr .char (0 : Int32) [] (.int 0)) := by
  refine own_enter #[.val (.ref b), .unset] pn_java_lang_StringLatin1_toChars___B__C (ef_rt_ltc0 b kb dv) hWd.1 O0 all0 ?_
  intro p e s m below meth c T0 X0 hnm hret
  refine og_aloadN X0 1 d7_0 rfl rfl rfl ?_
  refine own_len X0 2 d7_1 q0 rfl ?_
  refine own_arr X0 4 d7_2 (ow hw 1 rfl) (by decide) (cap := 0) (by decide) (by decide) (by decide) (by decide) rfl ?_
  intro T1 h1 b1 kb1 X1 K1 G1 U1 A1
  have f2 : Arv Z h1 b1 kb1 .char (0 : Int32) [] (.int 0) := A1
  refine og_astoreN X1 5 #[.val (.ref b), .val (.ref b1)] d7_4 rfl rfl rfl ?_
  refine og_aloadN X1 6 d7_5 rfl rfl rfl ?_
  refine og_iconst X1 7 (0 : Int32) d7_6 rfl rfl ?_
  refine og_aloadN X1 8 d7_7 rfl rfl rfl ?_
  refine og_iconst X1 9 (0 : Int32) d7_8 rfl rfl ?_
  refine og_aloadN X1 10 d7_9 rfl rfl rfl ?_
  have f3 := q0.keep K1 nin0
  refine own_len X1 11 d7_10 f3 rfl ?_
  refine own_stat X1 14 (argsL := [(.ref b), (.int 0), (.ref b1), (.int 0), (.int 0)]) (rest := []) d7_11 (rt_inf0 l Z a0 hw n0 h1 hWd [] X1.old b kb dv b1 kb1 f3 f2 (Nat.ne_of_lt (Nat.lt_of_lt_of_le q0.lt G1)) (own_svb X1 (om 0 rfl))) (ow hw 42 rfl) (ow hw 43 rfl) (ow hw 40 rfl) (ow hw 44 rfl) (by decide) (lenOf pd__28_5bBI_5bCII_29V rfl) rfl rfl rfl (W := 0) rfl (by decide) (by decide) (by decide) (by decide) (allS (om 0 rfl) all0) rfl ?_
  intro T4 h4 v4 X4 K4 hQ4
  obtain ⟨rfl, f5⟩ := hQ4
  show OGo _ _ _ _ T4 (mkF m 14 #[.val (.ref b), .val (.ref b1)] [])
  refine og_aloadN X4 15 d7_14 rfl rfl rfl ?_
  refine own_retA X4 d7_15 hret rfl rfl (by decide) (by decide) ?_
  exact ⟨b1, kb1, rfl, G1, f5⟩
theorem rt_tca0 (l : Launch) (Z : State) (a0 : Array Value) (hw : ∀ d ∈ tables_1, d.before a0 Z = true) (n0 : Nat) (h0 : Heap) (hWd : OWorld Z a0) (wc : List Jvm.Cond) (O0 : Old Z n0 h0) (a : Addr) (q0 : OStr Z h0 a [] h0.size) :
    OMet l Z own_EL n0 (⟨"java/lang/String", "toCharArray", "()[C"⟩ : MethodName) (Jvm.Cond.code (⟨"java/lang/String", "toCharArray", "()[C"⟩ : MethodName) jdk_42_method_129_code 1 (some (.array .char)) :: wc) ({ frames := 2, cells := 1, slots := 0, locals := 30 } : Room) #[(.ref a)] h0 [] (fun vq hq => ∃ (r : Addr) (kr : ClassId), vq = some (.ref r) ∧ h0.size ≤ r ∧ Arv Z hq r kr .char (0 : Int32) [] (.int 0)) := by
  refine own_enter #[.val (.ref a)] pn_java_lang_String_toCharArray____C (ef_rt_tca0 a) hWd.1 O0 all0 ?_
  intro p e s m below meth c T0 X0 hnm hret
  obtain ⟨t, kt, cd, NN, vv, eE, eC, eV, eA, cod, bd, -⟩ := q0
  rcases cod with ⟨rfl, rfl, rfl, lat⟩ | ⟨rfl, rfl, rfl, wid⟩
  · -- coder 0
    have eA2 : Arv Z h0 t kt .byte (0 : Int32) [] (.int 0) := eA
    refine og_aloadN X0 1 d5_0 rfl rfl rfl ?_
    refine own_virt X0 4 (a := a) (argsL := []) (rest := []) d5_1 eE (fun _ hZ => notFace_of_selects (args := #[]) (mvT hZ (ow hw 35 rfl))) (ru_isl0 l Z a0 hw n0 h0 hWd [] X0.old a eC ) (ow hw 32 rfl) (ow hw 33 rfl) (ow hw 35 rfl) (ow hw 34 rfl) (ow hw 4 rfl) (ow hw 36 rfl) (by decide) (lenOf pd__28_29Z rfl) rfl rfl rfl (W := 0) rfl (by decide) (by decide) (by decide) (by decide) all0 rfl ?_
    intro T1 h1 v1 X1 K1 hQ1
    obtain rfl := hQ1
    show OGo _ _ _ _ T1 (mkF m 4 #[.val (.ref a)] [(.int 1)])
    refine og_ifN X1 7 d5_4 (XT.i0_eq_f (by decide)) rfl ?_
    refine og_aloadN X1 8 d5_7 rfl rfl rfl ?_
    have f2 := eV.keep K1 nin0
    refine own_get X1 11 d5_8 (host := "") (Or.inl (ow hw 21 rfl)) Via.refl f2 rfl ?_
    intro T3 X4
    have f5 := eA2.keep K1 nin0
    refine own_stat X4 14 (argsL := [(.ref t)]) (rest := []) d5_11 (rt_ltc0 l Z a0 hw n0 h1 hWd [] X4.old t kt (.int 0) f5 ) (ow hw 38 rfl) (ow hw 39 rfl) (ow hw 40 rfl) (ow hw 41 rfl) (by decide) (lenOf pd__28_5bB_29_5bC rfl) rfl rfl rfl (W := 0) rfl (by decide) (by decide) (by decide) (by decide) all0 rfl ?_
    intro T6 h6 v6 X6 K6 hQ6
    obtain ⟨r6, kr6, rfl, ge_r6, f7⟩ := hQ6
    show OGo _ _ _ _ T6 (mkF m 14 #[.val (.ref a)] [(.ref r6)])
    refine og_goto X6 24 d5_14 (by decide) (by decide) ?_
    refine own_retA X6 d5_24 hret rfl rfl (by decide) (by decide) ?_
    exact ⟨_, _, rfl, (Nat.le_trans K1.1 ge_r6), by have q := f7; exact q⟩
  · -- coder 1
    obtain ⟨_, hm, -⟩ := wid; cases hm
theorem rt_inf1 (l : Launch) (Z : State) (a0 : Array Value) (hw : ∀ d ∈ tables_1, d.before a0 Z = true) (n0 : Nat) (h0 : Heap) (hWd : OWorld Z a0) (wc : List Jvm.Cond) (O0 : Old Z n0 h0) (b : Addr) (kb : ClassId) (dv : Value) (d : Addr) (kd : ClassId) (u0 : Int32) (q0 : Arv Z h0 b kb .byte (1 : Int32) [(.int u0)] dv) (q1 : Arv Z h0 d kd .char (1 : Int32) [(.int 0)] (.int 0)) (q2 : b ≠ d) (g0 : n0 ≤ d ∧ d < h0.size) :
    OMet l Z own_EL n0 (⟨"java/lang/StringLatin1", "inflate", "([BI[CII)V"⟩ : MethodName) (Jvm.Cond.code (⟨"java/lang/StringLatin1", "inflate", "([BI[CII)V"⟩ : MethodName) jdk_43_method_49_code 6 none :: wc) ({ frames := 0, cells := 0, slots := 0, locals := 0 } : Room) #[(.ref b), (.int 0), (.ref d), (.int 0), (.int 1)] h0 [d] (fun vq hq => vq = none ∧ Arv Z hq d kd .char (1 : Int32) [(.int (u0 &&& (255 : Int32)))] (.int 0)) := by
  refine own_enter #[.val (.ref b), .val (.int 0), .val (.ref d), .val (.int 0), .val (.int 1), .unset] pn_java_lang_StringLatin1_inflate___BI_CII_V (ef_rt_inf1 b kb dv d kd u0) hWd.1 O0 (allS g0 all0) ?_
  intro p e s m below meth c T0 X0 hnm hret
  refine og_iconst X0 1 (0 : Int32) d8_0 rfl rfl ?_
  refine og_istore X0 3 #[.val (.ref b), .val (.int 0), .val (.ref d), .val (.int 0), .val (.int 1), .val (.int 0)] d8_1 rfl rfl ?_
  refine og_iload X0 5 d8_3 rfl rfl ?_
  refine og_iload X0 7 d8_5 rfl rfl ?_
  refine og_icmpN X0 10 d8_7 (XT.ii_ge_f (by decide)) rfl ?_
  refine og_aloadN X0 11 d8_10 rfl rfl rfl ?_
  refine og_iloadN X0 12 d8_11 rfl rfl ?_
  refine og_iinc X0 15 #[.val (.ref b), .val (.int 0), .val (.ref d), .val (.int 1), .val (.int 1), .val (.int 0)] d8_12 rfl rfl rfl ?_
  refine og_aloadN X0 16 d8_15 rfl rfl rfl ?_
  refine og_iloadN X0 17 d8_16 rfl rfl ?_
  refine og_iinc X0 20 #[.val (.ref b), .val (.int 1), .val (.ref d), .val (.int 1), .val (.int 1), .val (.int 0)] d8_17 rfl rfl rfl ?_
  refine own_ldB X0 21 d8_20 q0 (by decide) (by decide) rfl rfl ?_
  refine og_sipush X0 24 (255 : Int32) d8_21 rfl rfl ?_
  refine og_iand X0 25 d8_24 rfl ?_
  refine og_i2c8 X0 26 d8_25 rfl ?_
  refine own_stC X0 27 d8_26 q1 (own_nc8 _) (by decide) (by decide) (i := 0) (by decide) (Nat.le_of_ble_eq_true rfl) (om 0 rfl) rfl ?_
  intro T1 h1 X1 W1 K1 A1
  have f2 : Arv Z h1 d kd .char (1 : Int32) [(.int (u0 &&& (255 : Int32)))] (.int 0) := A1
  refine og_iinc X1 30 #[.val (.ref b), .val (.int 1), .val (.ref d), .val (.int 1), .val (.int 1), .val (.int 1)] d8_27 rfl rfl rfl ?_
  refine og_goto X1 3 d8_30 (by decide) (by decide) ?_
  refine og_iload X1 5 d8_3 rfl rfl ?_
  refine og_iload X1 7 d8_5 rfl rfl ?_
  refine og_icmpY X1 33 d8_7 (XT.ii_ge_t (by decide)) (by decide) (by decide) ?_
  refine own_retV X1 d8_33 hret (by decide) (by decide) ?_
  exact ⟨rfl, f2⟩
theorem rt_ltc1 (l : Launch) (Z : State) (a0 : Array Value) (hw : ∀ d ∈ tables_1, d.before a0 Z = true) (n0 : Nat) (h0 : Heap) (hWd : OWorld Z a0) (wc : List Jvm.Cond) (O0 : Old Z n0 h0) (b : Addr) (kb : ClassId) (dv : Value) (u0 : Int32) (q0 : Arv Z h0 b kb .byte (1 : Int32) [(.int u0)] dv) :
    OMet l Z own_EL n0 (⟨"java/lang/StringLatin1", "toChars", "([B)[C"⟩ : MethodName) (Jvm.Cond.code (⟨"java/lang/StringLatin1", "toChars", "([B)[C"⟩ : MethodName) jdk_43_method_9_code 2 (some (.array .char)) :: wc) ({ frames := 1, cells := 1, slots := 1, locals := 17 } : Room) #[(.ref b)] h0 [] (fun vq hq => ∃ (r : Addr) (kr : ClassId), vq = some (.ref r) ∧ h0.size ≤ r ∧ Arv Z hq r kr .char (1 : Int32) [(.int (u0 &&& (255 : Int32)))] (.int 0)) := by
  refine own_enter #[.val (.ref b), .unset] pn_java_lang_StringLatin1_toChars___B__C (ef_rt_ltc1 b kb dv u0) hWd.1 O0 all0 ?_
  intro p e s m below meth c T0 X0 hnm hret
  refine og_aloadN X0 1 d7_0 rfl rfl rfl ?_
  refine own_len X0 2 d7_1 q0 rfl ?_
  refine own_arr X0 4 d7_2 (ow hw 1 rfl) (by decide) (cap := 1) (by decide) (by decide) (by decide) (by decide) rfl ?_
  intro T1 h1 b1 kb1 X1 K1 G1 U1 A1
  have f2 : Arv Z h1 b1 kb1 .char (1 : Int32) [(.int 0)] (.int 0) := A1
  refine og_astoreN X1 5 #[.val (.ref b), .val (.ref b1)] d7_4 rfl rfl rfl ?_
  refine og_aloadN X1 6 d7_5 rfl rfl rfl ?_
  refine og_iconst X1 7 (0 : Int32) d7_6 rfl rfl ?_
  refine og_aloadN X1 8 d7_7 rfl rfl rfl ?_
  refine og_iconst X1 9 (0 : Int32) d7_8 rfl rfl ?_
  refine og_aloadN X1 10 d7_9 rfl rfl rfl ?_
  have f3 := q0.keep K1 nin0
  refine own_len X1 11 d7_10 f3 rfl ?_
  refine own_stat X1 14 (argsL := [(.ref b), (.int 0), (.ref b1), (.int 0), (.int 1)]) (rest := []) d7_11 (rt_inf1 l Z a0 hw n0 h1 hWd [] X1.old b kb dv b1 kb1 u0 f3 f2 (Nat.ne_of_lt (Nat.lt_of_lt_of_le q0.lt G1)) (own_svb X1 (om 0 rfl))) (ow hw 42 rfl) (ow hw 43 rfl) (ow hw 40 rfl) (ow hw 44 rfl) (by decide) (lenOf pd__28_5bBI_5bCII_29V rfl) rfl rfl rfl (W := 0) rfl (by decide) (by decide) (by decide) (by decide) (allS (om 0 rfl) all0) rfl ?_
  intro T4 h4 v4 X4 K4 hQ4
  obtain ⟨rfl, f5⟩ := hQ4
  show OGo _ _ _ _ T4 (mkF m 14 #[.val (.ref b), .val (.ref b1)] [])
  refine og_aloadN X4 15 d7_14 rfl rfl rfl ?_
  refine own_retA X4 d7_15 hret rfl rfl (by decide) (by decide) ?_
  exact ⟨b1, kb1, rfl, G1, f5⟩
theorem rt_cfi1 (l : Launch) (Z : State) (a0 : Array Value) (hw : ∀ d ∈ tables_1, d.before a0 Z = true) (n0 : Nat) (h0 : Heap) (hWd : OWorld Z a0) (wc : List Jvm.Cond) (O0 : Old Z n0 h0) (fm : Value) (q0 : (fm).isRef = true) :
    OMet l Z own_EL n0 (⟨"jdk/internal/util/Preconditions", "checkFromIndexSize", "(IIILjava/util/function/BiFunction;)I"⟩ : MethodName) (Jvm.Cond.code (⟨"jdk/internal/util/Preconditions", "checkFromIndexSize", "(IIILjava/util/function/BiFunction;)I"⟩ : MethodName) jdk_41_method_13_code 4 (some .int) :: wc) ({ frames := 0, cells := 0, slots := 0, locals := 0 } : Room) #[(.int 0), (.int 1), (.int 1), fm] h0 [] (fun vq hq => vq = some (.int 0)) := by
  refine own_enter #[.val (.int 0), .val (.int 1), .val (.int 1), .val fm] pn_jdk_internal_util_Preconditions_checkFromIndexSize__IIILjava_util_function_BiFunction__I (ef_rt_cfi1 fm q0) hWd.1 O0 all0 ?_
  intro p e s m below meth c T0 X0 hnm hret
  refine og_iloadN X0 1 d30_0 rfl rfl ?_
  refine og_iloadN X0 2 d30_1 rfl rfl ?_
  refine og_ior X0 3 d30_2 rfl ?_
  show OGo _ _ _ _ T0 (mkF m 3 #[.val (.int 0), .val (.int 1), .val (.int 1), .val fm] [(.int 1)])
  refine og_iloadN X0 4 d30_3 rfl rfl ?_
  refine og_ior X0 5 d30_4 rfl ?_
  show OGo _ _ _ _ T0 (mkF m 5 #[.val (.int 0), .val (.int 1), .val (.int 1), .val fm] [(.int 1)])
  refine og_ifN X0 8 d30_5 (XT.i0_lt_f (by decide)) rfl ?_
  refine og_iloadN X0 9 d30_8 rfl rfl ?_
  refine og_iloadN X0 10 d30_9 rfl rfl ?_
  refine og_iloadN X0 11 d30_10 rfl rfl ?_
  refine og_isub X0 12 d30_11 rfl ?_
  show OGo _ _ _ _ T0 (mkF m 12 #[.val (.int 0), .val (.int 1), .val (.int 1), .val fm] [(.int 1), (.int 1)])
  refine og_icmpY X0 23 d30_12 (XT.ii_le_t (by decide)) (by decide) (by decide) ?_
  refine og_iloadN X0 24 d30_23 rfl rfl ?_
  refine own_retI X0 d30_24 hret (by decide) (by decide) ?_
  exact rfl
theorem rt_cbo1 (l : Launch) (Z : State) (a0 : Array Value) (hw : ∀ d ∈ tables_1, d.before a0 Z = true) (n0 : Nat) (h0 : Heap) (hWd : OWorld Z a0) (wc : List Jvm.Cond) (O0 : Old Z n0 h0)   :
    OMet l Z own_EL n0 (⟨"java/lang/String", "checkBoundsOffCount", "(III)I"⟩ : MethodName) (Jvm.Cond.code (⟨"java/lang/String", "checkBoundsOffCount", "(III)I"⟩ : MethodName) jdk_42_method_157_code 3 (some .int) :: wc) ({ frames := 1, cells := 0, slots := 0, locals := 15 } : Room) #[(.int 0), (.int 1), (.int 1)] h0 [] (fun vq hq => vq = some (.int 0)) := by
  refine own_enter #[.val (.int 0), .val (.int 1), .val (.int 1)] pn_java_lang_String_checkBoundsOffCount__III_I (ef_rt_cbo1) hWd.1 O0 all0 ?_
  intro p e s m below meth c T0 X0 hnm hret
  refine og_iloadN X0 1 d29_0 rfl rfl ?_
  refine og_iloadN X0 2 d29_1 rfl rfl ?_
  refine og_iloadN X0 3 d29_2 rfl rfl ?_
  refine own_getS X0 6 d29_3 (host := "") (Or.inl (ow hw 81 rfl)) Via.refl hWd.2.2.1.1 rfl ?_
  intro T1 X2
  refine own_stat X2 9 (argsL := [(.int 0), (.int 1), (.int 1), (own_stv Z "jdk/internal/util/Preconditions" "SIOOBE_FORMATTER" "Ljava/util/function/BiFunction;")]) (rest := []) d29_6 (rt_cfi1 l Z a0 hw n0 h0 hWd [] X2.old (own_stv Z "jdk/internal/util/Preconditions" "SIOOBE_FORMATTER" "Ljava/util/function/BiFunction;") hWd.2.2.1.2 ) (ow hw 124 rfl) (ow hw 125 rfl) (ow hw 82 rfl) (ow hw 126 rfl) (by decide) (lenOf pd__28IIILjava_2futil_2ffunction_2fBiFunction_3b_29I rfl) rfl rfl rfl (W := 0) rfl (by decide) (by decide) (by decide) (by decide) all0 rfl ?_
  intro T3 h3 v3 X3 K3 hQ3
  obtain rfl := hQ3
  show OGo _ _ _ _ T3 (mkF m 9 #[.val (.int 0), .val (.int 1), .val (.int 1)] [(.int 0)])
  refine own_retI X3 d29_9 hret (by decide) (by decide) ?_
  exact rfl
theorem rt_ucb1 (l : Launch) (Z : State) (a0 : Array Value) (hw : ∀ d ∈ tables_1, d.before a0 Z = true) (n0 : Nat) (h0 : Heap) (hWd : OWorld Z a0) (wc : List Jvm.Cond) (O0 : Old Z n0 h0) (b : Addr) (kb : ClassId) (x0 : Int32) (q0 : Arv Z h0 b kb .byte (2 : Int32) [(.int (StrChars.lo8 x0)), (.int (StrChars.hi8 x0))] (.int 0)) :
    OMet l Z own_EL n0 (⟨"java/lang/StringUTF16", "checkBoundsOffCount", "(II[B)V"⟩ : MethodName) (Jvm.Cond.code (⟨"java/lang/StringUTF16", "checkBoundsOffCount", "(II[B)V"⟩ : MethodName) jdk_52_method_94_code 3 none :: wc) ({ frames := 2, cells := 0, slots := 0, locals := 29 } : Room) #[(.int 0), (.int 1), (.ref b)] h0 [] (fun vq hq => vq = none) := by
  refine own_enter #[.val (.int 0), .val (.int 1), .val (.ref b)] pn_java_lang_StringUTF16_checkBoundsOffCount__II_B_V (ef_rt_ucb1 b kb x0) hWd.1 O0 all0 ?_
  intro p e s m below meth c T0 X0 hnm hret
  refine og_iloadN X0 1 d27_0 rfl rfl ?_
  refine og_iloadN X0 2 d27_1 rfl rfl ?_
  refine og_aloadN X0 3 d27_2 rfl rfl rfl ?_
  refine own_stat X0 6 (argsL := [(.ref b)]) (rest := [(.int 1), (.int 0)]) d27_3 (rg_len l Z a0 hw n0 h0 hWd [] X0.old b kb [x0] q0 (Nat.le_of_ble_eq_true rfl) ) (ow hw 118 rfl) (ow hw 119 rfl) (ow hw 59 rfl) (ow hw 120 rfl) (by decide) (lenOf pd__28_5bB_29I rfl) rfl rfl rfl (W := 2) rfl (by decide) (by decide) (by decide) (by decide) all0 rfl ?_
  intro T1 h1 v1 X1 K1 hQ1
  obtain rfl := hQ1
  show OGo _ _ _ _ T1 (mkF m 6 #[.val (.int 0), .val (.int 1), .val (.ref b)] [(.int (Int32.ofNat ([x0]).length)), (.int 1), (.int 0)])
  show OGo _ _ _ _ T1 (mkF m 6 #[.val (.int 0), .val (.int 1), .val (.ref b)] [(.int 1), (.int 1), (.int 0)])
  refine own_stat X1 9 (argsL := [(.int 0), (.int 1), (.int 1)]) (rest := []) d27_6 (rt_cbo1 l Z a0 hw n0 h1 hWd [] X1.old   ) (ow hw 121 rfl) (ow hw 122 rfl) (ow hw 4 rfl) (ow hw 123 rfl) (by decide) (lenOf pd__28III_29I rfl) rfl rfl rfl (W := 0) rfl (by decide) (by decide) (by decide) (by decide) all0 rfl ?_
  intro T2 h2 v2 X2 K2 hQ2
  obtain rfl := hQ2
  show OGo _ _ _ _ T2 (mkF m 9 #[.val (.int 0), .val (.int 1), .val (.ref b)] [(.int 0)])
  refine og_pop X2 10 d27_9 rfl rfl ?_
  refine own_retV X2 d27_10 hret (by decide) (by decide) ?_
  exact rfl
theorem rt_gcs1 (l : Launch) (Z : State) (a0 : Array Value) (hw : ∀ d ∈ tables_1, d.before a0 Z = true) (n0 : Nat) (h0 : Heap) (hWd : OWorld Z a0) (wc : List Jvm.Cond) (O0 : Old Z n0 h0) (b : Addr) (kb : ClassId) (d : Addr) (kd : ClassId) (x0 : Int32) (q0 : Arv Z h0 b kb .byte (2 : Int32) [(.int (StrChars.lo8 x0)), (.int (StrChars.hi8 x0))] (.int 0)) (q1 : Arv Z h0 d kd .char (1 : Int32) [(.int 0)] (.int 0)) (q2 : b ≠ d) (g0 : n0 ≤ d ∧ d < h0.size) :
    OMet l Z own_EL n0 (⟨"java/lang/StringUTF16", "getChars", "([BII[CI)V"⟩ : MethodName) (Jvm.Cond.code (⟨"java/lang/StringUTF16", "getChars", "([BII[CI)V"⟩ : MethodName) jdk_52_method_26_code 6 none :: wc) ({ frames := 3, cells := 0, slots := 0, locals := 43 } : Room) #[(.ref b), (.int 0), (.int 1), (.ref d), (.int 0)] h0 [d] (fun vq hq => vq = none ∧ Arv Z hq d kd .char (1 : Int32) [(.int (StrChars.pairCh (StrChars.lo8 x0) (StrChars.hi8 x0)))] (.int 0)) := by
  refine own_enter #[.val (.ref b), .val (.int 0), .val (.int 1), .val (.ref d), .val (.int 0), .unset] pn_java_lang_StringUTF16_getChars___BII_CI_V (ef_rt_gcs1 b kb d kd x0) hWd.1 O0 (allS g0 all0) ?_
  intro p e s m below meth c T0 X0 hnm hret
  refine og_iloadN X0 1 d26_0 rfl rfl ?_
  refine og_iloadN X0 2 d26_1 rfl rfl ?_
  refine og_icmpN X0 5 d26_2 (XT.ii_ge_f (by decide)) rfl ?_
  refine og_iloadN X0 6 d26_5 rfl rfl ?_
  refine og_iloadN X0 7 d26_6 rfl rfl ?_
  refine og_iloadN X0 8 d26_7 rfl rfl ?_
  refine og_isub X0 9 d26_8 rfl ?_
  show OGo _ _ _ _ T0 (mkF m 9 #[.val (.ref b), .val (.int 0), .val (.int 1), .val (.ref d), .val (.int 0), .unset] [(.int 1), (.int 0)])
  refine og_aloadN X0 10 d26_9 rfl rfl rfl ?_
  refine own_stat X0 13 (argsL := [(.int 0), (.int 1), (.ref b)]) (rest := []) d26_10 (rt_ucb1 l Z a0 hw n0 h0 hWd [] X0.old b kb x0 q0 ) (ow hw 115 rfl) (ow hw 116 rfl) (ow hw 59 rfl) (ow hw 117 rfl) (by decide) (lenOf pd__28II_5bB_29V rfl) rfl rfl rfl (W := 0) rfl (by decide) (by decide) (by decide) (by decide) all0 rfl ?_
  intro T1 h1 v1 X1 K1 hQ1
  obtain rfl := hQ1
  show OGo _ _ _ _ T1 (mkF m 13 #[.val (.ref b), .val (.int 0), .val (.int 1), .val (.ref d), .val (.int 0), .unset] [])
  refine og_iloadN X1 14 d26_13 rfl rfl ?_
  refine og_istore X1 16 #[.val (.ref b), .val (.int 0), .val (.int 1), .val (.ref d), .val (.int 0), .val (.int 0)] d26_14 rfl rfl ?_
  refine og_iload X1 18 d26_16 rfl rfl ?_
  refine og_iloadN X1 19 d26_18 rfl rfl ?_
  refine og_icmpN X1 22 d26_19 (XT.ii_ge_f (by decide)) rfl ?_
  refine og_aloadN X1 23 d26_22 rfl rfl rfl ?_
  refine og_iload X1 25 d26_23 rfl rfl ?_
  refine og_iinc X1 28 #[.val (.ref b), .val (.int 0), .val (.int 1), .val (.ref d), .val (.int 1), .val (.int 0)] d26_25 rfl rfl rfl ?_
  refine og_aloadN X1 29 d26_28 rfl rfl rfl ?_
  refine og_iload X1 31 d26_29 rfl rfl ?_
  have f2 := q0.keep K1 nin0
  refine own_stat X1 34 (argsL := [(.ref b), (.int 0)]) (rest := [(.int 0), (.ref d)]) d26_31 (rg_get l Z a0 hw n0 h1 hWd [] X1.old b kb [x0] 0 f2 (Nat.le_of_ble_eq_true rfl) (Nat.le_of_ble_eq_true rfl) ) (ow hw 106 rfl) (ow hw 107 rfl) (ow hw 59 rfl) (ow hw 108 rfl) (by decide) (lenOf pd__28_5bBI_29C rfl) rfl rfl rfl (W := 2) rfl (by decide) (by decide) (by decide) (by decide) all0 rfl ?_
  intro T3 h3 v3 X3 K3 hQ3
  obtain rfl := hQ3
  show OGo _ _ _ _ T3 (mkF m 34 #[.val (.ref b), .val (.int 0), .val (.int 1), .val (.ref d), .val (.int 1), .val (.int 0)] [(.int (StrChars.pairCh (StrChars.lo8 x0) (StrChars.hi8 x0))), (.int 0), (.ref d)])
  have f4 := q1.keep K1 nin0
  have f5 := f4.keep K3 nin0
  refine own_stC X3 35 d26_34 f5 (own_ncc _) (by decide) (by decide) (i := 0) (by decide) (Nat.le_of_ble_eq_true rfl) (om 0 rfl) rfl ?_
  intro T6 h6 X6 W6 K6 A6
  have f7 : Arv Z h6 d kd .char (1 : Int32) [(.int (StrChars.pairCh (StrChars.lo8 x0) (StrChars.hi8 x0)))] (.int 0) := A6
  refine og_iinc X6 38 #[.val (.ref b), .val (.int 0), .val (.int 1), .val (.ref d), .val (.int 1), .val (.int 1)] d26_35 rfl rfl rfl ?_
  refine og_goto X6 16 d26_38 (by decide) (by decide) ?_
  refine og_iload X6 18 d26_16 rfl rfl ?_
  refine og_iloadN X6 19 d26_18 rfl rfl ?_
  refine og_icmpY X6 41 d26_19 (XT.ii_ge_t (by decide)) (by decide) (by decide) ?_
  refine own_retV X6 d26_41 hret (by decide) (by decide) ?_
  exact ⟨rfl, f7⟩
theorem rt_utc1 (l : Launch) (Z : State) (a0 : Array Value) (hw : ∀ d ∈ tables_1, d.before a0 Z = true) (n0 : Nat) (h0 : Heap) (hWd : OWorld Z a0) (wc : List Jvm.Cond) (O0 : Old Z n0 h0) (b : Addr) (kb : ClassId) (x0 : Int32) (q0 : Arv Z h0 b kb .byte (2 : Int32) [(.int (StrChars.lo8 x0)), (.int (StrChars.hi8 x0))] (.int 0)) :
    OMet l Z own_EL n0 (⟨"java/lang/StringUTF16", "toChars", "([B)[C"⟩ : MethodName) (Jvm.Cond.code (⟨"java/lang/StringUTF16", "toChars", "([B)[C"⟩ : MethodName) jdk_52_method_13_code 2 (some (.array .char)) :: wc) ({ frames := 4, cells := 1, slots := 1, locals := 60 } : Room) #[(.ref b)] h0 [] (fun vq hq => ∃ (r : Addr) (kr : ClassId), vq = some (.ref r) ∧ h0.size ≤ r ∧ Arv Z hq r kr .char (1 : Int32) [(.int (StrChars.pairCh (StrChars.lo8 x0) (StrChars.hi8 x0)))] (.int 0)) := by
  refine own_enter #[.val (.ref b), .unset] pn_java_lang_StringUTF16_toChars___B__C (ef_rt_utc1 b kb x0) hWd.1 O0 all0 ?_
  intro p e s m below meth c T0 X0 hnm hret
  refine og_aloadN X0 1 d25_0 rfl rfl rfl ?_
  refine own_len X0 2 d25_1 q0 rfl ?_
  refine og_iconst X0 3 (1 : Int32) d25_2 rfl rfl ?_
  refine og_ishr X0 4 d25_3 rfl ?_
  show OGo _ _ _ _ T0 (mkF m 4 #[.val (.ref b), .unset] [(.int 1)])
  refine own_arr X0 6 d25_4 (ow hw 1 rfl) (by decide) (cap := 1) (by decide) (by decide) (by decide) (by decide) rfl ?_
  intro T1 h1 b1 kb1 X1 K1 G1 U1 A1
  have f2 : Arv Z h1 b1 kb1 .char (1 : Int32) [(.int 0)] (.int 0) := A1
  refine og_astoreN X1 7 #[.val (.ref b), .val (.ref b1)] d25_6 rfl rfl rfl ?_
  refine og_aloadN X1 8 d25_7 rfl rfl rfl ?_
  refine og_iconst X1 9 (0 : Int32) d25_8 rfl rfl ?_
  refine og_aloadN X1 10 d25_9 rfl rfl rfl ?_
  refine own_len X1 11 d25_10 f2 rfl ?_
  refine og_aloadN X1 12 d25_11 rfl rfl rfl ?_
  refine og_iconst X1 13 (0 : Int32) d25_12 rfl rfl ?_
  have f3 := q0.keep K1 nin0
  refine own_stat X1 16 (argsL := [(.ref b), (.int 0), (.int 1), (.ref b1), (.int 0)]) (rest := []) d25_13 (rt_gcs1 l Z a0 hw n0 h1 hWd [] X1.old b kb b1 kb1 x0 f3 f2 (Nat.ne_of_lt (Nat.lt_of_lt_of_le q0.lt G1)) (own_svb X1 (om 0 rfl))) (ow hw 112 rfl) (ow hw 113 rfl) (ow hw 59 rfl) (ow hw 114 rfl) (by decide) (lenOf pd__28_5bBII_5bCI_29V rfl) rfl rfl rfl (W := 0) rfl (by decide) (by decide) (by decide) (by decide) (allS (om 0 rfl) all0) rfl ?_
  intro T4 h4 v4 X4 K4 hQ4
  obtain ⟨rfl, f5⟩ := hQ4
  show OGo _ _ _ _ T4 (mkF m 16 #[.val (.ref b), .val (.ref b1)] [])
  refine og_aloadN X4 17 d25_16 rfl rfl rfl ?_
  refine own_retA X4 d25_17 hret rfl rfl (by decide) (by decide) ?_
  exact ⟨b1, kb1, rfl, G1, f5⟩
theorem rt_tca1 (l : Launch) (Z : State) (a0 : Array Value) (hw : ∀ d ∈ tables_1, d.before a0 Z = true) (n0 : Nat) (h0 : Heap) (hWd : OWorld Z a0) (wc : List Jvm.Cond) (O0 : Old Z n0 h0) (a : Addr) (x0 : Int32) (q0 : OStr Z h0 a [x0] h0.size) :
    OMet l Z own_EL n0 (⟨"java/lang/String", "toCharArray", "()[C"⟩ : MethodName) (Jvm.Cond.code (⟨"java/lang/String", "toCharArray", "()[C"⟩ : MethodName) jdk_42_method_129_code 1 (some (.array .char)) :: wc) ({ frames := 5, cells := 1, slots := 1, locals := 73 } : Room) #[(.ref a)] h0 [] (fun vq hq => ∃ (r : Addr) (kr : ClassId), vq = some (.ref r) ∧ h0.size ≤ r ∧ Arv Z hq r kr .char (1 : Int32) [(.int x0)] (.int 0)) := by
  refine own_enter #[.val (.ref a)] pn_java_lang_String_toCharArray____C (ef_rt_tca1 a x0) hWd.1 O0 all0 ?_
  intro p e s m below meth c T0 X0 hnm hret
  obtain ⟨t, kt, cd, NN, vv, eE, eC, eV, eA, cod, bd, -⟩ := q0
  rcases cod with ⟨rfl, rfl, rfl, lat⟩ | ⟨rfl, rfl, rfl, wid⟩
  · -- coder 0
    have eA2 : Arv Z h0 t kt .byte (1 : Int32) [(.int (StrChars.lo8 x0))] (.int 0) := eA
    refine og_aloadN X0 1 d5_0 rfl rfl rfl ?_
    refine own_virt X0 4 (a := a) (argsL := []) (rest := []) d5_1 eE (fun _ hZ => notFace_of_selects (args := #[]) (mvT hZ (ow hw 35 rfl))) (ru_isl0 l Z a0 hw n0 h0 hWd [] X0.old a eC ) (ow hw 32 rfl) (ow hw 33 rfl) (ow hw 35 rfl) (ow hw 34 rfl) (ow hw 4 rfl) (ow hw 36 rfl) (by decide) (lenOf pd__28_29Z rfl) rfl rfl rfl (W := 0) rfl (by decide) (by decide) (by decide) (by decide) all0 rfl ?_
    intro T1 h1 v1 X1 K1 hQ1
    obtain rfl := hQ1
    show OGo _ _ _ _ T1 (mkF m 4 #[.val (.ref a)] [(.int 1)])
    refine og_ifN X1 7 d5_4 (XT.i0_eq_f (by decide)) rfl ?_
    refine og_aloadN X1 8 d5_7 rfl rfl rfl ?_
    have f2 := eV.keep K1 nin0
    refine own_get X1 11 d5_8 (host := "") (Or.inl (ow hw 21 rfl)) Via.refl f2 rfl ?_
    intro T3 X4
    have f5 := eA2.keep K1 nin0
    refine own_stat X4 14 (argsL := [(.ref t)]) (rest := []) d5_11 (rt_ltc1 l Z a0 hw n0 h1 hWd [] X4.old t kt (.int 0) (StrChars.lo8 x0) f5 ) (ow hw 38 rfl) (ow hw 39 rfl) (ow hw 40 rfl) (ow hw 41 rfl) (by decide) (lenOf pd__28_5bB_29_5bC rfl) rfl rfl rfl (W := 0) rfl (by decide) (by decide) (by decide) (by decide) all0 rfl ?_
    intro T6 h6 v6 X6 K6 hQ6
    obtain ⟨r6, kr6, rfl, ge_r6, f7⟩ := hQ6
    show OGo _ _ _ _ T6 (mkF m 14 #[.val (.ref a)] [(.ref r6)])
    refine og_goto X6 24 d5_14 (by decide) (by decide) ?_
    refine own_retA X6 d5_24 hret rfl rfl (by decide) (by decide) ?_
    exact ⟨_, _, rfl, (Nat.le_trans K1.1 ge_r6), by have q := f7; simp only [StrChars.lo8_mask (bd _ (om 0 rfl)).1 (lat _ (om 0 rfl))] at q; exact q⟩
  · -- coder 1
    have eA2 : Arv Z h0 t kt .byte (2 : Int32) [(.int (StrChars.lo8 x0)), (.int (StrChars.hi8 x0))] (.int 0) := eA
    refine og_aloadN X0 1 d5_0 rfl rfl rfl ?_
    refine own_virt X0 4 (a := a) (argsL := []) (rest := []) d5_1 eE (fun _ hZ => notFace_of_selects (args := #[]) (mvT hZ (ow hw 35 rfl))) (ru_isl1 l Z a0 hw n0 h0 hWd [] X0.old a eC ) (ow hw 32 rfl) (ow hw 33 rfl) (ow hw 35 rfl) (ow hw 34 rfl) (ow hw 4 rfl) (ow hw 36 rfl) (by decide) (lenOf pd__28_29Z rfl) rfl rfl rfl (W := 0) rfl (by decide) (by decide) (by decide) (by decide) all0 rfl ?_
    intro T8 h8 v8 X8 K8 hQ8
    obtain rfl := hQ8
    show OGo _ _ _ _ T8 (mkF m 4 #[.val (.ref a)] [(.int 0)])
    refine og_ifY X8 17 d5_4 (XT.i0_eq_t (by decide)) (by decide) (by decide) ?_
    refine og_aloadN X8 18 d5_17 rfl rfl rfl ?_
    have f9 := eV.keep K8 nin0
    refine own_get X8 21 d5_18 (host := "") (Or.inl (ow hw 21 rfl)) Via.refl f9 rfl ?_
    intro T10 X11
    have f12 := eA2.keep K8 nin0
    refine own_stat X11 24 (argsL := [(.ref t)]) (rest := []) d5_21 (rt_utc1 l Z a0 hw n0 h8 hWd [] X11.old t kt x0 f12 ) (ow hw 109 rfl) (ow hw 110 rfl) (ow hw 59 rfl) (ow hw 111 rfl) (by decide) (lenOf pd__28_5bB_29_5bC rfl) rfl rfl rfl (W := 0) rfl (by decide) (by decide) (by decide) (by decide) all0 rfl ?_
    intro T13 h13 v13 X13 K13 hQ13
    obtain ⟨r13, kr13, rfl, ge_r13, f14⟩ := hQ13
    show OGo _ _ _ _ T13 (mkF m 24 #[.val (.ref a)] [(.ref r13)])
    refine own_retA X13 d5_24 hret rfl rfl (by decide) (by decide) ?_
    exact ⟨_, _, rfl, (Nat.le_trans K8.1 ge_r13), by have q := f14; simp only [StrChars.pair_says (bd _ (om 0 rfl)).1 (bd _ (om 0 rfl)).2] at q; exact q⟩
theorem rt_inf2 (l : Launch) (Z : State) (a0 : Array Value) (hw : ∀ d ∈ tables_1, d.before a0 Z = true) (n0 : Nat) (h0 : Heap) (hWd : OWorld Z a0) (wc : List Jvm.Cond) (O0 : Old Z n0 h0) (b : Addr) (kb : ClassId) (dv : Value) (d : Addr) (kd : ClassId) (u0 : Int32) (u1 : Int32) (q0 : Arv Z h0 b kb .byte (2 : Int32) [(.int u0), (.int u1)] dv) (q1 : Arv Z h0 d kd .char (2 : Int32) [(.int 0), (.int 0)] (.int 0)) (q2 : b ≠ d) (g0 : n0 ≤ d ∧ d < h0.size) :
    OMet l Z own_EL n0 (⟨"java/lang/StringLatin1", "inflate", "([BI[CII)V"⟩ : MethodName) (Jvm.Cond.code (⟨"java/lang/StringLatin1", "inflate", "([BI[CII)V"⟩ : MethodName) jdk_43_method_49_code 6 none :: wc) ({ frames := 0, cells := 0, slots := 0, locals := 0 } : Room) #[(.ref b), (.int 0), (.ref d), (.int 0), (.int 2)] h0 [d] (fun vq hq => vq = none ∧ Arv Z hq d kd .char (2 : Int32) [(.int (u0 &&& (255 : Int32))), (.int (u1 &&& (255 : Int32)))] (.int 0)) := by
  refine own_enter #[.val (.ref b), .val (.int 0), .val (.ref d), .val (.int 0), .val (.int 2), .unset] pn_java_lang_StringLatin1_inflate___BI_CII_V (ef_rt_inf2 b kb dv d kd u0 u1) hWd.1 O0 (allS g0 all0) ?_
  intro p e s m below meth c T0 X0 hnm hret
  refine og_iconst X0 1 (0 : Int32) d8_0 rfl rfl ?_
  refine og_istore X0 3 #[.val (.ref b), .val (.int 0), .val (.ref d), .val (.int 0), .val (.int 2), .val (.int 0)] d8_1 rfl rfl ?_
  refine og_iload X0 5 d8_3 rfl rfl ?_
  refine og_iload X0 7 d8_5 rfl rfl ?_
  refine og_icmpN X0 10 d8_7 (XT.ii_ge_f (by decide)) rfl ?_
  refine og_aloadN X0 11 d8_10 rfl rfl rfl ?_
  refine og_iloadN X0 12 d8_11 rfl rfl ?_
  refine og_iinc X0 15 #[.val (.ref b), .val (.int 0), .val (.ref d), .val (.int 1), .val (.int 2), .val (.int 0)] d8_12 rfl rfl rfl ?_
  refine og_aloadN X0 16 d8_15 rfl rfl rfl ?_
  refine og_iloadN X0 17 d8_16 rfl rfl ?_
  refine og_iinc X0 20 #[.val (.ref b), .val (.int 1), .val (.ref d), .val (.int 1), .val (.int 2), .val (.int 0)] d8_17 rfl rfl rfl ?_
  refine own_ldB X0 21 d8_20 q0 (by decide) (by decide) rfl rfl ?_
  refine og_sipush X0 24 (255 : Int32) d8_21 rfl rfl ?_
  refine og_iand X0 25 d8_24 rfl ?_
  refine og_i2c8 X0 26 d8_25 rfl ?_
  refine own_stC X0 27 d8_26 q1 (own_nc8 _) (by decide) (by decide) (i := 0) (by decide) (Nat.le_of_ble_eq_true rfl) (om 0 rfl) rfl ?_
  intro T1 h1 X1 W1 K1 A1
  have f2 : Arv Z h1 d kd .char (2 : Int32) [(.int (u0 &&& (255 : Int32))), (.int 0)] (.int 0) := A1
  refine og_iinc X1 30 #[.val (.ref b), .val (.int 1), .val (.ref d), .val (.int 1), .val (.int 2), .val (.int 1)] d8_27 rfl rfl rfl ?_
  refine og_goto X1 3 d8_30 (by decide) (by decide) ?_
  refine og_iload X1 5 d8_3 rfl rfl ?_
  refine og_iload X1 7 d8_5 rfl rfl ?_
  refine og_icmpN X1 10 d8_7 (XT.ii_ge_f (by decide)) rfl ?_
  refine og_aloadN X1 11 d8_10 rfl rfl rfl ?_
  refine og_iloadN X1 12 d8_11 rfl rfl ?_
  refine og_iinc X1 15 #[.val (.ref b), .val (.int 1), .val (.ref d), .val (.int 2), .val (.int 2), .val (.int 1)] d8_12 rfl rfl rfl ?_
  refine og_aloadN X1 16 d8_15 rfl rfl rfl ?_
  refine og_iloadN X1 17 d8_16 rfl rfl ?_
  refine og_iinc X1 20 #[.val (.ref b), .val (.int 2), .val (.ref d), .val (.int 2), .val (.int 2), .val (.int 1)] d8_17 rfl rfl rfl ?_
  have f3 := q0.keep K1 (ninS q2 nin0)
  refine own_ldB X1 21 d8_20 f3 (by decide) (by decide) rfl rfl ?_
  refine og_sipush X1 24 (255 : Int32) d8_21 rfl rfl ?_
  refine og_iand X1 25 d8_24 rfl ?_
  refine og_i2c8 X1 26 d8_25 rfl ?_
  refine own_stC X1 27 d8_26 f2 (own_nc8 _) (by decide) (by decide) (i := 1) (by decide) (Nat.le_of_ble_eq_true rfl) (om 0 rfl) rfl ?_
  intro T4 h4 X4 W4 K4 A4
  have f5 : Arv Z h4 d kd .char (2 : Int32) [(.int (u0 &&& (255 : Int32))), (.int (u1 &&& (255 : Int32)))] (.int 0) := A4
  refine og_iinc X4 30 #[.val (.ref b), .val (.int 2), .val (.ref d), .val (.int 2), .val (.int 2), .val (.int 2)] d8_27 rfl rfl rfl ?_
  refine og_goto X4 3 d8_30 (by decide) (by decide) ?_
  refine og_iload X4 5 d8_3 rfl rfl ?_
  refine og_iload X4 7 d8_5 rfl rfl ?_
  refine og_icmpY X4 33 d8_7 (XT.ii_ge_t (by decide)) (by decide) (by decide) ?_
  refine own_retV X4 d8_33 hret (by decide) (by decide) ?_
  exact ⟨rfl, f5⟩
theorem rt_ltc2 (l : Launch) (Z : State) (a0 : Array Value) (hw : ∀ d ∈ tables_1, d.before a0 Z = true) (n0 : Nat) (h0 : Heap) (hWd : OWorld Z a0) (wc : List Jvm.Cond) (O0 : Old Z n0 h0) (b : Addr) (kb : ClassId) (dv : Value) (u0 : Int32) (u1 : Int32) (q0 : Arv Z h0 b kb .byte (2 : Int32) [(.int u0), (.int u1)] dv) :
    OMet l Z own_EL n0 (⟨"java/lang/StringLatin1", "toChars", "([B)[C"⟩ : MethodName) (Jvm.Cond.code (⟨"java/lang/StringLatin1", "toChars", "([B)[C"⟩ : MethodName) jdk_43_method_9_code 2 (some (.array .char)) :: wc) ({ frames := 1, cells := 1, slots := 2, locals := 17 } : Room) #[(.ref b)] h0 [] (fun vq hq => ∃ (r : Addr) (kr : ClassId), vq = some (.ref r) ∧ h0.size ≤ r ∧ Arv Z hq r kr .char (2 : Int32) [(.int (u0 &&& (255 : Int32))), (.int (u1 &&& (255 : Int32)))] (.int 0)) := by
  refine own_enter #[.val (.ref b), .unset] pn_java_lang_StringLatin1_toChars___B__C (ef_rt_ltc2 b kb dv u0 u1) hWd.1 O0 all0 ?_
  intro p e s m below meth c T0 X0 hnm hret
  refine og_aloadN X0 1 d7_0 rfl rfl rfl ?_
  refine own_len X0 2 d7_1 q0 rfl ?_
  refine own_arr X0 4 d7_2 (ow hw 1 rfl) (by decide) (cap := 2) (by decide) (by decide) (by decide) (by decide) rfl ?_
  intro T1 h1 b1 kb1 X1 K1 G1 U1 A1
  have f2 : Arv Z h1 b1 kb1 .char (2 : Int32) [(.int 0), (.int 0)] (.int 0) := A1
  refine og_astoreN X1 5 #[.val (.ref b), .val (.ref b1)] d7_4 rfl rfl rfl ?_
  refine og_aloadN X1 6 d7_5 rfl rfl rfl ?_
  refine og_iconst X1 7 (0 : Int32) d7_6 rfl rfl ?_
  refine og_aloadN X1 8 d7_7 rfl rfl rfl ?_
  refine og_iconst X1 9 (0 : Int32) d7_8 rfl rfl ?_
  refine og_aloadN X1 10 d7_9 rfl rfl rfl ?_
  have f3 := q0.keep K1 nin0
  refine own_len X1 11 d7_10 f3 rfl ?_
  refine own_stat X1 14 (argsL := [(.ref b), (.int 0), (.ref b1), (.int 0), (.int 2)]) (rest := []) d7_11 (rt_inf2 l Z a0 hw n0 h1 hWd [] X1.old b kb dv b1 kb1 u0 u1 f3 f2 (Nat.ne_of_lt (Nat.lt_of_lt_of_le q0.lt G1)) (own_svb X1 (om 0 rfl))) (ow hw 42 rfl) (ow hw 43 rfl) (ow hw 40 rfl) (ow hw 44 rfl) (by decide) (lenOf pd__28_5bBI_5bCII_29V rfl) rfl rfl rfl (W := 0) rfl (by decide) (by decide) (by decide) (by decide) (allS (om 0 rfl) all0) rfl ?_
  intro T4 h4 v4 X4 K4 hQ4
  obtain ⟨rfl, f5⟩ := hQ4
  show OGo _ _ _ _ T4 (mkF m 14 #[.val (.ref b), .val (.ref b1)] [])
  refine og_aloadN X4 15 d7_14 rfl rfl rfl ?_
  refine own_retA X4 d7_15 hret rfl rfl (by decide) (by decide) ?_
  exact ⟨b1, kb1, rfl, G1, f5⟩
theorem rt_cfi2 (l : Launch) (Z : State) (a0 : Array Value) (hw : ∀ d ∈ tables_1, d.before a0 Z = true) (n0 : Nat) (h0 : Heap) (hWd : OWorld Z a0) (wc : List Jvm.Cond) (O0 : Old Z n0 h0) (fm : Value) (q0 : (fm).isRef = true) :
    OMet l Z own_EL n0 (⟨"jdk/internal/util/Preconditions", "checkFromIndexSize", "(IIILjava/util/function/BiFunction;)I"⟩ : MethodName) (Jvm.Cond.code (⟨"jdk/internal/util/Preconditions", "checkFromIndexSize", "(IIILjava/util/function/BiFunction;)I"⟩ : MethodName) jdk_41_method_13_code 4 (some .int) :: wc) ({ frames := 0, cells := 0, slots := 0, locals := 0 } : Room) #[(.int 0), (.int 2), (.int 2), fm] h0 [] (fun vq hq => vq = some (.int 0)) := by
  refine own_enter #[.val (.int 0), .val (.int 2), .val (.int 2), .val fm] pn_jdk_internal_util_Preconditions_checkFromIndexSize__IIILjava_util_function_BiFunction__I (ef_rt_cfi2 fm q0) hWd.1 O0 all0 ?_
  intro p e s m below meth c T0 X0 hnm hret
  refine og_iloadN X0 1 d30_0 rfl rfl ?_
  refine og_iloadN X0 2 d30_1 rfl rfl ?_
  refine og_ior X0 3 d30_2 rfl ?_
  show OGo _ _ _ _ T0 (mkF m 3 #[.val (.int 0), .val (.int 2), .val (.int 2), .val fm] [(.int 2)])
  refine og_iloadN X0 4 d30_3 rfl rfl ?_
  refine og_ior X0 5 d30_4 rfl ?_
  show OGo _ _ _ _ T0 (mkF m 5 #[.val (.int 0), .val (.int 2), .val (.int 2), .val fm] [(.int 2)])
  refine og_ifN X0 8 d30_5 (XT.i0_lt_f (by decide)) rfl ?_
  refine og_iloadN X0 9 d30_8 rfl rfl ?_
  refine og_iloadN X0 10 d30_9 rfl rfl ?_
  refine og_iloadN X0 11 d30_10 rfl rfl ?_
  refine og_isub X0 12 d30_11 rfl ?_
  show OGo _ _ _ _ T0 (mkF m 12 #[.val (.int 0), .val (.int 2), .val (.int 2), .val fm] [(.int 2), (.int 2)])
  refine og_icmpY X0 23 d30_12 (XT.ii_le_t (by decide)) (by decide) (by decide) ?_
  refine og_iloadN X0 24 d30_23 rfl rfl ?_
  refine own_retI X0 d30_24 hret (by decide) (by decide) ?_
  exact rfl
theorem rt_cbo2 (l : Launch) (Z : State) (a0 : Array Value) (hw : ∀ d ∈ tables_1, d.before a0 Z = true) (n0 : Nat) (h0 : Heap) (hWd : OWorld Z a0) (wc : List Jvm.Cond) (O0 : Old Z n0 h0)   :
    OMet l Z own_EL n0 (⟨"java/lang/String", "checkBoundsOffCount", "(III)I"⟩ : MethodName) (Jvm.Cond.code (⟨"java/lang/String", "checkBoundsOffCount", "(III)I"⟩ : MethodName) jdk_42_method_157_code 3 (some .int) :: wc) ({ frames := 1, cells := 0, slots := 0, locals := 15 } : Room) #[(.int 0), (.int 2), (.int 2)] h0 [] (fun vq hq => vq = some (.int 0)) := by
  refine own_enter #[.val (.int 0), .val (.int 2), .val (.int 2)] pn_java_lang_String_checkBoundsOffCount__III_I (ef_rt_cbo2) hWd.1 O0 all0 ?_
  intro p e s m below meth c T0 X0 hnm hret
  refine og_iloadN X0 1 d29_0 rfl rfl ?_
  refine og_iloadN X0 2 d29_1 rfl rfl ?_
  refine og_iloadN X0 3 d29_2 rfl rfl ?_
  refine own_getS X0 6 d29_3 (host := "") (Or.inl (ow hw 81 rfl)) Via.refl hWd.2.2.1.1 rfl ?_
  intro T1 X2
  refine own_stat X2 9 (argsL := [(.int 0), (.int 2), (.int 2), (own_stv Z "jdk/internal/util/Preconditions" "SIOOBE_FORMATTER" "Ljava/util/function/BiFunction;")]) (rest := []) d29_6 (rt_cfi2 l Z a0 hw n0 h0 hWd [] X2.old (own_stv Z "jdk/internal/util/Preconditions" "SIOOBE_FORMATTER" "Ljava/util/function/BiFunction;") hWd.2.2.1.2 ) (ow hw 124 rfl) (ow hw 125 rfl) (ow hw 82 rfl) (ow hw 126 rfl) (by decide) (lenOf pd__28IIILjava_2futil_2ffunction_2fBiFunction_3b_29I rfl) rfl rfl rfl (W := 0) rfl (by decide) (by decide) (by decide) (by decide) all0 rfl ?_
  intro T3 h3 v3 X3 K3 hQ3
  obtain rfl := hQ3
  show OGo _ _ _ _ T3 (mkF m 9 #[.val (.int 0), .val (.int 2), .val (.int 2)] [(.int 0)])
  refine own_retI X3 d29_9 hret (by decide) (by decide) ?_
  exact rfl
theorem rt_ucb2 (l : Launch) (Z : State) (a0 : Array Value) (hw : ∀ d ∈ tables_1, d.before a0 Z = true) (n0 : Nat) (h0 : Heap) (hWd : OWorld Z a0) (wc : List Jvm.Cond) (O0 : Old Z n0 h0) (b : Addr) (kb : ClassId) (x0 : Int32) (x1 : Int32) (q0 : Arv Z h0 b kb .byte (4 : Int32) [(.int (StrChars.lo8 x0)), (.int (StrChars.hi8 x0)), (.int (StrChars.lo8 x1)), (.int (StrChars.hi8 x1))] (.int 0)) :
    OMet l Z own_EL n0 (⟨"java/lang/StringUTF16", "checkBoundsOffCount", "(II[B)V"⟩ : MethodName) (Jvm.Cond.code (⟨"java/lang/StringUTF16", "checkBoundsOffCount", "(II[B)V"⟩ : MethodName) jdk_52_method_94_code 3 none :: wc) ({ frames := 2, cells := 0, slots := 0, locals := 29 } : Room) #[(.int 0), (.int 2), (.ref b)] h0 [] (fun vq hq => vq = none) := by
  refine own_enter #[.val (.int 0), .val (.int 2), .val (.ref b)] pn_java_lang_StringUTF16_checkBoundsOffCount__II_B_V (ef_rt_ucb2 b kb x0 x1) hWd.1 O0 all0 ?_
  intro p e s m below meth c T0 X0 hnm hret
  refine og_iloadN X0 1 d27_0 rfl rfl ?_
  refine og_iloadN X0 2 d27_1 rfl rfl ?_
  refine og_aloadN X0 3 d27_2 rfl rfl rfl ?_
  refine own_stat X0 6 (argsL := [(.ref b)]) (rest := [(.int 2), (.int 0)]) d27_3 (rg_len l Z a0 hw n0 h0 hWd [] X0.old b kb [x0, x1] q0 (Nat.le_of_ble_eq_true rfl) ) (ow hw 118 rfl) (ow hw 119 rfl) (ow hw 59 rfl) (ow hw 120 rfl) (by decide) (lenOf pd__28_5bB_29I rfl) rfl rfl rfl (W := 2) rfl (by decide) (by decide) (by decide) (by decide) all0 rfl ?_
  intro T1 h1 v1 X1 K1 hQ1
  obtain rfl := hQ1
  show OGo _ _ _ _ T1 (mkF m 6 #[.val (.int 0), .val (.int 2), .val (.ref b)] [(.int (Int32.ofNat ([x0, x1]).length)), (.int 2), (.int 0)])
  show OGo _ _ _ _ T1 (mkF m 6 #[.val (.int 0), .val (.int 2), .val (.ref b)] [(.int 2), (.int 2), (.int 0)])
  refine own_stat X1 9 (argsL := [(.int 0), (.int 2), (.int 2)]) (rest := []) d27_6 (rt_cbo2 l Z a0 hw n0 h1 hWd [] X1.old   ) (ow hw 121 rfl) (ow hw 122 rfl) (ow hw 4 rfl) (ow hw 123 rfl) (by decide) (lenOf pd__28III_29I rfl) rfl rfl rfl (W := 0) rfl (by decide) (by decide) (by decide) (by decide) all0 rfl ?_
  intro T2 h2 v2 X2 K2 hQ2
  obtain rfl := hQ2
  show OGo _ _ _ _ T2 (mkF m 9 #[.val (.int 0), .val (.int 2), .val (.ref b)] [(.int 0)])
  refine og_pop X2 10 d27_9 rfl rfl ?_
  refine own_retV X2 d27_10 hret (by decide) (by decide) ?_
  exact rfl
theorem rt_gcs2 (l : Launch) (Z : State) (a0 : Array Value) (hw : ∀ d ∈ tables_1, d.before a0 Z = true) (n0 : Nat) (h0 : Heap) (hWd : OWorld Z a0) (wc : List Jvm.Cond) (O0 : Old Z n0 h0) (b : Addr) (kb : ClassId) (d : Addr) (kd : ClassId) (x0 : Int32) (x1 : Int32) (q0 : Arv Z h0 b kb .byte (4 : Int32) [(.int (StrChars.lo8 x0)), (.int (StrChars.hi8 x0)), (.int (StrChars.lo8 x1)), (.int (StrChars.hi8 x1))] (.int 0)) (q1 : Arv Z h0 d kd .char (2 : Int32) [(.int 0), (.int 0)] (.int 0)) (q2 : b ≠ d) (g0 : n0 ≤ d ∧ d < h0.size) :
    OMet l Z own_EL n0 (⟨"java/lang/StringUTF16", "getChars", "([BII[CI)V"⟩ : MethodName) (Jvm.Cond.code (⟨"java/lang/StringUTF16", "getChars", "([BII[CI)V"⟩ : MethodName) jdk_52_method_26_code 6 none :: wc) ({ frames := 3, cells := 0, slots := 0, locals := 43 } : Room) #[(.ref b), (.int 0), (.int 2), (.ref d), (.int 0)] h0 [d] (fun vq hq => vq = none ∧ Arv Z hq d kd .char (2 : Int32) [(.int (StrChars.pairCh (StrChars.lo8 x0) (StrChars.hi8 x0))), (.int (StrChars.pairCh (StrChars.lo8 x1) (StrChars.hi8 x1)))] (.int 0)) := by
  refine own_enter #[.val (.ref b), .val (.int 0), .val (.int 2), .val (.ref d), .val (.int 0), .unset] pn_java_lang_StringUTF16_getChars___BII_CI_V (ef_rt_gcs2 b kb d kd x0 x1) hWd.1 O0 (allS g0 all0) ?_
  intro p e s m below meth c T0 X0 hnm hret
  refine og_iloadN X0 1 d26_0 rfl rfl ?_
  refine og_iloadN X0 2 d26_1 rfl rfl ?_
  refine og_icmpN X0 5 d26_2 (XT.ii_ge_f (by decide)) rfl ?_
  refine og_iloadN X0 6 d26_5 rfl rfl ?_
  refine og_iloadN X0 7 d26_6 rfl rfl ?_
  refine og_iloadN X0 8 d26_7 rfl rfl ?_
  refine og_isub X0 9 d26_8 rfl ?_
  show OGo _ _ _ _ T0 (mkF m 9 #[.val (.ref b), .val (.int 0), .val (.int 2), .val (.ref d), .val (.int 0), .unset] [(.int 2), (.int 0)])
  refine og_aloadN X0 10 d26_9 rfl rfl rfl ?_
  refine own_stat X0 13 (argsL := [(.int 0), (.int 2), (.ref b)]) (rest := []) d26_10 (rt_ucb2 l Z a0 hw n0 h0 hWd [] X0.old b kb x0 x1 q0 ) (ow hw 115 rfl) (ow hw 116 rfl) (ow hw 59 rfl) (ow hw 117 rfl) (by decide) (lenOf pd__28II_5bB_29V rfl) rfl rfl rfl (W := 0) rfl (by decide) (by decide) (by decide) (by decide) all0 rfl ?_
  intro T1 h1 v1 X1 K1 hQ1
  obtain rfl := hQ1
  show OGo _ _ _ _ T1 (mkF m 13 #[.val (.ref b), .val (.int 0), .val (.int 2), .val (.ref d), .val (.int 0), .unset] [])
  refine og_iloadN X1 14 d26_13 rfl rfl ?_
  refine og_istore X1 16 #[.val (.ref b), .val (.int 0), .val (.int 2), .val (.ref d), .val (.int 0), .val (.int 0)] d26_14 rfl rfl ?_
  refine og_iload X1 18 d26_16 rfl rfl ?_
  refine og_iloadN X1 19 d26_18 rfl rfl ?_
  refine og_icmpN X1 22 d26_19 (XT.ii_ge_f (by decide)) rfl ?_
  refine og_aloadN X1 23 d26_22 rfl rfl rfl ?_
  refine og_iload X1 25 d26_23 rfl rfl ?_
  refine og_iinc X1 28 #[.val (.ref b), .val (.int 0), .val (.int 2), .val (.ref d), .val (.int 1), .val (.int 0)] d26_25 rfl rfl rfl ?_
  refine og_aloadN X1 29 d26_28 rfl rfl rfl ?_
  refine og_iload X1 31 d26_29 rfl rfl ?_
  have f2 := q0.keep K1 nin0
  refine own_stat X1 34 (argsL := [(.ref b), (.int 0)]) (rest := [(.int 0), (.ref d)]) d26_31 (rg_get l Z a0 hw n0 h1 hWd [] X1.old b kb [x0, x1] 0 f2 (Nat.le_of_ble_eq_true rfl) (Nat.le_of_ble_eq_true rfl) ) (ow hw 106 rfl) (ow hw 107 rfl) (ow hw 59 rfl) (ow hw 108 rfl) (by decide) (lenOf pd__28_5bBI_29C rfl) rfl rfl rfl (W := 2) rfl (by decide) (by decide) (by decide) (by decide) all0 rfl ?_
  intro T3 h3 v3 X3 K3 hQ3
  obtain rfl := hQ3
  show OGo _ _ _ _ T3 (mkF m 34 #[.val (.ref b), .val (.int 0), .val (.int 2), .val (.ref d), .val (.int 1), .val (.int 0)] [(.int (StrChars.pairCh (StrChars.lo8 x0) (StrChars.hi8 x0))), (.int 0), (.ref d)])
  have f4 := q1.keep K1 nin0
  have f5 := f4.keep K3 nin0
  refine own_stC X3 35 d26_34 f5 (own_ncc _) (by decide) (by decide) (i := 0) (by decide) (Nat.le_of_ble_eq_true rfl) (om 0 rfl) rfl ?_
  intro T6 h6 X6 W6 K6 A6
  have f7 : Arv Z h6 d kd .char (2 : Int32) [(.int (StrChars.pairCh (StrChars.lo8 x0) (StrChars.hi8 x0))), (.int 0)] (.int 0) := A6
  refine og_iinc X6 38 #[.val (.ref b), .val (.int 0), .val (.int 2), .val (.ref d), .val (.int 1), .val (.int 1)] d26_35 rfl rfl rfl ?_
  refine og_goto X6 16 d26_38 (by decide) (by decide) ?_
  refine og_iload X6 18 d26_16 rfl rfl ?_
  refine og_iloadN X6 19 d26_18 rfl rfl ?_
  refine og_icmpN X6 22 d26_19 (XT.ii_ge_f (by decide)) rfl ?_
  refine og_aloadN X6 23 d26_22 rfl rfl rfl ?_
  refine og_iload X6 25 d26_23 rfl rfl ?_
  refine og_iinc X6 28 #[.val (.ref b), .val (.int 0), .val (.int 2), .val (.ref d), .val (.int 2), .val (.int 1)] d26_25 rfl rfl rfl ?_
  refine og_aloadN X6 29 d26_28 rfl rfl rfl ?_
  refine og_iload X6 31 d26_29 rfl rfl ?_
  have f8 := f2.keep K3 nin0
  have f9 := f8.keep K6 (ninS q2 nin0)
  refine own_stat X6 34 (argsL := [(.ref b), (.int 1)]) (rest := [(.int 1), (.ref d)]) d26_31 (rg_get l Z a0 hw n0 h6 hWd [] X6.old b kb [x0, x1] 1 f9 (Nat.le_of_ble_eq_true rfl) (Nat.le_of_ble_eq_true rfl) ) (ow hw 106 rfl) (ow hw 107 rfl) (ow hw 59 rfl) (ow hw 108 rfl) (by decide) (lenOf pd__28_5bBI_29C rfl) rfl rfl rfl (W := 2) rfl (by decide) (by decide) (by decide) (by decide) all0 rfl ?_
  intro T10 h10 v10 X10 K10 hQ10
  obtain rfl := hQ10
  show OGo _ _ _ _ T10 (mkF m 34 #[.val (.ref b), .val (.int 0), .val (.int 2), .val (.ref d), .val (.int 2), .val (.int 1)] [(.int (StrChars.pairCh (StrChars.lo8 x1) (StrChars.hi8 x1))), (.int 1), (.ref d)])
  have f11 := f7.keep K10 nin0
  refine own_stC X10 35 d26_34 f11 (own_ncc _) (by decide) (by decide) (i := 1) (by decide) (Nat.le_of_ble_eq_true rfl) (om 0 rfl) rfl ?_
  intro T12 h12 X12 W12 K12 A12
  have f13 : Arv Z h12 d kd .char (2 : Int32) [(.int (StrChars.pairCh (StrChars.lo8 x0) (StrChars.hi8 x0))), (.int (StrChars.pairCh (StrChars.lo8 x1) (StrChars.hi8 x1)))] (.int 0) := A12
  refine og_iinc X12 38 #[.val (.ref b), .val (.int 0), .val (.int 2), .val (.ref d), .val (.int 2), .val (.int 2)] d26_35 rfl rfl rfl ?_
  refine og_goto X12 16 d26_38 (by decide) (by decide) ?_
  refine og_iload X12 18 d26_16 rfl rfl ?_
  refine og_iloadN X12 19 d26_18 rfl rfl ?_
  refine og_icmpY X12 41 d26_19 (XT.ii_ge_t (by decide)) (by decide) (by decide) ?_
  refine own_retV X12 d26_41 hret (by decide) (by decide) ?_
  exact ⟨rfl, f13⟩
theorem rt_utc2 (l : Launch) (Z : State) (a0 : Array Value) (hw : ∀ d ∈ tables_1, d.before a0 Z = true) (n0 : Nat) (h0 : Heap) (hWd : OWorld Z a0) (wc : List Jvm.Cond) (O0 : Old Z n0 h0) (b : Addr) (kb : ClassId) (x0 : Int32) (x1 : Int32) (q0 : Arv Z h0 b kb .byte (4 : Int32) [(.int (StrChars.lo8 x0)), (.int (StrChars.hi8 x0)), (.int (StrChars.lo8 x1)), (.int (StrChars.hi8 x1))] (.int 0)) :
    OMet l Z own_EL n0 (⟨"java/lang/StringUTF16", "toChars", "([B)[C"⟩ : MethodName) (Jvm.Cond.code (⟨"java/lang/StringUTF16", "toChars", "([B)[C"⟩ : MethodName) jdk_52_method_13_code 2 (some (.array .char)) :: wc) ({ frames := 4, cells := 1, slots := 2, locals := 60 } : Room) #[(.ref b)] h0 [] (fun vq hq => ∃ (r : Addr) (kr : ClassId), vq = some (.ref r) ∧ h0.size ≤ r ∧ Arv Z hq r kr .char (2 : Int32) [(.int (StrChars.pairCh (StrChars.lo8 x0) (StrChars.hi8 x0))), (.int (StrChars.pairCh (StrChars.lo8 x1) (StrChars.hi8 x1)))] (.int 0)) := by
  refine own_enter #[.val (.ref b), .unset] pn_java_lang_StringUTF16_toChars___B__C (ef_rt_utc2 b kb x0 x1) hWd.1 O0 all0 ?_
  intro p e s m below meth c T0 X0 hnm hret
  refine og_aloadN X0 1 d25_0 rfl rfl rfl ?_
  refine own_len X0 2 d25_1 q0 rfl ?_
  refine og_iconst X0 3 (1 : Int32) d25_2 rfl rfl ?_
  refine og_ishr X0 4 d25_3 rfl ?_
  show OGo _ _ _ _ T0 (mkF m 4 #[.val (.ref b), .unset] [(.int 2)])
  refine own_arr X0 6 d25_4 (ow hw 1 rfl) (by decide) (cap := 2) (by decide) (by decide) (by decide) (by decide) rfl ?_
  intro T1 h1 b1 kb1 X1 K1 G1 U1 A1
  have f2 : Arv Z h1 b1 kb1 .char (2 : Int32) [(.int 0), (.int 0)] (.int 0) := A1
  refine og_astoreN X1 7 #[.val (.ref b), .val (.ref b1)] d25_6 rfl rfl rfl ?_
  refine og_aloadN X1 8 d25_7 rfl rfl rfl ?_
  refine og_iconst X1 9 (0 : Int32) d25_8 rfl rfl ?_
  refine og_aloadN X1 10 d25_9 rfl rfl rfl ?_
  refine own_len X1 11 d25_10 f2 rfl ?_
  refine og_aloadN X1 12 d25_11 rfl rfl rfl ?_
  refine og_iconst X1 13 (0 : Int32) d25_12 rfl rfl ?_
  have f3 := q0.keep K1 nin0
  refine own_stat X1 16 (argsL := [(.ref b), (.int 0), (.int 2), (.ref b1), (.int 0)]) (rest := []) d25_13 (rt_gcs2 l Z a0 hw n0 h1 hWd [] X1.old b kb b1 kb1 x0 x1 f3 f2 (Nat.ne_of_lt (Nat.lt_of_lt_of_le q0.lt G1)) (own_svb X1 (om 0 rfl))) (ow hw 112 rfl) (ow hw 113 rfl) (ow hw 59 rfl) (ow hw 114 rfl) (by decide) (lenOf pd__28_5bBII_5bCI_29V rfl) rfl rfl rfl (W := 0) rfl (by decide) (by decide) (by decide) (by decide) (allS (om 0 rfl) all0) rfl ?_
  intro T4 h4 v4 X4 K4 hQ4
  obtain ⟨rfl, f5⟩ := hQ4
  show OGo _ _ _ _ T4 (mkF m 16 #[.val (.ref b), .val (.ref b1)] [])
  refine og_aloadN X4 17 d25_16 rfl rfl rfl ?_
  refine own_retA X4 d25_17 hret rfl rfl (by decide) (by decide) ?_
  exact ⟨b1, kb1, rfl, G1, f5⟩
theorem rt_tca2 (l : Launch) (Z : State) (a0 : Array Value) (hw : ∀ d ∈ tables_1, d.before a0 Z = true) (n0 : Nat) (h0 : Heap) (hWd : OWorld Z a0) (wc : List Jvm.Cond) (O0 : Old Z n0 h0) (a : Addr) (x0 : Int32) (x1 : Int32) (q0 : OStr Z h0 a [x0, x1] h0.size) :
    OMet l Z own_EL n0 (⟨"java/lang/String", "toCharArray", "()[C"⟩ : MethodName) (Jvm.Cond.code (⟨"java/lang/String", "toCharArray", "()[C"⟩ : MethodName) jdk_42_method_129_code 1 (some (.array .char)) :: wc) ({ frames := 5, cells := 1, slots := 2, locals := 73 } : Room) #[(.ref a)] h0 [] (fun vq hq => ∃ (r : Addr) (kr : ClassId), vq = some (.ref r) ∧ h0.size ≤ r ∧ Arv Z hq r kr .char (2 : Int32) [(.int x0), (.int x1)] (.int 0)) := by
  refine own_enter #[.val (.ref a)] pn_java_lang_String_toCharArray____C (ef_rt_tca2 a x0 x1) hWd.1 O0 all0 ?_
  intro p e s m below meth c T0 X0 hnm hret
  obtain ⟨t, kt, cd, NN, vv, eE, eC, eV, eA, cod, bd, -⟩ := q0
  rcases cod with ⟨rfl, rfl, rfl, lat⟩ | ⟨rfl, rfl, rfl, wid⟩
  · -- coder 0
    have eA2 : Arv Z h0 t kt .byte (2 : Int32) [(.int (StrChars.lo8 x0)), (.int (StrChars.lo8 x1))] (.int 0) := eA
    refine og_aloadN X0 1 d5_0 rfl rfl rfl ?_
    refine own_virt X0 4 (a := a) (argsL := []) (rest := []) d5_1 eE (fun _ hZ => notFace_of_selects (args := #[]) (mvT hZ (ow hw 35 rfl))) (ru_isl0 l Z a0 hw n0 h0 hWd [] X0.old a eC ) (ow hw 32 rfl) (ow hw 33 rfl) (ow hw 35 rfl) (ow hw 34 rfl) (ow hw 4 rfl) (ow hw 36 rfl) (by decide) (lenOf pd__28_29Z rfl) rfl rfl rfl (W := 0) rfl (by decide) (by decide) (by decide) (by decide) all0 rfl ?_
    intro T1 h1 v1 X1 K1 hQ1
    obtain rfl := hQ1
    show OGo _ _ _ _ T1 (mkF m 4 #[.val (.ref a)] [(.int 1)])
    refine og_ifN X1 7 d5_4 (XT.i0_eq_f (by decide)) rfl ?_
    refine og_aloadN X1 8 d5_7 rfl rfl rfl ?_
    have f2 := eV.keep K1 nin0
    refine own_get X1 11 d5_8 (host := "") (Or.inl (ow hw 21 rfl)) Via.refl f2 rfl ?_
    intro T3 X4
    have f5 := eA2.keep K1 nin0
    refine own_stat X4 14 (argsL := [(.ref t)]) (rest := []) d5_11 (rt_ltc2 l Z a0 hw n0 h1 hWd [] X4.old t kt (.int 0) (StrChars.lo8 x0) (StrChars.lo8 x1) f5 ) (ow hw 38 rfl) (ow hw 39 rfl) (ow hw 40 rfl) (ow hw 41 rfl) (by decide) (lenOf pd__28_5bB_29_5bC rfl) rfl rfl rfl (W := 0) rfl (by decide) (by decide) (by decide) (by decide) all0 rfl ?_
    intro T6 h6 v6 X6 K6 hQ6
    obtain ⟨r6, kr6, rfl, ge_r6, f7⟩ := hQ6
    show OGo _ _ _ _ T6 (mkF m 14 #[.val (.ref a)] [(.ref r6)])
    refine og_goto X6 24 d5_14 (by decide) (by decide) ?_
    refine own_retA X6 d5_24 hret rfl rfl (by decide) (by decide) ?_
    exact ⟨_, _, rfl, (Nat.le_trans K1.1 ge_r6), by have q := f7; simp only [StrChars.lo8_mask (bd _ (om 0 rfl)).1 (lat _ (om 0 rfl)), StrChars.lo8_mask (bd _ (om 1 rfl)).1 (lat _ (om 1 rfl))] at q; exact q⟩
  · -- coder 1
    have eA2 : Arv Z h0 t kt .byte (4 : Int32) [(.int (StrChars.lo8 x0)), (.int (StrChars.hi8 x0)), (.int (StrChars.lo8 x1)), (.int (StrChars.hi8 x1))] (.int 0) := eA
    refine og_aloadN X0 1 d5_0 rfl rfl rfl ?_
    refine own_virt X0 4 (a := a) (argsL := []) (rest := []) d5_1 eE (fun _ hZ => notFace_of_selects (args := #[]) (mvT hZ (ow hw 35 rfl))) (ru_isl1 l Z a0 hw n0 h0 hWd [] X0.old a eC ) (ow hw 32 rfl) (ow hw 33 rfl) (ow hw 35 rfl) (ow hw 34 rfl) (ow hw 4 rfl) (ow hw 36 rfl) (by decide) (lenOf pd__28_29Z rfl) rfl rfl rfl (W := 0) rfl (by decide) (by decide) (by decide) (by decide) all0 rfl ?_
    intro T8 h8 v8 X8 K8 hQ8
    obtain rfl := hQ8
    show OGo _ _ _ _ T8 (mkF m 4 #[.val (.ref a)] [(.int 0)])
    refine og_ifY X8 17 d5_4 (XT.i0_eq_t (by decide)) (by decide) (by decide) ?_
    refine og_aloadN X8 18 d5_17 rfl rfl rfl ?_
    have f9 := eV.keep K8 nin0
    refine own_get X8 21 d5_18 (host := "") (Or.inl (ow hw 21 rfl)) Via.refl f9 rfl ?_
    intro T10 X11
    have f12 := eA2.keep K8 nin0
    refine own_stat X11 24 (argsL := [(.ref t)]) (rest := []) d5_21 (rt_utc2 l Z a0 hw n0 h8 hWd [] X11.old t kt x0 x1 f12 ) (ow hw 109 rfl) (ow hw 110 rfl) (ow hw 59 rfl) (ow hw 111 rfl) (by decide) (lenOf pd__28_5bB_29_5bC rfl) rfl rfl rfl (W := 0) rfl (by decide) (by decide) (by decide) (by decide) all0 rfl ?_
    intro T13 h13 v13 X13 K13 hQ13
    obtain ⟨r13, kr13, rfl, ge_r13, f14⟩ := hQ13
    show OGo _ _ _ _ T13 (mkF m 24 #[.val (.ref a)] [(.ref r13)])
    refine own_retA X13 d5_24 hret rfl rfl (by decide) (by decide) ?_
    exact ⟨_, _, rfl, (Nat.le_trans K8.1 ge_r13), by have q := f14; simp only [StrChars.pair_says (bd _ (om 0 rfl)).1 (bd _ (om 0 rfl)).2, StrChars.pair_says (bd _ (om 1 rfl)).1 (bd _ (om 1 rfl)).2] at q; exact q⟩
theorem rt_inf3 (l : Launch) (Z : State) (a0 : Array Value) (hw : ∀ d ∈ tables_1, d.before a0 Z = true) (n0 : Nat) (h0 : Heap) (hWd : OWorld Z a0) (wc : List Jvm.Cond) (O0 : Old Z n0 h0) (b : Addr) (kb : ClassId) (dv : Value) (d : Addr) (kd : ClassId) (u0 : Int32) (u1 : Int32) (u2 : Int32) (q0 : Arv Z h0 b kb .byte (3 : Int32) [(.int u0), (.int u1), (.int u2)] dv) (q1 : Arv Z h0 d kd .char (3 : Int32) [(.int 0), (.int 0), (.int 0)] (.int 0)) (q2 : b ≠ d) (g0 : n0 ≤ d ∧ d < h0.size) :
    OMet l Z own_EL n0 (⟨"java/lang/StringLatin1", "inflate", "([BI[CII)V"⟩ : MethodName) (Jvm.Cond.code (⟨"java/lang/StringLatin1", "inflate", "([BI[CII)V"⟩ : MethodName) jdk_43_method_49_code 6 none :: wc) ({ frames := 0, cells := 0, slots := 0, locals := 0 } : Room) #[(.ref b), (.int 0), (.ref d), (.int 0), (.int 3)] h0 [d] (fun vq hq => vq = none ∧ Arv Z hq d kd .char (3 : Int32) [(.int (u0 &&& (255 : Int32))), (.int (u1 &&& (255 : Int32))), (.int (u2 &&& (255 : Int32)))] (.int 0)) := by
  refine own_enter #[.val (.ref b), .val (.int 0), .val (.ref d), .val (.int 0), .val (.int 3), .unset] pn_java_lang_StringLatin1_inflate___BI_CII_V (ef_rt_inf3 b kb dv d kd u0 u1 u2) hWd.1 O0 (allS g0 all0) ?_
  intro p e s m below meth c T0 X0 hnm hret
  refine og_iconst X0 1 (0 : Int32) d8_0 rfl rfl ?_
  refine og_istore X0 3 #[.val (.ref b), .val (.int 0), .val (.ref d), .val (.int 0), .val (.int 3), .val (.int 0)] d8_1 rfl rfl ?_
  refine og_iload X0 5 d8_3 rfl rfl ?_
  refine og_iload X0 7 d8_5 rfl rfl ?_
  refine og_icmpN X0 10 d8_7 (XT.ii_ge_f (by decide)) rfl ?_
  refine og_aloadN X0 11 d8_10 rfl rfl rfl ?_
  refine og_iloadN X0 12 d8_11 rfl rfl ?_
  refine og_iinc X0 15 #[.val (.ref b), .val (.int 0), .val (.ref d), .val (.int 1), .val (.int 3), .val (.int 0)] d8_12 rfl rfl rfl ?_
  refine og_aloadN X0 16 d8_15 rfl rfl rfl ?_
  refine og_iloadN X0 17 d8_16 rfl rfl ?_
  refine og_iinc X0 20 #[.val (.ref b), .val (.int 1), .val (.ref d), .val (.int 1), .val (.int 3), .val (.int 0)] d8_17 rfl rfl rfl ?_
  refine own_ldB X0 21 d8_20 q0 (by decide) (by decide) rfl rfl ?_
  refine og_sipush X0 24 (255 : Int32) d8_21 rfl rfl ?_
  refine og_iand X0 25 d8_24 rfl ?_
  refine og_i2c8 X0 26 d8_25 rfl ?_
  refine own_stC X0 27 d8_26 q1 (own_nc8 _) (by decide) (by decide) (i := 0) (by decide) (Nat.le_of_ble_eq_true rfl) (om 0 rfl) rfl ?_
  intro T1 h1 X1 W1 K1 A1
  have f2 : Arv Z h1 d kd .char (3 : Int32) [(.int (u0 &&& (255 : Int32))), (.int 0), (.int 0)] (.int 0) := A1
  refine og_iinc X1 30 #[.val (.ref b), .val (.int 1), .val (.ref d), .val (.int 1), .val (.int 3), .val (.int 1)] d8_27 rfl rfl rfl ?_
  refine og_goto X1 3 d8_30 (by decide) (by decide) ?_
  refine og_iload X1 5 d8_3 rfl rfl ?_
  refine og_iload X1 7 d8_5 rfl rfl ?_
  refine og_icmpN X1 10 d8_7 (XT.ii_ge_f (by decide)) rfl ?_
  refine og_aloadN X1 11 d8_10 rfl rfl rfl ?_
  refine og_iloadN X1 12 d8_11 rfl rfl ?_
  refine og_iinc X1 15 #[.val (.ref b), .val (.int 1), .val (.ref d), .val (.int 2), .val (.int 3), .val (.int 1)] d8_12 rfl rfl rfl ?_
  refine og_aloadN X1 16 d8_15 rfl rfl rfl ?_
  refine og_iloadN X1 17 d8_16 rfl rfl ?_
  refine og_iinc X1 20 #[.val (.ref b), .val (.int 2), .val (.ref d), .val (.int 2), .val (.int 3), .val (.int 1)] d8_17 rfl rfl rfl ?_
  have f3 := q0.keep K1 (ninS q2 nin0)
  refine own_ldB X1 21 d8_20 f3 (by decide) (by decide) rfl rfl ?_
  refine og_sipush X1 24 (255 : Int32) d8_21 rfl rfl ?_
  refine og_iand X1 25 d8_24 rfl ?_
  refine og_i2c8 X1 26 d8_25 rfl ?_
  refine own_stC X1 27 d8_26 f2 (own_nc8 _) (by decide) (by decide) (i := 1) (by decide) (Nat.le_of_ble_eq_true rfl) (om 0 rfl) rfl ?_
  intro T4 h4 X4 W4 K4 A4
  have f5 : Arv Z h4 d kd .char (3 : Int32) [(.int (u0 &&& (255 : Int32))), (.int (u1 &&& (255 : Int32))), (.int 0)] (.int 0) := A4
  refine og_iinc X4 30 #[.val (.ref b), .val (.int 2), .val (.ref d), .val (.int 2), .val (.int 3), .val (.int 2)] d8_27 rfl rfl rfl ?_
  refine og_goto X4 3 d8_30 (by decide) (by decide) ?_
  refine og_iload X4 5 d8_3 rfl rfl ?_
  refine og_iload X4 7 d8_5 rfl rfl ?_
  refine og_icmpN X4 10 d8_7 (XT.ii_ge_f (by decide)) rfl ?_
  refine og_aloadN X4 11 d8_10 rfl rfl rfl ?_
  refine og_iloadN X4 12 d8_11 rfl rfl ?_
  refine og_iinc X4 15 #[.val (.ref b), .val (.int 2), .val (.ref d), .val (.int 3), .val (.int 3), .val (.int 2)] d8_12 rfl rfl rfl ?_
  refine og_aloadN X4 16 d8_15 rfl rfl rfl ?_
  refine og_iloadN X4 17 d8_16 rfl rfl ?_
  refine og_iinc X4 20 #[.val (.ref b), .val (.int 3), .val (.ref d), .val (.int 3), .val (.int 3), .val (.int 2)] d8_17 rfl rfl rfl ?_
  have f6 := f3.keep K4 (ninS q2 nin0)
  refine own_ldB X4 21 d8_20 f6 (by decide) (by decide) rfl rfl ?_
  refine og_sipush X4 24 (255 : Int32) d8_21 rfl rfl ?_
  refine og_iand X4 25 d8_24 rfl ?_
  refine og_i2c8 X4 26 d8_25 rfl ?_
  refine own_stC X4 27 d8_26 f5 (own_nc8 _) (by decide) (by decide) (i := 2) (by decide) (Nat.le_of_ble_eq_true rfl) (om 0 rfl) rfl ?_
  intro T7 h7 X7 W7 K7 A7
  have f8 : Arv Z h7 d kd .char (3 : Int32) [(.int (u0 &&& (255 : Int32))), (.int (u1 &&& (255 : Int32))), (.int (u2 &&& (255 : Int32)))] (.int 0) := A7
  refine og_iinc X7 30 #[.val (.ref b), .val (.int 3), .val (.ref d), .val (.int 3), .val (.int 3), .val (.int 3)] d8_27 rfl rfl rfl ?_
  refine og_goto X7 3 d8_30 (by decide) (by decide) ?_
  refine og_iload X7 5 d8_3 rfl rfl ?_
  refine og_iload X7 7 d8_5 rfl rfl ?_
  refine og_icmpY X7 33 d8_7 (XT.ii_ge_t (by decide)) (by decide) (by decide) ?_
  refine own_retV X7 d8_33 hret (by decide) (by decide) ?_
  exact ⟨rfl, f8⟩
theorem rt_ltc3 (l : Launch) (Z : State) (a0 : Array Value) (hw : ∀ d ∈ tables_1, d.before a0 Z = true) (n0 : Nat) (h0 : Heap) (hWd : OWorld Z a0) (wc : List Jvm.Cond) (O0 : Old Z n0 h0) (b : Addr) (kb : ClassId) (dv : Value) (u0 : Int32) (u1 : Int32) (u2 : Int32) (q0 : Arv Z h0 b kb .byte (3 : Int32) [(.int u0), (.int u1), (.int u2)] dv) :
    OMet l Z own_EL n0 (⟨"java/lang/StringLatin1", "toChars", "([B)[C"⟩ : MethodName) (Jvm.Cond.code (⟨"java/lang/StringLatin1", "toChars", "([B)[C"⟩ : MethodName) jdk_43_method_9_code 2 (some (.array .char)) :: wc) ({ frames := 1, cells := 1, slots := 3, locals := 17 } : Room) #[(.ref b)] h0 [] (fun vq hq => ∃ (r : Addr) (kr : ClassId), vq = some (.ref r) ∧ h0.size ≤ r ∧ Arv Z hq r kr .char (3 : Int32) [(.int (u0 &&& (255 : Int32))), (.int (u1 &&& (255 : Int32))), (.int (u2 &&& (255 : Int32)))] (.int 0)) := by
  refine own_enter #[.val (.ref b), .unset] pn_java_lang_StringLatin1_toChars___B__C (ef_rt_ltc3 b kb dv u0 u1 u2) hWd.1 O0 all0 ?_
  intro p e s m below meth c T0 X0 hnm hret
  refine og_aloadN X0 1 d7_0 rfl rfl rfl ?_
  refine own_len X0 2 d7_1 q0 rfl ?_
  refine own_arr X0 4 d7_2 (ow hw 1 rfl) (by decide) (cap := 3) (by decide) (by decide) (by decide) (by decide) rfl ?_
  intro T1 h1 b1 kb1 X1 K1 G1 U1 A1
  have f2 : Arv Z h1 b1 kb1 .char (3 : Int32) [(.int 0), (.int 0), (.int 0)] (.int 0) := A1
  refine og_astoreN X1 5 #[.val (.ref b), .val (.ref b1)] d7_4 rfl rfl rfl ?_
  refine og_aloadN X1 6 d7_5 rfl rfl rfl ?_
  refine og_iconst X1 7 (0 : Int32) d7_6 rfl rfl ?_
  refine og_aloadN X1 8 d7_7 rfl rfl rfl ?_
  refine og_iconst X1 9 (0 : Int32) d7_8 rfl rfl ?_
  refine og_aloadN X1 10 d7_9 rfl rfl rfl ?_
  have f3 := q0.keep K1 nin0
  refine own_len X1 11 d7_10 f3 rfl ?_
  refine own_stat X1 14 (argsL := [(.ref b), (.int 0), (.ref b1), (.int 0), (.int 3)]) (rest := []) d7_11 (rt_inf3 l Z a0 hw n0 h1 hWd [] X1.old b kb dv b1 kb1 u0 u1 u2 f3 f2 (Nat.ne_of_lt (Nat.lt_of_lt_of_le q0.lt G1)) (own_svb X1 (om 0 rfl))) (ow hw 42 rfl) (ow hw 43 rfl) (ow hw 40 rfl) (ow hw 44 rfl) (by decide) (lenOf pd__28_5bBI_5bCII_29V rfl) rfl rfl rfl (W := 0) rfl (by decide) (by decide) (by decide) (by decide) (allS (om 0 rfl) all0) rfl ?_
  intro T4 h4 v4 X4 K4 hQ4
  obtain ⟨rfl, f5⟩ := hQ4
  show OGo _ _ _ _ T4 (mkF m 14 #[.val (.ref b), .val (.ref b1)] [])
  refine og_aloadN X4 15 d7_14 rfl rfl rfl ?_
  refine own_retA X4 d7_15 hret rfl rfl (by decide) (by decide) ?_
  exact ⟨b1, kb1, rfl, G1, f5⟩
theorem rt_cfi3 (l : Launch) (Z : State) (a0 : Array Value) (hw : ∀ d ∈ tables_1, d.before a0 Z = true) (n0 : Nat) (h0 : Heap) (hWd : OWorld Z a0) (wc : List Jvm.Cond) (O0 : Old Z n0 h0) (fm : Value) (q0 : (fm).isRef = true) :
    OMet l Z own_EL n0 (⟨"jdk/internal/util/Preconditions", "checkFromIndexSize", "(IIILjava/util/function/BiFunction;)I"⟩ : MethodName) (Jvm.Cond.code (⟨"jdk/internal/util/Preconditions", "checkFromIndexSize", "(IIILjava/util/function/BiFunction;)I"⟩ : MethodName) jdk_41_method_13_code 4 (some .int) :: wc) ({ frames := 0, cells := 0, slots := 0, locals := 0 } : Room) #[(.int 0), (.int 3), (.int 3), fm] h0 [] (fun vq hq => vq = some (.int 0)) := by
  refine own_enter #[.val (.int 0), .val (.int 3), .val (.int 3), .val fm] pn_jdk_internal_util_Preconditions_checkFromIndexSize__IIILjava_util_function_BiFunction__I (ef_rt_cfi3 fm q0) hWd.1 O0 all0 ?_
  intro p e s m below meth c T0 X0 hnm hret
  refine og_iloadN X0 1 d30_0 rfl rfl ?_
  refine og_iloadN X0 2 d30_1 rfl rfl ?_
  refine og_ior X0 3 d30_2 rfl ?_
  show OGo _ _ _ _ T0 (mkF m 3 #[.val (.int 0), .val (.int 3), .val (.int 3), .val fm] [(.int 3)])
  refine og_iloadN X0 4 d30_3 rfl rfl ?_
  refine og_ior X0 5 d30_4 rfl ?_
  show OGo _ _ _ _ T0 (mkF m 5 #[.val (.int 0), .val (.int 3), .val (.int 3), .val fm] [(.int 3)])
  refine og_ifN X0 8 d30_5 (XT.i0_lt_f (by decide)) rfl ?_
  refine og_iloadN X0 9 d30_8 rfl rfl ?_
  refine og_iloadN X0 10 d30_9 rfl rfl ?_
  refine og_iloadN X0 11 d30_10 rfl rfl ?_
  refine og_isub X0 12 d30_11 rfl ?_
  show OGo _ _ _ _ T0 (mkF m 12 #[.val (.int 0), .val (.int 3), .val (.int 3), .val fm] [(.int 3), (.int 3)])
  refine og_icmpY X0 23 d30_12 (XT.ii_le_t (by decide)) (by decide) (by decide) ?_
  refine og_iloadN X0 24 d30_23 rfl rfl ?_
  refine own_retI X0 d30_24 hret (by decide) (by decide) ?_
  exact rfl
theorem rt_cbo3 (l : Launch) (Z : State) (a0 : Array Value) (hw : ∀ d ∈ tables_1, d.before a0 Z = true) (n0 : Nat) (h0 : Heap) (hWd : OWorld Z a0) (wc : List Jvm.Cond) (O0 : Old Z n0 h0)   :
    OMet l Z own_EL n0 (⟨"java/lang/String", "checkBoundsOffCount", "(III)I"⟩ : MethodName) (Jvm.Cond.code (⟨"java/lang/String", "checkBoundsOffCount", "(III)I"⟩ : MethodName) jdk_42_method_157_code 3 (some .int) :: wc) ({ frames := 1, cells := 0, slots := 0, locals := 15 } : Room) #[(.int 0), (.int 3), (.int 3)] h0 [] (fun vq hq => vq = some (.int 0)) := by
  refine own_enter #[.val (.int 0), .val (.int 3), .val (.int 3)] pn_java_lang_String_checkBoundsOffCount__III_I (ef_rt_cbo3) hWd.1 O0 all0 ?_
  intro p e s m below meth c T0 X0 hnm hret
  refine og_iloadN X0 1 d29_0 rfl rfl ?_
  refine og_iloadN X0 2 d29_1 rfl rfl ?_
  refine og_iloadN X0 3 d29_2 rfl rfl ?_
  refine own_getS X0 6 d29_3 (host := "") (Or.inl (ow hw 81 rfl)) Via.refl hWd.2.2.1.1 rfl ?_
  intro T1 X2
  refine own_stat X2 9 (argsL := [(.int 0), (.int 3), (.int 3), (own_stv Z "jdk/internal/util/Preconditions" "SIOOBE_FORMATTER" "Ljava/util/function/BiFunction;")]) (rest := []) d29_6 (rt_cfi3 l Z a0 hw n0 h0 hWd [] X2.old (own_stv Z "jdk/internal/util/Preconditions" "SIOOBE_FORMATTER" "Ljava/util/function/BiFunction;") hWd.2.2.1.2 ) (ow hw 124 rfl) (ow hw 125 rfl) (ow hw 82 rfl) (ow hw 126 rfl) (by decide) (lenOf pd__28IIILjava_2futil_2ffunction_2fBiFunction_3b_29I rfl) rfl rfl rfl (W := 0) rfl (by decide) (by decide) (by decide) (by decide) all0 rfl ?_
  intro T3 h3 v3 X3 K3 hQ3
  obtain rfl := hQ3
  show OGo _ _ _ _ T3 (mkF m 9 #[.val (.int 0), .val (.int 3), .val (.int 3)] [(.int 0)])
  refine own_retI X3 d29_9 hret (by decide) (by decide) ?_
  exact rfl
theorem rt_ucb3 (l : Launch) (Z : State) (a0 : Array Value) (hw : ∀ d ∈ tables_1, d.before a0 Z = true) (n0 : Nat) (h0 : Heap) (hWd : OWorld Z a0) (wc : List Jvm.Cond) (O0 : Old Z n0 h0) (b : Addr) (kb : ClassId) (x0 : Int32) (x1 : Int32) (x2 : Int32) (q0 : Arv Z h0 b kb .byte (6 : Int32) [(.int (StrChars.lo8 x0)), (.int (StrChars.hi8 x0)), (.int (StrChars.lo8 x1)), (.int (StrChars.hi8 x1)), (.int (StrChars.lo8 x2)), (.int (StrChars.hi8 x2))] (.int 0)) :
    OMet l Z own_EL n0 (⟨"java/lang/StringUTF16", "checkBoundsOffCount", "(II[B)V"⟩ : MethodName) (Jvm.Cond.code (⟨"java/lang/StringUTF16", "checkBoundsOffCount", "(II[B)V"⟩ : MethodName) jdk_52_method_94_code 3 none :: wc) ({ frames := 2, cells := 0, slots := 0, locals := 29 } : Room) #[(.int 0), (.int 3), (.ref b)] h0 [] (fun vq hq => vq = none) := by
  refine own_enter #[.val (.int 0), .val (.int 3), .val (.ref b)] pn_java_lang_StringUTF16_checkBoundsOffCount__II_B_V (ef_rt_ucb3 b kb x0 x1 x2) hWd.1 O0 all0 ?_
  intro p e s m below meth c T0 X0 hnm hret
  refine og_iloadN X0 1 d27_0 rfl rfl ?_
  refine og_iloadN X0 2 d27_1 rfl rfl ?_
  refine og_aloadN X0 3 d27_2 rfl rfl rfl ?_
  refine own_stat X0 6 (argsL := [(.ref b)]) (rest := [(.int 3), (.int 0)]) d27_3 (rg_len l Z a0 hw n0 h0 hWd [] X0.old b kb [x0, x1, x2] q0 (Nat.le_of_ble_eq_true rfl) ) (ow hw 118 rfl) (ow hw 119 rfl) (ow hw 59 rfl) (ow hw 120 rfl) (by decide) (lenOf pd__28_5bB_29I rfl) rfl rfl rfl (W := 2) rfl (by decide) (by decide) (by decide) (by decide) all0 rfl ?_
  intro T1 h1 v1 X1 K1 hQ1
  obtain rfl := hQ1
  show OGo _ _ _ _ T1 (mkF m 6 #[.val (.int 0), .val (.int 3), .val (.ref b)] [(.int (Int32.ofNat ([x0, x1, x2]).length)), (.int 3), (.int 0)])
  show OGo _ _ _ _ T1 (mkF m 6 #[.val (.int 0), .val (.int 3), .val (.ref b)] [(.int 3), (.int 3), (.int 0)])
  refine own_stat X1 9 (argsL := [(.int 0), (.int 3), (.int 3)]) (rest := []) d27_6 (rt_cbo3 l Z a0 hw n0 h1 hWd [] X1.old   ) (ow hw 121 rfl) (ow hw 122 rfl) (ow hw 4 rfl) (ow hw 123 rfl) (by decide) (lenOf pd__28III_29I rfl) rfl rfl rfl (W := 0) rfl (by decide) (by decide) (by decide) (by decide) all0 rfl ?_
  intro T2 h2 v2 X2 K2 hQ2
  obtain rfl := hQ2
  show OGo _ _ _ _ T2 (mkF m 9 #[.val (.int 0), .val (.int 3), .val (.ref b)] [(.int 0)])
  refine og_pop X2 10 d27_9 rfl rfl ?_
  refine own_retV X2 d27_10 hret (by decide) (by decide) ?_
  exact rfl
theorem rt_gcs3 (l : Launch) (Z : State) (a0 : Array Value) (hw : ∀ d ∈ tables_1, d.before a0 Z = true) (n0 : Nat) (h0 : Heap) (hWd : OWorld Z a0) (wc : List Jvm.Cond) (O0 : Old Z n0 h0) (b : Addr) (kb : ClassId) (d : Addr) (kd : ClassId) (x0 : Int32) (x1 : Int32) (x2 : Int32) (q0 : Arv Z h0 b kb .byte (6 : Int32) [(.int (StrChars.lo8 x0)), (.int (StrChars.hi8 x0)), (.int (StrChars.lo8 x1)), (.int (StrChars.hi8 x1)), (.int (StrChars.lo8 x2)), (.int (StrChars.hi8 x2))] (.int 0)) (q1 : Arv Z h0 d kd .char (3 : Int32) [(.int 0), (.int 0), (.int 0)] (.int 0)) (q2 : b ≠ d) (g0 : n0 ≤ d ∧ d < h0.size) :
    OMet l Z own_EL n0 (⟨"java/lang/StringUTF16", "getChars", "([BII[CI)V"⟩ : MethodName) (Jvm.Cond.code (⟨"java/lang/StringUTF16", "getChars", "([BII[CI)V"⟩ : MethodName) jdk_52_method_26_code 6 none :: wc) ({ frames := 3, cells := 0, slots := 0, locals := 43 } : Room) #[(.ref b), (.int 0), (.int 3), (.ref d), (.int 0)] h0 [d] (fun vq hq => vq = none ∧ Arv Z hq d kd .char (3 : Int32) [(.int (StrChars.pairCh (StrChars.lo8 x0) (StrChars.hi8 x0))), (.int (StrChars.pairCh (StrChars.lo8 x1) (StrChars.hi8 x1))), (.int (StrChars.pairCh (StrChars.lo8 x2) (StrChars.hi8 x2)))] (.int 0)) := by
  refine own_enter #[.val (.ref b), .val (.int 0), .val (.int 3), .val (.ref d), .val (.int 0), .unset] pn_java_lang_StringUTF16_getChars___BII_CI_V (ef_rt_gcs3 b kb d kd x0 x1 x2) hWd.1 O0 (allS g0 all0) ?_
  intro p e s m below meth c T0 X0 hnm hret
  refine og_iloadN X0 1 d26_0 rfl rfl ?_
  refine og_iloadN X0 2 d26_1 rfl rfl ?_
  refine og_icmpN X0 5 d26_2 (XT.ii_ge_f (by decide)) rfl ?_
  refine og_iloadN X0 6 d26_5 rfl rfl ?_
  refine og_iloadN X0 7 d26_6 rfl rfl ?_
  refine og_iloadN X0 8 d26_7 rfl rfl ?_
  refine og_isub X0 9 d26_8 rfl ?_
  show OGo _ _ _ _ T0 (mkF m 9 #[.val (.ref b), .val (.int 0), .val (.int 3), .val (.ref d), .val (.int 0), .unset] [(.int 3), (.int 0)])
  refine og_aloadN X0 10 d26_9 rfl rfl rfl ?_
  refine own_stat X0 13 (argsL := [(.int 0), (.int 3), (.ref b)]) (rest := []) d26_10 (rt_ucb3 l Z a0 hw n0 h0 hWd [] X0.old b kb x0 x1 x2 q0 ) (ow hw 115 rfl) (ow hw 116 rfl) (ow hw 59 rfl) (ow hw 117 rfl) (by decide) (lenOf pd__28II_5bB_29V rfl) rfl rfl rfl (W := 0) rfl (by decide) (by decide) (by decide) (by decide) all0 rfl ?_
  intro T1 h1 v1 X1 K1 hQ1
  obtain rfl := hQ1
  show OGo _ _ _ _ T1 (mkF m 13 #[.val (.ref b), .val (.int 0), .val (.int 3), .val (.ref d), .val (.int 0), .unset] [])
  refine og_iloadN X1 14 d26_13 rfl rfl ?_
  refine og_istore X1 16 #[.val (.ref b), .val (.int 0), .val (.int 3), .val (.ref d), .val (.int 0), .val (.int 0)] d26_14 rfl rfl ?_
  refine og_iload X1 18 d26_16 rfl rfl ?_
  refine og_iloadN X1 19 d26_18 rfl rfl ?_
  refine og_icmpN X1 22 d26_19 (XT.ii_ge_f (by decide)) rfl ?_
  refine og_aloadN X1 23 d26_22 rfl rfl rfl ?_
  refine og_iload X1 25 d26_23 rfl rfl ?_
  refine og_iinc X1 28 #[.val (.ref b), .val (.int 0), .val (.int 3), .val (.ref d), .val (.int 1), .val (.int 0)] d26_25 rfl rfl rfl ?_
  refine og_aloadN X1 29 d26_28 rfl rfl rfl ?_
  refine og_iload X1 31 d26_29 rfl rfl ?_
  have f2 := q0.keep K1 nin0
  refine own_stat X1 34 (argsL := [(.ref b), (.int 0)]) (rest := [(.int 0), (.ref d)]) d26_31 (rg_get l Z a0 hw n0 h1 hWd [] X1.old b kb [x0, x1, x2] 0 f2 (Nat.le_of_ble_eq_true rfl) (Nat.le_of_ble_eq_true rfl) ) (ow hw 106 rfl) (ow hw 107 rfl) (ow hw 59 rfl) (ow hw 108 rfl) (by decide) (lenOf pd__28_5bBI_29C rfl) rfl rfl rfl (W := 2) rfl (by decide) (by decide) (by decide) (by decide) all0 rfl ?_
  intro T3 h3 v3 X3 K3 hQ3
  obtain rfl := hQ3
  show OGo _ _ _ _ T3 (mkF m 34 #[.val (.ref b), .val (.int 0), .val (.int 3), .val (.ref d), .val (.int 1), .val (.int 0)] [(.int (StrChars.pairCh (StrChars.lo8 x0) (StrChars.hi8 x0))), (.int 0), (.ref d)])
  have f4 := q1.keep K1 nin0
  have f5 := f4.keep K3 nin0
  refine own_stC X3 35 d26_34 f5 (own_ncc _) (by decide) (by decide) (i := 0) (by decide) (Nat.le_of_ble_eq_true rfl) (om 0 rfl) rfl ?_
  intro T6 h6 X6 W6 K6 A6
  have f7 : Arv Z h6 d kd .char (3 : Int32) [(.int (StrChars.pairCh (StrChars.lo8 x0) (StrChars.hi8 x0))), (.int 0), (.int 0)] (.int 0) := A6
  refine og_iinc X6 38 #[.val (.ref b), .val (.int 0), .val (.int 3), .val (.ref d), .val (.int 1), .val (.int 1)] d26_35 rfl rfl rfl ?_
  refine og_goto X6 16 d26_38 (by decide) (by decide) ?_
  refine og_iload X6 18 d26_16 rfl rfl ?_
  refine og_iloadN X6 19 d26_18 rfl rfl ?_
  refine og_icmpN X6 22 d26_19 (XT.ii_ge_f (by decide)) rfl ?_
  refine og_aloadN X6 23 d26_22 rfl rfl rfl ?_
  refine og_iload X6 25 d26_23 rfl rfl ?_
  refine og_iinc X6 28 #[.val (.ref b), .val (.int 0), .val (.int 3), .val (.ref d), .val (.int 2), .val (.int 1)] d26_25 rfl rfl rfl ?_
  refine og_aloadN X6 29 d26_28 rfl rfl rfl ?_
  refine og_iload X6 31 d26_29 rfl rfl ?_
  have f8 := f2.keep K3 nin0
  have f9 := f8.keep K6 (ninS q2 nin0)
  refine own_stat X6 34 (argsL := [(.ref b), (.int 1)]) (rest := [(.int 1), (.ref d)]) d26_31 (rg_get l Z a0 hw n0 h6 hWd [] X6.old b kb [x0, x1, x2] 1 f9 (Nat.le_of_ble_eq_true rfl) (Nat.le_of_ble_eq_true rfl) ) (ow hw 106 rfl) (ow hw 107 rfl) (ow hw 59 rfl) (ow hw 108 rfl) (by decide) (lenOf pd__28_5bBI_29C rfl) rfl rfl rfl (W := 2) rfl (by decide) (by decide) (by decide) (by decide) all0 rfl ?_
  intro T10 h10 v10 X10 K10 hQ10
  obtain rfl := hQ10
  show OGo _ _ _ _ T10 (mkF m 34 #[.val (.ref b), .val (.int 0), .val (.int 3), .val (.ref d), .val (.int 2), .val (.int 1)] [(.int (StrChars.pairCh (StrChars.lo8 x1) (StrChars.hi8 x1))), (.int 1), (.ref d)])
  have f11 := f7.keep K10 nin0
  refine own_stC X10 35 d26_34 f11 (own_ncc _) (by decide) (by decide) (i := 1) (by decide) (Nat.le_of_ble_eq_true rfl) (om 0 rfl) rfl ?_
  intro T12 h12 X12 W12 K12 A12
  have f13 : Arv Z h12 d kd .char (3 : Int32) [(.int (StrChars.pairCh (StrChars.lo8 x0) (StrChars.hi8 x0))), (.int (StrChars.pairCh (StrChars.lo8 x1) (StrChars.hi8 x1))), (.int 0)] (.int 0) := A12
  refine og_iinc X12 38 #[.val (.ref b), .val (.int 0), .val (.int 3), .val (.ref d), .val (.int 2), .val (.int 2)] d26_35 rfl rfl rfl ?_
  refine og_goto X12 16 d26_38 (by decide) (by decide) ?_
  refine og_iload X12 18 d26_16 rfl rfl ?_
  refine og_iloadN X12 19 d26_18 rfl rfl ?_
  refine og_icmpN X12 22 d26_19 (XT.ii_ge_f (by decide)) rfl ?_
  refine og_aloadN X12 23 d26_22 rfl rfl rfl ?_
  refine og_iload X12 25 d26_23 rfl rfl ?_
  refine og_iinc X12 28 #[.val (.ref b), .val (.int 0), .val (.int 3), .val (.ref d), .val (.int 3), .val (.int 2)] d26_25 rfl rfl rfl ?_
  refine og_aloadN X12 29 d26_28 rfl rfl rfl ?_
  refine og_iload X12 31 d26_29 rfl rfl ?_
  have f14 := f9.keep K10 nin0
  have f15 := f14.keep K12 (ninS q2 nin0)
  refine own_stat X12 34 (argsL := [(.ref b), (.int 2)]) (rest := [(.int 2), (.ref d)]) d26_31 (rg_get l Z a0 hw n0 h12 hWd [] X12.old b kb [x0, x1, x2] 2 f15 (Nat.le_of_ble_eq_true rfl) (Nat.le_of_ble_eq_true rfl) ) (ow hw 106 rfl) (ow hw 107 rfl) (ow hw 59 rfl) (ow hw 108 rfl) (by decide) (lenOf pd__28_5bBI_29C rfl) rfl rfl rfl (W := 2) rfl (by decide) (by decide) (by decide) (by decide) all0 rfl ?_
  intro T16 h16 v16 X16 K16 hQ16
  obtain rfl := hQ16
  show OGo _ _ _ _ T16 (mkF m 34 #[.val (.ref b), .val (.int 0), .val (.int 3), .val (.ref d), .val (.int 3), .val (.int 2)] [(.int (StrChars.pairCh (StrChars.lo8 x2) (StrChars.hi8 x2))), (.int 2), (.ref d)])
  have f17 := f13.keep K16 nin0
  refine own_stC X16 35 d26_34 f17 (own_ncc _) (by decide) (by decide) (i := 2) (by decide) (Nat.le_of_ble_eq_true rfl) (om 0 rfl) rfl ?_
  intro T18 h18 X18 W18 K18 A18
  have f19 : Arv Z h18 d kd .char (3 : Int32) [(.int (StrChars.pairCh (StrChars.lo8 x0) (StrChars.hi8 x0))), (.int (StrChars.pairCh (StrChars.lo8 x1) (StrChars.hi8 x1))), (.int (StrChars.pairCh (StrChars.lo8 x2) (StrChars.hi8 x2)))] (.int 0) := A18
  refine og_iinc X18 38 #[.val (.ref b), .val (.int 0), .val (.int 3), .val (.ref d), .val (.int 3), .val (.int 3)] d26_35 rfl rfl rfl ?_
  refine og_goto X18 16 d26_38 (by decide) (by decide) ?_
  refine og_iload X18 18 d26_16 rfl rfl ?_
  refine og_iloadN X18 19 d26_18 rfl rfl ?_
  refine og_icmpY X18 41 d26_19 (XT.ii_ge_t (by decide)) (by decide) (by decide) ?_
  refine own_retV X18 d26_41 hret (by decide) (by decide) ?_
  exact ⟨rfl, f19⟩
theorem rt_utc3 (l : Launch) (Z : State) (a0 : Array Value) (hw : ∀ d ∈ tables_1, d.before a0 Z = true) (n0 : Nat) (h0 : Heap) (hWd : OWorld Z a0) (wc : List Jvm.Cond) (O0 : Old Z n0 h0) (b : Addr) (kb : ClassId) (x0 : Int32) (x1 : Int32) (x2 : Int32) (q0 : Arv Z h0 b kb .byte (6 : Int32) [(.int (StrChars.lo8 x0)), (.int (StrChars.hi8 x0)), (.int (StrChars.lo8 x1)), (.int (StrChars.hi8 x1)), (.int (StrChars.lo8 x2)), (.int (StrChars.hi8 x2))] (.int 0)) :
    OMet l Z own_EL n0 (⟨"java/lang/StringUTF16", "toChars", "([B)[C"⟩ : MethodName) (Jvm.Cond.code (⟨"java/lang/StringUTF16", "toChars", "([B)[C"⟩ : MethodName) jdk_52_method_13_code 2 (some (.array .char)) :: wc) ({ frames := 4, cells := 1, slots := 3, locals := 60 } : Room) #[(.ref b)] h0 [] (fun vq hq => ∃ (r : Addr) (kr : ClassId), vq = some (.ref r) ∧ h0.size ≤ r ∧ Arv Z hq r kr .char (3 : Int32) [(.int (StrChars.pairCh (StrChars.lo8 x0) (StrChars.hi8 x0))), (.int (StrChars.pairCh (StrChars.lo8 x1) (StrChars.hi8 x1))), (.int (StrChars.pairCh (StrChars.lo8 x2) (StrChars.hi8 x2)))] (.int 0)) := by
  refine own_enter #[.val (.ref b), .unset] pn_java_lang_StringUTF16_toChars___B__C (ef_rt_utc3 b kb x0 x1 x2) hWd.1 O0 all0 ?_
  intro p e s m below meth c T0 X0 hnm hret
  refine og_aloadN X0 1 d25_0 rfl rfl rfl ?_
  refine own_len X0 2 d25_1 q0 rfl ?_
  refine og_iconst X0 3 (1 : Int32) d25_2 rfl rfl ?_
  refine og_ishr X0 4 d25_3 rfl ?_
  show OGo _ _ _ _ T0 (mkF m 4 #[.val (.ref b), .unset] [(.int 3)])
  refine own_arr X0 6 d25_4 (ow hw 1 rfl) (by decide) (cap := 3) (by decide) (by decide) (by decide) (by decide) rfl ?_
  intro T1 h1 b1 kb1 X1 K1 G1 U1 A1
  have f2 : Arv Z h1 b1 kb1 .char (3 : Int32) [(.int 0), (.int 0), (.int 0)] (.int 0) := A1
  refine og_astoreN X1 7 #[.val (.ref b), .val (.ref b1)] d25_6 rfl rfl rfl ?_
  refine og_aloadN X1 8 d25_7 rfl rfl rfl ?_
  refine og_iconst X1 9 (0 : Int32) d25_8 rfl rfl ?_
  refine og_aloadN X1 10 d25_9 rfl rfl rfl ?_
  refine own_len X1 11 d25_10 f2 rfl ?_
  refine og_aloadN X1 12 d25_11 rfl rfl rfl ?_
  refine og_iconst X1 13 (0 : Int32) d25_12 rfl rfl ?_
  have f3 := q0.keep K1 nin0
  refine own_stat X1 16 (argsL := [(.ref b), (.int 0), (.int 3), (.ref b1), (.int 0)]) (rest := []) d25_13 (rt_gcs3 l Z a0 hw n0 h1 hWd [] X1.old b kb b1 kb1 x0 x1 x2 f3 f2 (Nat.ne_of_lt (Nat.lt_of_lt_of_le q0.lt G1)) (own_svb X1 (om 0 rfl))) (ow hw 112 rfl) (ow hw 113 rfl) (ow hw 59 rfl) (ow hw 114 rfl) (by decide) (lenOf pd__28_5bBII_5bCI_29V rfl) rfl rfl rfl (W := 0) rfl (by decide) (by decide) (by decide) (by decide) (allS (om 0 rfl) all0) rfl ?_
  intro T4 h4 v4 X4 K4 hQ4
  obtain ⟨rfl, f5⟩ := hQ4
  show OGo _ _ _ _ T4 (mkF m 16 #[.val (.ref b), .val (.ref b1)] [])
  refine og_aloadN X4 17 d25_16 rfl rfl rfl ?_
  refine own_retA X4 d25_17 hret rfl rfl (by decide) (by decide) ?_
  exact ⟨b1, kb1, rfl, G1, f5⟩
theorem rt_tca3 (l : Launch) (Z : State) (a0 : Array Value) (hw : ∀ d ∈ tables_1, d.before a0 Z = true) (n0 : Nat) (h0 : Heap) (hWd : OWorld Z a0) (wc : List Jvm.Cond) (O0 : Old Z n0 h0) (a : Addr) (x0 : Int32) (x1 : Int32) (x2 : Int32) (q0 : OStr Z h0 a [x0, x1, x2] h0.size) :
    OMet l Z own_EL n0 (⟨"java/lang/String", "toCharArray", "()[C"⟩ : MethodName) (Jvm.Cond.code (⟨"java/lang/String", "toCharArray", "()[C"⟩ : MethodName) jdk_42_method_129_code 1 (some (.array .char)) :: wc) ({ frames := 5, cells := 1, slots := 3, locals := 73 } : Room) #[(.ref a)] h0 [] (fun vq hq => ∃ (r : Addr) (kr : ClassId), vq = some (.ref r) ∧ h0.size ≤ r ∧ Arv Z hq r kr .char (3 : Int32) [(.int x0), (.int x1), (.int x2)] (.int 0)) := by
  refine own_enter #[.val (.ref a)] pn_java_lang_String_toCharArray____C (ef_rt_tca3 a x0 x1 x2) hWd.1 O0 all0 ?_
  intro p e s m below meth c T0 X0 hnm hret
  obtain ⟨t, kt, cd, NN, vv, eE, eC, eV, eA, cod, bd, -⟩ := q0
  rcases cod with ⟨rfl, rfl, rfl, lat⟩ | ⟨rfl, rfl, rfl, wid⟩
  · -- coder 0
    have eA2 : Arv Z h0 t kt .byte (3 : Int32) [(.int (StrChars.lo8 x0)), (.int (StrChars.lo8 x1)), (.int (StrChars.lo8 x2))] (.int 0) := eA
    refine og_aloadN X0 1 d5_0 rfl rfl rfl ?_
    refine own_virt X0 4 (a := a) (argsL := []) (rest := []) d5_1 eE (fun _ hZ => notFace_of_selects (args := #[]) (mvT hZ (ow hw 35 rfl))) (ru_isl0 l Z a0 hw n0 h0 hWd [] X0.old a eC ) (ow hw 32 rfl) (ow hw 33 rfl) (ow hw 35 rfl) (ow hw 34 rfl) (ow hw 4 rfl) (ow hw 36 rfl) (by decide) (lenOf pd__28_29Z rfl) rfl rfl rfl (W := 0) rfl (by decide) (by decide) (by decide) (by decide) all0 rfl ?_
    intro T1 h1 v1 X1 K1 hQ1
    obtain rfl := hQ1
    show OGo _ _ _ _ T1 (mkF m 4 #[.val (.ref a)] [(.int 1)])
    refine og_ifN X1 7 d5_4 (XT.i0_eq_f (by decide)) rfl ?_
    refine og_aloadN X1 8 d5_7 rfl rfl rfl ?_
    have f2 := eV.keep K1 nin0
    refine own_get X1 11 d5_8 (host := "") (Or.inl (ow hw 21 rfl)) Via.refl f2 rfl ?_
    intro T3 X4
    have f5 := eA2.keep K1 nin0
    refine own_stat X4 14 (argsL := [(.ref t)]) (rest := []) d5_11 (rt_ltc3 l Z a0 hw n0 h1 hWd [] X4.old t kt (.int 0) (StrChars.lo8 x0) (StrChars.lo8 x1) (StrChars.lo8 x2) f5 ) (ow hw 38 rfl) (ow hw 39 rfl) (ow hw 40 rfl) (ow hw 41 rfl) (by decide) (lenOf pd__28_5bB_29_5bC rfl) rfl rfl rfl (W := 0) rfl (by decide) (by decide) (by decide) (by decide) all0 rfl ?_
    intro T6 h6 v6 X6 K6 hQ6
    obtain ⟨r6, kr6, rfl, ge_r6, f7⟩ := hQ6
    show OGo _ _ _ _ T6 (mkF m 14 #[.val (.ref a)] [(.ref r6)])
    refine og_goto X6 24 d5_14 (by decide) (by decide) ?_
    refine own_retA X6 d5_24 hret rfl rfl (by decide) (by decide) ?_
    exact ⟨_, _, rfl, (Nat.le_trans K1.1 ge_r6), by have q := f7; simp only [StrChars.lo8_mask (bd _ (om 0 rfl)).1 (lat _ (om 0 rfl)), StrChars.lo8_mask (bd _ (om 1 rfl)).1 (lat _ (om 1 rfl)), StrChars.lo8_mask (bd _ (om 2 rfl)).1 (lat _ (om 2 rfl))] at q; exact q⟩
  · -- coder 1
    have eA2 : Arv Z h0 t kt .byte (6 : Int32) [(.int (StrChars.lo8 x0)), (.int (StrChars.hi8 x0)), (.int (StrChars.lo8 x1)), (.int (StrChars.hi8 x1)), (.int (StrChars.lo8 x2)), (.int (StrChars.hi8 x2))] (.int 0) := eA
    refine og_aloadN X0 1 d5_0 rfl rfl rfl ?_
    refine own_virt X0 4 (a := a) (argsL := []) (rest := []) d5_1 eE (fun _ hZ => notFace_of_selects (args := #[]) (mvT hZ (ow hw 35 rfl))) (ru_isl1 l Z a0 hw n0 h0 hWd [] X0.old a eC ) (ow hw 32 rfl) (ow hw 33 rfl) (ow hw 35 rfl) (ow hw 34 rfl) (ow hw 4 rfl) (ow hw 36 rfl) (by decide) (lenOf pd__28_29Z rfl) rfl rfl rfl (W := 0) rfl (by decide) (by decide) (by decide) (by decide) all0 rfl ?_
    intro T8 h8 v8 X8 K8 hQ8
    obtain rfl := hQ8
    show OGo _ _ _ _ T8 (mkF m 4 #[.val (.ref a)] [(.int 0)])
    refine og_ifY X8 17 d5_4 (XT.i0_eq_t (by decide)) (by decide) (by decide) ?_
    refine og_aloadN X8 18 d5_17 rfl rfl rfl ?_
    have f9 := eV.keep K8 nin0
    refine own_get X8 21 d5_18 (host := "") (Or.inl (ow hw 21 rfl)) Via.refl f9 rfl ?_
    intro T10 X11
    have f12 := eA2.keep K8 nin0
    refine own_stat X11 24 (argsL := [(.ref t)]) (rest := []) d5_21 (rt_utc3 l Z a0 hw n0 h8 hWd [] X11.old t kt x0 x1 x2 f12 ) (ow hw 109 rfl) (ow hw 110 rfl) (ow hw 59 rfl) (ow hw 111 rfl) (by decide) (lenOf pd__28_5bB_29_5bC rfl) rfl rfl rfl (W := 0) rfl (by decide) (by decide) (by decide) (by decide) all0 rfl ?_
    intro T13 h13 v13 X13 K13 hQ13
    obtain ⟨r13, kr13, rfl, ge_r13, f14⟩ := hQ13
    show OGo _ _ _ _ T13 (mkF m 24 #[.val (.ref a)] [(.ref r13)])
    refine own_retA X13 d5_24 hret rfl rfl (by decide) (by decide) ?_
    exact ⟨_, _, rfl, (Nat.le_trans K8.1 ge_r13), by have q := f14; simp only [StrChars.pair_says (bd _ (om 0 rfl)).1 (bd _ (om 0 rfl)).2, StrChars.pair_says (bd _ (om 1 rfl)).1 (bd _ (om 1 rfl)).2, StrChars.pair_says (bd _ (om 2 rfl)).1 (bd _ (om 2 rfl)).2] at q; exact q⟩
theorem rt_inf4 (l : Launch) (Z : State) (a0 : Array Value) (hw : ∀ d ∈ tables_1, d.before a0 Z = true) (n0 : Nat) (h0 : Heap) (hWd : OWorld Z a0) (wc : List Jvm.Cond) (O0 : Old Z n0 h0) (b : Addr) (kb : ClassId) (dv : Value) (d : Addr) (kd : ClassId) (u0 : Int32) (u1 : Int32) (u2 : Int32) (u3 : Int32) (q0 : Arv Z h0 b kb .byte (4 : Int32) [(.int u0), (.int u1), (.int u2), (.int u3)] dv) (q1 : Arv Z h0 d kd .char (4 : Int32) [(.int 0), (.int 0), (.int 0), (.int 0)] (.int 0)) (q2 : b ≠ d) (g0 : n0 ≤ d ∧ d < h0.size) :
    OMet l Z own_EL n0 (⟨"java/lang/StringLatin1", "inflate", "([BI[CII)V"⟩ : MethodName) (Jvm.Cond.code (⟨"java/lang/StringLatin1", "inflate", "([BI[CII)V"⟩ : MethodName) jdk_43_method_49_code 6 none :: wc) ({ frames := 0, cells := 0, slots := 0, locals := 0 } : Room) #[(.ref b), (.int 0), (.ref d), (.int 0), (.int 4)] h0 [d] (fun vq hq => vq = none ∧ Arv Z hq d kd .char (4 : Int32) [(.int (u0 &&& (255 : Int32))), (.int (u1 &&& (255 : Int32))), (.int (u2 &&& (255 : Int32))), (.int (u3 &&& (255 : Int32)))] (.int 0)) := by
  refine own_enter #[.val (.ref b), .val (.int 0), .val (.ref d), .val (.int 0), .val (.int 4), .unset] pn_java_lang_StringLatin1_inflate___BI_CII_V (ef_rt_inf4 b kb dv d kd u0 u1 u2 u3) hWd.1 O0 (allS g0 all0) ?_
  intro p e s m below meth c T0 X0 hnm hret
  refine og_iconst X0 1 (0 : Int32) d8_0 rfl rfl ?_
  refine og_istore X0 3 #[.val (.ref b), .val (.int 0), .val (.ref d), .val (.int 0), .val (.int 4), .val (.int 0)] d8_1 rfl rfl ?_
  refine og_iload X0 5 d8_3 rfl rfl ?_
  refine og_iload X0 7 d8_5 rfl rfl ?_
  refine og_icmpN X0 10 d8_7 (XT.ii_ge_f (by decide)) rfl ?_
  refine og_aloadN X0 11 d8_10 rfl rfl rfl ?_
  refine og_iloadN X0 12 d8_11 rfl rfl ?_
  refine og_iinc X0 15 #[.val (.ref b), .val (.int 0), .val (.ref d), .val (.int 1), .val (.int 4), .val (.int 0)] d8_12 rfl rfl rfl ?_
  refine og_aloadN X0 16 d8_15 rfl rfl rfl ?_
  refine og_iloadN X0 17 d8_16 rfl rfl ?_
  refine og_iinc X0 20 #[.val (.ref b), .val (.int 1), .val (.ref d), .val (.int 1), .val (.int 4), .val (.int 0)] d8_17 rfl rfl rfl ?_
  refine own_ldB X0 21 d8_20 q0 (by decide) (by decide) rfl rfl ?_
  refine og_sipush X0 24 (255 : Int32) d8_21 rfl rfl ?_
  refine og_iand X0 25 d8_24 rfl ?_
  refine og_i2c8 X0 26 d8_25 rfl ?_
  refine own_stC X0 27 d8_26 q1 (own_nc8 _) (by decide) (by decide) (i := 0) (by decide) (Nat.le_of_ble_eq_true rfl) (om 0 rfl) rfl ?_
  intro T1 h1 X1 W1 K1 A1
  have f2 : Arv Z h1 d kd .char (4 : Int32) [(.int (u0 &&& (255 : Int32))), (.int 0), (.int 0), (.int 0)] (.int 0) := A1
  refine og_iinc X1 30 #[.val (.ref b), .val (.int 1), .val (.ref d), .val (.int 1), .val (.int 4), .val (.int 1)] d8_27 rfl rfl rfl ?_
  refine og_goto X1 3 d8_30 (by decide) (by decide) ?_
  refine og_iload X1 5 d8_3 rfl rfl ?_
  refine og_iload X1 7 d8_5 rfl rfl ?_
  refine og_icmpN X1 10 d8_7 (XT.ii_ge_f (by decide)) rfl ?_
  refine og_aloadN X1 11 d8_10 rfl rfl rfl ?_
  refine og_iloadN X1 12 d8_11 rfl rfl ?_
  refine og_iinc X1 15 #[.val (.ref b), .val (.int 1), .val (.ref d), .val (.int 2), .val (.int 4), .val (.int 1)] d8_12 rfl rfl rfl ?_
  refine og_aloadN X1 16 d8_15 rfl rfl rfl ?_
  refine og_iloadN X1 17 d8_16 rfl rfl ?_
  refine og_iinc X1 20 #[.val (.ref b), .val (.int 2), .val (.ref d), .val (.int 2), .val (.int 4), .val (.int 1)] d8_17 rfl rfl rfl ?_
  have f3 := q0.keep K1 (ninS q2 nin0)
  refine own_ldB X1 21 d8_20 f3 (by decide) (by decide) rfl rfl ?_
  refine og_sipush X1 24 (255 : Int32) d8_21 rfl rfl ?_
  refine og_iand X1 25 d8_24 rfl ?_
  refine og_i2c8 X1 26 d8_25 rfl ?_
  refine own_stC X1 27 d8_26 f2 (own_nc8 _) (by decide) (by decide) (i := 1) (by decide) (Nat.le_of_ble_eq_true rfl) (om 0 rfl) rfl ?_
  intro T4 h4 X4 W4 K4 A4
  have f5 : Arv Z h4 d kd .char (4 : Int32) [(.int (u0 &&& (255 : Int32))), (.int (u1 &&& (255 : Int32))), (.int 0), (.int 0)] (.int 0) := A4
  refine og_iinc X4 30 #[.val (.ref b), .val (.int 2), .val (.ref d), .val (.int 2), .val (.int 4), .val (.int 2)] d8_27 rfl rfl rfl ?_
  refine og_goto X4 3 d8_30 (by decide) (by decide) ?_
  refine og_iload X4 5 d8_3 rfl rfl ?_
  refine og_iload X4 7 d8_5 rfl rfl ?_
  refine og_icmpN X4 10 d8_7 (XT.ii_ge_f (by decide)) rfl ?_
  refine og_aloadN X4 11 d8_10 rfl rfl rfl ?_
  refine og_iloadN X4 12 d8_11 rfl rfl ?_
  refine og_iinc X4 15 #[.val (.ref b), .val (.int 2), .val (.ref d), .val (.int 3), .val (.int 4), .val (.int 2)] d8_12 rfl rfl rfl ?_
  refine og_aloadN X4 16 d8_15 rfl rfl rfl ?_
  refine og_iloadN X4 17 d8_16 rfl rfl ?_
  refine og_iinc X4 20 #[.val (.ref b), .val (.int 3), .val (.ref d), .val (.int 3), .val (.int 4), .val (.int 2)] d8_17 rfl rfl rfl ?_
  have f6 := f3.keep K4 (ninS q2 nin0)
  refine own_ldB X4 21 d8_20 f6 (by decide) (by decide) rfl rfl ?_
  refine og_sipush X4 24 (255 : Int32) d8_21 rfl rfl ?_
  refine og_iand X4 25 d8_24 rfl ?_
  refine og_i2c8 X4 26 d8_25 rfl ?_
  refine own_stC X4 27 d8_26 f5 (own_nc8 _) (by decide) (by decide) (i := 2) (by decide) (Nat.le_of_ble_eq_true rfl) (om 0 rfl) rfl ?_
  intro T7 h7 X7 W7 K7 A7
  have f8 : Arv Z h7 d kd .char (4 : Int32) [(.int (u0 &&& (255 : Int32))), (.int (u1 &&& (255 : Int32))), (.int (u2 &&& (255 : Int32))), (.int 0)] (.int 0) := A7
  refine og_iinc X7 30 #[.val (.ref b), .val (.int 3), .val (.ref d), .val (.int 3), .val (.int 4), .val (.int 3)] d8_27 rfl rfl rfl ?_
  refine og_goto X7 3 d8_30 (by decide) (by decide) ?_
  refine og_iload X7 5 d8_3 rfl rfl ?_
  refine og_iload X7 7 d8_5 rfl rfl ?_
  refine og_icmpN X7 10 d8_7 (XT.ii_ge_f (by decide)) rfl ?_
  refine og_aloadN X7 11 d8_10 rfl rfl rfl ?_
  refine og_iloadN X7 12 d8_11 rfl rfl ?_
  refine og_iinc X7 15 #[.val (.ref b), .val (.int 3), .val (.ref d), .val (.int 4), .val (.int 4), .val (.int 3)] d8_12 rfl rfl rfl ?_
  refine og_aloadN X7 16 d8_15 rfl rfl rfl ?_
  refine og_iloadN X7 17 d8_16 rfl rfl ?_
  refine og_iinc X7 20 #[.val (.ref b), .val (.int 4), .val (.ref d), .val (.int 4), .val (.int 4), .val (.int 3)] d8_17 rfl rfl rfl ?_
  have f9 := f6.keep K7 (ninS q2 nin0)
  refine own_ldB X7 21 d8_20 f9 (by decide) (by decide) rfl rfl ?_
  refine og_sipush X7 24 (255 : Int32) d8_21 rfl rfl ?_
  refine og_iand X7 25 d8_24 rfl ?_
  refine og_i2c8 X7 26 d8_25 rfl ?_
  refine own_stC X7 27 d8_26 f8 (own_nc8 _) (by decide) (by decide) (i := 3) (by decide) (Nat.le_of_ble_eq_true rfl) (om 0 rfl) rfl ?_
  intro T10 h10 X10 W10 K10 A10
  have f11 : Arv Z h10 d kd .char (4 : Int32) [(.int (u0 &&& (255 : Int32))), (.int (u1 &&& (255 : Int32))), (.int (u2 &&& (255 : Int32))), (.int (u3 &&& (255 : Int32)))] (.int 0) := A10
  refine og_iinc X10 30 #[.val (.ref b), .val (.int 4), .val (.ref d), .val (.int 4), .val (.int 4), .val (.int 4)] d8_27 rfl rfl rfl ?_
  refine og_goto X10 3 d8_30 (by decide) (by decide) ?_
  refine og_iload X10 5 d8_3 rfl rfl ?_
  refine og_iload X10 7 d8_5 rfl rfl ?_
  refine og_icmpY X10 33 d8_7 (XT.ii_ge_t (by decide)) (by decide) (by decide) ?_
  refine own_retV X10 d8_33 hret (by decide) (by decide) ?_
  exact ⟨rfl, f11⟩
theorem rt_ltc4 (l : Launch) (Z : State) (a0 : Array Value) (hw : ∀ d ∈ tables_1, d.before a0 Z = true) (n0 : Nat) (h0 : Heap) (hWd : OWorld Z a0) (wc : List Jvm.Cond) (O0 : Old Z n0 h0) (b : Addr) (kb : ClassId) (dv : Value) (u0 : Int32) (u1 : Int32) (u2 : Int32) (u3 : Int32) (q0 : Arv Z h0 b kb .byte (4 : Int32) [(.int u0), (.int u1), (.int u2), (.int u3)] dv) :
    OMet l Z own_EL n0 (⟨"java/lang/StringLatin1", "toChars", "([B)[C"⟩ : MethodName) (Jvm.Cond.code (⟨"java/lang/StringLatin1", "toChars", "([B)[C"⟩ : MethodName) jdk_43_method_9_code 2 (some (.array .char)) :: wc) ({ frames := 1, cells := 1, slots := 4, locals := 17 } : Room) #[(.ref b)] h0 [] (fun vq hq => ∃ (r : Addr) (kr : ClassId), vq = some (.ref r) ∧ h0.size ≤ r ∧ Arv Z hq r kr .char (4 : Int32) [(.int (u0 &&& (255 : Int32))), (.int (u1 &&& (255 : Int32))), (.int (u2 &&& (255 : Int32))), (.int (u3 &&& (255 : Int32)))] (.int 0)) := by
  refine own_enter #[.val (.ref b), .unset] pn_java_lang_StringLatin1_toChars___B__C (ef_rt_ltc4 b kb dv u0 u1 u2 u3) hWd.1 O0 all0 ?_
  intro p e s m below meth c T0 X0 hnm hret
  refine og_aloadN X0 1 d7_0 rfl rfl rfl ?_
  refine own_len X0 2 d7_1 q0 rfl ?_
  refine own_arr X0 4 d7_2 (ow hw 1 rfl) (by decide) (cap := 4) (by decide) (by decide) (by decide) (by decide) rfl ?_
  intro T1 h1 b1 kb1 X1 K1 G1 U1 A1
  have f2 : Arv Z h1 b1 kb1 .char (4 : Int32) [(.int 0), (.int 0), (.int 0), (.int 0)] (.int 0) := A1
  refine og_astoreN X1 5 #[.val (.ref b), .val (.ref b1)] d7_4 rfl rfl rfl ?_
  refine og_aloadN X1 6 d7_5 rfl rfl rfl ?_
  refine og_iconst X1 7 (0 : Int32) d7_6 rfl rfl ?_
  refine og_aloadN X1 8 d7_7 rfl rfl rfl ?_
  refine og_iconst X1 9 (0 : Int32) d7_8 rfl rfl ?_
  refine og_aloadN X1 10 d7_9 rfl rfl rfl ?_
  have f3 := q0.keep K1 nin0
  refine own_len X1 11 d7_10 f3 rfl ?_
  refine own_stat X1 14 (argsL := [(.ref b), (.int 0), (.ref b1), (.int 0), (.int 4)]) (rest := []) d7_11 (rt_inf4 l Z a0 hw n0 h1 hWd [] X1.old b kb dv b1 kb1 u0 u1 u2 u3 f3 f2 (Nat.ne_of_lt (Nat.lt_of_lt_of_le q0.lt G1)) (own_svb X1 (om 0 rfl))) (ow hw 42 rfl) (ow hw 43 rfl) (ow hw 40 rfl) (ow hw 44 rfl) (by decide) (lenOf pd__28_5bBI_5bCII_29V rfl) rfl rfl rfl (W := 0) rfl (by decide) (by decide) (by decide) (by decide) (allS (om 0 rfl) all0) rfl ?_
  intro T4 h4 v4 X4 K4 hQ4
  obtain ⟨rfl, f5⟩ := hQ4
  show OGo _ _ _ _ T4 (mkF m 14 #[.val (.ref b), .val (.ref b1)] [])
  refine og_aloadN X4 15 d7_14 rfl rfl rfl ?_
  refine own_retA X4 d7_15 hret rfl rfl (by decide) (by decide) ?_
  exact ⟨b1, kb1, rfl, G1, f5⟩
theorem rt_cfi4 (l : Launch) (Z : State) (a0 : Array Value) (hw : ∀ d ∈ tables_1, d.before a0 Z = true) (n0 : Nat) (h0 : Heap) (hWd : OWorld Z a0) (wc : List Jvm.Cond) (O0 : Old Z n0 h0) (fm : Value) (q0 : (fm).isRef = true) :
    OMet l Z own_EL n0 (⟨"jdk/internal/util/Preconditions", "checkFromIndexSize", "(IIILjava/util/function/BiFunction;)I"⟩ : MethodName) (Jvm.Cond.code (⟨"jdk/internal/util/Preconditions", "checkFromIndexSize", "(IIILjava/util/function/BiFunction;)I"⟩ : MethodName) jdk_41_method_13_code 4 (some .int) :: wc) ({ frames := 0, cells := 0, slots := 0, locals := 0 } : Room) #[(.int 0), (.int 4), (.int 4), fm] h0 [] (fun vq hq => vq = some (.int 0)) := by
  refine own_enter #[.val (.int 0), .val (.int 4), .val (.int 4), .val fm] pn_jdk_internal_util_Preconditions_checkFromIndexSize__IIILjava_util_function_BiFunction__I (ef_rt_cfi4 fm q0) hWd.1 O0 all0 ?_
  intro p e s m below meth c T0 X0 hnm hret
  refine og_iloadN X0 1 d30_0 rfl rfl ?_
  refine og_iloadN X0 2 d30_1 rfl rfl ?_
  refine og_ior X0 3 d30_2 rfl ?_
  show OGo _ _ _ _ T0 (mkF m 3 #[.val (.int 0), .val (.int 4), .val (.int 4), .val fm] [(.int 4)])
  refine og_iloadN X0 4 d30_3 rfl rfl ?_
  refine og_ior X0 5 d30_4 rfl ?_
  show OGo _ _ _ _ T0 (mkF m 5 #[.val (.int 0), .val (.int 4), .val (.int 4), .val fm] [(.int 4)])
  refine og_ifN X0 8 d30_5 (XT.i0_lt_f (by decide)) rfl ?_
  refine og_iloadN X0 9 d30_8 rfl rfl ?_
  refine og_iloadN X0 10 d30_9 rfl rfl ?_
  refine og_iloadN X0 11 d30_10 rfl rfl ?_
  refine og_isub X0 12 d30_11 rfl ?_
  show OGo _ _ _ _ T0 (mkF m 12 #[.val (.int 0), .val (.int 4), .val (.int 4), .val fm] [(.int 4), (.int 4)])
  refine og_icmpY X0 23 d30_12 (XT.ii_le_t (by decide)) (by decide) (by decide) ?_
  refine og_iloadN X0 24 d30_23 rfl rfl ?_
  refine own_retI X0 d30_24 hret (by decide) (by decide) ?_
  exact rfl
theorem rt_cbo4 (l : Launch) (Z : State) (a0 : Array Value) (hw : ∀ d ∈ tables_1, d.before a0 Z = true) (n0 : Nat) (h0 : Heap) (hWd : OWorld Z a0) (wc : List Jvm.Cond) (O0 : Old Z n0 h0)   :
    OMet l Z own_EL n0 (⟨"java/lang/String", "checkBoundsOffCount", "(III)I"⟩ : MethodName) (Jvm.Cond.code (⟨"java/lang/String", "checkBoundsOffCount", "(III)I"⟩ : MethodName) jdk_42_method_157_code 3 (some .int) :: wc) ({ frames := 1, cells := 0, slots := 0, locals := 15 } : Room) #[(.int 0), (.int 4), (.int 4)] h0 [] (fun vq hq => vq = some (.int 0)) := by
  refine own_enter #[.val (.int 0), .val (.int 4), .val (.int 4)] pn_java_lang_String_checkBoundsOffCount__III_I (ef_rt_cbo4) hWd.1 O0 all0 ?_
  intro p e s m below meth c T0 X0 hnm hret
  refine og_iloadN X0 1 d29_0 rfl rfl ?_
  refine og_iloadN X0 2 d29_1 rfl rfl ?_
  refine og_iloadN X0 3 d29_2 rfl rfl ?_
  refine own_getS X0 6 d29_3 (host := "") (Or.inl (ow hw 81 rfl)) Via.refl hWd.2.2.1.1 rfl ?_
  intro T1 X2
  refine own_stat X2 9 (argsL := [(.int 0), (.int 4), (.int 4), (own_stv Z "jdk/internal/util/Preconditions" "SIOOBE_FORMATTER" "Ljava/util/function/BiFunction;")]) (rest := []) d29_6 (rt_cfi4 l Z a0 hw n0 h0 hWd [] X2.old (own_stv Z "jdk/internal/util/Preconditions" "SIOOBE_FORMATTER" "Ljava/util/function/BiFunction;") hWd.2.2.1.2 ) (ow hw 124 rfl) (ow hw 125 rfl) (ow hw 82 rfl) (ow hw 126 rfl) (by decide) (lenOf pd__28IIILjava_2futil_2ffunction_2fBiFunction_3b_29I rfl) rfl rfl rfl (W := 0) rfl (by decide) (by decide) (by decide) (by decide) all0 rfl ?_
  intro T3 h3 v3 X3 K3 hQ3
  obtain rfl := hQ3
  show OGo _ _ _ _ T3 (mkF m 9 #[.val (.int 0), .val (.int 4), .val (.int 4)] [(.int 0)])
  refine own_retI X3 d29_9 hret (by decide) (by decide) ?_
  exact rfl
theorem rt_ucb4 (l : Launch) (Z : State) (a0 : Array Value) (hw : ∀ d ∈ tables_1, d.before a0 Z = true) (n0 : Nat) (h0 : Heap) (hWd : OWorld Z a0) (wc : List Jvm.Cond) (O0 : Old Z n0 h0) (b : Addr) (kb : ClassId) (x0 : Int32) (x1 : Int32) (x2 : Int32) (x3 : Int32) (q0 : Arv Z h0 b kb .byte (8 : Int32) [(.int (StrChars.lo8 x0)), (.int (StrChars.hi8 x0)), (.int (StrChars.lo8 x1)), (.int (StrChars.hi8 x1)), (.int (StrChars.lo8 x2)), (.int (StrChars.hi8 x2)), (.int (StrChars.lo8 x3)), (.int (StrChars.hi8 x3))] (.int 0)) :
    OMet l Z own_EL n0 (⟨"java/lang/StringUTF16", "checkBoundsOffCount", "(II[B)V"⟩ : MethodName) (Jvm.Cond.code (⟨"java/lang/StringUTF16", "checkBoundsOffCount", "(II[B)V"⟩ : MethodName) jdk_52_method_94_code 3 none :: wc) ({ frames := 2, cells := 0, slots := 0, locals := 29 } : Room) #[(.int 0), (.int 4), (.ref b)] h0 [] (fun vq hq => vq = none) := by
  refine own_enter #[.val (.int 0), .val (.int 4), .val (.ref b)] pn_java_lang_StringUTF16_checkBoundsOffCount__II_B_V (ef_rt_ucb4 b kb x0 x1 x2 x3) hWd.1 O0 all0 ?_
  intro p e s m below meth c T0 X0 hnm hret
  refine og_iloadN X0 1 d27_0 rfl rfl ?_
  refine og_iloadN X0 2 d27_1 rfl rfl ?_
  refine og_aloadN X0 3 d27_2 rfl rfl rfl ?_
  refine own_stat X0 6 (argsL := [(.ref b)]) (rest := [(.int 4), (.int 0)]) d27_3 (rg_len l Z a0 hw n0 h0 hWd [] X0.old b kb [x0, x1, x2, x3] q0 (Nat.le_of_ble_eq_true rfl) ) (ow hw 118 rfl) (ow hw 119 rfl) (ow hw 59 rfl) (ow hw 120 rfl) (by decide) (lenOf pd__28_5bB_29I rfl) rfl rfl rfl (W := 2) rfl (by decide) (by decide) (by decide) (by decide) all0 rfl ?_
  intro T1 h1 v1 X1 K1 hQ1
  obtain rfl := hQ1
  show OGo _ _ _ _ T1 (mkF m 6 #[.val (.int 0), .val (.int 4), .val (.ref b)] [(.int (Int32.ofNat ([x0, x1, x2, x3]).length)), (.int 4), (.int 0)])
  show OGo _ _ _ _ T1 (mkF m 6 #[.val (.int 0), .val (.int 4), .val (.ref b)] [(.int 4), (.int 4), (.int 0)])
  refine own_stat X1 9 (argsL := [(.int 0), (.int 4), (.int 4)]) (rest := []) d27_6 (rt_cbo4 l Z a0 hw n0 h1 hWd [] X1.old   ) (ow hw 121 rfl) (ow hw 122 rfl) (ow hw 4 rfl) (ow hw 123 rfl) (by decide) (lenOf pd__28III_29I rfl) rfl rfl rfl (W := 0) rfl (by decide) (by decide) (by decide) (by decide) all0 rfl ?_
  intro T2 h2 v2 X2 K2 hQ2
  obtain rfl := hQ2
  show OGo _ _ _ _ T2 (mkF m 9 #[.val (.int 0), .val (.int 4), .val (.ref b)] [(.int 0)])
  refine og_pop X2 10 d27_9 rfl rfl ?_
  refine own_retV X2 d27_10 hret (by decide) (by decide) ?_
  exact rfl
theorem rt_gcs4 (l : Launch) (Z : State) (a0 : Array Value) (hw : ∀ d ∈ tables_1, d.before a0 Z = true) (n0 : Nat) (h0 : Heap) (hWd : OWorld Z a0) (wc : List Jvm.Cond) (O0 : Old Z n0 h0) (b : Addr) (kb : ClassId) (d : Addr) (kd : ClassId) (x0 : Int32) (x1 : Int32) (x2 : Int32) (x3 : Int32) (q0 : Arv Z h0 b kb .byte (8 : Int32) [(.int (StrChars.lo8 x0)), (.int (StrChars.hi8 x0)), (.int (StrChars.lo8 x1)), (.int (StrChars.hi8 x1)), (.int (StrChars.lo8 x2)), (.int (StrChars.hi8 x2)), (.int (StrChars.lo8 x3)), (.int (StrChars.hi8 x3))] (.int 0)) (q1 : Arv Z h0 d kd .char (4 : Int32) [(.int 0), (.int 0), (.int 0), (.int 0)] (.int 0)) (q2 : b ≠ d) (g0 : n0 ≤ d ∧ d < h0.size) :
    OMet l Z own_EL n0 (⟨"java/lang/StringUTF16", "getChars", "([BII[CI)V"⟩ : MethodName) (Jvm.Cond.code (⟨"java/lang/StringUTF16", "getChars", "([BII[CI)V"⟩ : MethodName) jdk_52_method_26_code 6 none :: wc) ({ frames := 3, cells := 0, slots := 0, locals := 43 } : Room) #[(.ref b), (.int 0), (.int 4), (.ref d), (.int 0)] h0 [d] (fun vq hq => vq = none ∧ Arv Z hq d kd .char (4 : Int32) [(.int (StrChars.pairCh (StrChars.lo8 x0) (StrChars.hi8 x0))), (.int (StrChars.pairCh (StrChars.lo8 x1) (StrChars.hi8 x1))), (.int (StrChars.pairCh (StrChars.lo8 x2) (StrChars.hi8 x2))), (.int (StrChars.pairCh (StrChars.lo8 x3) (StrChars.hi8 x3)))] (.int 0)) := by
  refine own_enter #[.val (.ref b), .val (.int 0), .val (.int 4), .val (.ref d), .val (.int 0), .unset] pn_java_lang_StringUTF16_getChars___BII_CI_V (ef_rt_gcs4 b kb d kd x0 x1 x2 x3) hWd.1 O0 (allS g0 all0) ?_
  intro p e s m below meth c T0 X0 hnm hret
  refine og_iloadN X0 1 d26_0 rfl rfl ?_
  refine og_iloadN X0 2 d26_1 rfl rfl ?_
  refine og_icmpN X0 5 d26_2 (XT.ii_ge_f (by decide)) rfl ?_
  refine og_iloadN X0 6 d26_5 rfl rfl ?_
  refine og_iloadN X0 7 d26_6 rfl rfl ?_
  refine og_iloadN X0 8 d26_7 rfl rfl ?_
  refine og_isub X0 9 d26_8 rfl ?_
  show OGo _ _ _ _ T0 (mkF m 9 #[.val (.ref b), .val (.int 0), .val (.int 4), .val (.ref d), .val (.int 0), .unset] [(.int 4), (.int 0)])
  refine og_aloadN X0 10 d26_9 rfl rfl rfl ?_
  refine own_stat X0 13 (argsL := [(.int 0), (.int 4), (.ref b)]) (rest := []) d26_10 (rt_ucb4 l Z a0 hw n0 h0 hWd [] X0.old b kb x0 x1 x2 x3 q0 ) (ow hw 115 rfl) (ow hw 116 rfl) (ow hw 59 rfl) (ow hw 117 rfl) (by decide) (lenOf pd__28II_5bB_29V rfl) rfl rfl rfl (W := 0) rfl (by decide) (by decide) (by decide) (by decide) all0 rfl ?_
  intro T1 h1 v1 X1 K1 hQ1
  obtain rfl := hQ1
  show OGo _ _ _ _ T1 (mkF m 13 #[.val (.ref b), .val (.int 0), .val (.int 4), .val (.ref d), .val (.int 0), .unset] [])
  refine og_iloadN X1 14 d26_13 rfl rfl ?_
  refine og_istore X1 16 #[.val (.ref b), .val (.int 0), .val (.int 4), .val (.ref d), .val (.int 0), .val (.int 0)] d26_14 rfl rfl ?_
  refine og_iload X1 18 d26_16 rfl rfl ?_
  refine og_iloadN X1 19 d26_18 rfl rfl ?_
  refine og_icmpN X1 22 d26_19 (XT.ii_ge_f (by decide)) rfl ?_
  refine og_aloadN X1 23 d26_22 rfl rfl rfl ?_
  refine og_iload X1 25 d26_23 rfl rfl ?_
  refine og_iinc X1 28 #[.val (.ref b), .val (.int 0), .val (.int 4), .val (.ref d), .val (.int 1), .val (.int 0)] d26_25 rfl rfl rfl ?_
  refine og_aloadN X1 29 d26_28 rfl rfl rfl ?_
  refine og_iload X1 31 d26_29 rfl rfl ?_
  have f2 := q0.keep K1 nin0
  refine own_stat X1 34 (argsL := [(.ref b), (.int 0)]) (rest := [(.int 0), (.ref d)]) d26_31 (rg_get l Z a0 hw n0 h1 hWd [] X1.old b kb [x0, x1, x2, x3] 0 f2 (Nat.le_of_ble_eq_true rfl) (Nat.le_of_ble_eq_true rfl) ) (ow hw 106 rfl) (ow hw 107 rfl) (ow hw 59 rfl) (ow hw 108 rfl) (by decide) (lenOf pd__28_5bBI_29C rfl) rfl rfl rfl (W := 2) rfl (by decide) (by decide) (by decide) (by decide) all0 rfl ?_
  intro T3 h3 v3 X3 K3 hQ3
  obtain rfl := hQ3
  show OGo _ _ _ _ T3 (mkF m 34 #[.val (.ref b), .val (.int 0), .val (.int 4), .val (.ref d), .val (.int 1), .val (.int 0)] [(.int (StrChars.pairCh (StrChars.lo8 x0) (StrChars.hi8 x0))), (.int 0), (.ref d)])
  have f4 := q1.keep K1 nin0
  have f5 := f4.keep K3 nin0
  refine own_stC X3 35 d26_34 f5 (own_ncc _) (by decide) (by decide) (i := 0) (by decide) (Nat.le_of_ble_eq_true rfl) (om 0 rfl) rfl ?_
  intro T6 h6 X6 W6 K6 A6
  have f7 : Arv Z h6 d kd .char (4 : Int32) [(.int (StrChars.pairCh (StrChars.lo8 x0) (StrChars.hi8 x0))), (.int 0), (.int 0), (.int 0)] (.int 0) := A6
  refine og_iinc X6 38 #[.val (.ref b), .val (.int 0), .val (.int 4), .val (.ref d), .val (.int 1), .val (.int 1)] d26_35 rfl rfl rfl ?_
  refine og_goto X6 16 d26_38 (by decide) (by decide) ?_
  refine og_iload X6 18 d26_16 rfl rfl ?_
  refine og_iloadN X6 19 d26_18 rfl rfl ?_
  refine og_icmpN X6 22 d26_19 (XT.ii_ge_f (by decide)) rfl ?_
  refine og_aloadN X6 23 d26_22 rfl rfl rfl ?_
  refine og_iload X6 25 d26_23 rfl rfl ?_
  refine og_iinc X6 28 #[.val (.ref b), .val (.int 0), .val (.int 4), .val (.ref d), .val (.int 2), .val (.int 1)] d26_25 rfl rfl rfl ?_
  refine og_aloadN X6 29 d26_28 rfl rfl rfl ?_
  refine og_iload X6 31 d26_29 rfl rfl ?_
  have f8 := f2.keep K3 nin0
  have f9 := f8.keep K6 (ninS q2 nin0)
  refine own_stat X6 34 (argsL := [(.ref b), (.int 1)]) (rest := [(.int 1), (.ref d)]) d26_31 (rg_get l Z a0 hw n0 h6 hWd [] X6.old b kb [x0, x1, x2, x3] 1 f9 (Nat.le_of_ble_eq_true rfl) (Nat.le_of_ble_eq_true rfl) ) (ow hw 106 rfl) (ow hw 107 rfl) (ow hw 59 rfl) (ow hw 108 rfl) (by decide) (lenOf pd__28_5bBI_29C rfl) rfl rfl rfl (W := 2) rfl (by decide) (by decide) (by decide) (by decide) all0 rfl ?_
  intro T10 h10 v10 X10 K10 hQ10
  obtain rfl := hQ10
  show OGo _ _ _ _ T10 (mkF m 34 #[.val (.ref b), .val (.int 0), .val (.int 4), .val (.ref d), .val (.int 2), .val (.int 1)] [(.int (StrChars.pairCh (StrChars.lo8 x1) (StrChars.hi8 x1))), (.int 1), (.ref d)])
  have f11 := f7.keep K10 nin0
  refine own_stC X10 35 d26_34 f11 (own_ncc _) (by decide) (by decide) (i := 1) (by decide) (Nat.le_of_ble_eq_true rfl) (om 0 rfl) rfl ?_
  intro T12 h12 X12 W12 K12 A12
  have f13 : Arv Z h12 d kd .char (4 : Int32) [(.int (StrChars.pairCh (StrChars.lo8 x0) (StrChars.hi8 x0))), (.int (StrChars.pairCh (StrChars.lo8 x1) (StrChars.hi8 x1))), (.int 0), (.int 0)] (.int 0) := A12
  refine og_iinc X12 38 #[.val (.ref b), .val (.int 0), .val (.int 4), .val (.ref d), .val (.int 2), .val (.int 2)] d26_35 rfl rfl rfl ?_
  refine og_goto X12 16 d26_38 (by decide) (by decide) ?_
  refine og_iload X12 18 d26_16 rfl rfl ?_
  refine og_iloadN X12 19 d26_18 rfl rfl ?_
  refine og_icmpN X12 22 d26_19 (XT.ii_ge_f (by decide)) rfl ?_
  refine og_aloadN X12 23 d26_22 rfl rfl rfl ?_
  refine og_iload X12 25 d26_23 rfl rfl ?_
  refine og_iinc X12 28 #[.val (.ref b), .val (.int 0), .val (.int 4), .val (.ref d), .val (.int 3), .val (.int 2)] d26_25 rfl rfl rfl ?_
  refine og_aloadN X12 29 d26_28 rfl rfl rfl ?_
  refine og_iload X12 31 d26_29 rfl rfl ?_
  have f14 := f9.keep K10 nin0
  have f15 := f14.keep K12 (ninS q2 nin0)
  refine own_stat X12 34 (argsL := [(.ref b), (.int 2)]) (rest := [(.int 2), (.ref d)]) d26_31 (rg_get l Z a0 hw n0 h12 hWd [] X12.old b kb [x0, x1, x2, x3] 2 f15 (Nat.le_of_ble_eq_true rfl) (Nat.le_of_ble_eq_true rfl) ) (ow hw 106 rfl) (ow hw 107 rfl) (ow hw 59 rfl) (ow hw 108 rfl) (by decide) (lenOf pd__28_5bBI_29C rfl) rfl rfl rfl (W := 2) rfl (by decide) (by decide) (by decide) (by decide) all0 rfl ?_
  intro T16 h16 v16 X16 K16 hQ16
  obtain rfl := hQ16
  show OGo _ _ _ _ T16 (mkF m 34 #[.val (.ref b), .val (.int 0), .val (.int 4), .val (.ref d), .val (.int 3), .val (.int 2)] [(.int (StrChars.pairCh (StrChars.lo8 x2) (StrChars.hi8 x2))), (.int 2), (.ref d)])
  have f17 := f13.keep K16 nin0
  refine own_stC X16 35 d26_34 f17 (own_ncc _) (by decide) (by decide) (i := 2) (by decide) (Nat.le_of_ble_eq_true rfl) (om 0 rfl) rfl ?_
  intro T18 h18 X18 W18 K18 A18
  have f19 : Arv Z h18 d kd .char (4 : Int32) [(.int (StrChars.pairCh (StrChars.lo8 x0) (StrChars.hi8 x0))), (.int (StrChars.pairCh (StrChars.lo8 x1) (StrChars.hi8 x1))), (.int (StrChars.pairCh (StrChars.lo8 x2) (StrChars.hi8 x2))), (.int 0)] (.int 0) := A18
  refine og_iinc X18 38 #[.val (.ref b), .val (.int 0), .val (.int 4), .val (.ref d), .val (.int 3), .val (.int 3)] d26_35 rfl rfl rfl ?_
  refine og_goto X18 16 d26_38 (by decide) (by decide) ?_
  refine og_iload X18 18 d26_16 rfl rfl ?_
  refine og_iloadN X18 19 d26_18 rfl rfl ?_
  refine og_icmpN X18 22 d26_19 (XT.ii_ge_f (by decide)) rfl ?_
  refine og_aloadN X18 23 d26_22 rfl rfl rfl ?_
  refine og_iload X18 25 d26_23 rfl rfl ?_
  refine og_iinc X18 28 #[.val (.ref b), .val (.int 0), .val (.int 4), .val (.ref d), .val (.int 4), .val (.int 3)] d26_25 rfl rfl rfl ?_
  refine og_aloadN X18 29 d26_28 rfl rfl rfl ?_
  refine og_iload X18 31 d26_29 rfl rfl ?_
  have f20 := f15.keep K16 nin0
  have f21 := f20.keep K18 (ninS q2 nin0)
  refine own_stat X18 34 (argsL := [(.ref b), (.int 3)]) (rest := [(.int 3), (.ref d)]) d26_31 (rg_get l Z a0 hw n0 h18 hWd [] X18.old b kb [x0, x1, x2, x3] 3 f21 (Nat.le_of_ble_eq_true rfl) (Nat.le_of_ble_eq_true rfl) ) (ow hw 106 rfl) (ow hw 107 rfl) (ow hw 59 rfl) (ow hw 108 rfl) (by decide) (lenOf pd__28_5bBI_29C rfl) rfl rfl rfl (W := 2) rfl (by decide) (by decide) (by decide) (by decide) all0 rfl ?_
  intro T22 h22 v22 X22 K22 hQ22
  obtain rfl := hQ22
  show OGo _ _ _ _ T22 (mkF m 34 #[.val (.ref b), .val (.int 0), .val (.int 4), .val (.ref d), .val (.int 4), .val (.int 3)] [(.int (StrChars.pairCh (StrChars.lo8 x3) (StrChars.hi8 x3))), (.int 3), (.ref d)])
  have f23 := f19.keep K22 nin0
  refine own_stC X22 35 d26_34 f23 (own_ncc _) (by decide) (by decide) (i := 3) (by decide) (Nat.le_of_ble_eq_true rfl) (om 0 rfl) rfl ?_
  intro T24 h24 X24 W24 K24 A24
  have f25 : Arv Z h24 d kd .char (4 : Int32) [(.int (StrChars.pairCh (StrChars.lo8 x0) (StrChars.hi8 x0))), (.int (StrChars.pairCh (StrChars.lo8 x1) (StrChars.hi8 x1))), (.int (StrChars.pairCh (StrChars.lo8 x2) (StrChars.hi8 x2))), (.int (StrChars.pairCh (StrChars.lo8 x3) (StrChars.hi8 x3)))] (.int 0) := A24
  refine og_iinc X24 38 #[.val (.ref b), .val (.int 0), .val (.int 4), .val (.ref d), .val (.int 4), .val (.int 4)] d26_35 rfl rfl rfl ?_
  refine og_goto X24 16 d26_38 (by decide) (by decide) ?_
  refine og_iload X24 18 d26_16 rfl rfl ?_
  refine og_iloadN X24 19 d26_18 rfl rfl ?_
  refine og_icmpY X24 41 d26_19 (XT.ii_ge_t (by decide)) (by decide) (by decide) ?_
  refine own_retV X24 d26_41 hret (by decide) (by decide) ?_
  exact ⟨rfl, f25⟩
theorem rt_utc4 (l : Launch) (Z : State) (a0 : Array Value) (hw : ∀ d ∈ tables_1, d.before a0 Z = true) (n0 : Nat) (h0 : Heap) (hWd : OWorld Z a0) (wc : List Jvm.Cond) (O0 : Old Z n0 h0) (b : Addr) (kb : ClassId) (x0 : Int32) (x1 : Int32) (x2 : Int32) (x3 : Int32) (q0 : Arv Z h0 b kb .byte (8 : Int32) [(.int (StrChars.lo8 x0)), (.int (StrChars.hi8 x0)), (.int (StrChars.lo8 x1)), (.int (StrChars.hi8 x1)), (.int (StrChars.lo8 x2)), (.int (StrChars.hi8 x2)), (.int (StrChars.lo8 x3)), (.int (StrChars.hi8 x3))] (.int 0)) :
    OMet l Z own_EL n0 (⟨"java/lang/StringUTF16", "toChars", "([B)[C"⟩ : MethodName) (Jvm.Cond.code (⟨"java/lang/StringUTF16", "toChars", "([B)[C"⟩ : MethodName) jdk_52_method_13_code 2 (some (.array .char)) :: wc) ({ frames := 4, cells := 1, slots := 4, locals := 60 } : Room) #[(.ref b)] h0 [] (fun vq hq => ∃ (r : Addr) (kr : ClassId), vq = some (.ref r) ∧ h0.size ≤ r ∧ Arv Z hq r kr .char (4 : Int32) [(.int (StrChars.pairCh (StrChars.lo8 x0) (StrChars.hi8 x0))), (.int (StrChars.pairCh (StrChars.lo8 x1) (StrChars.hi8 x1))), (.int (StrChars.pairCh (StrChars.lo8 x2) (StrChars.hi8 x2))), (.int (StrChars.pairCh (StrChars.lo8 x3) (StrChars.hi8 x3)))] (.int 0)) := by
  refine own_enter #[.val (.ref b), .unset] pn_java_lang_StringUTF16_toChars___B__C (ef_rt_utc4 b kb x0 x1 x2 x3) hWd.1 O0 all0 ?_
  intro p e s m below meth c T0 X0 hnm hret
  refine og_aloadN X0 1 d25_0 rfl rfl rfl ?_
  refine own_len X0 2 d25_1 q0 rfl ?_
  refine og_iconst X0 3 (1 : Int32) d25_2 rfl rfl ?_
  refine og_ishr X0 4 d25_3 rfl ?_
  show OGo _ _ _ _ T0 (mkF m 4 #[.val (.ref b), .unset] [(.int 4)])
  refine own_arr X0 6 d25_4 (ow hw 1 rfl) (by decide) (cap := 4) (by decide) (by decide) (by decide) (by decide) rfl ?_
  intro T1 h1 b1 kb1 X1 K1 G1 U1 A1
  have f2 : Arv Z h1 b1 kb1 .char (4 : Int32) [(.int 0), (.int 0), (.int 0), (.int 0)] (.int 0) := A1
  refine og_astoreN X1 7 #[.val (.ref b), .val (.ref b1)] d25_6 rfl rfl rfl ?_
  refine og_aloadN X1 8 d25_7 rfl rfl rfl ?_
  refine og_iconst X1 9 (0 : Int32) d25_8 rfl rfl ?_
  refine og_aloadN X1 10 d25_9 rfl rfl rfl ?_
  refine own_len X1 11 d25_10 f2 rfl ?_
  refine og_aloadN X1 12 d25_11 rfl rfl rfl ?_
  refine og_iconst X1 13 (0 : Int32) d25_12 rfl rfl ?_
  have f3 := q0.keep K1 nin0
  refine own_stat X1 16 (argsL := [(.ref b), (.int 0), (.int 4), (.ref b1), (.int 0)]) (rest := []) d25_13 (rt_gcs4 l Z a0 hw n0 h1 hWd [] X1.old b kb b1 kb1 x0 x1 x2 x3 f3 f2 (Nat.ne_of_lt (Nat.lt_of_lt_of_le q0.lt G1)) (own_svb X1 (om 0 rfl))) (ow hw 112 rfl) (ow hw 113 rfl) (ow hw 59 rfl) (ow hw 114 rfl) (by decide) (lenOf pd__28_5bBII_5bCI_29V rfl) rfl rfl rfl (W := 0) rfl (by decide) (by decide) (by decide) (by decide) (allS (om 0 rfl) all0) rfl ?_
  intro T4 h4 v4 X4 K4 hQ4
  obtain ⟨rfl, f5⟩ := hQ4
  show OGo _ _ _ _ T4 (mkF m 16 #[.val (.ref b), .val (.ref b1)] [])
  refine og_aloadN X4 17 d25_16 rfl rfl rfl ?_
  refine own_retA X4 d25_17 hret rfl rfl (by decide) (by decide) ?_
  exact ⟨b1, kb1, rfl, G1, f5⟩
theorem rt_tca4 (l : Launch) (Z : State) (a0 : Array Value) (hw : ∀ d ∈ tables_1, d.before a0 Z = true) (n0 : Nat) (h0 : Heap) (hWd : OWorld Z a0) (wc : List Jvm.Cond) (O0 : Old Z n0 h0) (a : Addr) (x0 : Int32) (x1 : Int32) (x2 : Int32) (x3 : Int32) (q0 : OStr Z h0 a [x0, x1, x2, x3] h0.size) :
    OMet l Z own_EL n0 (⟨"java/lang/String", "toCharArray", "()[C"⟩ : MethodName) (Jvm.Cond.code (⟨"java/lang/String", "toCharArray", "()[C"⟩ : MethodName) jdk_42_method_129_code 1 (some (.array .char)) :: wc) ({ frames := 5, cells := 1, slots := 4, locals := 73 } : Room) #[(.ref a)] h0 [] (fun vq hq => ∃ (r : Addr) (kr : ClassId), vq = some (.ref r) ∧ h0.size ≤ r ∧ Arv Z hq r kr .char (4 : Int32) [(.int x0), (.int x1), (.int x2), (.int x3)] (.int 0)) := by
  refine own_enter #[.val (.ref a)] pn_java_lang_String_toCharArray____C (ef_rt_tca4 a x0 x1 x2 x3) hWd.1 O0 all0 ?_
  intro p e s m below meth c T0 X0 hnm hret
  obtain ⟨t, kt, cd, NN, vv, eE, eC, eV, eA, cod, bd, -⟩ := q0
  rcases cod with ⟨rfl, rfl, rfl, lat⟩ | ⟨rfl, rfl, rfl, wid⟩
  · -- coder 0
    have eA2 : Arv Z h0 t kt .byte (4 : Int32) [(.int (StrChars.lo8 x0)), (.int (StrChars.lo8 x1)), (.int (StrChars.lo8 x2)), (.int (StrChars.lo8 x3))] (.int 0) := eA
    refine og_aloadN X0 1 d5_0 rfl rfl rfl ?_
    refine own_virt X0 4 (a := a) (argsL := []) (rest := []) d5_1 eE (fun _ hZ => notFace_of_selects (args := #[]) (mvT hZ (ow hw 35 rfl))) (ru_isl0 l Z a0 hw n0 h0 hWd [] X0.old a eC ) (ow hw 32 rfl) (ow hw 33 rfl) (ow hw 35 rfl) (ow hw 34 rfl) (ow hw 4 rfl) (ow hw 36 rfl) (by decide) (lenOf pd__28_29Z rfl) rfl rfl rfl (W := 0) rfl (by decide) (by decide) (by decide) (by decide) all0 rfl ?_
    intro T1 h1 v1 X1 K1 hQ1
    obtain rfl := hQ1
    show OGo _ _ _ _ T1 (mkF m 4 #[.val (.ref a)] [(.int 1)])
    refine og_ifN X1 7 d5_4 (XT.i0_eq_f (by decide)) rfl ?_
    refine og_aloadN X1 8 d5_7 rfl rfl rfl ?_
    have f2 := eV.keep K1 nin0
    refine own_get X1 11 d5_8 (host := "") (Or.inl (ow hw 21 rfl)) Via.refl f2 rfl ?_
    intro T3 X4
    have f5 := eA2.keep K1 nin0
    refine own_stat X4 14 (argsL := [(.ref t)]) (rest := []) d5_11 (rt_ltc4 l Z a0 hw n0 h1 hWd [] X4.old t kt (.int 0) (StrChars.lo8 x0) (StrChars.lo8 x1) (StrChars.lo8 x2) (StrChars.lo8 x3) f5 ) (ow hw 38 rfl) (ow hw 39 rfl) (ow hw 40 rfl) (ow hw 41 rfl) (by decide) (lenOf pd__28_5bB_29_5bC rfl) rfl rfl rfl (W := 0) rfl (by decide) (by decide) (by decide) (by decide) all0 rfl ?_
    intro T6 h6 v6 X6 K6 hQ6
    obtain ⟨r6, kr6, rfl, ge_r6, f7⟩ := hQ6
    show OGo _ _ _ _ T6 (mkF m 14 #[.val (.ref a)] [(.ref r6)])
    refine og_goto X6 24 d5_14 (by decide) (by decide) ?_
    refine own_retA X6 d5_24 hret rfl rfl (by decide) (by decide) ?_
    exact ⟨_, _, rfl, (Nat.le_trans K1.1 ge_r6), by have q := f7; simp only [StrChars.lo8_mask (bd _ (om 0 rfl)).1 (lat _ (om 0 rfl)), StrChars.lo8_mask (bd _ (om 1 rfl)).1 (lat _ (om 1 rfl)), StrChars.lo8_mask (bd _ (om 2 rfl)).1 (lat _ (om 2 rfl)), StrChars.lo8_mask (bd _ (om 3 rfl)).1 (lat _ (om 3 rfl))] at q; exact q⟩
  · -- coder 1
    have eA2 : Arv Z h0 t kt .byte (8 : Int32) [(.int (StrChars.lo8 x0)), (.int (StrChars.hi8 x0)), (.int (StrChars.lo8 x1)), (.int (StrChars.hi8 x1)), (.int (StrChars.lo8 x2)), (.int (StrChars.hi8 x2)), (.int (StrChars.lo8 x3)), (.int (StrChars.hi8 x3))] (.int 0) := eA
    refine og_aloadN X0 1 d5_0 rfl rfl rfl ?_
    refine own_virt X0 4 (a := a) (argsL := []) (rest := []) d5_1 eE (fun _ hZ => notFace_of_selects (args := #[]) (mvT hZ (ow hw 35 rfl))) (ru_isl1 l Z a0 hw n0 h0 hWd [] X0.old a eC ) (ow hw 32 rfl) (ow hw 33 rfl) (ow hw 35 rfl) (ow hw 34 rfl) (ow hw 4 rfl) (ow hw 36 rfl) (by decide) (lenOf pd__28_29Z rfl) rfl rfl rfl (W := 0) rfl (by decide) (by decide) (by decide) (by decide) all0 rfl ?_
    intro T8 h8 v8 X8 K8 hQ8
    obtain rfl := hQ8
    show OGo _ _ _ _ T8 (mkF m 4 #[.val (.ref a)] [(.int 0)])
    refine og_ifY X8 17 d5_4 (XT.i0_eq_t (by decide)) (by decide) (by decide) ?_
    refine og_aloadN X8 18 d5_17 rfl rfl rfl ?_
    have f9 := eV.keep K8 nin0
    refine own_get X8 21 d5_18 (host := "") (Or.inl (ow hw 21 rfl)) Via.refl f9 rfl ?_
    intro T10 X11
    have f12 := eA2.keep K8 nin0
    refine own_stat X11 24 (argsL := [(.ref t)]) (rest := []) d5_21 (rt_utc4 l Z a0 hw n0 h8 hWd [] X11.old t kt x0 x1 x2 x3 f12 ) (ow hw 109 rfl) (ow hw 110 rfl) (ow hw 59 rfl) (ow hw 111 rfl) (by decide) (lenOf pd__28_5bB_29_5bC rfl) rfl rfl rfl (W := 0) rfl (by decide) (by decide) (by decide) (by decide) all0 rfl ?_
    intro T13 h13 v13 X13 K13 hQ13
    obtain ⟨r13, kr13, rfl, ge_r13, f14⟩ := hQ13
    show OGo _ _ _ _ T13 (mkF m 24 #[.val (.ref a)] [(.ref r13)])
    refine own_retA X13 d5_24 hret rfl rfl (by decide) (by decide) ?_
    exact ⟨_, _, rfl, (Nat.le_trans K8.1 ge_r13), by have q := f14; simp only [StrChars.pair_says (bd _ (om 0 rfl)).1 (bd _ (om 0 rfl)).2, StrChars.pair_says (bd _ (om 1 rfl)).1 (bd _ (om 1 rfl)).2, StrChars.pair_says (bd _ (om 2 rfl)).1 (bd _ (om 2 rfl)).2, StrChars.pair_says (bd _ (om 3 rfl)).1 (bd _ (om 3 rfl)).2] at q; exact q⟩
theorem rm14 (l : Launch) (Z : State) (a0 : Array Value) (hw : ∀ d ∈ tables_1, d.before a0 Z = true) (n0 : Nat) (h0 : Heap) (hWd : OWorld Z a0) (wc : List Jvm.Cond) (O0 : Old Z n0 h0) (x : Int32) (q0 : ¬ x < 0) (q1 : ¬ (65535 : Int32) < x) :
    OMet l Z own_EL n0 (⟨"com/example/roleward/roleward/http/Ascii", "lower", "(C)C"⟩ : MethodName) (Jvm.Cond.code (⟨"com/example/roleward/roleward/http/Ascii", "lower", "(C)C"⟩ : MethodName) prog_5_method_4_code 1 (some .char) :: wc) ({ frames := 0, cells := 0, slots := 0, locals := 0 } : Room) #[(.int x)] h0 [] (fun vq hq => vq = some (.int (own_low x))) := by
  refine own_enter #[.val (.int x)] pn_com_example_roleward_roleward_http_Ascii_lower__C_C (ef_rm14 x) hWd.1 O0 all0 ?_
  intro p e s m below meth c T0 X0 hnm hret
  refine og_iloadN X0 1 d14_0 rfl rfl ?_
  refine og_bipush X0 3 (65 : Int32) d14_1 rfl rfl ?_
  by_cases hc1 : x < (65 : Int32)
  · -- x < (65 : Int32)
    refine og_icmpY X0 20 d14_3 (XT.ii_lt_t hc1) (by decide) (by decide) ?_
    refine og_iloadN X0 21 d14_20 rfl rfl ?_
    refine own_retC X0 d14_21 hret (own_fitC q0 q1) (by decide) (by decide) ?_
    rw [own_low, if_pos hc1]
  · -- not
    refine og_icmpN X0 6 d14_3 (XT.ii_lt_f hc1) rfl ?_
    refine og_iloadN X0 7 d14_6 rfl rfl ?_
    refine og_bipush X0 9 (90 : Int32) d14_7 rfl rfl ?_
    by_cases hc2 : (90 : Int32) < x
    · -- (90 : Int32) < x
      refine og_icmpY X0 20 d14_9 (XT.ii_gt_t hc2) (by decide) (by decide) ?_
      refine og_iloadN X0 21 d14_20 rfl rfl ?_
      refine own_retC X0 d14_21 hret (own_fitC q0 q1) (by decide) (by decide) ?_
      rw [own_low, if_neg hc1, if_pos hc2]
    · -- not
      refine og_icmpN X0 12 d14_9 (XT.ii_gt_f hc2) rfl ?_
      refine og_iloadN X0 13 d14_12 rfl rfl ?_
      refine og_bipush X0 15 (32 : Int32) d14_13 rfl rfl ?_
      refine og_iadd X0 16 d14_15 rfl ?_
      refine og_i2c X0 17 d14_16 rfl ?_
      refine og_goto X0 21 d14_17 (by decide) (by decide) ?_
      refine own_retC X0 d14_21 hret (own_fitC (own_lat16 _).1 (own_lat16 _).2) (by decide) (by decide) ?_
      rw [own_low, if_neg hc1, if_neg hc2]
theorem rm19 (l : Launch) (Z : State) (a0 : Array Value) (hw : ∀ d ∈ tables_1, d.before a0 Z = true) (n0 : Nat) (h0 : Heap) (hWd : OWorld Z a0) (wc : List Jvm.Cond) (O0 : Old Z n0 h0) (x : Int32) (q0 : ¬ x < 0) (q1 : ¬ (65535 : Int32) < x) :
    OMet l Z own_EL n0 (⟨"com/example/roleward/roleward/http/AsciiToLowerCasePinLaw", "expect", "(C)C"⟩ : MethodName) (Jvm.Cond.code (⟨"com/example/roleward/roleward/http/AsciiToLowerCasePinLaw", "expect", "(C)C"⟩ : MethodName) method_3_code 2 (some .char) :: wc) ({ frames := 0, cells := 0, slots := 0, locals := 0 } : Room) #[(.int x)] h0 [] (fun vq hq => vq = some (.int (own_low x))) := by
  refine own_enter #[.val (.int x), .unset] pn_com_example_roleward_roleward_http_AsciiToLowerCasePinLaw_expect__C_C (ef_rm19 x) hWd.1 O0 all0 ?_
  intro p e s m below meth c T0 X0 hnm hret
  refine og_iloadN X0 1 d19_0 rfl rfl ?_
  refine og_istoreN X0 2 #[.val (.int x), .val (.int x)] d19_1 rfl rfl ?_
  refine og_iloadN X0 3 d19_2 rfl rfl ?_
  refine og_bipush X0 5 (65 : Int32) d19_3 rfl rfl ?_
  by_cases hc1 : x < (65 : Int32)
  · -- x < (65 : Int32)
    refine og_icmpY X0 20 d19_5 (XT.ii_lt_t hc1) (by decide) (by decide) ?_
    refine og_iloadN X0 21 d19_20 rfl rfl ?_
    refine own_retC X0 d19_21 hret (own_fitC q0 q1) (by decide) (by decide) ?_
    rw [own_low, if_pos hc1]
  · -- not
    refine og_icmpN X0 8 d19_5 (XT.ii_lt_f hc1) rfl ?_
    refine og_iloadN X0 9 d19_8 rfl rfl ?_
    refine og_bipush X0 11 (90 : Int32) d19_9 rfl rfl ?_
    by_cases hc2 : (90 : Int32) < x
    · -- (90 : Int32) < x
      refine og_icmpY X0 20 d19_11 (XT.ii_gt_t hc2) (by decide) (by decide) ?_
      refine og_iloadN X0 21 d19_20 rfl rfl ?_
      refine own_retC X0 d19_21 hret (own_fitC q0 q1) (by decide) (by decide) ?_
      rw [own_low, if_neg hc1, if_pos hc2]
    · -- not
      refine og_icmpN X0 14 d19_11 (XT.ii_gt_f hc2) rfl ?_
      refine og_iloadN X0 15 d19_14 rfl rfl ?_
      refine og_bipush X0 17 (32 : Int32) d19_15 rfl rfl ?_
      refine og_iadd X0 18 d19_17 rfl ?_
      refine og_i2c X0 19 d19_18 rfl ?_
      refine own_retC X0 d19_19 hret (own_fitC (own_lat16 _).1 (own_lat16 _).2) (by decide) (by decide) ?_
      rw [own_low, if_neg hc1, if_neg hc2]
theorem rm_tl0 (l : Launch) (Z : State) (a0 : Array Value) (hw : ∀ d ∈ tables_1, d.before a0 Z = true) (n0 : Nat) (h0 : Heap) (hWd : OWorld Z a0) (wc : List Jvm.Cond) (O0 : Old Z n0 h0) (a : Addr) (q0 : OStr Z h0 a [] h0.size) :
    OMet l Z own_EL n0 (⟨"com/example/roleward/roleward/http/Ascii", "toLowerCase", "(Ljava/lang/String;)Ljava/lang/String;"⟩ : MethodName) (Jvm.Cond.code (⟨"com/example/roleward/roleward/http/Ascii", "toLowerCase", "(Ljava/lang/String;)Ljava/lang/String;"⟩ : MethodName) prog_5_method_3_code 3 (some (.object "java/lang/String")) :: wc) ({ frames := 3, cells := 6, slots := 12, locals := 43 } : Room) #[(.ref a)] h0 [] (fun vq hq => ∃ (r : Addr), vq = some (.ref r) ∧ h0.size ≤ r ∧ OStr Z hq r [] hq.size) := by
  refine own_enter #[.val (.ref a), .unset, .unset] pn_com_example_roleward_roleward_http_Ascii_toLowerCase__Ljava_lang_String__Ljava_lang_String_ (ef_rm_tl0 a) hWd.1 O0 all0 ?_
  intro p e s m below meth c T0 X0 hnm hret
  refine og_aloadN X0 1 d4_0 rfl rfl rfl ?_
  refine own_virt X0 4 (a := a) (argsL := []) (rest := []) d4_1 q0.exa (fun _ hZ => notFace_of_selects (args := #[]) (mvT hZ (ow hw 30 rfl))) (rt_tca0 l Z a0 hw n0 h0 hWd [] X0.old a q0.top ) (ow hw 27 rfl) (ow hw 28 rfl) (ow hw 30 rfl) (ow hw 29 rfl) (ow hw 4 rfl) (ow hw 31 rfl) (by decide) (lenOf pd__28_29_5bC rfl) rfl rfl rfl (W := 0) rfl (by decide) (by decide) (by decide) (by decide) all0 rfl ?_
  intro T1 h1 v1 X1 K1 hQ1
  obtain ⟨r1, kr1, rfl, ge_r1, f2⟩ := hQ1
  show OGo _ _ _ _ T1 (mkF m 4 #[.val (.ref a), .unset, .unset] [(.ref r1)])
  refine og_astoreN X1 5 #[.val (.ref a), .val (.ref r1), .unset] d4_4 rfl rfl rfl ?_
  refine og_iconst X1 6 (0 : Int32) d4_5 rfl rfl ?_
  refine og_istoreN X1 7 #[.val (.ref a), .val (.ref r1), .val (.int 0)] d4_6 rfl rfl ?_
  refine og_iloadN X1 8 d4_7 rfl rfl ?_
  refine og_aloadN X1 9 d4_8 rfl rfl rfl ?_
  refine own_len X1 10 d4_9 f2 rfl ?_
  refine og_icmpY X1 28 d4_10 (XT.ii_ge_t (by decide)) (by decide) (by decide) ?_
  refine own_new X1 31 d4_28 (ow hw 45 rfl) (ow hw 3 rfl) (ow hw 4 rfl) (by decide) (by decide) rfl ?_
  intro T3 h3 b3 X3 K3 G3 U3 E3 D3
  have f4 : Fld Z h3 b3 "java/lang/String" "value" "[B" .null := D3 (Or.inr (ow hw 17 rfl)) (ty := (.array .byte)) (by decide)
  have f5 : Fld Z h3 b3 "java/lang/String" "coder" "B" (.int 0) := D3 (Or.inr (ow hw 18 rfl)) (ty := .byte) (by decide)
  refine og_dup X3 32 d4_31 rfl rfl ?_
  refine og_aloadN X3 33 d4_32 rfl rfl rfl ?_
  have f6 := f2.keep K3 nin0
  refine own_spec X3 36 (a := b3) (argsL := [(.ref r1)]) (rest := [(.ref b3)]) d4_33 rfl (rm_emp1 l Z a0 hw n0 h3 hWd [] X3.old b3 r1 .null (0 : Int32) kr1 E3 f4 f5 f6 (own_svb X3 (om 0 rfl))) (ow hw 46 rfl) (ow hw 6 rfl) (ow hw 4 rfl) (ow hw 7 rfl) (by decide) (lenOf pd__28_5bC_29V rfl) rfl rfl rfl (W := 1) rfl (by decide) (by decide) (by decide) (by decide) (allS (om 0 rfl) all0) rfl ?_
  intro T7 h7 v7 X7 K7 hQ7
  obtain ⟨rfl, f8⟩ := hQ7
  show OGo _ _ _ _ T7 (mkF m 36 #[.val (.ref a), .val (.ref r1), .val (.int 0)] [(.ref b3)])
  refine own_retA X7 d4_36 hret rfl rfl (by decide) (by decide) ?_
  exact ⟨b3, rfl, (Nat.le_trans K1.1 G3), f8.top⟩
theorem rm_tl1 (l : Launch) (Z : State) (a0 : Array Value) (hw : ∀ d ∈ tables_1, d.before a0 Z = true) (n0 : Nat) (h0 : Heap) (hWd : OWorld Z a0) (wc : List Jvm.Cond) (O0 : Old Z n0 h0) (a : Addr) (x0 : Int32) (q0 : OStr Z h0 a [x0] h0.size) (q1 : ¬ x0 < 0) (q2 : ¬ (65535 : Int32) < x0) :
    OMet l Z own_EL n0 (⟨"com/example/roleward/roleward/http/Ascii", "toLowerCase", "(Ljava/lang/String;)Ljava/lang/String;"⟩ : MethodName) (Jvm.Cond.code (⟨"com/example/roleward/roleward/http/Ascii", "toLowerCase", "(Ljava/lang/String;)Ljava/lang/String;"⟩ : MethodName) prog_5_method_3_code 3 (some (.object "java/lang/String")) :: wc) ({ frames := 6, cells := 4, slots := 8, locals := 88 } : Room) #[(.ref a)] h0 [] (fun vq hq => ∃ (r : Addr), vq = some (.ref r) ∧ h0.size ≤ r ∧ OStr Z hq r [(own_low x0)] hq.size) := by
  refine own_enter #[.val (.ref a), .unset, .unset] pn_com_example_roleward_roleward_http_Ascii_toLowerCase__Ljava_lang_String__Ljava_lang_String_ (ef_rm_tl1 a x0) hWd.1 O0 all0 ?_
  intro p e s m below meth c T0 X0 hnm hret
  refine og_aloadN X0 1 d4_0 rfl rfl rfl ?_
  refine own_virt X0 4 (a := a) (argsL := []) (rest := []) d4_1 q0.exa (fun _ hZ => notFace_of_selects (args := #[]) (mvT hZ (ow hw 30 rfl))) (rt_tca1 l Z a0 hw n0 h0 hWd [] X0.old a x0 q0.top ) (ow hw 27 rfl) (ow hw 28 rfl) (ow hw 30 rfl) (ow hw 29 rfl) (ow hw 4 rfl) (ow hw 31 rfl) (by decide) (lenOf pd__28_29_5bC rfl) rfl rfl rfl (W := 0) rfl (by decide) (by decide) (by decide) (by decide) all0 rfl ?_
  intro T1 h1 v1 X1 K1 hQ1
  obtain ⟨r1, kr1, rfl, ge_r1, f2⟩ := hQ1
  show OGo _ _ _ _ T1 (mkF m 4 #[.val (.ref a), .unset, .unset] [(.ref r1)])
  refine og_astoreN X1 5 #[.val (.ref a), .val (.ref r1), .unset] d4_4 rfl rfl rfl ?_
  refine og_iconst X1 6 (0 : Int32) d4_5 rfl rfl ?_
  refine og_istoreN X1 7 #[.val (.ref a), .val (.ref r1), .val (.int 0)] d4_6 rfl rfl ?_
  refine og_iloadN X1 8 d4_7 rfl rfl ?_
  refine og_aloadN X1 9 d4_8 rfl rfl rfl ?_
  refine own_len X1 10 d4_9 f2 rfl ?_
  refine og_icmpN X1 13 d4_10 (XT.ii_ge_f (by decide)) rfl ?_
  refine og_aloadN X1 14 d4_13 rfl rfl rfl ?_
  refine og_iloadN X1 15 d4_14 rfl rfl ?_
  refine og_aloadN X1 16 d4_15 rfl rfl rfl ?_
  refine og_iloadN X1 17 d4_16 rfl rfl ?_
  refine own_ldC X1 18 d4_17 f2 (by decide) (by decide) rfl rfl ?_
  refine own_stat X1 21 (argsL := [(.int x0)]) (rest := [(.int 0), (.ref r1)]) d4_18 (rm14 l Z a0 hw n0 h1 hWd [] X1.old x0 q1 q2 ) (ow hw 67 rfl) (ow hw 68 rfl) (ow hw 25 rfl) (ow hw 69 rfl) (by decide) (lenOf pd__28C_29C rfl) rfl rfl rfl (W := 2) rfl (by decide) (by decide) (by decide) (by decide) all0 rfl ?_
  intro T3 h3 v3 X3 K3 hQ3
  obtain rfl := hQ3
  show OGo _ _ _ _ T3 (mkF m 21 #[.val (.ref a), .val (.ref r1), .val (.int 0)] [(.int (own_low x0)), (.int 0), (.ref r1)])
  have f4 := f2.keep K3 nin0
  have X6 := own_svA X3 f4 (by decide) (Nat.le_trans (own_n0 X0) ge_r1) ge_r1
  refine own_stC X6 22 d4_21 f4 (own_nch (own_lowB q1 q2).1 (own_lowB q1 q2).2) (by decide) (by decide) (i := 0) (by decide) (Nat.le_of_ble_eq_true rfl) (om 0 rfl) rfl ?_
  intro T5 h5 X5 W5 K5 A5
  have f7 : Arv Z h5 r1 kr1 .char (1 : Int32) [(.int (own_low x0))] (.int 0) := A5
  refine og_iinc X5 25 #[.val (.ref a), .val (.ref r1), .val (.int 1)] d4_22 rfl rfl rfl ?_
  refine og_goto X5 7 d4_25 (by decide) (by decide) ?_
  refine og_iloadN X5 8 d4_7 rfl rfl ?_
  refine og_aloadN X5 9 d4_8 rfl rfl rfl ?_
  refine own_len X5 10 d4_9 f7 rfl ?_
  refine og_icmpY X5 28 d4_10 (XT.ii_ge_t (by decide)) (by decide) (by decide) ?_
  refine own_new X5 31 d4_28 (ow hw 45 rfl) (ow hw 3 rfl) (ow hw 4 rfl) (by decide) (by decide) rfl ?_
  intro T8 h8 b8 X8 K8 G8 U8 E8 D8
  have f9 : Fld Z h8 b8 "java/lang/String" "value" "[B" .null := D8 (Or.inr (ow hw 17 rfl)) (ty := (.array .byte)) (by decide)
  have f10 : Fld Z h8 b8 "java/lang/String" "coder" "B" (.int 0) := D8 (Or.inr (ow hw 18 rfl)) (ty := .byte) (by decide)
  refine og_dup X8 32 d4_31 rfl rfl ?_
  refine og_aloadN X8 33 d4_32 rfl rfl rfl ?_
  have f11 := f7.keep K8 nin0
  refine own_spec X8 36 (a := b8) (argsL := [(.ref r1)]) (rest := [(.ref b8)]) d4_33 rfl (ru_ini1 l Z a0 hw n0 h8 hWd [] X8.old b8 r1 .null (0 : Int32) kr1 (.int 0) (own_low x0) E8 f9 f10 f11 (own_lowB q1 q2).1 (own_lowB q1 q2).2 (own_svb X8 (om 0 rfl))) (ow hw 46 rfl) (ow hw 6 rfl) (ow hw 4 rfl) (ow hw 7 rfl) (by decide) (lenOf pd__28_5bC_29V rfl) rfl rfl rfl (W := 1) rfl (by decide) (by decide) (by decide) (by decide) (allS (om 0 rfl) all0) rfl ?_
  intro T12 h12 v12 X12 K12 hQ12
  obtain ⟨rfl, f13⟩ := hQ12
  show OGo _ _ _ _ T12 (mkF m 36 #[.val (.ref a), .val (.ref r1), .val (.int 1)] [(.ref b8)])
  refine own_retA X12 d4_36 hret rfl rfl (by decide) (by decide) ?_
  exact ⟨b8, rfl, (Nat.le_trans (Nat.le_trans (Nat.le_trans K1.1 K3.1) K5.1) G8), f13.top⟩
theorem rm_tl2 (l : Launch) (Z : State) (a0 : Array Value) (hw : ∀ d ∈ tables_1, d.before a0 Z = true) (n0 : Nat) (h0 : Heap) (hWd : OWorld Z a0) (wc : List Jvm.Cond) (O0 : Old Z n0 h0) (a : Addr) (x0 : Int32) (x1 : Int32) (q0 : OStr Z h0 a [x0, x1] h0.size) (q1 : ¬ x0 < 0) (q2 : ¬ (65535 : Int32) < x0) (q3 : ¬ x1 < 0) (q4 : ¬ (65535 : Int32) < x1) :
    OMet l Z own_EL n0 (⟨"com/example/roleward/roleward/http/Ascii", "toLowerCase", "(Ljava/lang/String;)Ljava/lang/String;"⟩ : MethodName) (Jvm.Cond.code (⟨"com/example/roleward/roleward/http/Ascii", "toLowerCase", "(Ljava/lang/String;)Ljava/lang/String;"⟩ : MethodName) prog_5_method_3_code 3 (some (.object "java/lang/String")) :: wc) ({ frames := 6, cells := 4, slots := 12, locals := 88 } : Room) #[(.ref a)] h0 [] (fun vq hq => ∃ (r : Addr), vq = some (.ref r) ∧ h0.size ≤ r ∧ OStr Z hq r [(own_low x0), (own_low x1)] hq.size) := by
  refine own_enter #[.val (.ref a), .unset, .unset] pn_com_example_roleward_roleward_http_Ascii_toLowerCase__Ljava_lang_String__Ljava_lang_String_ (ef_rm_tl2 a x0 x1) hWd.1 O0 all0 ?_
  intro p e s m below meth c T0 X0 hnm hret
  refine og_aloadN X0 1 d4_0 rfl rfl rfl ?_
  refine own_virt X0 4 (a := a) (argsL := []) (rest := []) d4_1 q0.exa (fun _ hZ => notFace_of_selects (args := #[]) (mvT hZ (ow hw 30 rfl))) (rt_tca2 l Z a0 hw n0 h0 hWd [] X0.old a x0 x1 q0.top ) (ow hw 27 rfl) (ow hw 28 rfl) (ow hw 30 rfl) (ow hw 29 rfl) (ow hw 4 rfl) (ow hw 31 rfl) (by decide) (lenOf pd__28_29_5bC rfl) rfl rfl rfl (W := 0) rfl (by decide) (by decide) (by decide) (by decide) all0 rfl ?_
  intro T1 h1 v1 X1 K1 hQ1
  obtain ⟨r1, kr1, rfl, ge_r1, f2⟩ := hQ1
  show OGo _ _ _ _ T1 (mkF m 4 #[.val (.ref a), .unset, .unset] [(.ref r1)])
  refine og_astoreN X1 5 #[.val (.ref a), .val (.ref r1), .unset] d4_4 rfl rfl rfl ?_
  refine og_iconst X1 6 (0 : Int32) d4_5 rfl rfl ?_
  refine og_istoreN X1 7 #[.val (.ref a), .val (.ref r1), .val (.int 0)] d4_6 rfl rfl ?_
  refine og_iloadN X1 8 d4_7 rfl rfl ?_
  refine og_aloadN X1 9 d4_8 rfl rfl rfl ?_
  refine own_len X1 10 d4_9 f2 rfl ?_
  refine og_icmpN X1 13 d4_10 (XT.ii_ge_f (by decide)) rfl ?_
  refine og_aloadN X1 14 d4_13 rfl rfl rfl ?_
  refine og_iloadN X1 15 d4_14 rfl rfl ?_
  refine og_aloadN X1 16 d4_15 rfl rfl rfl ?_
  refine og_iloadN X1 17 d4_16 rfl rfl ?_
  refine own_ldC X1 18 d4_17 f2 (by decide) (by decide) rfl rfl ?_
  refine own_stat X1 21 (argsL := [(.int x0)]) (rest := [(.int 0), (.ref r1)]) d4_18 (rm14 l Z a0 hw n0 h1 hWd [] X1.old x0 q1 q2 ) (ow hw 67 rfl) (ow hw 68 rfl) (ow hw 25 rfl) (ow hw 69 rfl) (by decide) (lenOf pd__28C_29C rfl) rfl rfl rfl (W := 2) rfl (by decide) (by decide) (by decide) (by decide) all0 rfl ?_
  intro T3 h3 v3 X3 K3 hQ3
  obtain rfl := hQ3
  show OGo _ _ _ _ T3 (mkF m 21 #[.val (.ref a), .val (.ref r1), .val (.int 0)] [(.int (own_low x0)), (.int 0), (.ref r1)])
  have f4 := f2.keep K3 nin0
  have X6 := own_svA X3 f4 (by decide) (Nat.le_trans (own_n0 X0) ge_r1) ge_r1
  refine own_stC X6 22 d4_21 f4 (own_nch (own_lowB q1 q2).1 (own_lowB q1 q2).2) (by decide) (by decide) (i := 0) (by decide) (Nat.le_of_ble_eq_true rfl) (om 0 rfl) rfl ?_
  intro T5 h5 X5 W5 K5 A5
  have f7 : Arv Z h5 r1 kr1 .char (2 : Int32) [(.int (own_low x0)), (.int x1)] (.int 0) := A5
  refine og_iinc X5 25 #[.val (.ref a), .val (.ref r1), .val (.int 1)] d4_22 rfl rfl rfl ?_
  refine og_goto X5 7 d4_25 (by decide) (by decide) ?_
  refine og_iloadN X5 8 d4_7 rfl rfl ?_
  refine og_aloadN X5 9 d4_8 rfl rfl rfl ?_
  refine own_len X5 10 d4_9 f7 rfl ?_
  refine og_icmpN X5 13 d4_10 (XT.ii_ge_f (by decide)) rfl ?_
  refine og_aloadN X5 14 d4_13 rfl rfl rfl ?_
  refine og_iloadN X5 15 d4_14 rfl rfl ?_
  refine og_aloadN X5 16 d4_15 rfl rfl rfl ?_
  refine og_iloadN X5 17 d4_16 rfl rfl ?_
  refine own_ldC X5 18 d4_17 f7 (by decide) (by decide) rfl rfl ?_
  refine own_stat X5 21 (argsL := [(.int x1)]) (rest := [(.int 1), (.ref r1)]) d4_18 (rm14 l Z a0 hw n0 h5 hWd [] X5.old x1 q3 q4 ) (ow hw 67 rfl) (ow hw 68 rfl) (ow hw 25 rfl) (ow hw 69 rfl) (by decide) (lenOf pd__28C_29C rfl) rfl rfl rfl (W := 2) rfl (by decide) (by decide) (by decide) (by decide) all0 rfl ?_
  intro T8 h8 v8 X8 K8 hQ8
  obtain rfl := hQ8
  show OGo _ _ _ _ T8 (mkF m 21 #[.val (.ref a), .val (.ref r1), .val (.int 1)] [(.int (own_low x1)), (.int 1), (.ref r1)])
  have f9 := f7.keep K8 nin0
  refine own_stC X8 22 d4_21 f9 (own_nch (own_lowB q3 q4).1 (own_lowB q3 q4).2) (by decide) (by decide) (i := 1) (by decide) (Nat.le_of_ble_eq_true rfl) (om 0 rfl) rfl ?_
  intro T10 h10 X10 W10 K10 A10
  have f11 : Arv Z h10 r1 kr1 .char (2 : Int32) [(.int (own_low x0)), (.int (own_low x1))] (.int 0) := A10
  refine og_iinc X10 25 #[.val (.ref a), .val (.ref r1), .val (.int 2)] d4_22 rfl rfl rfl ?_
  refine og_goto X10 7 d4_25 (by decide) (by decide) ?_
  refine og_iloadN X10 8 d4_7 rfl rfl ?_
  refine og_aloadN X10 9 d4_8 rfl rfl rfl ?_
  refine own_len X10 10 d4_9 f11 rfl ?_
  refine og_icmpY X10 28 d4_10 (XT.ii_ge_t (by decide)) (by decide) (by decide) ?_
  refine own_new X10 31 d4_28 (ow hw 45 rfl) (ow hw 3 rfl) (ow hw 4 rfl) (by decide) (by decide) rfl ?_
  intro T12 h12 b12 X12 K12 G12 U12 E12 D12
  have f13 : Fld Z h12 b12 "java/lang/String" "value" "[B" .null := D12 (Or.inr (ow hw 17 rfl)) (ty := (.array .byte)) (by decide)
  have f14 : Fld Z h12 b12 "java/lang/String" "coder" "B" (.int 0) := D12 (Or.inr (ow hw 18 rfl)) (ty := .byte) (by decide)
  refine og_dup X12 32 d4_31 rfl rfl ?_
  refine og_aloadN X12 33 d4_32 rfl rfl rfl ?_
  have f15 := f11.keep K12 nin0
  refine own_spec X12 36 (a := b12) (argsL := [(.ref r1)]) (rest := [(.ref b12)]) d4_33 rfl (ru_ini2 l Z a0 hw n0 h12 hWd [] X12.old b12 r1 .null (0 : Int32) kr1 (.int 0) (own_low x0) (own_low x1) E12 f13 f14 f15 (own_lowB q1 q2).1 (own_lowB q1 q2).2 (own_lowB q3 q4).1 (own_lowB q3 q4).2 (own_svb X12 (om 0 rfl))) (ow hw 46 rfl) (ow hw 6 rfl) (ow hw 4 rfl) (ow hw 7 rfl) (by decide) (lenOf pd__28_5bC_29V rfl) rfl rfl rfl (W := 1) rfl (by decide) (by decide) (by decide) (by decide) (allS (om 0 rfl) all0) rfl ?_
  intro T16 h16 v16 X16 K16 hQ16
  obtain ⟨rfl, f17⟩ := hQ16
  show OGo _ _ _ _ T16 (mkF m 36 #[.val (.ref a), .val (.ref r1), .val (.int 2)] [(.ref b12)])
  refine own_retA X16 d4_36 hret rfl rfl (by decide) (by decide) ?_
  exact ⟨b12, rfl, (Nat.le_trans (Nat.le_trans (Nat.le_trans (Nat.le_trans (Nat.le_trans K1.1 K3.1) K5.1) K8.1) K10.1) G12), f17.top⟩
theorem rm_tl3 (l : Launch) (Z : State) (a0 : Array Value) (hw : ∀ d ∈ tables_1, d.before a0 Z = true) (n0 : Nat) (h0 : Heap) (hWd : OWorld Z a0) (wc : List Jvm.Cond) (O0 : Old Z n0 h0) (a : Addr) (x0 : Int32) (x1 : Int32) (x2 : Int32) (q0 : OStr Z h0 a [x0, x1, x2] h0.size) (q1 : ¬ x0 < 0) (q2 : ¬ (65535 : Int32) < x0) (q3 : ¬ x1 < 0) (q4 : ¬ (65535 : Int32) < x1) (q5 : ¬ x2 < 0) (q6 : ¬ (65535 : Int32) < x2) :
    OMet l Z own_EL n0 (⟨"com/example/roleward/roleward/http/Ascii", "toLowerCase", "(Ljava/lang/String;)Ljava/lang/String;"⟩ : MethodName) (Jvm.Cond.code (⟨"com/example/roleward/roleward/http/Ascii", "toLowerCase", "(Ljava/lang/String;)Ljava/lang/String;"⟩ : MethodName) prog_5_method_3_code 3 (some (.object "java/lang/String")) :: wc) ({ frames := 6, cells := 4, slots := 16, locals := 88 } : Room) #[(.ref a)] h0 [] (fun vq hq => ∃ (r : Addr), vq = some (.ref r) ∧ h0.size ≤ r ∧ OStr Z hq r [(own_low x0), (own_low x1), (own_low x2)] hq.size) := by
  refine own_enter #[.val (.ref a), .unset, .unset] pn_com_example_roleward_roleward_http_Ascii_toLowerCase__Ljava_lang_String__Ljava_lang_String_ (ef_rm_tl3 a x0 x1 x2) hWd.1 O0 all0 ?_
  intro p e s m below meth c T0 X0 hnm hret
  refine og_aloadN X0 1 d4_0 rfl rfl rfl ?_
  refine own_virt X0 4 (a := a) (argsL := []) (rest := []) d4_1 q0.exa (fun _ hZ => notFace_of_selects (args := #[]) (mvT hZ (ow hw 30 rfl))) (rt_tca3 l Z a0 hw n0 h0 hWd [] X0.old a x0 x1 x2 q0.top ) (ow hw 27 rfl) (ow hw 28 rfl) (ow hw 30 rfl) (ow hw 29 rfl) (ow hw 4 rfl) (ow hw 31 rfl) (by decide) (lenOf pd__28_29_5bC rfl) rfl rfl rfl (W := 0) rfl (by decide) (by decide) (by decide) (by decide) all0 rfl ?_
  intro T1 h1 v1 X1 K1 hQ1
  obtain ⟨r1, kr1, rfl, ge_r1, f2⟩ := hQ1
  show OGo _ _ _ _ T1 (mkF m 4 #[.val (.ref a), .unset, .unset] [(.ref r1)])
  refine og_astoreN X1 5 #[.val (.ref a), .val (.ref r1), .unset] d4_4 rfl rfl rfl ?_
  refine og_iconst X1 6 (0 : Int32) d4_5 rfl rfl ?_
  refine og_istoreN X1 7 #[.val (.ref a), .val (.ref r1), .val (.int 0)] d4_6 rfl rfl ?_
  refine og_iloadN X1 8 d4_7 rfl rfl ?_
  refine og_aloadN X1 9 d4_8 rfl rfl rfl ?_
  refine own_len X1 10 d4_9 f2 rfl ?_
  refine og_icmpN X1 13 d4_10 (XT.ii_ge_f (by decide)) rfl ?_
  refine og_aloadN X1 14 d4_13 rfl rfl rfl ?_
  refine og_iloadN X1 15 d4_14 rfl rfl ?_
  refine og_aloadN X1 16 d4_15 rfl rfl rfl ?_
  refine og_iloadN X1 17 d4_16 rfl rfl ?_
  refine own_ldC X1 18 d4_17 f2 (by decide) (by decide) rfl rfl ?_
  refine own_stat X1 21 (argsL := [(.int x0)]) (rest := [(.int 0), (.ref r1)]) d4_18 (rm14 l Z a0 hw n0 h1 hWd [] X1.old x0 q1 q2 ) (ow hw 67 rfl) (ow hw 68 rfl) (ow hw 25 rfl) (ow hw 69 rfl) (by decide) (lenOf pd__28C_29C rfl) rfl rfl rfl (W := 2) rfl (by decide) (by decide) (by decide) (by decide) all0 rfl ?_
  intro T3 h3 v3 X3 K3 hQ3
  obtain rfl := hQ3
  show OGo _ _ _ _ T3 (mkF m 21 #[.val (.ref a), .val (.ref r1), .val (.int 0)] [(.int (own_low x0)), (.int 0), (.ref r1)])
  have f4 := f2.keep K3 nin0
  have X6 := own_svA X3 f4 (by decide) (Nat.le_trans (own_n0 X0) ge_r1) ge_r1
  refine own_stC X6 22 d4_21 f4 (own_nch (own_lowB q1 q2).1 (own_lowB q1 q2).2) (by decide) (by decide) (i := 0) (by decide) (Nat.le_of_ble_eq_true rfl) (om 0 rfl) rfl ?_
  intro T5 h5 X5 W5 K5 A5
  have f7 : Arv Z h5 r1 kr1 .char (3 : Int32) [(.int (own_low x0)), (.int x1), (.int x2)] (.int 0) := A5
  refine og_iinc X5 25 #[.val (.ref a), .val (.ref r1), .val (.int 1)] d4_22 rfl rfl rfl ?_
  refine og_goto X5 7 d4_25 (by decide) (by decide) ?_
  refine og_iloadN X5 8 d4_7 rfl rfl ?_
  refine og_aloadN X5 9 d4_8 rfl rfl rfl ?_
  refine own_len X5 10 d4_9 f7 rfl ?_
  refine og_icmpN X5 13 d4_10 (XT.ii_ge_f (by decide)) rfl ?_
  refine og_aloadN X5 14 d4_13 rfl rfl rfl ?_
  refine og_iloadN X5 15 d4_14 rfl rfl ?_
  refine og_aloadN X5 16 d4_15 rfl rfl rfl ?_
  refine og_iloadN X5 17 d4_16 rfl rfl ?_
  refine own_ldC X5 18 d4_17 f7 (by decide) (by decide) rfl rfl ?_
  refine own_stat X5 21 (argsL := [(.int x1)]) (rest := [(.int 1), (.ref r1)]) d4_18 (rm14 l Z a0 hw n0 h5 hWd [] X5.old x1 q3 q4 ) (ow hw 67 rfl) (ow hw 68 rfl) (ow hw 25 rfl) (ow hw 69 rfl) (by decide) (lenOf pd__28C_29C rfl) rfl rfl rfl (W := 2) rfl (by decide) (by decide) (by decide) (by decide) all0 rfl ?_
  intro T8 h8 v8 X8 K8 hQ8
  obtain rfl := hQ8
  show OGo _ _ _ _ T8 (mkF m 21 #[.val (.ref a), .val (.ref r1), .val (.int 1)] [(.int (own_low x1)), (.int 1), (.ref r1)])
  have f9 := f7.keep K8 nin0
  refine own_stC X8 22 d4_21 f9 (own_nch (own_lowB q3 q4).1 (own_lowB q3 q4).2) (by decide) (by decide) (i := 1) (by decide) (Nat.le_of_ble_eq_true rfl) (om 0 rfl) rfl ?_
  intro T10 h10 X10 W10 K10 A10
  have f11 : Arv Z h10 r1 kr1 .char (3 : Int32) [(.int (own_low x0)), (.int (own_low x1)), (.int x2)] (.int 0) := A10
  refine og_iinc X10 25 #[.val (.ref a), .val (.ref r1), .val (.int 2)] d4_22 rfl rfl rfl ?_
  refine og_goto X10 7 d4_25 (by decide) (by decide) ?_
  refine og_iloadN X10 8 d4_7 rfl rfl ?_
  refine og_aloadN X10 9 d4_8 rfl rfl rfl ?_
  refine own_len X10 10 d4_9 f11 rfl ?_
  refine og_icmpN X10 13 d4_10 (XT.ii_ge_f (by decide)) rfl ?_
  refine og_aloadN X10 14 d4_13 rfl rfl rfl ?_
  refine og_iloadN X10 15 d4_14 rfl rfl ?_
  refine og_aloadN X10 16 d4_15 rfl rfl rfl ?_
  refine og_iloadN X10 17 d4_16 rfl rfl ?_
  refine own_ldC X10 18 d4_17 f11 (by decide) (by decide) rfl rfl ?_
  refine own_stat X10 21 (argsL := [(.int x2)]) (rest := [(.int 2), (.ref r1)]) d4_18 (rm14 l Z a0 hw n0 h10 hWd [] X10.old x2 q5 q6 ) (ow hw 67 rfl) (ow hw 68 rfl) (ow hw 25 rfl) (ow hw 69 rfl) (by decide) (lenOf pd__28C_29C rfl) rfl rfl rfl (W := 2) rfl (by decide) (by decide) (by decide) (by decide) all0 rfl ?_
  intro T12 h12 v12 X12 K12 hQ12
  obtain rfl := hQ12
  show OGo _ _ _ _ T12 (mkF m 21 #[.val (.ref a), .val (.ref r1), .val (.int 2)] [(.int (own_low x2)), (.int 2), (.ref r1)])
  have f13 := f11.keep K12 nin0
  refine own_stC X12 22 d4_21 f13 (own_nch (own_lowB q5 q6).1 (own_lowB q5 q6).2) (by decide) (by decide) (i := 2) (by decide) (Nat.le_of_ble_eq_true rfl) (om 0 rfl) rfl ?_
  intro T14 h14 X14 W14 K14 A14
  have f15 : Arv Z h14 r1 kr1 .char (3 : Int32) [(.int (own_low x0)), (.int (own_low x1)), (.int (own_low x2))] (.int 0) := A14
  refine og_iinc X14 25 #[.val (.ref a), .val (.ref r1), .val (.int 3)] d4_22 rfl rfl rfl ?_
  refine og_goto X14 7 d4_25 (by decide) (by decide) ?_
  refine og_iloadN X14 8 d4_7 rfl rfl ?_
  refine og_aloadN X14 9 d4_8 rfl rfl rfl ?_
  refine own_len X14 10 d4_9 f15 rfl ?_
  refine og_icmpY X14 28 d4_10 (XT.ii_ge_t (by decide)) (by decide) (by decide) ?_
  refine own_new X14 31 d4_28 (ow hw 45 rfl) (ow hw 3 rfl) (ow hw 4 rfl) (by decide) (by decide) rfl ?_
  intro T16 h16 b16 X16 K16 G16 U16 E16 D16
  have f17 : Fld Z h16 b16 "java/lang/String" "value" "[B" .null := D16 (Or.inr (ow hw 17 rfl)) (ty := (.array .byte)) (by decide)
  have f18 : Fld Z h16 b16 "java/lang/String" "coder" "B" (.int 0) := D16 (Or.inr (ow hw 18 rfl)) (ty := .byte) (by decide)
  refine og_dup X16 32 d4_31 rfl rfl ?_
  refine og_aloadN X16 33 d4_32 rfl rfl rfl ?_
  have f19 := f15.keep K16 nin0
  refine own_spec X16 36 (a := b16) (argsL := [(.ref r1)]) (rest := [(.ref b16)]) d4_33 rfl (ru_ini3 l Z a0 hw n0 h16 hWd [] X16.old b16 r1 .null (0 : Int32) kr1 (.int 0) (own_low x0) (own_low x1) (own_low x2) E16 f17 f18 f19 (own_lowB q1 q2).1 (own_lowB q1 q2).2 (own_lowB q3 q4).1 (own_lowB q3 q4).2 (own_lowB q5 q6).1 (own_lowB q5 q6).2 (own_svb X16 (om 0 rfl))) (ow hw 46 rfl) (ow hw 6 rfl) (ow hw 4 rfl) (ow hw 7 rfl) (by decide) (lenOf pd__28_5bC_29V rfl) rfl rfl rfl (W := 1) rfl (by decide) (by decide) (by decide) (by decide) (allS (om 0 rfl) all0) rfl ?_
  intro T20 h20 v20 X20 K20 hQ20
  obtain ⟨rfl, f21⟩ := hQ20
  show OGo _ _ _ _ T20 (mkF m 36 #[.val (.ref a), .val (.ref r1), .val (.int 3)] [(.ref b16)])
  refine own_retA X20 d4_36 hret rfl rfl (by decide) (by decide) ?_
  exact ⟨b16, rfl, (Nat.le_trans (Nat.le_trans (Nat.le_trans (Nat.le_trans (Nat.le_trans (Nat.le_trans (Nat.le_trans K1.1 K3.1) K5.1) K8.1) K10.1) K12.1) K14.1) G16), f21.top⟩
theorem rm_tl4 (l : Launch) (Z : State) (a0 : Array Value) (hw : ∀ d ∈ tables_1, d.before a0 Z = true) (n0 : Nat) (h0 : Heap) (hWd : OWorld Z a0) (wc : List Jvm.Cond) (O0 : Old Z n0 h0) (a : Addr) (x0 : Int32) (x1 : Int32) (x2 : Int32) (x3 : Int32) (q0 : OStr Z h0 a [x0, x1, x2, x3] h0.size) (q1 : ¬ x0 < 0) (q2 : ¬ (65535 : Int32) < x0) (q3 : ¬ x1 < 0) (q4 : ¬ (65535 : Int32) < x1) (q5 : ¬ x2 < 0) (q6 : ¬ (65535 : Int32) < x2) (q7 : ¬ x3 < 0) (q8 : ¬ (65535 : Int32) < x3) :
    OMet l Z own_EL n0 (⟨"com/example/roleward/roleward/http/Ascii", "toLowerCase", "(Ljava/lang/String;)Ljava/lang/String;"⟩ : MethodName) (Jvm.Cond.code (⟨"com/example/roleward/roleward/http/Ascii", "toLowerCase", "(Ljava/lang/String;)Ljava/lang/String;"⟩ : MethodName) prog_5_method_3_code 3 (some (.object "java/lang/String")) :: wc) ({ frames := 6, cells := 4, slots := 20, locals := 88 } : Room) #[(.ref a)] h0 [] (fun vq hq => ∃ (r : Addr), vq = some (.ref r) ∧ h0.size ≤ r ∧ OStr Z hq r [(own_low x0), (own_low x1), (own_low x2), (own_low x3)] hq.size) := by
  refine own_enter #[.val (.ref a), .unset, .unset] pn_com_example_roleward_roleward_http_Ascii_toLowerCase__Ljava_lang_String__Ljava_lang_String_ (ef_rm_tl4 a x0 x1 x2 x3) hWd.1 O0 all0 ?_
  intro p e s m below meth c T0 X0 hnm hret
  refine og_aloadN X0 1 d4_0 rfl rfl rfl ?_
  refine own_virt X0 4 (a := a) (argsL := []) (rest := []) d4_1 q0.exa (fun _ hZ => notFace_of_selects (args := #[]) (mvT hZ (ow hw 30 rfl))) (rt_tca4 l Z a0 hw n0 h0 hWd [] X0.old a x0 x1 x2 x3 q0.top ) (ow hw 27 rfl) (ow hw 28 rfl) (ow hw 30 rfl) (ow hw 29 rfl) (ow hw 4 rfl) (ow hw 31 rfl) (by decide) (lenOf pd__28_29_5bC rfl) rfl rfl rfl (W := 0) rfl (by decide) (by decide) (by decide) (by decide) all0 rfl ?_
  intro T1 h1 v1 X1 K1 hQ1
  obtain ⟨r1, kr1, rfl, ge_r1, f2⟩ := hQ1
  show OGo _ _ _ _ T1 (mkF m 4 #[.val (.ref a), .unset, .unset] [(.ref r1)])
  refine og_astoreN X1 5 #[.val (.ref a), .val (.ref r1), .unset] d4_4 rfl rfl rfl ?_
  refine og_iconst X1 6 (0 : Int32) d4_5 rfl rfl ?_
  refine og_istoreN X1 7 #[.val (.ref a), .val (.ref r1), .val (.int 0)] d4_6 rfl rfl ?_
  refine og_iloadN X1 8 d4_7 rfl rfl ?_
  refine og_aloadN X1 9 d4_8 rfl rfl rfl ?_
  refine own_len X1 10 d4_9 f2 rfl ?_
  refine og_icmpN X1 13 d4_10 (XT.ii_ge_f (by decide)) rfl ?_
  refine og_aloadN X1 14 d4_13 rfl rfl rfl ?_
  refine og_iloadN X1 15 d4_14 rfl rfl ?_
  refine og_aloadN X1 16 d4_15 rfl rfl rfl ?_
  refine og_iloadN X1 17 d4_16 rfl rfl ?_
  refine own_ldC X1 18 d4_17 f2 (by decide) (by decide) rfl rfl ?_
  refine own_stat X1 21 (argsL := [(.int x0)]) (rest := [(.int 0), (.ref r1)]) d4_18 (rm14 l Z a0 hw n0 h1 hWd [] X1.old x0 q1 q2 ) (ow hw 67 rfl) (ow hw 68 rfl) (ow hw 25 rfl) (ow hw 69 rfl) (by decide) (lenOf pd__28C_29C rfl) rfl rfl rfl (W := 2) rfl (by decide) (by decide) (by decide) (by decide) all0 rfl ?_
  intro T3 h3 v3 X3 K3 hQ3
  obtain rfl := hQ3
  show OGo _ _ _ _ T3 (mkF m 21 #[.val (.ref a), .val (.ref r1), .val (.int 0)] [(.int (own_low x0)), (.int 0), (.ref r1)])
  have f4 := f2.keep K3 nin0
  have X6 := own_svA X3 f4 (by decide) (Nat.le_trans (own_n0 X0) ge_r1) ge_r1
  refine own_stC X6 22 d4_21 f4 (own_nch (own_lowB q1 q2).1 (own_lowB q1 q2).2) (by decide) (by decide) (i := 0) (by decide) (Nat.le_of_ble_eq_true rfl) (om 0 rfl) rfl ?_
  intro T5 h5 X5 W5 K5 A5
  have f7 : Arv Z h5 r1 kr1 .char (4 : Int32) [(.int (own_low x0)), (.int x1), (.int x2), (.int x3)] (.int 0) := A5
  refine og_iinc X5 25 #[.val (.ref a), .val (.ref r1), .val (.int 1)] d4_22 rfl rfl rfl ?_
  refine og_goto X5 7 d4_25 (by decide) (by decide) ?_
  refine og_iloadN X5 8 d4_7 rfl rfl ?_
  refine og_aloadN X5 9 d4_8 rfl rfl rfl ?_
  refine own_len X5 10 d4_9 f7 rfl ?_
  refine og_icmpN X5 13 d4_10 (XT.ii_ge_f (by decide)) rfl ?_
  refine og_aloadN X5 14 d4_13 rfl rfl rfl ?_
  refine og_iloadN X5 15 d4_14 rfl rfl ?_
  refine og_aloadN X5 16 d4_15 rfl rfl rfl ?_
  refine og_iloadN X5 17 d4_16 rfl rfl ?_
  refine own_ldC X5 18 d4_17 f7 (by decide) (by decide) rfl rfl ?_
  refine own_stat X5 21 (argsL := [(.int x1)]) (rest := [(.int 1), (.ref r1)]) d4_18 (rm14 l Z a0 hw n0 h5 hWd [] X5.old x1 q3 q4 ) (ow hw 67 rfl) (ow hw 68 rfl) (ow hw 25 rfl) (ow hw 69 rfl) (by decide) (lenOf pd__28C_29C rfl) rfl rfl rfl (W := 2) rfl (by decide) (by decide) (by decide) (by decide) all0 rfl ?_
  intro T8 h8 v8 X8 K8 hQ8
  obtain rfl := hQ8
  show OGo _ _ _ _ T8 (mkF m 21 #[.val (.ref a), .val (.ref r1), .val (.int 1)] [(.int (own_low x1)), (.int 1), (.ref r1)])
  have f9 := f7.keep K8 nin0
  refine own_stC X8 22 d4_21 f9 (own_nch (own_lowB q3 q4).1 (own_lowB q3 q4).2) (by decide) (by decide) (i := 1) (by decide) (Nat.le_of_ble_eq_true rfl) (om 0 rfl) rfl ?_
  intro T10 h10 X10 W10 K10 A10
  have f11 : Arv Z h10 r1 kr1 .char (4 : Int32) [(.int (own_low x0)), (.int (own_low x1)), (.int x2), (.int x3)] (.int 0) := A10
  refine og_iinc X10 25 #[.val (.ref a), .val (.ref r1), .val (.int 2)] d4_22 rfl rfl rfl ?_
  refine og_goto X10 7 d4_25 (by decide) (by decide) ?_
  refine og_iloadN X10 8 d4_7 rfl rfl ?_
  refine og_aloadN X10 9 d4_8 rfl rfl rfl ?_
  refine own_len X10 10 d4_9 f11 rfl ?_
  refine og_icmpN X10 13 d4_10 (XT.ii_ge_f (by decide)) rfl ?_
  refine og_aloadN X10 14 d4_13 rfl rfl rfl ?_
  refine og_iloadN X10 15 d4_14 rfl rfl ?_
  refine og_aloadN X10 16 d4_15 rfl rfl rfl ?_
  refine og_iloadN X10 17 d4_16 rfl rfl ?_
  refine own_ldC X10 18 d4_17 f11 (by decide) (by decide) rfl rfl ?_
  refine own_stat X10 21 (argsL := [(.int x2)]) (rest := [(.int 2), (.ref r1)]) d4_18 (rm14 l Z a0 hw n0 h10 hWd [] X10.old x2 q5 q6 ) (ow hw 67 rfl) (ow hw 68 rfl) (ow hw 25 rfl) (ow hw 69 rfl) (by decide) (lenOf pd__28C_29C rfl) rfl rfl rfl (W := 2) rfl (by decide) (by decide) (by decide) (by decide) all0 rfl ?_
  intro T12 h12 v12 X12 K12 hQ12
  obtain rfl := hQ12
  show OGo _ _ _ _ T12 (mkF m 21 #[.val (.ref a), .val (.ref r1), .val (.int 2)] [(.int (own_low x2)), (.int 2), (.ref r1)])
  have f13 := f11.keep K12 nin0
  refine own_stC X12 22 d4_21 f13 (own_nch (own_lowB q5 q6).1 (own_lowB q5 q6).2) (by decide) (by decide) (i := 2) (by decide) (Nat.le_of_ble_eq_true rfl) (om 0 rfl) rfl ?_
  intro T14 h14 X14 W14 K14 A14
  have f15 : Arv Z h14 r1 kr1 .char (4 : Int32) [(.int (own_low x0)), (.int (own_low x1)), (.int (own_low x2)), (.int x3)] (.int 0) := A14
  refine og_iinc X14 25 #[.val (.ref a), .val (.ref r1), .val (.int 3)] d4_22 rfl rfl rfl ?_
  refine og_goto X14 7 d4_25 (by decide) (by decide) ?_
  refine og_iloadN X14 8 d4_7 rfl rfl ?_
  refine og_aloadN X14 9 d4_8 rfl rfl rfl ?_
  refine own_len X14 10 d4_9 f15 rfl ?_
  refine og_icmpN X14 13 d4_10 (XT.ii_ge_f (by decide)) rfl ?_
  refine og_aloadN X14 14 d4_13 rfl rfl rfl ?_
  refine og_iloadN X14 15 d4_14 rfl rfl ?_
  refine og_aloadN X14 16 d4_15 rfl rfl rfl ?_
  refine og_iloadN X14 17 d4_16 rfl rfl ?_
  refine own_ldC X14 18 d4_17 f15 (by decide) (by decide) rfl rfl ?_
  refine own_stat X14 21 (argsL := [(.int x3)]) (rest := [(.int 3), (.ref r1)]) d4_18 (rm14 l Z a0 hw n0 h14 hWd [] X14.old x3 q7 q8 ) (ow hw 67 rfl) (ow hw 68 rfl) (ow hw 25 rfl) (ow hw 69 rfl) (by decide) (lenOf pd__28C_29C rfl) rfl rfl rfl (W := 2) rfl (by decide) (by decide) (by decide) (by decide) all0 rfl ?_
  intro T16 h16 v16 X16 K16 hQ16
  obtain rfl := hQ16
  show OGo _ _ _ _ T16 (mkF m 21 #[.val (.ref a), .val (.ref r1), .val (.int 3)] [(.int (own_low x3)), (.int 3), (.ref r1)])
  have f17 := f15.keep K16 nin0
  refine own_stC X16 22 d4_21 f17 (own_nch (own_lowB q7 q8).1 (own_lowB q7 q8).2) (by decide) (by decide) (i := 3) (by decide) (Nat.le_of_ble_eq_true rfl) (om 0 rfl) rfl ?_
  intro T18 h18 X18 W18 K18 A18
  have f19 : Arv Z h18 r1 kr1 .char (4 : Int32) [(.int (own_low x0)), (.int (own_low x1)), (.int (own_low x2)), (.int (own_low x3))] (.int 0) := A18
  refine og_iinc X18 25 #[.val (.ref a), .val (.ref r1), .val (.int 4)] d4_22 rfl rfl rfl ?_
  refine og_goto X18 7 d4_25 (by decide) (by decide) ?_
  refine og_iloadN X18 8 d4_7 rfl rfl ?_
  refine og_aloadN X18 9 d4_8 rfl rfl rfl ?_
  refine own_len X18 10 d4_9 f19 rfl ?_
  refine og_icmpY X18 28 d4_10 (XT.ii_ge_t (by decide)) (by decide) (by decide) ?_
  refine own_new X18 31 d4_28 (ow hw 45 rfl) (ow hw 3 rfl) (ow hw 4 rfl) (by decide) (by decide) rfl ?_
  intro T20 h20 b20 X20 K20 G20 U20 E20 D20
  have f21 : Fld Z h20 b20 "java/lang/String" "value" "[B" .null := D20 (Or.inr (ow hw 17 rfl)) (ty := (.array .byte)) (by decide)
  have f22 : Fld Z h20 b20 "java/lang/String" "coder" "B" (.int 0) := D20 (Or.inr (ow hw 18 rfl)) (ty := .byte) (by decide)
  refine og_dup X20 32 d4_31 rfl rfl ?_
  refine og_aloadN X20 33 d4_32 rfl rfl rfl ?_
  have f23 := f19.keep K20 nin0
  refine own_spec X20 36 (a := b20) (argsL := [(.ref r1)]) (rest := [(.ref b20)]) d4_33 rfl (ru_ini4 l Z a0 hw n0 h20 hWd [] X20.old b20 r1 .null (0 : Int32) kr1 (.int 0) (own_low x0) (own_low x1) (own_low x2) (own_low x3) E20 f21 f22 f23 (own_lowB q1 q2).1 (own_lowB q1 q2).2 (own_lowB q3 q4).1 (own_lowB q3 q4).2 (own_lowB q5 q6).1 (own_lowB q5 q6).2 (own_lowB q7 q8).1 (own_lowB q7 q8).2 (own_svb X20 (om 0 rfl))) (ow hw 46 rfl) (ow hw 6 rfl) (ow hw 4 rfl) (ow hw 7 rfl) (by decide) (lenOf pd__28_5bC_29V rfl) rfl rfl rfl (W := 1) rfl (by decide) (by decide) (by decide) (by decide) (allS (om 0 rfl) all0) rfl ?_
  intro T24 h24 v24 X24 K24 hQ24
  obtain ⟨rfl, f25⟩ := hQ24
  show OGo _ _ _ _ T24 (mkF m 36 #[.val (.ref a), .val (.ref r1), .val (.int 4)] [(.ref b20)])
  refine own_retA X24 d4_36 hret rfl rfl (by decide) (by decide) ?_
  exact ⟨b20, rfl, (Nat.le_trans (Nat.le_trans (Nat.le_trans (Nat.le_trans (Nat.le_trans (Nat.le_trans (Nat.le_trans (Nat.le_trans (Nat.le_trans K1.1 K3.1) K5.1) K8.1) K10.1) K12.1) K14.1) K16.1) K18.1) G20), f25.top⟩
theorem rm0 (l : Launch) (Z : State) (a0 : Array Value) (hw : ∀ d ∈ tables_1, d.before a0 Z = true) (n0 : Nat) (h0 : Heap) (hWd : OWorld Z a0) (wc : List Jvm.Cond) (O0 : Old Z n0 h0) (pa : Int32) (pb : Int32) (pc_ : Int32) (pd : Int32) (pn : Int32)  :
    OMet l Z own_EL n0 x (Jvm.Cond.code x code maxLocals ret :: wc) room_1 #[(.int pa), (.int pb), (.int pc_), (.int pd), (.int pn)] h0 [] (fun vq hq => vq = some (.int 1)) := by
  refine own_enter #[.val (.int pa), .val (.int pb), .val (.int pc_), .val (.int pd), .val (.int pn), .unset, .unset, .unset, .unset, .unset, .unset, .unset, .unset] pn_com_example_roleward_roleward_http_AsciiToLowerCasePinLaw_law__IIIII_Z (ef_rm0 pa pb pc_ pd pn) hWd.1 O0 all0 ?_
  intro p e s m below meth c T0 X0 hnm hret
  refine og_iload X0 2 at_0 rfl rfl ?_
  refine own_ldcI X0 4 (v := (2147483647 : Int32)) at_2 (ow hw 0 rfl) rfl ?_
  refine og_iand X0 5 at_4 rfl ?_
  refine og_iconst X0 6 (5 : Int32) at_5 rfl rfl ?_
  refine og_irem X0 7 at_6 (by decide) rfl ?_
  refine og_istore X0 9 #[.val (.int pa), .val (.int pb), .val (.int pc_), .val (.int pd), .val (.int pn), .val (.int ((pn &&& (2147483647 : Int32)) % (5 : Int32))), .unset, .unset, .unset, .unset, .unset, .unset, .unset] at_7 rfl rfl ?_
  refine og_iloadN X0 10 at_9 rfl rfl ?_
  refine og_i2c X0 11 at_10 rfl ?_
  refine og_istore X0 13 #[.val (.int pa), .val (.int pb), .val (.int pc_), .val (.int pd), .val (.int pn), .val (.int ((pn &&& (2147483647 : Int32)) % (5 : Int32))), .val (.int ((pa).toUInt32.toUInt16.toUInt32.toInt32)), .unset, .unset, .unset, .unset, .unset, .unset] at_11 rfl rfl ?_
  refine og_iloadN X0 14 at_13 rfl rfl ?_
  refine og_i2c X0 15 at_14 rfl ?_
  refine og_istore X0 17 #[.val (.int pa), .val (.int pb), .val (.int pc_), .val (.int pd), .val (.int pn), .val (.int ((pn &&& (2147483647 : Int32)) % (5 : Int32))), .val (.int ((pa).toUInt32.toUInt16.toUInt32.toInt32)), .val (.int ((pb).toUInt32.toUInt16.toUInt32.toInt32)), .unset, .unset, .unset, .unset, .unset] at_15 rfl rfl ?_
  refine og_iloadN X0 18 at_17 rfl rfl ?_
  refine og_i2c X0 19 at_18 rfl ?_
  refine og_istore X0 21 #[.val (.int pa), .val (.int pb), .val (.int pc_), .val (.int pd), .val (.int pn), .val (.int ((pn &&& (2147483647 : Int32)) % (5 : Int32))), .val (.int ((pa).toUInt32.toUInt16.toUInt32.toInt32)), .val (.int ((pb).toUInt32.toUInt16.toUInt32.toInt32)), .val (.int ((pc_).toUInt32.toUInt16.toUInt32.toInt32)), .unset, .unset, .unset, .unset] at_19 rfl rfl ?_
  refine og_iloadN X0 22 at_21 rfl rfl ?_
  refine og_i2c X0 23 at_22 rfl ?_
  refine og_istore X0 25 #[.val (.int pa), .val (.int pb), .val (.int pc_), .val (.int pd), .val (.int pn), .val (.int ((pn &&& (2147483647 : Int32)) % (5 : Int32))), .val (.int ((pa).toUInt32.toUInt16.toUInt32.toInt32)), .val (.int ((pb).toUInt32.toUInt16.toUInt32.toInt32)), .val (.int ((pc_).toUInt32.toUInt16.toUInt32.toInt32)), .val (.int ((pd).toUInt32.toUInt16.toUInt32.toInt32)), .unset, .unset, .unset] at_23 rfl rfl ?_
  have B_u0 := own_lat16 (pa)
  generalize (pa).toUInt32.toUInt16.toUInt32.toInt32 = u0 at B_u0 ⊢
  have B_u1 := own_lat16 (pb)
  generalize (pb).toUInt32.toUInt16.toUInt32.toInt32 = u1 at B_u1 ⊢
  have B_u2 := own_lat16 (pc_)
  generalize (pc_).toUInt32.toUInt16.toUInt32.toInt32 = u2 at B_u2 ⊢
  have B_u3 := own_lat16 (pd)
  generalize (pd).toUInt32.toUInt16.toUInt32.toInt32 = u3 at B_u3 ⊢
  rcases own_mod5 pn with eQ | eQ | eQ | eQ | eQ
  · -- n is 0
    rw [eQ]
    refine og_iload X0 27 at_25 rfl rfl ?_
    refine og_ifN X0 30 at_27 (XT.i0_ne_f (by decide)) rfl ?_
    refine og_iconst X0 31 (0 : Int32) at_30 rfl rfl ?_
    refine own_arr X0 33 at_31 (ow hw 1 rfl) (by decide) (cap := 0) (by decide) (by decide) (by decide) (by decide) rfl ?_
    intro T1 h1 b1 kb1 X1 K1 G1 U1 A1
    have f2 : Arv Z h1 b1 kb1 .char (0 : Int32) [] (.int 0) := A1
    refine og_astore X1 35 #[.val (.int pa), .val (.int pb), .val (.int pc_), .val (.int pd), .val (.int pn), .val (.int 0), .val (.int u0), .val (.int u1), .val (.int u2), .val (.int u3), .val (.ref b1), .unset, .unset] at_33 rfl rfl rfl ?_
    refine og_goto X1 135 at_35 (by decide) (by decide) ?_
    refine own_new X1 138 at_135 (ow hw 2 rfl) (ow hw 3 rfl) (ow hw 4 rfl) (by decide) (by decide) rfl ?_
    intro T3 h3 b3 X3 K3 G3 U3 E3 D3
    have f4 : Fld Z h3 b3 "java/lang/String" "value" "[B" .null := D3 (Or.inr (ow hw 17 rfl)) (ty := (.array .byte)) (by decide)
    have f5 : Fld Z h3 b3 "java/lang/String" "coder" "B" (.int 0) := D3 (Or.inr (ow hw 18 rfl)) (ty := .byte) (by decide)
    refine og_dup X3 139 at_138 rfl rfl ?_
    refine og_aload X3 141 at_139 rfl rfl rfl ?_
    have f6 := f2.keep K3 nin0
    refine own_spec X3 144 (a := b3) (argsL := [(.ref b1)]) (rest := [(.ref b3)]) at_141 rfl (rm_emp1 l Z a0 hw n0 h3 hWd [] X3.old b3 b1 .null (0 : Int32) kb1 E3 f4 f5 f6 (own_svb X3 (om 0 rfl))) (ow hw 5 rfl) (ow hw 6 rfl) (ow hw 4 rfl) (ow hw 7 rfl) (by decide) (lenOf pd__28_5bC_29V rfl) rfl rfl rfl (W := 1) rfl (by decide) (by decide) (by decide) (by decide) (allS (om 0 rfl) all0) rfl ?_
    intro T7 h7 v7 X7 K7 hQ7
    obtain ⟨rfl, f8⟩ := hQ7
    show OGo _ _ _ _ T7 (mkF m 144 #[.val (.int pa), .val (.int pb), .val (.int pc_), .val (.int pd), .val (.int pn), .val (.int 0), .val (.int u0), .val (.int u1), .val (.int u2), .val (.int u3), .val (.ref b1), .unset, .unset] [(.ref b3)])
    refine og_astore X7 146 #[.val (.int pa), .val (.int pb), .val (.int pc_), .val (.int pd), .val (.int pn), .val (.int 0), .val (.int u0), .val (.int u1), .val (.int u2), .val (.int u3), .val (.ref b1), .val (.ref b3), .unset] at_144 rfl rfl rfl ?_
    refine og_aload X7 148 at_146 rfl rfl rfl ?_
    refine own_stat X7 151 (argsL := [(.ref b3)]) (rest := []) at_148 (rm_tl0 l Z a0 hw n0 h7 hWd [] X7.old b3 f8.top ) (ow hw 23 rfl) (ow hw 24 rfl) (ow hw 25 rfl) (ow hw 26 rfl) (by decide) (lenOf pd__28Ljava_2flang_2fString_3b_29Ljava_2flang_2fString_3b rfl) rfl rfl rfl (W := 0) rfl (by decide) (by decide) (by decide) (by decide) all0 rfl ?_
    intro T9 h9 v9 X9 K9 hQ9
    obtain ⟨r9, rfl, ge_r9, f10⟩ := hQ9
    show OGo _ _ _ _ T9 (mkF m 151 #[.val (.int pa), .val (.int pb), .val (.int pc_), .val (.int pd), .val (.int pn), .val (.int 0), .val (.int u0), .val (.int u1), .val (.int u2), .val (.int u3), .val (.ref b1), .val (.ref b3), .unset] [(.ref r9)])
    refine og_astore X9 153 #[.val (.int pa), .val (.int pb), .val (.int pc_), .val (.int pd), .val (.int pn), .val (.int 0), .val (.int u0), .val (.int u1), .val (.int u2), .val (.int u3), .val (.ref b1), .val (.ref b3), .val (.ref r9)] at_151 rfl rfl rfl ?_
    refine og_aload X9 155 at_153 rfl rfl rfl ?_
    refine og_nonnullY X9 160 at_155 (by decide) (by decide) ?_
    refine og_aload X9 162 at_160 rfl rfl rfl ?_
    refine own_strLen X9 165 at_162 f10 (own_wL hw) (ow hw 3 rfl) hWd.2.1.1 hWd.2.1.2 (ow hw 47 rfl) (ow hw 48 rfl) (ow hw 50 rfl) (ow hw 49 rfl) rfl (W := 0) rfl (by decide) (by decide) (by decide) (by decide) rfl ?_
    intro T11 X12
    show OGo _ _ _ _ T11 (mkF m 165 #[.val (.int pa), .val (.int pb), .val (.int pc_), .val (.int pd), .val (.int pn), .val (.int 0), .val (.int u0), .val (.int u1), .val (.int u2), .val (.int u3), .val (.ref b1), .val (.ref b3), .val (.ref r9)] [(.int 0)])
    refine og_iload X12 167 at_165 rfl rfl ?_
    refine og_icmpY X12 172 at_167 (XT.ii_eq_t (by decide)) (by decide) (by decide) ?_
    refine og_iload X12 174 at_172 rfl rfl ?_
    refine og_ifY X12 193 at_174 (XT.i0_le_t (by decide)) (by decide) (by decide) ?_
    refine og_iload X12 195 at_193 rfl rfl ?_
    refine og_iconst X12 196 (1 : Int32) at_195 rfl rfl ?_
    refine og_icmpY X12 215 at_196 (XT.ii_le_t (by decide)) (by decide) (by decide) ?_
    refine og_iload X12 217 at_215 rfl rfl ?_
    refine og_iconst X12 218 (2 : Int32) at_217 rfl rfl ?_
    refine og_icmpY X12 237 at_218 (XT.ii_le_t (by decide)) (by decide) (by decide) ?_
    refine og_iload X12 239 at_237 rfl rfl ?_
    refine og_iconst X12 240 (3 : Int32) at_239 rfl rfl ?_
    refine og_icmpY X12 259 at_240 (XT.ii_le_t (by decide)) (by decide) (by decide) ?_
    refine og_iconst X12 260 (1 : Int32) at_259 rfl rfl ?_
    refine own_retZ X12 at_260 hret rfl (by decide) (by decide) ?_
    exact rfl
  · -- n is 1
    rw [eQ]
    refine og_iload X0 27 at_25 rfl rfl ?_
    refine og_ifY X0 38 at_27 (XT.i0_ne_t (by decide)) (by decide) (by decide) ?_
    refine og_iload X0 40 at_38 rfl rfl ?_
    refine og_iconst X0 41 (1 : Int32) at_40 rfl rfl ?_
    refine og_icmpN X0 44 at_41 (XT.ii_ne_f (by decide)) rfl ?_
    refine og_iconst X0 45 (1 : Int32) at_44 rfl rfl ?_
    refine own_arr X0 47 at_45 (ow hw 1 rfl) (by decide) (cap := 1) (by decide) (by decide) (by decide) (by decide) rfl ?_
    intro T13 h13 b13 kb13 X13 K13 G13 U13 A13
    have f14 : Arv Z h13 b13 kb13 .char (1 : Int32) [(.int 0)] (.int 0) := A13
    refine og_dup X13 48 at_47 rfl rfl ?_
    refine og_iconst X13 49 (0 : Int32) at_48 rfl rfl ?_
    refine og_iload X13 51 at_49 rfl rfl ?_
    refine own_stC X13 52 at_51 f14 (own_nch B_u0.1 B_u0.2) (by decide) (by decide) (i := 0) (by decide) (Nat.le_of_ble_eq_true rfl) (om 0 rfl) rfl ?_
    intro T15 h15 X15 W15 K15 A15
    have f16 : Arv Z h15 b13 kb13 .char (1 : Int32) [(.int u0)] (.int 0) := A15
    refine og_astore X15 54 #[.val (.int pa), .val (.int pb), .val (.int pc_), .val (.int pd), .val (.int pn), .val (.int 1), .val (.int u0), .val (.int u1), .val (.int u2), .val (.int u3), .val (.ref b13), .unset, .unset] at_52 rfl rfl rfl ?_
    refine og_goto X15 135 at_54 (by decide) (by decide) ?_
    refine own_new X15 138 at_135 (ow hw 2 rfl) (ow hw 3 rfl) (ow hw 4 rfl) (by decide) (by decide) rfl ?_
    intro T17 h17 b17 X17 K17 G17 U17 E17 D17
    have f18 : Fld Z h17 b17 "java/lang/String" "value" "[B" .null := D17 (Or.inr (ow hw 17 rfl)) (ty := (.array .byte)) (by decide)
    have f19 : Fld Z h17 b17 "java/lang/String" "coder" "B" (.int 0) := D17 (Or.inr (ow hw 18 rfl)) (ty := .byte) (by decide)
    refine og_dup X17 139 at_138 rfl rfl ?_
    refine og_aload X17 141 at_139 rfl rfl rfl ?_
    have f20 := f16.keep K17 nin0
    refine own_spec X17 144 (a := b17) (argsL := [(.ref b13)]) (rest := [(.ref b17)]) at_141 rfl (ru_ini1 l Z a0 hw n0 h17 hWd [] X17.old b17 b13 .null (0 : Int32) kb13 (.int 0) u0 E17 f18 f19 f20 B_u0.1 B_u0.2 (own_svb X17 (om 0 rfl))) (ow hw 5 rfl) (ow hw 6 rfl) (ow hw 4 rfl) (ow hw 7 rfl) (by decide) (lenOf pd__28_5bC_29V rfl) rfl rfl rfl (W := 1) rfl (by decide) (by decide) (by decide) (by decide) (allS (om 0 rfl) all0) rfl ?_
    intro T21 h21 v21 X21 K21 hQ21
    obtain ⟨rfl, f22⟩ := hQ21
    show OGo _ _ _ _ T21 (mkF m 144 #[.val (.int pa), .val (.int pb), .val (.int pc_), .val (.int pd), .val (.int pn), .val (.int 1), .val (.int u0), .val (.int u1), .val (.int u2), .val (.int u3), .val (.ref b13), .unset, .unset] [(.ref b17)])
    refine og_astore X21 146 #[.val (.int pa), .val (.int pb), .val (.int pc_), .val (.int pd), .val (.int pn), .val (.int 1), .val (.int u0), .val (.int u1), .val (.int u2), .val (.int u3), .val (.ref b13), .val (.ref b17), .unset] at_144 rfl rfl rfl ?_
    refine og_aload X21 148 at_146 rfl rfl rfl ?_
    refine own_stat X21 151 (argsL := [(.ref b17)]) (rest := []) at_148 (rm_tl1 l Z a0 hw n0 h21 hWd [] X21.old b17 u0 f22.top B_u0.1 B_u0.2 ) (ow hw 23 rfl) (ow hw 24 rfl) (ow hw 25 rfl) (ow hw 26 rfl) (by decide) (lenOf pd__28Ljava_2flang_2fString_3b_29Ljava_2flang_2fString_3b rfl) rfl rfl rfl (W := 0) rfl (by decide) (by decide) (by decide) (by decide) all0 rfl ?_
    intro T23 h23 v23 X23 K23 hQ23
    obtain ⟨r23, rfl, ge_r23, f24⟩ := hQ23
    show OGo _ _ _ _ T23 (mkF m 151 #[.val (.int pa), .val (.int pb), .val (.int pc_), .val (.int pd), .val (.int pn), .val (.int 1), .val (.int u0), .val (.int u1), .val (.int u2), .val (.int u3), .val (.ref b13), .val (.ref b17), .unset] [(.ref r23)])
    refine og_astore X23 153 #[.val (.int pa), .val (.int pb), .val (.int pc_), .val (.int pd), .val (.int pn), .val (.int 1), .val (.int u0), .val (.int u1), .val (.int u2), .val (.int u3), .val (.ref b13), .val (.ref b17), .val (.ref r23)] at_151 rfl rfl rfl ?_
    refine og_aload X23 155 at_153 rfl rfl rfl ?_
    refine og_nonnullY X23 160 at_155 (by decide) (by decide) ?_
    refine og_aload X23 162 at_160 rfl rfl rfl ?_
    refine own_strLen X23 165 at_162 f24 (own_wL hw) (ow hw 3 rfl) hWd.2.1.1 hWd.2.1.2 (ow hw 47 rfl) (ow hw 48 rfl) (ow hw 50 rfl) (ow hw 49 rfl) rfl (W := 0) rfl (by decide) (by decide) (by decide) (by decide) rfl ?_
    intro T25 X26
    show OGo _ _ _ _ T25 (mkF m 165 #[.val (.int pa), .val (.int pb), .val (.int pc_), .val (.int pd), .val (.int pn), .val (.int 1), .val (.int u0), .val (.int u1), .val (.int u2), .val (.int u3), .val (.ref b13), .val (.ref b17), .val (.ref r23)] [(.int 1)])
    refine og_iload X26 167 at_165 rfl rfl ?_
    refine og_icmpY X26 172 at_167 (XT.ii_eq_t (by decide)) (by decide) (by decide) ?_
    refine og_iload X26 174 at_172 rfl rfl ?_
    refine og_ifN X26 177 at_174 (XT.i0_le_f (by decide)) rfl ?_
    refine og_aload X26 179 at_177 rfl rfl rfl ?_
    refine og_iconst X26 180 (0 : Int32) at_179 rfl rfl ?_
    refine own_virt X26 183 (a := r23) (argsL := [(.int 0)]) (rest := []) at_180 f24.exa (fun _ hZ => notFace_of_selects (args := #[]) (mvT hZ (ow hw 73 rfl))) (rg_ch l Z a0 hw n0 h23 hWd [] X26.old r23 [(own_low u0)] 0 f24.top (Nat.le_of_ble_eq_true rfl) ) (ow hw 70 rfl) (ow hw 71 rfl) (ow hw 73 rfl) (ow hw 72 rfl) (ow hw 4 rfl) (ow hw 74 rfl) (by decide) (lenOf pd__28I_29C rfl) rfl rfl rfl (W := 0) rfl (by decide) (by decide) (by decide) (by decide) all0 rfl ?_
    intro T27 h27 v27 X27 K27 hQ27
    obtain rfl := hQ27
    show OGo _ _ _ _ T27 (mkF m 183 #[.val (.int pa), .val (.int pb), .val (.int pc_), .val (.int pd), .val (.int pn), .val (.int 1), .val (.int u0), .val (.int u1), .val (.int u2), .val (.int u3), .val (.ref b13), .val (.ref b17), .val (.ref r23)] [(.int (own_low u0))])
    refine og_iload X27 185 at_183 rfl rfl ?_
    refine own_stat X27 188 (argsL := [(.int u0)]) (rest := [(.int (own_low u0))]) at_185 (rm19 l Z a0 hw n0 h27 hWd [] X27.old u0 B_u0.1 B_u0.2 ) (ow hw 86 rfl) (ow hw 87 rfl) (ow hw 88 rfl) (ow hw 89 rfl) (by decide) (lenOf pd__28C_29C rfl) rfl rfl rfl (W := 1) rfl (by decide) (by decide) (by decide) (by decide) all0 rfl ?_
    intro T28 h28 v28 X28 K28 hQ28
    obtain rfl := hQ28
    show OGo _ _ _ _ T28 (mkF m 188 #[.val (.int pa), .val (.int pb), .val (.int pc_), .val (.int pd), .val (.int pn), .val (.int 1), .val (.int u0), .val (.int u1), .val (.int u2), .val (.int u3), .val (.ref b13), .val (.ref b17), .val (.ref r23)] [(.int (own_low u0)), (.int (own_low u0))])
    refine og_icmpY X28 193 at_188 (XT.ii_eq_t rfl) (by decide) (by decide) ?_
    refine og_iload X28 195 at_193 rfl rfl ?_
    refine og_iconst X28 196 (1 : Int32) at_195 rfl rfl ?_
    refine og_icmpY X28 215 at_196 (XT.ii_le_t (by decide)) (by decide) (by decide) ?_
    refine og_iload X28 217 at_215 rfl rfl ?_
    refine og_iconst X28 218 (2 : Int32) at_217 rfl rfl ?_
    refine og_icmpY X28 237 at_218 (XT.ii_le_t (by decide)) (by decide) (by decide) ?_
    refine og_iload X28 239 at_237 rfl rfl ?_
    refine og_iconst X28 240 (3 : Int32) at_239 rfl rfl ?_
    refine og_icmpY X28 259 at_240 (XT.ii_le_t (by decide)) (by decide) (by decide) ?_
    refine og_iconst X28 260 (1 : Int32) at_259 rfl rfl ?_
    refine own_retZ X28 at_260 hret rfl (by decide) (by decide) ?_
    exact rfl
  · -- n is 2
    rw [eQ]
    refine og_iload X0 27 at_25 rfl rfl ?_
    refine og_ifY X0 38 at_27 (XT.i0_ne_t (by decide)) (by decide) (by decide) ?_
    refine og_iload X0 40 at_38 rfl rfl ?_
    refine og_iconst X0 41 (1 : Int32) at_40 rfl rfl ?_
    refine og_icmpY X0 57 at_41 (XT.ii_ne_t (by decide)) (by decide) (by decide) ?_
    refine og_iload X0 59 at_57 rfl rfl ?_
    refine og_iconst X0 60 (2 : Int32) at_59 rfl rfl ?_
    refine og_icmpN X0 63 at_60 (XT.ii_ne_f (by decide)) rfl ?_
    refine og_iconst X0 64 (2 : Int32) at_63 rfl rfl ?_
    refine own_arr X0 66 at_64 (ow hw 1 rfl) (by decide) (cap := 2) (by decide) (by decide) (by decide) (by decide) rfl ?_
    intro T29 h29 b29 kb29 X29 K29 G29 U29 A29
    have f30 : Arv Z h29 b29 kb29 .char (2 : Int32) [(.int 0), (.int 0)] (.int 0) := A29
    refine og_dup X29 67 at_66 rfl rfl ?_
    refine og_iconst X29 68 (0 : Int32) at_67 rfl rfl ?_
    refine og_iload X29 70 at_68 rfl rfl ?_
    refine own_stC X29 71 at_70 f30 (own_nch B_u0.1 B_u0.2) (by decide) (by decide) (i := 0) (by decide) (Nat.le_of_ble_eq_true rfl) (om 0 rfl) rfl ?_
    intro T31 h31 X31 W31 K31 A31
    have f32 : Arv Z h31 b29 kb29 .char (2 : Int32) [(.int u0), (.int 0)] (.int 0) := A31
    refine og_dup X31 72 at_71 rfl rfl ?_
    refine og_iconst X31 73 (1 : Int32) at_72 rfl rfl ?_
    refine og_iload X31 75 at_73 rfl rfl ?_
    refine own_stC X31 76 at_75 f32 (own_nch B_u1.1 B_u1.2) (by decide) (by decide) (i := 1) (by decide) (Nat.le_of_ble_eq_true rfl) (om 0 rfl) rfl ?_
    intro T33 h33 X33 W33 K33 A33
    have f34 : Arv Z h33 b29 kb29 .char (2 : Int32) [(.int u0), (.int u1)] (.int 0) := A33
    refine og_astore X33 78 #[.val (.int pa), .val (.int pb), .val (.int pc_), .val (.int pd), .val (.int pn), .val (.int 2), .val (.int u0), .val (.int u1), .val (.int u2), .val (.int u3), .val (.ref b29), .unset, .unset] at_76 rfl rfl rfl ?_
    refine og_goto X33 135 at_78 (by decide) (by decide) ?_
    refine own_new X33 138 at_135 (ow hw 2 rfl) (ow hw 3 rfl) (ow hw 4 rfl) (by decide) (by decide) rfl ?_
    intro T35 h35 b35 X35 K35 G35 U35 E35 D35
    have f36 : Fld Z h35 b35 "java/lang/String" "value" "[B" .null := D35 (Or.inr (ow hw 17 rfl)) (ty := (.array .byte)) (by decide)
    have f37 : Fld Z h35 b35 "java/lang/String" "coder" "B" (.int 0) := D35 (Or.inr (ow hw 18 rfl)) (ty := .byte) (by decide)
    refine og_dup X35 139 at_138 rfl rfl ?_
    refine og_aload X35 141 at_139 rfl rfl rfl ?_
    have f38 := f34.keep K35 nin0
    refine own_spec X35 144 (a := b35) (argsL := [(.ref b29)]) (rest := [(.ref b35)]) at_141 rfl (ru_ini2 l Z a0 hw n0 h35 hWd [] X35.old b35 b29 .null (0 : Int32) kb29 (.int 0) u0 u1 E35 f36 f37 f38 B_u0.1 B_u0.2 B_u1.1 B_u1.2 (own_svb X35 (om 0 rfl))) (ow hw 5 rfl) (ow hw 6 rfl) (ow hw 4 rfl) (ow hw 7 rfl) (by decide) (lenOf pd__28_5bC_29V rfl) rfl rfl rfl (W := 1) rfl (by decide) (by decide) (by decide) (by decide) (allS (om 0 rfl) all0) rfl ?_
    intro T39 h39 v39 X39 K39 hQ39
    obtain ⟨rfl, f40⟩ := hQ39
    show OGo _ _ _ _ T39 (mkF m 144 #[.val (.int pa), .val (.int pb), .val (.int pc_), .val (.int pd), .val (.int pn), .val (.int 2), .val (.int u0), .val (.int u1), .val (.int u2), .val (.int u3), .val (.ref b29), .unset, .unset] [(.ref b35)])
    refine og_astore X39 146 #[.val (.int pa), .val (.int pb), .val (.int pc_), .val (.int pd), .val (.int pn), .val (.int 2), .val (.int u0), .val (.int u1), .val (.int u2), .val (.int u3), .val (.ref b29), .val (.ref b35), .unset] at_144 rfl rfl rfl ?_
    refine og_aload X39 148 at_146 rfl rfl rfl ?_
    refine own_stat X39 151 (argsL := [(.ref b35)]) (rest := []) at_148 (rm_tl2 l Z a0 hw n0 h39 hWd [] X39.old b35 u0 u1 f40.top B_u0.1 B_u0.2 B_u1.1 B_u1.2 ) (ow hw 23 rfl) (ow hw 24 rfl) (ow hw 25 rfl) (ow hw 26 rfl) (by decide) (lenOf pd__28Ljava_2flang_2fString_3b_29Ljava_2flang_2fString_3b rfl) rfl rfl rfl (W := 0) rfl (by decide) (by decide) (by decide) (by decide) all0 rfl ?_
    intro T41 h41 v41 X41 K41 hQ41
    obtain ⟨r41, rfl, ge_r41, f42⟩ := hQ41
    show OGo _ _ _ _ T41 (mkF m 151 #[.val (.int pa), .val (.int pb), .val (.int pc_), .val (.int pd), .val (.int pn), .val (.int 2), .val (.int u0), .val (.int u1), .val (.int u2), .val (.int u3), .val (.ref b29), .val (.ref b35), .unset] [(.ref r41)])
    refine og_astore X41 153 #[.val (.int pa), .val (.int pb), .val (.int pc_), .val (.int pd), .val (.int pn), .val (.int 2), .val (.int u0), .val (.int u1), .val (.int u2), .val (.int u3), .val (.ref b29), .val (.ref b35), .val (.ref r41)] at_151 rfl rfl rfl ?_
    refine og_aload X41 155 at_153 rfl rfl rfl ?_
    refine og_nonnullY X41 160 at_155 (by decide) (by decide) ?_
    refine og_aload X41 162 at_160 rfl rfl rfl ?_
    refine own_strLen X41 165 at_162 f42 (own_wL hw) (ow hw 3 rfl) hWd.2.1.1 hWd.2.1.2 (ow hw 47 rfl) (ow hw 48 rfl) (ow hw 50 rfl) (ow hw 49 rfl) rfl (W := 0) rfl (by decide) (by decide) (by decide) (by decide) rfl ?_
    intro T43 X44
    show OGo _ _ _ _ T43 (mkF m 165 #[.val (.int pa), .val (.int pb), .val (.int pc_), .val (.int pd), .val (.int pn), .val (.int 2), .val (.int u0), .val (.int u1), .val (.int u2), .val (.int u3), .val (.ref b29), .val (.ref b35), .val (.ref r41)] [(.int 2)])
    refine og_iload X44 167 at_165 rfl rfl ?_
    refine og_icmpY X44 172 at_167 (XT.ii_eq_t (by decide)) (by decide) (by decide) ?_
    refine og_iload X44 174 at_172 rfl rfl ?_
    refine og_ifN X44 177 at_174 (XT.i0_le_f (by decide)) rfl ?_
    refine og_aload X44 179 at_177 rfl rfl rfl ?_
    refine og_iconst X44 180 (0 : Int32) at_179 rfl rfl ?_
    refine own_virt X44 183 (a := r41) (argsL := [(.int 0)]) (rest := []) at_180 f42.exa (fun _ hZ => notFace_of_selects (args := #[]) (mvT hZ (ow hw 73 rfl))) (rg_ch l Z a0 hw n0 h41 hWd [] X44.old r41 [(own_low u0), (own_low u1)] 0 f42.top (Nat.le_of_ble_eq_true rfl) ) (ow hw 70 rfl) (ow hw 71 rfl) (ow hw 73 rfl) (ow hw 72 rfl) (ow hw 4 rfl) (ow hw 74 rfl) (by decide) (lenOf pd__28I_29C rfl) rfl rfl rfl (W := 0) rfl (by decide) (by decide) (by decide) (by decide) all0 rfl ?_
    intro T45 h45 v45 X45 K45 hQ45
    obtain rfl := hQ45
    show OGo _ _ _ _ T45 (mkF m 183 #[.val (.int pa), .val (.int pb), .val (.int pc_), .val (.int pd), .val (.int pn), .val (.int 2), .val (.int u0), .val (.int u1), .val (.int u2), .val (.int u3), .val (.ref b29), .val (.ref b35), .val (.ref r41)] [(.int (own_low u0))])
    refine og_iload X45 185 at_183 rfl rfl ?_
    refine own_stat X45 188 (argsL := [(.int u0)]) (rest := [(.int (own_low u0))]) at_185 (rm19 l Z a0 hw n0 h45 hWd [] X45.old u0 B_u0.1 B_u0.2 ) (ow hw 86 rfl) (ow hw 87 rfl) (ow hw 88 rfl) (ow hw 89 rfl) (by decide) (lenOf pd__28C_29C rfl) rfl rfl rfl (W := 1) rfl (by decide) (by decide) (by decide) (by decide) all0 rfl ?_
    intro T46 h46 v46 X46 K46 hQ46
    obtain rfl := hQ46
    show OGo _ _ _ _ T46 (mkF m 188 #[.val (.int pa), .val (.int pb), .val (.int pc_), .val (.int pd), .val (.int pn), .val (.int 2), .val (.int u0), .val (.int u1), .val (.int u2), .val (.int u3), .val (.ref b29), .val (.ref b35), .val (.ref r41)] [(.int (own_low u0)), (.int (own_low u0))])
    refine og_icmpY X46 193 at_188 (XT.ii_eq_t rfl) (by decide) (by decide) ?_
    refine og_iload X46 195 at_193 rfl rfl ?_
    refine og_iconst X46 196 (1 : Int32) at_195 rfl rfl ?_
    refine og_icmpN X46 199 at_196 (XT.ii_le_f (by decide)) rfl ?_
    refine og_aload X46 201 at_199 rfl rfl rfl ?_
    refine og_iconst X46 202 (1 : Int32) at_201 rfl rfl ?_
    have f47 := f42.exa.keep K45
    have f48 := f47.keep K46
    have f49 := f42.keep K45 all0
    have f50 := f49.keep K46 all0
    refine own_virt X46 205 (a := r41) (argsL := [(.int 1)]) (rest := []) at_202 f48 (fun _ hZ => notFace_of_selects (args := #[]) (mvT hZ (ow hw 73 rfl))) (rg_ch l Z a0 hw n0 h46 hWd [] X46.old r41 [(own_low u0), (own_low u1)] 1 f50.top (Nat.le_of_ble_eq_true rfl) ) (ow hw 70 rfl) (ow hw 71 rfl) (ow hw 73 rfl) (ow hw 72 rfl) (ow hw 4 rfl) (ow hw 74 rfl) (by decide) (lenOf pd__28I_29C rfl) rfl rfl rfl (W := 0) rfl (by decide) (by decide) (by decide) (by decide) all0 rfl ?_
    intro T51 h51 v51 X51 K51 hQ51
    obtain rfl := hQ51
    show OGo _ _ _ _ T51 (mkF m 205 #[.val (.int pa), .val (.int pb), .val (.int pc_), .val (.int pd), .val (.int pn), .val (.int 2), .val (.int u0), .val (.int u1), .val (.int u2), .val (.int u3), .val (.ref b29), .val (.ref b35), .val (.ref r41)] [(.int (own_low u1))])
    refine og_iload X51 207 at_205 rfl rfl ?_
    refine own_stat X51 210 (argsL := [(.int u1)]) (rest := [(.int (own_low u1))]) at_207 (rm19 l Z a0 hw n0 h51 hWd [] X51.old u1 B_u1.1 B_u1.2 ) (ow hw 86 rfl) (ow hw 87 rfl) (ow hw 88 rfl) (ow hw 89 rfl) (by decide) (lenOf pd__28C_29C rfl) rfl rfl rfl (W := 1) rfl (by decide) (by decide) (by decide) (by decide) all0 rfl ?_
    intro T52 h52 v52 X52 K52 hQ52
    obtain rfl := hQ52
    show OGo _ _ _ _ T52 (mkF m 210 #[.val (.int pa), .val (.int pb), .val (.int pc_), .val (.int pd), .val (.int pn), .val (.int 2), .val (.int u0), .val (.int u1), .val (.int u2), .val (.int u3), .val (.ref b29), .val (.ref b35), .val (.ref r41)] [(.int (own_low u1)), (.int (own_low u1))])
    refine og_icmpY X52 215 at_210 (XT.ii_eq_t rfl) (by decide) (by decide) ?_
    refine og_iload X52 217 at_215 rfl rfl ?_
    refine og_iconst X52 218 (2 : Int32) at_217 rfl rfl ?_
    refine og_icmpY X52 237 at_218 (XT.ii_le_t (by decide)) (by decide) (by decide) ?_
    refine og_iload X52 239 at_237 rfl rfl ?_
    refine og_iconst X52 240 (3 : Int32) at_239 rfl rfl ?_
    refine og_icmpY X52 259 at_240 (XT.ii_le_t (by decide)) (by decide) (by decide) ?_
    refine og_iconst X52 260 (1 : Int32) at_259 rfl rfl ?_
    refine own_retZ X52 at_260 hret rfl (by decide) (by decide) ?_
    exact rfl
  · -- n is 3
    rw [eQ]
    refine og_iload X0 27 at_25 rfl rfl ?_
    refine og_ifY X0 38 at_27 (XT.i0_ne_t (by decide)) (by decide) (by decide) ?_
    refine og_iload X0 40 at_38 rfl rfl ?_
    refine og_iconst X0 41 (1 : Int32) at_40 rfl rfl ?_
    refine og_icmpY X0 57 at_41 (XT.ii_ne_t (by decide)) (by decide) (by decide) ?_
    refine og_iload X0 59 at_57 rfl rfl ?_
    refine og_iconst X0 60 (2 : Int32) at_59 rfl rfl ?_
    refine og_icmpY X0 81 at_60 (XT.ii_ne_t (by decide)) (by decide) (by decide) ?_
    refine og_iload X0 83 at_81 rfl rfl ?_
    refine og_iconst X0 84 (3 : Int32) at_83 rfl rfl ?_
    refine og_icmpN X0 87 at_84 (XT.ii_ne_f (by decide)) rfl ?_
    refine og_iconst X0 88 (3 : Int32) at_87 rfl rfl ?_
    refine own_arr X0 90 at_88 (ow hw 1 rfl) (by decide) (cap := 3) (by decide) (by decide) (by decide) (by decide) rfl ?_
    intro T53 h53 b53 kb53 X53 K53 G53 U53 A53
    have f54 : Arv Z h53 b53 kb53 .char (3 : Int32) [(.int 0), (.int 0), (.int 0)] (.int 0) := A53
    refine og_dup X53 91 at_90 rfl rfl ?_
    refine og_iconst X53 92 (0 : Int32) at_91 rfl rfl ?_
    refine og_iload X53 94 at_92 rfl rfl ?_
    refine own_stC X53 95 at_94 f54 (own_nch B_u0.1 B_u0.2) (by decide) (by decide) (i := 0) (by decide) (Nat.le_of_ble_eq_true rfl) (om 0 rfl) rfl ?_
    intro T55 h55 X55 W55 K55 A55
    have f56 : Arv Z h55 b53 kb53 .char (3 : Int32) [(.int u0), (.int 0), (.int 0)] (.int 0) := A55
    refine og_dup X55 96 at_95 rfl rfl ?_
    refine og_iconst X55 97 (1 : Int32) at_96 rfl rfl ?_
    refine og_iload X55 99 at_97 rfl rfl ?_
    refine own_stC X55 100 at_99 f56 (own_nch B_u1.1 B_u1.2) (by decide) (by decide) (i := 1) (by decide) (Nat.le_of_ble_eq_true rfl) (om 0 rfl) rfl ?_
    intro T57 h57 X57 W57 K57 A57
    have f58 : Arv Z h57 b53 kb53 .char (3 : Int32) [(.int u0), (.int u1), (.int 0)] (.int 0) := A57
    refine og_dup X57 101 at_100 rfl rfl ?_
    refine og_iconst X57 102 (2 : Int32) at_101 rfl rfl ?_
    refine og_iload X57 104 at_102 rfl rfl ?_
    refine own_stC X57 105 at_104 f58 (own_nch B_u2.1 B_u2.2) (by decide) (by decide) (i := 2) (by decide) (Nat.le_of_ble_eq_true rfl) (om 0 rfl) rfl ?_
    intro T59 h59 X59 W59 K59 A59
    have f60 : Arv Z h59 b53 kb53 .char (3 : Int32) [(.int u0), (.int u1), (.int u2)] (.int 0) := A59
    refine og_astore X59 107 #[.val (.int pa), .val (.int pb), .val (.int pc_), .val (.int pd), .val (.int pn), .val (.int 3), .val (.int u0), .val (.int u1), .val (.int u2), .val (.int u3), .val (.ref b53), .unset, .unset] at_105 rfl rfl rfl ?_
    refine og_goto X59 135 at_107 (by decide) (by decide) ?_
    refine own_new X59 138 at_135 (ow hw 2 rfl) (ow hw 3 rfl) (ow hw 4 rfl) (by decide) (by decide) rfl ?_
    intro T61 h61 b61 X61 K61 G61 U61 E61 D61
    have f62 : Fld Z h61 b61 "java/lang/String" "value" "[B" .null := D61 (Or.inr (ow hw 17 rfl)) (ty := (.array .byte)) (by decide)
    have f63 : Fld Z h61 b61 "java/lang/String" "coder" "B" (.int 0) := D61 (Or.inr (ow hw 18 rfl)) (ty := .byte) (by decide)
    refine og_dup X61 139 at_138 rfl rfl ?_
    refine og_aload X61 141 at_139 rfl rfl rfl ?_
    have f64 := f60.keep K61 nin0
    refine own_spec X61 144 (a := b61) (argsL := [(.ref b53)]) (rest := [(.ref b61)]) at_141 rfl (ru_ini3 l Z a0 hw n0 h61 hWd [] X61.old b61 b53 .null (0 : Int32) kb53 (.int 0) u0 u1 u2 E61 f62 f63 f64 B_u0.1 B_u0.2 B_u1.1 B_u1.2 B_u2.1 B_u2.2 (own_svb X61 (om 0 rfl))) (ow hw 5 rfl) (ow hw 6 rfl) (ow hw 4 rfl) (ow hw 7 rfl) (by decide) (lenOf pd__28_5bC_29V rfl) rfl rfl rfl (W := 1) rfl (by decide) (by decide) (by decide) (by decide) (allS (om 0 rfl) all0) rfl ?_
    intro T65 h65 v65 X65 K65 hQ65
    obtain ⟨rfl, f66⟩ := hQ65
    show OGo _ _ _ _ T65 (mkF m 144 #[.val (.int pa), .val (.int pb), .val (.int pc_), .val (.int pd), .val (.int pn), .val (.int 3), .val (.int u0), .val (.int u1), .val (.int u2), .val (.int u3), .val (.ref b53), .unset, .unset] [(.ref b61)])
    refine og_astore X65 146 #[.val (.int pa), .val (.int pb), .val (.int pc_), .val (.int pd), .val (.int pn), .val (.int 3), .val (.int u0), .val (.int u1), .val (.int u2), .val (.int u3), .val (.ref b53), .val (.ref b61), .unset] at_144 rfl rfl rfl ?_
    refine og_aload X65 148 at_146 rfl rfl rfl ?_
    refine own_stat X65 151 (argsL := [(.ref b61)]) (rest := []) at_148 (rm_tl3 l Z a0 hw n0 h65 hWd [] X65.old b61 u0 u1 u2 f66.top B_u0.1 B_u0.2 B_u1.1 B_u1.2 B_u2.1 B_u2.2 ) (ow hw 23 rfl) (ow hw 24 rfl) (ow hw 25 rfl) (ow hw 26 rfl) (by decide) (lenOf pd__28Ljava_2flang_2fString_3b_29Ljava_2flang_2fString_3b rfl) rfl rfl rfl (W := 0) rfl (by decide) (by decide) (by decide) (by decide) all0 rfl ?_
    intro T67 h67 v67 X67 K67 hQ67
    obtain ⟨r67, rfl, ge_r67, f68⟩ := hQ67
    show OGo _ _ _ _ T67 (mkF m 151 #[.val (.int pa), .val (.int pb), .val (.int pc_), .val (.int pd), .val (.int pn), .val (.int 3), .val (.int u0), .val (.int u1), .val (.int u2), .val (.int u3), .val (.ref b53), .val (.ref b61), .unset] [(.ref r67)])
    refine og_astore X67 153 #[.val (.int pa), .val (.int pb), .val (.int pc_), .val (.int pd), .val (.int pn), .val (.int 3), .val (.int u0), .val (.int u1), .val (.int u2), .val (.int u3), .val (.ref b53), .val (.ref b61), .val (.ref r67)] at_151 rfl rfl rfl ?_
    refine og_aload X67 155 at_153 rfl rfl rfl ?_
    refine og_nonnullY X67 160 at_155 (by decide) (by decide) ?_
    refine og_aload X67 162 at_160 rfl rfl rfl ?_
    refine own_strLen X67 165 at_162 f68 (own_wL hw) (ow hw 3 rfl) hWd.2.1.1 hWd.2.1.2 (ow hw 47 rfl) (ow hw 48 rfl) (ow hw 50 rfl) (ow hw 49 rfl) rfl (W := 0) rfl (by decide) (by decide) (by decide) (by decide) rfl ?_
    intro T69 X70
    show OGo _ _ _ _ T69 (mkF m 165 #[.val (.int pa), .val (.int pb), .val (.int pc_), .val (.int pd), .val (.int pn), .val (.int 3), .val (.int u0), .val (.int u1), .val (.int u2), .val (.int u3), .val (.ref b53), .val (.ref b61), .val (.ref r67)] [(.int 3)])
    refine og_iload X70 167 at_165 rfl rfl ?_
    refine og_icmpY X70 172 at_167 (XT.ii_eq_t (by decide)) (by decide) (by decide) ?_
    refine og_iload X70 174 at_172 rfl rfl ?_
    refine og_ifN X70 177 at_174 (XT.i0_le_f (by decide)) rfl ?_
    refine og_aload X70 179 at_177 rfl rfl rfl ?_
    refine og_iconst X70 180 (0 : Int32) at_179 rfl rfl ?_
    refine own_virt X70 183 (a := r67) (argsL := [(.int 0)]) (rest := []) at_180 f68.exa (fun _ hZ => notFace_of_selects (args := #[]) (mvT hZ (ow hw 73 rfl))) (rg_ch l Z a0 hw n0 h67 hWd [] X70.old r67 [(own_low u0), (own_low u1), (own_low u2)] 0 f68.top (Nat.le_of_ble_eq_true rfl) ) (ow hw 70 rfl) (ow hw 71 rfl) (ow hw 73 rfl) (ow hw 72 rfl) (ow hw 4 rfl) (ow hw 74 rfl) (by decide) (lenOf pd__28I_29C rfl) rfl rfl rfl (W := 0) rfl (by decide) (by decide) (by decide) (by decide) all0 rfl ?_
    intro T71 h71 v71 X71 K71 hQ71
    obtain rfl := hQ71
    show OGo _ _ _ _ T71 (mkF m 183 #[.val (.int pa), .val (.int pb), .val (.int pc_), .val (.int pd), .val (.int pn), .val (.int 3), .val (.int u0), .val (.int u1), .val (.int u2), .val (.int u3), .val (.ref b53), .val (.ref b61), .val (.ref r67)] [(.int (own_low u0))])
    refine og_iload X71 185 at_183 rfl rfl ?_
    refine own_stat X71 188 (argsL := [(.int u0)]) (rest := [(.int (own_low u0))]) at_185 (rm19 l Z a0 hw n0 h71 hWd [] X71.old u0 B_u0.1 B_u0.2 ) (ow hw 86 rfl) (ow hw 87 rfl) (ow hw 88 rfl) (ow hw 89 rfl) (by decide) (lenOf pd__28C_29C rfl) rfl rfl rfl (W := 1) rfl (by decide) (by decide) (by decide) (by decide) all0 rfl ?_
    intro T72 h72 v72 X72 K72 hQ72
    obtain rfl := hQ72
    show OGo _ _ _ _ T72 (mkF m 188 #[.val (.int pa), .val (.int pb), .val (.int pc_), .val (.int pd), .val (.int pn), .val (.int 3), .val (.int u0), .val (.int u1), .val (.int u2), .val (.int u3), .val (.ref b53), .val (.ref b61), .val (.ref r67)] [(.int (own_low u0)), (.int (own_low u0))])
    refine og_icmpY X72 193 at_188 (XT.ii_eq_t rfl) (by decide) (by decide) ?_
    refine og_iload X72 195 at_193 rfl rfl ?_
    refine og_iconst X72 196 (1 : Int32) at_195 rfl rfl ?_
    refine og_icmpN X72 199 at_196 (XT.ii_le_f (by decide)) rfl ?_
    refine og_aload X72 201 at_199 rfl rfl rfl ?_
    refine og_iconst X72 202 (1 : Int32) at_201 rfl rfl ?_
    have f73 := f68.exa.keep K71
    have f74 := f73.keep K72
    have f75 := f68.keep K71 all0
    have f76 := f75.keep K72 all0
    refine own_virt X72 205 (a := r67) (argsL := [(.int 1)]) (rest := []) at_202 f74 (fun _ hZ => notFace_of_selects (args := #[]) (mvT hZ (ow hw 73 rfl))) (rg_ch l Z a0 hw n0 h72 hWd [] X72.old r67 [(own_low u0), (own_low u1), (own_low u2)] 1 f76.top (Nat.le_of_ble_eq_true rfl) ) (ow hw 70 rfl) (ow hw 71 rfl) (ow hw 73 rfl) (ow hw 72 rfl) (ow hw 4 rfl) (ow hw 74 rfl) (by decide) (lenOf pd__28I_29C rfl) rfl rfl rfl (W := 0) rfl (by decide) (by decide) (by decide) (by decide) all0 rfl ?_
    intro T77 h77 v77 X77 K77 hQ77
    obtain rfl := hQ77
    show OGo _ _ _ _ T77 (mkF m 205 #[.val (.int pa), .val (.int pb), .val (.int pc_), .val (.int pd), .val (.int pn), .val (.int 3), .val (.int u0), .val (.int u1), .val (.int u2), .val (.int u3), .val (.ref b53), .val (.ref b61), .val (.ref r67)] [(.int (own_low u1))])
    refine og_iload X77 207 at_205 rfl rfl ?_
    refine own_stat X77 210 (argsL := [(.int u1)]) (rest := [(.int (own_low u1))]) at_207 (rm19 l Z a0 hw n0 h77 hWd [] X77.old u1 B_u1.1 B_u1.2 ) (ow hw 86 rfl) (ow hw 87 rfl) (ow hw 88 rfl) (ow hw 89 rfl) (by decide) (lenOf pd__28C_29C rfl) rfl rfl rfl (W := 1) rfl (by decide) (by decide) (by decide) (by decide) all0 rfl ?_
    intro T78 h78 v78 X78 K78 hQ78
    obtain rfl := hQ78
    show OGo _ _ _ _ T78 (mkF m 210 #[.val (.int pa), .val (.int pb), .val (.int pc_), .val (.int pd), .val (.int pn), .val (.int 3), .val (.int u0), .val (.int u1), .val (.int u2), .val (.int u3), .val (.ref b53), .val (.ref b61), .val (.ref r67)] [(.int (own_low u1)), (.int (own_low u1))])
    refine og_icmpY X78 215 at_210 (XT.ii_eq_t rfl) (by decide) (by decide) ?_
    refine og_iload X78 217 at_215 rfl rfl ?_
    refine og_iconst X78 218 (2 : Int32) at_217 rfl rfl ?_
    refine og_icmpN X78 221 at_218 (XT.ii_le_f (by decide)) rfl ?_
    refine og_aload X78 223 at_221 rfl rfl rfl ?_
    refine og_iconst X78 224 (2 : Int32) at_223 rfl rfl ?_
    have f79 := f74.keep K77
    have f80 := f79.keep K78
    have f81 := f76.keep K77 all0
    have f82 := f81.keep K78 all0
    refine own_virt X78 227 (a := r67) (argsL := [(.int 2)]) (rest := []) at_224 f80 (fun _ hZ => notFace_of_selects (args := #[]) (mvT hZ (ow hw 73 rfl))) (rg_ch l Z a0 hw n0 h78 hWd [] X78.old r67 [(own_low u0), (own_low u1), (own_low u2)] 2 f82.top (Nat.le_of_ble_eq_true rfl) ) (ow hw 70 rfl) (ow hw 71 rfl) (ow hw 73 rfl) (ow hw 72 rfl) (ow hw 4 rfl) (ow hw 74 rfl) (by decide) (lenOf pd__28I_29C rfl) rfl rfl rfl (W := 0) rfl (by decide) (by decide) (by decide) (by decide) all0 rfl ?_
    intro T83 h83 v83 X83 K83 hQ83
    obtain rfl := hQ83
    show OGo _ _ _ _ T83 (mkF m 227 #[.val (.int pa), .val (.int pb), .val (.int pc_), .val (.int pd), .val (.int pn), .val (.int 3), .val (.int u0), .val (.int u1), .val (.int u2), .val (.int u3), .val (.ref b53), .val (.ref b61), .val (.ref r67)] [(.int (own_low u2))])
    refine og_iload X83 229 at_227 rfl rfl ?_
    refine own_stat X83 232 (argsL := [(.int u2)]) (rest := [(.int (own_low u2))]) at_229 (rm19 l Z a0 hw n0 h83 hWd [] X83.old u2 B_u2.1 B_u2.2 ) (ow hw 86 rfl) (ow hw 87 rfl) (ow hw 88 rfl) (ow hw 89 rfl) (by decide) (lenOf pd__28C_29C rfl) rfl rfl rfl (W := 1) rfl (by decide) (by decide) (by decide) (by decide) all0 rfl ?_
    intro T84 h84 v84 X84 K84 hQ84
    obtain rfl := hQ84
    show OGo _ _ _ _ T84 (mkF m 232 #[.val (.int pa), .val (.int pb), .val (.int pc_), .val (.int pd), .val (.int pn), .val (.int 3), .val (.int u0), .val (.int u1), .val (.int u2), .val (.int u3), .val (.ref b53), .val (.ref b61), .val (.ref r67)] [(.int (own_low u2)), (.int (own_low u2))])
    refine og_icmpY X84 237 at_232 (XT.ii_eq_t rfl) (by decide) (by decide) ?_
    refine og_iload X84 239 at_237 rfl rfl ?_
    refine og_iconst X84 240 (3 : Int32) at_239 rfl rfl ?_
    refine og_icmpY X84 259 at_240 (XT.ii_le_t (by decide)) (by decide) (by decide) ?_
    refine og_iconst X84 260 (1 : Int32) at_259 rfl rfl ?_
    refine own_retZ X84 at_260 hret rfl (by decide) (by decide) ?_
    exact rfl
  · -- n is 4
    rw [eQ]
    refine og_iload X0 27 at_25 rfl rfl ?_
    refine og_ifY X0 38 at_27 (XT.i0_ne_t (by decide)) (by decide) (by decide) ?_
    refine og_iload X0 40 at_38 rfl rfl ?_
    refine og_iconst X0 41 (1 : Int32) at_40 rfl rfl ?_
    refine og_icmpY X0 57 at_41 (XT.ii_ne_t (by decide)) (by decide) (by decide) ?_
    refine og_iload X0 59 at_57 rfl rfl ?_
    refine og_iconst X0 60 (2 : Int32) at_59 rfl rfl ?_
    refine og_icmpY X0 81 at_60 (XT.ii_ne_t (by decide)) (by decide) (by decide) ?_
    refine og_iload X0 83 at_81 rfl rfl ?_
    refine og_iconst X0 84 (3 : Int32) at_83 rfl rfl ?_
    refine og_icmpY X0 110 at_84 (XT.ii_ne_t (by decide)) (by decide) (by decide) ?_
    refine og_iconst X0 111 (4 : Int32) at_110 rfl rfl ?_
    refine own_arr X0 113 at_111 (ow hw 1 rfl) (by decide) (cap := 4) (by decide) (by decide) (by decide) (by decide) rfl ?_
    intro T85 h85 b85 kb85 X85 K85 G85 U85 A85
    have f86 : Arv Z h85 b85 kb85 .char (4 : Int32) [(.int 0), (.int 0), (.int 0), (.int 0)] (.int 0) := A85
    refine og_dup X85 114 at_113 rfl rfl ?_
    refine og_iconst X85 115 (0 : Int32) at_114 rfl rfl ?_
    refine og_iload X85 117 at_115 rfl rfl ?_
    refine own_stC X85 118 at_117 f86 (own_nch B_u0.1 B_u0.2) (by decide) (by decide) (i := 0) (by decide) (Nat.le_of_ble_eq_true rfl) (om 0 rfl) rfl ?_
    intro T87 h87 X87 W87 K87 A87
    have f88 : Arv Z h87 b85 kb85 .char (4 : Int32) [(.int u0), (.int 0), (.int 0), (.int 0)] (.int 0) := A87
    refine og_dup X87 119 at_118 rfl rfl ?_
    refine og_iconst X87 120 (1 : Int32) at_119 rfl rfl ?_
    refine og_iload X87 122 at_120 rfl rfl ?_
    refine own_stC X87 123 at_122 f88 (own_nch B_u1.1 B_u1.2) (by decide) (by decide) (i := 1) (by decide) (Nat.le_of_ble_eq_true rfl) (om 0 rfl) rfl ?_
    intro T89 h89 X89 W89 K89 A89
    have f90 : Arv Z h89 b85 kb85 .char (4 : Int32) [(.int u0), (.int u1), (.int 0), (.int 0)] (.int 0) := A89
    refine og_dup X89 124 at_123 rfl rfl ?_
    refine og_iconst X89 125 (2 : Int32) at_124 rfl rfl ?_
    refine og_iload X89 127 at_125 rfl rfl ?_
    refine own_stC X89 128 at_127 f90 (own_nch B_u2.1 B_u2.2) (by decide) (by decide) (i := 2) (by decide) (Nat.le_of_ble_eq_true rfl) (om 0 rfl) rfl ?_
    intro T91 h91 X91 W91 K91 A91
    have f92 : Arv Z h91 b85 kb85 .char (4 : Int32) [(.int u0), (.int u1), (.int u2), (.int 0)] (.int 0) := A91
    refine og_dup X91 129 at_128 rfl rfl ?_
    refine og_iconst X91 130 (3 : Int32) at_129 rfl rfl ?_
    refine og_iload X91 132 at_130 rfl rfl ?_
    refine own_stC X91 133 at_132 f92 (own_nch B_u3.1 B_u3.2) (by decide) (by decide) (i := 3) (by decide) (Nat.le_of_ble_eq_true rfl) (om 0 rfl) rfl ?_
    intro T93 h93 X93 W93 K93 A93
    have f94 : Arv Z h93 b85 kb85 .char (4 : Int32) [(.int u0), (.int u1), (.int u2), (.int u3)] (.int 0) := A93
    refine og_astore X93 135 #[.val (.int pa), .val (.int pb), .val (.int pc_), .val (.int pd), .val (.int pn), .val (.int 4), .val (.int u0), .val (.int u1), .val (.int u2), .val (.int u3), .val (.ref b85), .unset, .unset] at_133 rfl rfl rfl ?_
    refine own_new X93 138 at_135 (ow hw 2 rfl) (ow hw 3 rfl) (ow hw 4 rfl) (by decide) (by decide) rfl ?_
    intro T95 h95 b95 X95 K95 G95 U95 E95 D95
    have f96 : Fld Z h95 b95 "java/lang/String" "value" "[B" .null := D95 (Or.inr (ow hw 17 rfl)) (ty := (.array .byte)) (by decide)
    have f97 : Fld Z h95 b95 "java/lang/String" "coder" "B" (.int 0) := D95 (Or.inr (ow hw 18 rfl)) (ty := .byte) (by decide)
    refine og_dup X95 139 at_138 rfl rfl ?_
    refine og_aload X95 141 at_139 rfl rfl rfl ?_
    have f98 := f94.keep K95 nin0
    refine own_spec X95 144 (a := b95) (argsL := [(.ref b85)]) (rest := [(.ref b95)]) at_141 rfl (ru_ini4 l Z a0 hw n0 h95 hWd [] X95.old b95 b85 .null (0 : Int32) kb85 (.int 0) u0 u1 u2 u3 E95 f96 f97 f98 B_u0.1 B_u0.2 B_u1.1 B_u1.2 B_u2.1 B_u2.2 B_u3.1 B_u3.2 (own_svb X95 (om 0 rfl))) (ow hw 5 rfl) (ow hw 6 rfl) (ow hw 4 rfl) (ow hw 7 rfl) (by decide) (lenOf pd__28_5bC_29V rfl) rfl rfl rfl (W := 1) rfl (by decide) (by decide) (by decide) (by decide) (allS (om 0 rfl) all0) rfl ?_
    intro T99 h99 v99 X99 K99 hQ99
    obtain ⟨rfl, f100⟩ := hQ99
    show OGo _ _ _ _ T99 (mkF m 144 #[.val (.int pa), .val (.int pb), .val (.int pc_), .val (.int pd), .val (.int pn), .val (.int 4), .val (.int u0), .val (.int u1), .val (.int u2), .val (.int u3), .val (.ref b85), .unset, .unset] [(.ref b95)])
    refine og_astore X99 146 #[.val (.int pa), .val (.int pb), .val (.int pc_), .val (.int pd), .val (.int pn), .val (.int 4), .val (.int u0), .val (.int u1), .val (.int u2), .val (.int u3), .val (.ref b85), .val (.ref b95), .unset] at_144 rfl rfl rfl ?_
    refine og_aload X99 148 at_146 rfl rfl rfl ?_
    refine own_stat X99 151 (argsL := [(.ref b95)]) (rest := []) at_148 (rm_tl4 l Z a0 hw n0 h99 hWd [] X99.old b95 u0 u1 u2 u3 f100.top B_u0.1 B_u0.2 B_u1.1 B_u1.2 B_u2.1 B_u2.2 B_u3.1 B_u3.2 ) (ow hw 23 rfl) (ow hw 24 rfl) (ow hw 25 rfl) (ow hw 26 rfl) (by decide) (lenOf pd__28Ljava_2flang_2fString_3b_29Ljava_2flang_2fString_3b rfl) rfl rfl rfl (W := 0) rfl (by decide) (by decide) (by decide) (by decide) all0 rfl ?_
    intro T101 h101 v101 X101 K101 hQ101
    obtain ⟨r101, rfl, ge_r101, f102⟩ := hQ101
    show OGo _ _ _ _ T101 (mkF m 151 #[.val (.int pa), .val (.int pb), .val (.int pc_), .val (.int pd), .val (.int pn), .val (.int 4), .val (.int u0), .val (.int u1), .val (.int u2), .val (.int u3), .val (.ref b85), .val (.ref b95), .unset] [(.ref r101)])
    refine og_astore X101 153 #[.val (.int pa), .val (.int pb), .val (.int pc_), .val (.int pd), .val (.int pn), .val (.int 4), .val (.int u0), .val (.int u1), .val (.int u2), .val (.int u3), .val (.ref b85), .val (.ref b95), .val (.ref r101)] at_151 rfl rfl rfl ?_
    refine og_aload X101 155 at_153 rfl rfl rfl ?_
    refine og_nonnullY X101 160 at_155 (by decide) (by decide) ?_
    refine og_aload X101 162 at_160 rfl rfl rfl ?_
    refine own_strLen X101 165 at_162 f102 (own_wL hw) (ow hw 3 rfl) hWd.2.1.1 hWd.2.1.2 (ow hw 47 rfl) (ow hw 48 rfl) (ow hw 50 rfl) (ow hw 49 rfl) rfl (W := 0) rfl (by decide) (by decide) (by decide) (by decide) rfl ?_
    intro T103 X104
    show OGo _ _ _ _ T103 (mkF m 165 #[.val (.int pa), .val (.int pb), .val (.int pc_), .val (.int pd), .val (.int pn), .val (.int 4), .val (.int u0), .val (.int u1), .val (.int u2), .val (.int u3), .val (.ref b85), .val (.ref b95), .val (.ref r101)] [(.int 4)])
    refine og_iload X104 167 at_165 rfl rfl ?_
    refine og_icmpY X104 172 at_167 (XT.ii_eq_t (by decide)) (by decide) (by decide) ?_
    refine og_iload X104 174 at_172 rfl rfl ?_
    refine og_ifN X104 177 at_174 (XT.i0_le_f (by decide)) rfl ?_
    refine og_aload X104 179 at_177 rfl rfl rfl ?_
    refine og_iconst X104 180 (0 : Int32) at_179 rfl rfl ?_
    refine own_virt X104 183 (a := r101) (argsL := [(.int 0)]) (rest := []) at_180 f102.exa (fun _ hZ => notFace_of_selects (args := #[]) (mvT hZ (ow hw 73 rfl))) (rg_ch l Z a0 hw n0 h101 hWd [] X104.old r101 [(own_low u0), (own_low u1), (own_low u2), (own_low u3)] 0 f102.top (Nat.le_of_ble_eq_true rfl) ) (ow hw 70 rfl) (ow hw 71 rfl) (ow hw 73 rfl) (ow hw 72 rfl) (ow hw 4 rfl) (ow hw 74 rfl) (by decide) (lenOf pd__28I_29C rfl) rfl rfl rfl (W := 0) rfl (by decide) (by decide) (by decide) (by decide) all0 rfl ?_
    intro T105 h105 v105 X105 K105 hQ105
    obtain rfl := hQ105
    show OGo _ _ _ _ T105 (mkF m 183 #[.val (.int pa), .val (.int pb), .val (.int pc_), .val (.int pd), .val (.int pn), .val (.int 4), .val (.int u0), .val (.int u1), .val (.int u2), .val (.int u3), .val (.ref b85), .val (.ref b95), .val (.ref r101)] [(.int (own_low u0))])
    refine og_iload X105 185 at_183 rfl rfl ?_
    refine own_stat X105 188 (argsL := [(.int u0)]) (rest := [(.int (own_low u0))]) at_185 (rm19 l Z a0 hw n0 h105 hWd [] X105.old u0 B_u0.1 B_u0.2 ) (ow hw 86 rfl) (ow hw 87 rfl) (ow hw 88 rfl) (ow hw 89 rfl) (by decide) (lenOf pd__28C_29C rfl) rfl rfl rfl (W := 1) rfl (by decide) (by decide) (by decide) (by decide) all0 rfl ?_
    intro T106 h106 v106 X106 K106 hQ106
    obtain rfl := hQ106
    show OGo _ _ _ _ T106 (mkF m 188 #[.val (.int pa), .val (.int pb), .val (.int pc_), .val (.int pd), .val (.int pn), .val (.int 4), .val (.int u0), .val (.int u1), .val (.int u2), .val (.int u3), .val (.ref b85), .val (.ref b95), .val (.ref r101)] [(.int (own_low u0)), (.int (own_low u0))])
    refine og_icmpY X106 193 at_188 (XT.ii_eq_t rfl) (by decide) (by decide) ?_
    refine og_iload X106 195 at_193 rfl rfl ?_
    refine og_iconst X106 196 (1 : Int32) at_195 rfl rfl ?_
    refine og_icmpN X106 199 at_196 (XT.ii_le_f (by decide)) rfl ?_
    refine og_aload X106 201 at_199 rfl rfl rfl ?_
    refine og_iconst X106 202 (1 : Int32) at_201 rfl rfl ?_
    have f107 := f102.exa.keep K105
    have f108 := f107.keep K106
    have f109 := f102.keep K105 all0
    have f110 := f109.keep K106 all0
    refine own_virt X106 205 (a := r101) (argsL := [(.int 1)]) (rest := []) at_202 f108 (fun _ hZ => notFace_of_selects (args := #[]) (mvT hZ (ow hw 73 rfl))) (rg_ch l Z a0 hw n0 h106 hWd [] X106.old r101 [(own_low u0), (own_low u1), (own_low u2), (own_low u3)] 1 f110.top (Nat.le_of_ble_eq_true rfl) ) (ow hw 70 rfl) (ow hw 71 rfl) (ow hw 73 rfl) (ow hw 72 rfl) (ow hw 4 rfl) (ow hw 74 rfl) (by decide) (lenOf pd__28I_29C rfl) rfl rfl rfl (W := 0) rfl (by decide) (by decide) (by decide) (by decide) all0 rfl ?_
    intro T111 h111 v111 X111 K111 hQ111
    obtain rfl := hQ111
    show OGo _ _ _ _ T111 (mkF m 205 #[.val (.int pa), .val (.int pb), .val (.int pc_), .val (.int pd), .val (.int pn), .val (.int 4), .val (.int u0), .val (.int u1), .val (.int u2), .val (.int u3), .val (.ref b85), .val (.ref b95), .val (.ref r101)] [(.int (own_low u1))])
    refine og_iload X111 207 at_205 rfl rfl ?_
    refine own_stat X111 210 (argsL := [(.int u1)]) (rest := [(.int (own_low u1))]) at_207 (rm19 l Z a0 hw n0 h111 hWd [] X111.old u1 B_u1.1 B_u1.2 ) (ow hw 86 rfl) (ow hw 87 rfl) (ow hw 88 rfl) (ow hw 89 rfl) (by decide) (lenOf pd__28C_29C rfl) rfl rfl rfl (W := 1) rfl (by decide) (by decide) (by decide) (by decide) all0 rfl ?_
    intro T112 h112 v112 X112 K112 hQ112
    obtain rfl := hQ112
    show OGo _ _ _ _ T112 (mkF m 210 #[.val (.int pa), .val (.int pb), .val (.int pc_), .val (.int pd), .val (.int pn), .val (.int 4), .val (.int u0), .val (.int u1), .val (.int u2), .val (.int u3), .val (.ref b85), .val (.ref b95), .val (.ref r101)] [(.int (own_low u1)), (.int (own_low u1))])
    refine og_icmpY X112 215 at_210 (XT.ii_eq_t rfl) (by decide) (by decide) ?_
    refine og_iload X112 217 at_215 rfl rfl ?_
    refine og_iconst X112 218 (2 : Int32) at_217 rfl rfl ?_
    refine og_icmpN X112 221 at_218 (XT.ii_le_f (by decide)) rfl ?_
    refine og_aload X112 223 at_221 rfl rfl rfl ?_
    refine og_iconst X112 224 (2 : Int32) at_223 rfl rfl ?_
    have f113 := f108.keep K111
    have f114 := f113.keep K112
    have f115 := f110.keep K111 all0
    have f116 := f115.keep K112 all0
    refine own_virt X112 227 (a := r101) (argsL := [(.int 2)]) (rest := []) at_224 f114 (fun _ hZ => notFace_of_selects (args := #[]) (mvT hZ (ow hw 73 rfl))) (rg_ch l Z a0 hw n0 h112 hWd [] X112.old r101 [(own_low u0), (own_low u1), (own_low u2), (own_low u3)] 2 f116.top (Nat.le_of_ble_eq_true rfl) ) (ow hw 70 rfl) (ow hw 71 rfl) (ow hw 73 rfl) (ow hw 72 rfl) (ow hw 4 rfl) (ow hw 74 rfl) (by decide) (lenOf pd__28I_29C rfl) rfl rfl rfl (W := 0) rfl (by decide) (by decide) (by decide) (by decide) all0 rfl ?_
    intro T117 h117 v117 X117 K117 hQ117
    obtain rfl := hQ117
    show OGo _ _ _ _ T117 (mkF m 227 #[.val (.int pa), .val (.int pb), .val (.int pc_), .val (.int pd), .val (.int pn), .val (.int 4), .val (.int u0), .val (.int u1), .val (.int u2), .val (.int u3), .val (.ref b85), .val (.ref b95), .val (.ref r101)] [(.int (own_low u2))])
    refine og_iload X117 229 at_227 rfl rfl ?_
    refine own_stat X117 232 (argsL := [(.int u2)]) (rest := [(.int (own_low u2))]) at_229 (rm19 l Z a0 hw n0 h117 hWd [] X117.old u2 B_u2.1 B_u2.2 ) (ow hw 86 rfl) (ow hw 87 rfl) (ow hw 88 rfl) (ow hw 89 rfl) (by decide) (lenOf pd__28C_29C rfl) rfl rfl rfl (W := 1) rfl (by decide) (by decide) (by decide) (by decide) all0 rfl ?_
    intro T118 h118 v118 X118 K118 hQ118
    obtain rfl := hQ118
    show OGo _ _ _ _ T118 (mkF m 232 #[.val (.int pa), .val (.int pb), .val (.int pc_), .val (.int pd), .val (.int pn), .val (.int 4), .val (.int u0), .val (.int u1), .val (.int u2), .val (.int u3), .val (.ref b85), .val (.ref b95), .val (.ref r101)] [(.int (own_low u2)), (.int (own_low u2))])
    refine og_icmpY X118 237 at_232 (XT.ii_eq_t rfl) (by decide) (by decide) ?_
    refine og_iload X118 239 at_237 rfl rfl ?_
    refine og_iconst X118 240 (3 : Int32) at_239 rfl rfl ?_
    refine og_icmpN X118 243 at_240 (XT.ii_le_f (by decide)) rfl ?_
    refine og_aload X118 245 at_243 rfl rfl rfl ?_
    refine og_iconst X118 246 (3 : Int32) at_245 rfl rfl ?_
    have f119 := f114.keep K117
    have f120 := f119.keep K118
    have f121 := f116.keep K117 all0
    have f122 := f121.keep K118 all0
    refine own_virt X118 249 (a := r101) (argsL := [(.int 3)]) (rest := []) at_246 f120 (fun _ hZ => notFace_of_selects (args := #[]) (mvT hZ (ow hw 73 rfl))) (rg_ch l Z a0 hw n0 h118 hWd [] X118.old r101 [(own_low u0), (own_low u1), (own_low u2), (own_low u3)] 3 f122.top (Nat.le_of_ble_eq_true rfl) ) (ow hw 70 rfl) (ow hw 71 rfl) (ow hw 73 rfl) (ow hw 72 rfl) (ow hw 4 rfl) (ow hw 74 rfl) (by decide) (lenOf pd__28I_29C rfl) rfl rfl rfl (W := 0) rfl (by decide) (by decide) (by decide) (by decide) all0 rfl ?_
    intro T123 h123 v123 X123 K123 hQ123
    obtain rfl := hQ123
    show OGo _ _ _ _ T123 (mkF m 249 #[.val (.int pa), .val (.int pb), .val (.int pc_), .val (.int pd), .val (.int pn), .val (.int 4), .val (.int u0), .val (.int u1), .val (.int u2), .val (.int u3), .val (.ref b85), .val (.ref b95), .val (.ref r101)] [(.int (own_low u3))])
    refine og_iload X123 251 at_249 rfl rfl ?_
    refine own_stat X123 254 (argsL := [(.int u3)]) (rest := [(.int (own_low u3))]) at_251 (rm19 l Z a0 hw n0 h123 hWd [] X123.old u3 B_u3.1 B_u3.2 ) (ow hw 86 rfl) (ow hw 87 rfl) (ow hw 88 rfl) (ow hw 89 rfl) (by decide) (lenOf pd__28C_29C rfl) rfl rfl rfl (W := 1) rfl (by decide) (by decide) (by decide) (by decide) all0 rfl ?_
    intro T124 h124 v124 X124 K124 hQ124
    obtain rfl := hQ124
    show OGo _ _ _ _ T124 (mkF m 254 #[.val (.int pa), .val (.int pb), .val (.int pc_), .val (.int pd), .val (.int pn), .val (.int 4), .val (.int u0), .val (.int u1), .val (.int u2), .val (.int u3), .val (.ref b85), .val (.ref b95), .val (.ref r101)] [(.int (own_low u3)), (.int (own_low u3))])
    refine og_icmpY X124 259 at_254 (XT.ii_eq_t rfl) (by decide) (by decide) ?_
    refine og_iconst X124 260 (1 : Int32) at_259 rfl rfl ?_
    refine own_retZ X124 at_260 hret rfl (by decide) (by decide) ?_
    exact rfl
theorem own_held {s : State} {own : String} {i : Nat} (h : constHeld s own i) : Jvm.Lit.constHeld s own i := h
set_option maxRecDepth 65536 in
set_option maxHeartbeats 40000000 in
theorem comes_1 {Post : Tables → Env → Array Value → State → Outcome → State → Prop} (hpost : ∀ tb e args s v u, (limb_1_1.after args s (.returned v) u = true ∧ limb_1_2.after args s (.returned v) u = true ∧ True) → Jvm.ReturnedEndW s (.returned v) u (Jvm.fieldLocs frame_1_writes args s ++ Jvm.arrayLocs frame_1_arrays args s ++ Jvm.staticLocs frame_1_statics s) 32 1216 → Post tb e args s (.returned v) u) :
    ArmFor flags0 classFile x code maxLocals ret World_1 tables_1 room_1 Calls_1 rest_1 Pre_1 Post := by
  intro l hfl _ _ p e ha hc hk s m args below hf hA hF happ hP
  obtain ⟨hcalls, hrest, hpre⟩ := hP
  obtain ⟨-, -, -, hnamed, -, -, -, hat⟩ := (Spec.applies_iff hf).mp happ
  obtain ⟨hg, hn⟩ := and_e (Cond.before_iff.mp (show (Jvm.Cond.and given_1 narrow_1).before args s = true from hpre))
  obtain ⟨hcount, g0⟩ := and_e hg
  obtain ⟨i0, g1⟩ := and_e g0
  obtain ⟨i1, g2⟩ := and_e g1
  obtain ⟨i2, g3⟩ := and_e g2
  obtain ⟨i3, g4⟩ := and_e g3
  have i4 := g4
  obtain ⟨w0, w1, w2, w3, w4, rfl⟩ : ∃ w0 w1 w2 w3 w4 : Value, args = #[w0, w1, w2, w3, w4] := by
    have hs : args.size = 5 := by simpa [Cond.value, given_1] using hcount
    obtain ⟨L⟩ := args
    match L, hs with
    | [w0, w1, w2, w3, w4], _ => exact ⟨w0, w1, w2, w3, w4, rfl⟩
  have hw := fun d (hd : d ∈ tables_1) => atoms_spec (ws := Jvm.Cond.code x code maxLocals ret :: tables_1) hat d (List.mem_cons_of_mem _ hd)
  obtain ⟨hsets, hown0⟩ := atoms_of _ (rest_1_c_eq ▸ (show rest_1_c.before _ s = true from hrest))
  obtain ⟨x0, e0⟩ := is_v i0
  obtain rfl : w0 = (.int x0) := Option.some.inj e0
  obtain ⟨x1, e1⟩ := is_v i1
  obtain rfl : w1 = (.int x1) := Option.some.inj e1
  obtain ⟨x2, e2⟩ := is_v i2
  obtain rfl : w2 = (.int x2) := Option.some.inj e2
  obtain ⟨x3, e3⟩ := is_v i3
  obtain rfl : w3 = (.int x3) := Option.some.inj e3
  obtain ⟨x4, e4⟩ := is_v i4
  obtain rfl : w4 = (.int x4) := Option.some.inj e4
  have hEL : EW s #[(.int x0), (.int x1), (.int x2), (.int x3), (.int x4)] own_EL := (EW.cons (ow hw 15 rfl) (by decide) EW.nil)
  obtain ⟨r0, f0⟩ := is_v (Cond.before_iff.mp (hsets _ (om 1 rfl)))
  have t0 : own_sti s "java/lang/String" "COMPACT_STRINGS" "Z" = r0 := own_sti_of f0
  have S0 := Sta.start f0 (Or.inl (hsets _ (om 0 rfl)))
  have c0 : ¬ (r0 = (0 : Int32)) := gotF (Cond.eq_ints f0 (Term.int_eval (0))) (not_v (Cond.before_iff.mp (hsets _ (om 2 rfl))))
  obtain ⟨r1, f1, k1⟩ := isR_v (Cond.before_iff.mp (hsets _ (om 8 rfl)))
  have t1 : own_stv s "jdk/internal/util/Preconditions" "SIOOBE_FORMATTER" "Ljava/util/function/BiFunction;" = r1 := own_stv_of f1
  have S1 := Sta.start f1 (Or.inl (hsets _ (om 7 rfl)))
  have hWd : OWorld s #[(.int x0), (.int x1), (.int x2), (.int x3), (.int x4)] := ⟨hEL, ⟨by rw [t0]; exact S0, by rw [t0]; exact c0⟩, ⟨by rw [t1]; exact S1, by rw [t1]; exact k1⟩, Sta.start (Cond.eq_int (hsets _ (om 12 rfl)) rfl) (Or.inl (hsets _ (om 11 rfl))), Sta.start (Cond.eq_int (hsets _ (om 15 rfl)) rfl) (Or.inl (hsets _ (om 14 rfl))), Sta.start (Cond.eq_int (hsets _ (om 18 rfl)) rfl) (Or.inl (hsets _ (om 17 rfl)))⟩
  have hCH : CHv s own_EL s.vm s.heap := CHv.start hEL (fun p hp => own_held (hcalls.1 p hp)) (by have := (hsets _ (om 2 rfl)); exact this) (ow hw 16 rfl) (ow hw 3 rfl)
  obtain ⟨n, o, h1, h2, h3, v, L, rfl, ⟨N, -, hQ⟩, -, hqW, hqN⟩ := rm0 l s _ hw s.heap.size s.heap hWd tables_1 (Old.start s) x0 x1 x2 x3 x4 p e ha hc hk s m _ below hf ((Spec.applies_iff_loose hf).mp happ).1 ⟨rfl, State.Warmed39.refl s, rfl, hCH, fun _ q => nomatch q⟩ trivial
  obtain rfl := hQ
  refine ⟨n, _, h1, h2, h3, hpost _ _ _ _ _ _ ⟨Cond.after_iff.mpr rfl, Cond.after_iff.mpr (eq_i res_at (Term.int_eval (1)) rfl), trivial⟩ ⟨hqW.1, hqW.2.1, hqW.2.2.1, (hqW.2.2.2.sift fun y hy => Or.inr (N y hy)).mono (by decide) (by decide)⟩⟩
theorem main_1_1 : Claimed_1_1 := comes_1 fun _ _ _ _ _ _ h hF => ⟨h.1, hF⟩
theorem main_1_2 : Claimed_1_2 := comes_1 fun _ _ _ _ _ _ h hF => ⟨h.2.1, hF⟩
end Jvm.Pilot.@@N@@
namespace Jvm.Pilot.@@N@@
open Jvm Jvm.ClassFile Sem Op Lib Jvm.Free Jvm.Stand Jvm.Pilot.@@N@@.Jvm.D
/-! MADE BY PROGRAM (witnessworld.py) out of the Statement's table words and the real class files: 20 classes; the members and pool entries that the words name. The judged class is class 1, her method 1. -/
namespace start1
open Jvm.ClassFile
def u (s : String) : CpInfo := .utf8 (stringToUtf16 s)
/-- a pool by its gaps: so many unusable entries, then the entry; so many at the end -/
def gap : Nat → List CpInfo → List CpInfo
  | 0, r => r
  | n + 1, r => .unusable :: gap n r
def poolList (es : List (Nat × CpInfo)) (last : Nat) : List CpInfo := es.foldr (fun e r => gap e.1 (e.2 :: r)) (gap last [])
def pool (es : List (Nat × CpInfo)) (last : Nat) : Array CpInfo := ⟨poolList es last⟩
def fileOf (pool : Array CpInfo) (this : Nat) (attrs : Array Attribute := #[]) (ms : Array MethodInfo := #[]) (fl : Nat := 33) (sup : Nat := 0) (ifs : Array Nat := #[]) (fds : Array FieldInfo := #[]) : ClassFile where
  minorVersion := 0
  majorVersion := 65
  constantPool := pool
  accessFlags := fl
  thisClass := this
  superClass := sup
  interfaces := ifs
  fields := fds
  methods := ms
  attributes := attrs
def plain (name : String) (sup : Option ClassId) : Class where
  name := name
  kind := .ordinary
  loader := none
  accessFlags := 33
  super := sup
  interfaces := #[]
  cf := none
  fields := #[]
  methods := #[]
  instanceTypes := #[]
  staticTypes := #[]
  resolved := #[]
  callSites := []
  init := .initialized
  statics := none
  mirror := none

def pool0 : Array CpInfo := pool [(5, u "<init>"), (0, u "()V"), (1, .class_ 10), (1, u "java/lang/Object")] 113

def k0c0 : Code := { maxStack := 0, maxLocals := 1, code := object_method_1_code, exceptionTable := #[], attributes := #[] }
def k0m0 : Method := { name := "<init>", desc := "()V", sig := { parameters := [], returnType := none }, accessFlags := 1, code := some k0c0 }
/-- java/lang/Object -/
def k0 : Class := { plain "java/lang/Object" none with
  accessFlags := 33
  interfaces := #[]
  cf := some (fileOf pool0 8 #[] #[{ accessFlags := 1, nameIndex := 5, descriptorIndex := 6, attributes := #[] }] 33 0 #[] #[])
  fields := #[]
  methods := #[k0m0]
  instanceTypes := #[]
  staticTypes := #[]
  resolved := Array.replicate 124 none
  statics := none }

def pool1 : Array CpInfo := pool [(2, .class_ 4), (1, u "java/lang/Object"), (0, u "<init>"), (0, u "()V"), (0, .integer 2147483647), (0, .class_ 9), (0, u "java/lang/String"), (0, .methodref 8 11), (0, .nameAndType 5 12), (0, u "([C)V"), (0, .methodref 14 15), (0, .class_ 16), (0, .nameAndType 17 18), (0, u "com/example/roleward/roleward/http/Ascii"), (0, u "toLowerCase"), (0, u "(Ljava/lang/String;)Ljava/lang/String;"), (0, .methodref 8 20), (0, .nameAndType 21 22), (0, u "length"), (0, u "()I"), (0, .methodref 8 24), (0, .nameAndType 25 26), (0, u "charAt"), (0, u "(I)C"), (0, .methodref 28 29), (0, .class_ 30), (0, .nameAndType 31 32), (0, u "com/example/roleward/roleward/http/AsciiToLowerCasePinLaw"), (0, u "expect"), (0, u "(C)C"), (2, u "law"), (0, u "(IIIII)Z")] 5

def k1m0 : Method := { name := "<init>", desc := "()V", sig := { parameters := [], returnType := none }, accessFlags := 2, code := none }
def k1c1 : Code := { maxStack := 4, maxLocals := 13, code := code, exceptionTable := #[], attributes := #[] }
def k1m1 : Method := { name := "law", desc := "(IIIII)Z", sig := { parameters := [.int, .int, .int, .int, .int], returnType := some .boolean }, accessFlags := 9, code := some k1c1 }
def k1c2 : Code := { maxStack := 2, maxLocals := 2, code := method_3_code, exceptionTable := #[], attributes := #[] }
def k1m2 : Method := { name := "expect", desc := "(C)C", sig := { parameters := [.char], returnType := some .char }, accessFlags := 10, code := some k1c2 }
/-- com/example/roleward/roleward/http/AsciiToLowerCasePinLaw -/
def k1 : Class := { plain "com/example/roleward/roleward/http/AsciiToLowerCasePinLaw" (some 0) with
  accessFlags := 49
  interfaces := #[]
  cf := some (fileOf pool1 28 #[] #[{ accessFlags := 2, nameIndex := 5, descriptorIndex := 6, attributes := #[] }, { accessFlags := 9, nameIndex := 35, descriptorIndex := 36, attributes := #[] }, { accessFlags := 10, nameIndex := 31, descriptorIndex := 32, attributes := #[] }] 49 2 #[] #[])
  fields := #[]
  methods := #[k1m0, k1m1, k1m2]
  instanceTypes := #[]
  staticTypes := #[]
  resolved := Array.replicate 42 none
  statics := none }

def pool2 : Array CpInfo := pool [(1, .class_ 2), (0, u "java/io/Serializable"), (0, .class_ 4), (0, u "java/lang/Object")] 2

/-- java/io/Serializable -/
def k2 : Class := { plain "java/io/Serializable" (some 0) with
  accessFlags := 1537
  interfaces := #[]
  cf := some (fileOf pool2 1 #[] #[] 1537 3 #[] #[])
  fields := #[]
  methods := #[]
  instanceTypes := #[]
  staticTypes := #[]
  resolved := Array.replicate 7 none
  statics := none }

def pool3 : Array CpInfo := pool [(1, .class_ 2), (0, u "java/lang/Comparable"), (0, .class_ 4), (0, u "java/lang/Object")] 7

/-- java/lang/Comparable -/
def k3 : Class := { plain "java/lang/Comparable" (some 0) with
  accessFlags := 1537
  interfaces := #[]
  cf := some (fileOf pool3 1 #[] #[] 1537 3 #[] #[])
  fields := #[]
  methods := #[]
  instanceTypes := #[]
  staticTypes := #[]
  resolved := Array.replicate 12 none
  statics := none }

def pool4 : Array CpInfo := pool [(2, .class_ 4), (1, u "java/lang/CharSequence"), (42, .class_ 48), (0, u "java/lang/CharSequence$1CodePointIterator"), (10, .class_ 60), (0, u "java/lang/CharSequence$1CharIterator"), (5, .class_ 67), (0, u "java/lang/Object")] 63

/-- java/lang/CharSequence -/
def k4 : Class := { plain "java/lang/CharSequence" (some 0) with
  accessFlags := 1537
  interfaces := #[]
  cf := some (fileOf pool4 2 #[.nestMembers #[47, 59]] #[] 1537 66 #[] #[])
  fields := #[]
  methods := #[]
  instanceTypes := #[]
  staticTypes := #[]
  resolved := Array.replicate 131 none
  statics := none }

def pool5 : Array CpInfo := pool [(1, .class_ 2), (0, u "java/lang/constant/Constable"), (0, .class_ 4), (0, u "java/lang/Object")] 6

/-- java/lang/constant/Constable -/
def k5 : Class := { plain "java/lang/constant/Constable" (some 0) with
  accessFlags := 1537
  interfaces := #[]
  cf := some (fileOf pool5 1 #[] #[] 1537 3 #[] #[])
  fields := #[]
  methods := #[]
  instanceTypes := #[]
  staticTypes := #[]
  resolved := Array.replicate 11 none
  statics := none }

def pool6 : Array CpInfo := pool [(1, .class_ 2), (0, u "java/lang/constant/ConstantDesc"), (0, .class_ 4), (0, u "java/lang/Object")] 32

/-- java/lang/constant/ConstantDesc -/
def k6 : Class := { plain "java/lang/constant/ConstantDesc" (some 0) with
  accessFlags := 1537
  interfaces := #[]
  cf := some (fileOf pool6 1 #[] #[] 1537 3 #[] #[])
  fields := #[]
  methods := #[]
  instanceTypes := #[]
  staticTypes := #[]
  resolved := Array.replicate 37 none
  statics := none }

def pool7 : Array CpInfo := pool [(1, .methodref 2 3), (0, .class_ 4), (0, .nameAndType 5 6), (0, u "java/lang/Object"), (0, u "<init>"), (0, u "()V"), (0, .string 8), (0, u ""), (0, .fieldref 10 11), (0, .class_ 12), (0, .nameAndType 13 14), (0, u "java/lang/String"), (0, u "value"), (0, u "[B"), (0, .fieldref 10 16), (0, .nameAndType 17 18), (0, u "coder"), (0, u "B"), (2, u "hash"), (0, u "I"), (2, u "hashIsZero"), (0, u "Z"), (0, .methodref 10 28), (0, .nameAndType 5 29), (0, u "([CIILjava/lang/Void;)V"), (6, u "checkBoundsOffCount"), (0, u "(III)I"), (0, .fieldref 10 39), (0, .nameAndType 40 26), (0, u "COMPACT_STRINGS"), (1, .class_ 44), (1, u "java/lang/StringUTF16"), (0, u "compress"), (1, .methodref 42 48), (0, .nameAndType 49 50), (0, u "coderFromArrayLen"), (0, u "([BI)B"), (56, .class_ 109), (1, u "java/lang/StringLatin1"), (32, u "()Z"), (34, .methodref 42 178), (0, .nameAndType 45 179), (0, u "([CII)[B"), (119, .methodref 107 300), (0, .nameAndType 301 302), (0, u "toChars"), (0, u "([B)[C"), (0, .methodref 42 300), (30, u "()I"), (0, .methodref 10 336), (0, .nameAndType 17 337), (0, u "()B"), (25, u "([BI)C"), (27, u "(II)V"), (35, u "(I)C"), (64, .methodref 10 493), (0, .nameAndType 494 142), (0, u "isLatin1"), (0, .methodref 107 496), (0, .nameAndType 497 363), (0, u "charAt"), (0, .methodref 42 496), (2, u "checkIndex"), (5, u "length"), (67, .class_ 576), (0, u "java/lang/CharSequence"), (22, u "CASE_INSENSITIVE_ORDER"), (0, u "Ljava/util/Comparator;"), (354, u "toCharArray"), (0, u "()[C"), (53, u "([C)V"), (42, .fieldref 1054 1055), (0, .class_ 1056), (0, .nameAndType 1057 1058), (0, u "jdk/internal/util/Preconditions"), (0, u "SIOOBE_FORMATTER"), (0, u "Ljava/util/function/BiFunction;"), (0, .methodref 1054 1060), (0, .nameAndType 501 1061), (0, u "(IILjava/util/function/BiFunction;)I"), (2, u "(IIILjava/util/function/BiFunction;)I"), (0, .methodref 1054 1066), (0, .nameAndType 1067 1064), (0, u "checkFromIndexSize"), (33, u "serialPersistentFields"), (0, u "[Ljava/io/ObjectStreamField;"), (0, .class_ 1104), (0, u "java/lang/String$CaseInsensitiveComparator"), (1, .class_ 1107), (0, u "java/io/Serializable"), (0, .class_ 1109), (0, u "java/lang/Comparable"), (0, .class_ 1111), (0, u "java/lang/constant/Constable"), (0, .class_ 1113), (0, u "java/lang/constant/ConstantDesc"), (2, u "serialVersionUID"), (0, u "J"), (3, u "REPL"), (0, u "C"), (2, u "LATIN1"), (1, u "UTF16")] 323

def k7m0 : Method := { name := "<init>", desc := "()V", sig := { parameters := [], returnType := none }, accessFlags := 1, code := none }
def k7c1 : Code := { maxStack := 5, maxLocals := 2, code := jdk_42_method_3_code, exceptionTable := #[], attributes := #[] }
def k7m1 : Method := { name := "<init>", desc := "([C)V", sig := { parameters := [(.array .char)], returnType := none }, accessFlags := 1, code := some k7c1 }
def k7c2 : Code := { maxStack := 2, maxLocals := 1, code := jdk_42_method_54_code, exceptionTable := #[], attributes := #[] }
def k7m2 : Method := { name := "length", desc := "()I", sig := { parameters := [], returnType := some .int }, accessFlags := 1, code := some k7c2 }
def k7c3 : Code := { maxStack := 2, maxLocals := 2, code := jdk_42_method_56_code, exceptionTable := #[], attributes := #[] }
def k7m3 : Method := { name := "charAt", desc := "(I)C", sig := { parameters := [.int], returnType := some .char }, accessFlags := 1, code := some k7c3 }
def k7c4 : Code := { maxStack := 1, maxLocals := 1, code := jdk_42_method_129_code, exceptionTable := #[], attributes := #[] }
def k7m4 : Method := { name := "toCharArray", desc := "()[C", sig := { parameters := [], returnType := some (.array .char) }, accessFlags := 1, code := some k7c4 }
def k7c5 : Code := { maxStack := 4, maxLocals := 6, code := jdk_42_method_149_code, exceptionTable := #[], attributes := #[] }
def k7m5 : Method := { name := "<init>", desc := "([CIILjava/lang/Void;)V", sig := { parameters := [(.array .char), .int, .int, (.object "java/lang/Void")], returnType := none }, accessFlags := 2, code := some k7c5 }
def k7c6 : Code := { maxStack := 1, maxLocals := 1, code := jdk_42_method_152_code, exceptionTable := #[], attributes := #[] }
def k7m6 : Method := { name := "coder", desc := "()B", sig := { parameters := [], returnType := some .byte }, accessFlags := 0, code := some k7c6 }
def k7c7 : Code := { maxStack := 1, maxLocals := 1, code := jdk_42_method_154_code, exceptionTable := #[], attributes := #[] }
def k7m7 : Method := { name := "isLatin1", desc := "()Z", sig := { parameters := [], returnType := some .boolean }, accessFlags := 0, code := some k7c7 }
def k7c8 : Code := { maxStack := 3, maxLocals := 2, code := jdk_42_method_155_code, exceptionTable := #[], attributes := #[] }
def k7m8 : Method := { name := "checkIndex", desc := "(II)V", sig := { parameters := [.int, .int], returnType := none }, accessFlags := 8, code := some k7c8 }
def k7c9 : Code := { maxStack := 4, maxLocals := 3, code := jdk_42_method_157_code, exceptionTable := #[], attributes := #[] }
def k7m9 : Method := { name := "checkBoundsOffCount", desc := "(III)I", sig := { parameters := [.int, .int, .int], returnType := some .int }, accessFlags := 8, code := some k7c9 }
/-- java/lang/String -/
def k7 : Class := { plain "java/lang/String" (some 0) with
  accessFlags := 49
  interfaces := #[2, 3, 4, 5, 6]
  cf := some (fileOf pool7 10 #[.nestMembers #[1103]] #[{ accessFlags := 1, nameIndex := 5, descriptorIndex := 6, attributes := #[] }, { accessFlags := 1, nameIndex := 5, descriptorIndex := 1010, attributes := #[] }, { accessFlags := 1, nameIndex := 507, descriptorIndex := 334, attributes := #[] }, { accessFlags := 1, nameIndex := 497, descriptorIndex := 427, attributes := #[] }, { accessFlags := 1, nameIndex := 955, descriptorIndex := 956, attributes := #[] }, { accessFlags := 2, nameIndex := 5, descriptorIndex := 29, attributes := #[] }, { accessFlags := 0, nameIndex := 17, descriptorIndex := 337, attributes := #[] }, { accessFlags := 0, nameIndex := 494, descriptorIndex := 142, attributes := #[] }, { accessFlags := 8, nameIndex := 501, descriptorIndex := 391, attributes := #[] }, { accessFlags := 8, nameIndex := 36, descriptorIndex := 37, attributes := #[] }] 49 2 #[1106, 1108, 575, 1110, 1112] #[{ accessFlags := 18, nameIndex := 13, descriptorIndex := 14, attributes := #[] }, { accessFlags := 18, nameIndex := 17, descriptorIndex := 18, attributes := #[] }, { accessFlags := 2, nameIndex := 21, descriptorIndex := 22, attributes := #[] }, { accessFlags := 2, nameIndex := 25, descriptorIndex := 26, attributes := #[] }, { accessFlags := 26, nameIndex := 1116, descriptorIndex := 1117, attributes := #[] }, { accessFlags := 24, nameIndex := 40, descriptorIndex := 26, attributes := #[] }, { accessFlags := 26, nameIndex := 1101, descriptorIndex := 1102, attributes := #[] }, { accessFlags := 26, nameIndex := 1121, descriptorIndex := 1122, attributes := #[] }, { accessFlags := 25, nameIndex := 599, descriptorIndex := 600, attributes := #[] }, { accessFlags := 24, nameIndex := 1125, descriptorIndex := 18, attributes := #[] }, { accessFlags := 24, nameIndex := 1127, descriptorIndex := 18, attributes := #[] }])
  fields := #[{ name := "value", type := (.array .byte), accessFlags := 18, slot := 0, constantValue := 0 }, { name := "coder", type := .byte, accessFlags := 18, slot := 1, constantValue := 0 }, { name := "hash", type := .int, accessFlags := 2, slot := 2, constantValue := 0 }, { name := "hashIsZero", type := .boolean, accessFlags := 2, slot := 3, constantValue := 0 }, { name := "serialVersionUID", type := .long, accessFlags := 26, slot := 0, constantValue := 0 }, { name := "COMPACT_STRINGS", type := .boolean, accessFlags := 24, slot := 1, constantValue := 0 }, { name := "serialPersistentFields", type := (.array (.object "java/io/ObjectStreamField")), accessFlags := 26, slot := 2, constantValue := 0 }, { name := "REPL", type := .char, accessFlags := 26, slot := 3, constantValue := 0 }, { name := "CASE_INSENSITIVE_ORDER", type := (.object "java/util/Comparator"), accessFlags := 25, slot := 4, constantValue := 0 }, { name := "LATIN1", type := .byte, accessFlags := 24, slot := 5, constantValue := 0 }, { name := "UTF16", type := .byte, accessFlags := 24, slot := 6, constantValue := 0 }]
  methods := #[k7m0, k7m1, k7m2, k7m3, k7m4, k7m5, k7m6, k7m7, k7m8, k7m9]
  instanceTypes := #[(.array .byte), .byte, .int, .boolean]
  staticTypes := #[.long, .boolean, (.array (.object "java/io/ObjectStreamField")), .char, (.object "java/util/Comparator"), .byte, .byte]
  resolved := Array.replicate 1451 none
  statics := some 0 }

def pool8 : Array CpInfo := pool [(2, .class_ 4), (1, u "java/lang/Object"), (0, u "<init>"), (0, u "()V"), (1, .class_ 10), (1, u "java/lang/String"), (6, .methodref 18 19), (0, .class_ 20), (0, .nameAndType 21 22), (0, u "com/example/roleward/roleward/http/Ascii"), (0, u "lower"), (0, u "(C)C"), (0, .methodref 8 24), (0, .nameAndType 25 26), (0, u "toCharArray"), (0, u "()[C"), (0, .methodref 8 28), (0, .nameAndType 5 29), (0, u "([C)V"), (5, u "toLowerCase"), (0, u "(Ljava/lang/String;)Ljava/lang/String;")] 4

def k8m0 : Method := { name := "<init>", desc := "()V", sig := { parameters := [], returnType := none }, accessFlags := 2, code := none }
def k8c1 : Code := { maxStack := 4, maxLocals := 3, code := prog_5_method_3_code, exceptionTable := #[], attributes := #[] }
def k8m1 : Method := { name := "toLowerCase", desc := "(Ljava/lang/String;)Ljava/lang/String;", sig := { parameters := [(.object "java/lang/String")], returnType := some (.object "java/lang/String") }, accessFlags := 9, code := some k8c1 }
def k8c2 : Code := { maxStack := 2, maxLocals := 1, code := prog_5_method_4_code, exceptionTable := #[], attributes := #[] }
def k8m2 : Method := { name := "lower", desc := "(C)C", sig := { parameters := [.char], returnType := some .char }, accessFlags := 10, code := some k8c2 }
/-- com/example/roleward/roleward/http/Ascii -/
def k8 : Class := { plain "com/example/roleward/roleward/http/Ascii" (some 0) with
  accessFlags := 49
  interfaces := #[]
  cf := some (fileOf pool8 18 #[] #[{ accessFlags := 2, nameIndex := 5, descriptorIndex := 6, attributes := #[] }, { accessFlags := 9, nameIndex := 35, descriptorIndex := 36, attributes := #[] }, { accessFlags := 10, nameIndex := 21, descriptorIndex := 22, attributes := #[] }] 49 2 #[] #[])
  fields := #[]
  methods := #[k8m0, k8m1, k8m2]
  instanceTypes := #[]
  staticTypes := #[]
  resolved := Array.replicate 41 none
  statics := none }

def pool9 : Array CpInfo := pool [(1, .class_ 2), (0, u "java/lang/String"), (1, .class_ 6), (1, u "java/lang/Object"), (0, u "<init>"), (0, u "()V"), (0, .methodref 1 10), (0, .nameAndType 11 12), (0, u "checkIndex"), (0, u "(II)V"), (0, .methodref 14 15), (0, .class_ 16), (0, .nameAndType 17 18), (0, u "java/lang/StringLatin1"), (0, u "inflate"), (0, u "([BI[CII)V"), (34, u "([BI)C"), (67, u "$assertionsDisabled"), (0, u "Z"), (69, u "toChars"), (28, .class_ 223), (1, u "java/lang/StringLatin1$LinesSpliterator"), (28, u "charAt"), (15, u "([B)[C"), (121, .class_ 391), (0, u "java/lang/StringLatin1$CharsSpliterator")] 3

def k9m0 : Method := { name := "<init>", desc := "()V", sig := { parameters := [], returnType := none }, accessFlags := 0, code := none }
def k9c1 : Code := { maxStack := 2, maxLocals := 2, code := jdk_43_method_2_code, exceptionTable := #[], attributes := #[] }
def k9m1 : Method := { name := "charAt", desc := "([BI)C", sig := { parameters := [(.array .byte), .int], returnType := some .char }, accessFlags := 9, code := some k9c1 }
def k9c2 : Code := { maxStack := 5, maxLocals := 2, code := jdk_43_method_9_code, exceptionTable := #[], attributes := #[] }
def k9m2 : Method := { name := "toChars", desc := "([B)[C", sig := { parameters := [(.array .byte)], returnType := some (.array .char) }, accessFlags := 9, code := some k9c2 }
def k9c3 : Code := { maxStack := 4, maxLocals := 6, code := jdk_43_method_49_code, exceptionTable := #[], attributes := #[] }
def k9m3 : Method := { name := "inflate", desc := "([BI[CII)V", sig := { parameters := [(.array .byte), .int, (.array .char), .int, .int], returnType := none }, accessFlags := 9, code := some k9c3 }
/-- java/lang/StringLatin1 -/
def k9 : Class := { plain "java/lang/StringLatin1" (some 0) with
  accessFlags := 48
  interfaces := #[]
  cf := some (fileOf pool9 14 #[.nestMembers #[390, 221]] #[{ accessFlags := 0, nameIndex := 7, descriptorIndex := 8, attributes := #[] }, { accessFlags := 9, nameIndex := 252, descriptorIndex := 53, attributes := #[] }, { accessFlags := 9, nameIndex := 192, descriptorIndex := 268, attributes := #[] }, { accessFlags := 9, nameIndex := 17, descriptorIndex := 18, attributes := #[] }] 48 4 #[] #[{ accessFlags := 4120, nameIndex := 121, descriptorIndex := 122, attributes := #[] }])
  fields := #[{ name := "$assertionsDisabled", type := .boolean, accessFlags := 4120, slot := 0, constantValue := 0 }]
  methods := #[k9m0, k9m1, k9m2, k9m3]
  instanceTypes := #[]
  staticTypes := #[.boolean]
  resolved := Array.replicate 395 none
  statics := none }

def pool10 : Array CpInfo := pool [(3, .class_ 4), (0, u "java/lang/String"), (1, .class_ 8), (1, u "java/lang/Object"), (0, u "<init>"), (0, u "()V"), (0, .methodref 12 13), (0, .class_ 14), (0, .nameAndType 15 16), (0, u "java/lang/StringUTF16"), (0, u "newBytesLength"), (0, u "(I)I"), (3, .integer 1073741823), (23, .fieldref 12 45), (0, .nameAndType 46 47), (0, u "$assertionsDisabled"), (0, u "Z"), (0, .methodref 12 49), (0, .nameAndType 50 51), (0, u "length"), (0, u "([B)I"), (7, .fieldref 12 60), (0, .nameAndType 61 62), (0, u "HI_BYTE_SHIFT"), (0, u "I"), (0, .fieldref 12 64), (0, .nameAndType 65 62), (0, u "LO_BYTE_SHIFT"), (1, .methodref 12 68), (0, .nameAndType 69 70), (0, u "checkIndex"), (0, u "(I[B)V"), (0, .methodref 12 72), (0, .nameAndType 73 74), (0, u "getChar"), (0, u "([BI)C"), (24, u "(II[B)V"), (3, .methodref 12 104), (0, .nameAndType 105 106), (0, u "getChars"), (0, u "([BII[CI)V"), (0, .methodref 12 108), (0, .nameAndType 109 110), (0, u "newBytesFor"), (0, u "(I)[B"), (0, .methodref 12 112), (0, .nameAndType 113 114), (0, u "putChar"), (0, u "([BII)V"), (0, .methodref 12 116), (0, .nameAndType 117 118), (0, u "compress"), (0, u "([CI[BII)I"), (0, .methodref 12 120), (0, .nameAndType 121 122), (0, u "toBytes"), (0, u "([CII)[B"), (50, .methodref 12 174), (0, .nameAndType 175 99), (0, u "checkBoundsOffCount"), (85, u "coderFromArrayLen"), (0, u "([BI)B"), (18, u "(III)I"), (60, u "toChars"), (26, .class_ 371), (1, u "java/lang/StringUTF16$LinesSpliterator"), (20, u "charAt"), (21, .methodref 3 415), (0, .nameAndType 69 416), (0, u "(II)V"), (2, .methodref 3 420), (0, .nameAndType 175 281), (9, u "MAX_LENGTH"), (23, u "([B)[C"), (172, .class_ 628), (0, u "java/lang/StringUTF16$CodePointsSpliterator"), (0, .class_ 630), (0, u "java/lang/StringUTF16$CharsSpliterator")] 4

def k10m0 : Method := { name := "<init>", desc := "()V", sig := { parameters := [], returnType := none }, accessFlags := 0, code := none }
def k10c1 : Code := { maxStack := 1, maxLocals := 1, code := jdk_52_method_2_code, exceptionTable := #[], attributes := #[] }
def k10m1 : Method := { name := "newBytesFor", desc := "(I)[B", sig := { parameters := [.int], returnType := some (.array .byte) }, accessFlags := 9, code := some k10c1 }
def k10c2 : Code := { maxStack := 4, maxLocals := 1, code := jdk_52_method_3_code, exceptionTable := #[], attributes := #[] }
def k10m2 : Method := { name := "newBytesLength", desc := "(I)I", sig := { parameters := [.int], returnType := some .int }, accessFlags := 9, code := some k10c2 }
def k10c3 : Code := { maxStack := 4, maxLocals := 3, code := jdk_52_method_4_code, exceptionTable := #[], attributes := #[] }
def k10m3 : Method := { name := "putChar", desc := "([BII)V", sig := { parameters := [(.array .byte), .int, .int], returnType := none }, accessFlags := 8, code := some k10c3 }
def k10c4 : Code := { maxStack := 3, maxLocals := 2, code := jdk_52_method_5_code, exceptionTable := #[], attributes := #[] }
def k10m4 : Method := { name := "getChar", desc := "([BI)C", sig := { parameters := [(.array .byte), .int], returnType := some .char }, accessFlags := 8, code := some k10c4 }
def k10c5 : Code := { maxStack := 2, maxLocals := 1, code := jdk_52_method_6_code, exceptionTable := #[], attributes := #[] }
def k10m5 : Method := { name := "length", desc := "([B)I", sig := { parameters := [(.array .byte)], returnType := some .int }, accessFlags := 9, code := some k10c5 }
def k10c6 : Code := { maxStack := 5, maxLocals := 2, code := jdk_52_method_13_code, exceptionTable := #[], attributes := #[] }
def k10m6 : Method := { name := "toChars", desc := "([B)[C", sig := { parameters := [(.array .byte)], returnType := some (.array .char) }, accessFlags := 9, code := some k10c6 }
def k10c7 : Code := { maxStack := 4, maxLocals := 5, code := jdk_52_method_14_code, exceptionTable := #[], attributes := #[] }
def k10m7 : Method := { name := "toBytes", desc := "([CII)[B", sig := { parameters := [(.array .char), .int, .int], returnType := some (.array .byte) }, accessFlags := 9, code := some k10c7 }
def k10c8 : Code := { maxStack := 2, maxLocals := 2, code := jdk_52_method_15_code, exceptionTable := #[], attributes := #[] }
def k10m8 : Method := { name := "coderFromArrayLen", desc := "([BI)B", sig := { parameters := [(.array .byte), .int], returnType := some .byte }, accessFlags := 8, code := some k10c8 }
def k10c9 : Code := { maxStack := 5, maxLocals := 6, code := jdk_52_method_16_code, exceptionTable := #[], attributes := #[] }
def k10m9 : Method := { name := "compress", desc := "([CII)[B", sig := { parameters := [(.array .char), .int, .int], returnType := some (.array .byte) }, accessFlags := 9, code := some k10c9 }
def k10c10 : Code := { maxStack := 3, maxLocals := 7, code := jdk_52_method_21_code, exceptionTable := #[], attributes := #[] }
def k10m10 : Method := { name := "compress", desc := "([CI[BII)I", sig := { parameters := [(.array .char), .int, (.array .byte), .int, .int], returnType := some .int }, accessFlags := 9, code := some k10c10 }
def k10c11 : Code := { maxStack := 4, maxLocals := 6, code := jdk_52_method_26_code, exceptionTable := #[], attributes := #[] }
def k10m11 : Method := { name := "getChars", desc := "([BII[CI)V", sig := { parameters := [(.array .byte), .int, .int, (.array .char), .int], returnType := none }, accessFlags := 9, code := some k10c11 }
def k10c12 : Code := { maxStack := 2, maxLocals := 2, code := jdk_52_method_83_code, exceptionTable := #[], attributes := #[] }
def k10m12 : Method := { name := "charAt", desc := "([BI)C", sig := { parameters := [(.array .byte), .int], returnType := some .char }, accessFlags := 9, code := some k10c12 }
def k10c13 : Code := { maxStack := 2, maxLocals := 2, code := jdk_52_method_91_code, exceptionTable := #[], attributes := #[] }
def k10m13 : Method := { name := "checkIndex", desc := "(I[B)V", sig := { parameters := [.int, (.array .byte)], returnType := none }, accessFlags := 9, code := some k10c13 }
def k10c14 : Code := { maxStack := 3, maxLocals := 3, code := jdk_52_method_94_code, exceptionTable := #[], attributes := #[] }
def k10m14 : Method := { name := "checkBoundsOffCount", desc := "(II[B)V", sig := { parameters := [.int, .int, (.array .byte)], returnType := none }, accessFlags := 9, code := some k10c14 }
/-- java/lang/StringUTF16 -/
def k10 : Class := { plain "java/lang/StringUTF16" (some 0) with
  accessFlags := 48
  interfaces := #[]
  cf := some (fileOf pool10 12 #[.nestMembers #[627, 629, 369]] #[{ accessFlags := 0, nameIndex := 9, descriptorIndex := 10, attributes := #[] }, { accessFlags := 9, nameIndex := 109, descriptorIndex := 110, attributes := #[] }, { accessFlags := 9, nameIndex := 15, descriptorIndex := 16, attributes := #[] }, { accessFlags := 8, nameIndex := 113, descriptorIndex := 114, attributes := #[] }, { accessFlags := 8, nameIndex := 73, descriptorIndex := 74, attributes := #[] }, { accessFlags := 9, nameIndex := 50, descriptorIndex := 51, attributes := #[] }, { accessFlags := 9, nameIndex := 342, descriptorIndex := 454, attributes := #[] }, { accessFlags := 9, nameIndex := 121, descriptorIndex := 122, attributes := #[] }, { accessFlags := 8, nameIndex := 261, descriptorIndex := 262, attributes := #[] }, { accessFlags := 9, nameIndex := 117, descriptorIndex := 122, attributes := #[] }, { accessFlags := 9, nameIndex := 117, descriptorIndex := 118, attributes := #[] }, { accessFlags := 9, nameIndex := 105, descriptorIndex := 106, attributes := #[] }, { accessFlags := 9, nameIndex := 392, descriptorIndex := 74, attributes := #[] }, { accessFlags := 9, nameIndex := 69, descriptorIndex := 70, attributes := #[] }, { accessFlags := 9, nameIndex := 175, descriptorIndex := 99, attributes := #[] }] 48 6 #[] #[{ accessFlags := 26, nameIndex := 61, descriptorIndex := 62, attributes := #[] }, { accessFlags := 26, nameIndex := 65, descriptorIndex := 62, attributes := #[] }, { accessFlags := 24, nameIndex := 430, descriptorIndex := 62, attributes := #[] }, { accessFlags := 4120, nameIndex := 46, descriptorIndex := 47, attributes := #[] }])
  fields := #[{ name := "HI_BYTE_SHIFT", type := .int, accessFlags := 26, slot := 0, constantValue := 0 }, { name := "LO_BYTE_SHIFT", type := .int, accessFlags := 26, slot := 1, constantValue := 0 }, { name := "MAX_LENGTH", type := .int, accessFlags := 24, slot := 2, constantValue := 0 }, { name := "$assertionsDisabled", type := .boolean, accessFlags := 4120, slot := 3, constantValue := 0 }]
  methods := #[k10m0, k10m1, k10m2, k10m3, k10m4, k10m5, k10m6, k10m7, k10m8, k10m9, k10m10, k10m11, k10m12, k10m13, k10m14]
  instanceTypes := #[]
  staticTypes := #[.int, .int, .int, .boolean]
  resolved := Array.replicate 635 none
  statics := some 1 }

def pool11 : Array CpInfo := pool [(2, .class_ 4), (1, u "java/lang/Object"), (0, u "<init>"), (0, u "()V"), (17, .class_ 26), (1, u "jdk/internal/util/Preconditions"), (6, u "checkIndex"), (15, u "checkFromIndexSize"), (5, .class_ 56), (0, u "jdk/internal/util/Preconditions$4"), (57, .class_ 115), (0, u "jdk/internal/util/Preconditions$1"), (7, u "SIOOBE_FORMATTER"), (0, u "Ljava/util/function/BiFunction;"), (0, .class_ 126), (0, u "jdk/internal/util/Preconditions$2"), (3, u "AIOOBE_FORMATTER"), (0, .class_ 132), (0, u "jdk/internal/util/Preconditions$3"), (3, u "IOOBE_FORMATTER"), (41, u "(IILjava/util/function/BiFunction;)I"), (4, u "(IIILjava/util/function/BiFunction;)I")] 10

def k11m0 : Method := { name := "<init>", desc := "()V", sig := { parameters := [], returnType := none }, accessFlags := 1, code := none }
def k11c1 : Code := { maxStack := 3, maxLocals := 3, code := jdk_41_method_11_code, exceptionTable := #[], attributes := #[] }
def k11m1 : Method := { name := "checkIndex", desc := "(IILjava/util/function/BiFunction;)I", sig := { parameters := [.int, .int, (.object "java/util/function/BiFunction")], returnType := some .int }, accessFlags := 9, code := some k11c1 }
def k11c2 : Code := { maxStack := 4, maxLocals := 4, code := jdk_41_method_13_code, exceptionTable := #[], attributes := #[] }
def k11m2 : Method := { name := "checkFromIndexSize", desc := "(IIILjava/util/function/BiFunction;)I", sig := { parameters := [.int, .int, .int, (.object "java/util/function/BiFunction")], returnType := some .int }, accessFlags := 9, code := some k11c2 }
/-- jdk/internal/util/Preconditions -/
def k11 : Class := { plain "jdk/internal/util/Preconditions" (some 0) with
  accessFlags := 33
  interfaces := #[]
  cf := some (fileOf pool11 24 #[.nestMembers #[55, 131, 125, 114]] #[{ accessFlags := 1, nameIndex := 5, descriptorIndex := 6, attributes := #[] }, { accessFlags := 9, nameIndex := 33, descriptorIndex := 178, attributes := #[] }, { accessFlags := 9, nameIndex := 49, descriptorIndex := 183, attributes := #[] }] 33 2 #[] #[{ accessFlags := 25, nameIndex := 123, descriptorIndex := 124, attributes := #[] }, { accessFlags := 25, nameIndex := 130, descriptorIndex := 124, attributes := #[] }, { accessFlags := 25, nameIndex := 136, descriptorIndex := 124, attributes := #[] }])
  fields := #[{ name := "SIOOBE_FORMATTER", type := (.object "java/util/function/BiFunction"), accessFlags := 25, slot := 0, constantValue := 0 }, { name := "AIOOBE_FORMATTER", type := (.object "java/util/function/BiFunction"), accessFlags := 25, slot := 1, constantValue := 0 }, { name := "IOOBE_FORMATTER", type := (.object "java/util/function/BiFunction"), accessFlags := 25, slot := 2, constantValue := 0 }]
  methods := #[k11m0, k11m1, k11m2]
  instanceTypes := #[]
  staticTypes := #[(.object "java/util/function/BiFunction"), (.object "java/util/function/BiFunction"), (.object "java/util/function/BiFunction")]
  resolved := Array.replicate 194 none
  statics := some 2 }

def pool12 : Array CpInfo := pool [(9, u "<init>"), (6, .class_ 18), (1, u "java/lang/Object"), (0, u "()V"), (1, .class_ 23), (1, u "jdk/internal/util/ArraysSupport"), (0, u "LOG2_ARRAY_LONG_INDEX_SCALE"), (0, u "I"), (2, u "U"), (0, u "Ljdk/internal/misc/Unsafe;"), (8, u "BIG_ENDIAN"), (0, u "Z"), (8, u "LOG2_BYTE_BIT_SIZE"), (4, u "LOG2_ARRAY_INT_INDEX_SCALE"), (54, u "JLA"), (0, u "Ljdk/internal/access/JavaLangAccess;"), (11, u "LOG2_ARRAY_BOOLEAN_INDEX_SCALE"), (9, u "LOG2_ARRAY_BYTE_INDEX_SCALE"), (5, u "LOG2_ARRAY_CHAR_INDEX_SCALE"), (5, u "LOG2_ARRAY_SHORT_INDEX_SCALE"), (18, u "LOG2_ARRAY_FLOAT_INDEX_SCALE"), (24, u "LOG2_ARRAY_DOUBLE_INDEX_SCALE"), (89, u "T_BOOLEAN"), (2, u "T_CHAR"), (1, u "T_FLOAT"), (1, u "T_DOUBLE"), (1, u "T_BYTE"), (1, u "T_SHORT"), (1, u "T_INT"), (1, u "T_LONG"), (1, u "SOFT_MAX_ARRAY_LENGTH")] 83

def k12m0 : Method := { name := "<init>", desc := "()V", sig := { parameters := [], returnType := none }, accessFlags := 2, code := none }
/-- jdk/internal/util/ArraysSupport -/
def k12 : Class := { plain "jdk/internal/util/ArraysSupport" (some 0) with
  accessFlags := 33
  interfaces := #[]
  cf := some (fileOf pool12 21 #[] #[{ accessFlags := 2, nameIndex := 9, descriptorIndex := 19, attributes := #[] }] 33 16 #[] #[{ accessFlags := 24, nameIndex := 28, descriptorIndex := 29, attributes := #[] }, { accessFlags := 26, nameIndex := 38, descriptorIndex := 39, attributes := #[] }, { accessFlags := 25, nameIndex := 121, descriptorIndex := 25, attributes := #[] }, { accessFlags := 25, nameIndex := 131, descriptorIndex := 25, attributes := #[] }, { accessFlags := 25, nameIndex := 137, descriptorIndex := 25, attributes := #[] }, { accessFlags := 25, nameIndex := 143, descriptorIndex := 25, attributes := #[] }, { accessFlags := 25, nameIndex := 53, descriptorIndex := 25, attributes := #[] }, { accessFlags := 25, nameIndex := 24, descriptorIndex := 25, attributes := #[] }, { accessFlags := 25, nameIndex := 162, descriptorIndex := 25, attributes := #[] }, { accessFlags := 25, nameIndex := 187, descriptorIndex := 25, attributes := #[] }, { accessFlags := 26, nameIndex := 48, descriptorIndex := 25, attributes := #[] }, { accessFlags := 25, nameIndex := 277, descriptorIndex := 25, attributes := #[] }, { accessFlags := 25, nameIndex := 280, descriptorIndex := 25, attributes := #[] }, { accessFlags := 25, nameIndex := 282, descriptorIndex := 25, attributes := #[] }, { accessFlags := 25, nameIndex := 284, descriptorIndex := 25, attributes := #[] }, { accessFlags := 25, nameIndex := 286, descriptorIndex := 25, attributes := #[] }, { accessFlags := 25, nameIndex := 288, descriptorIndex := 25, attributes := #[] }, { accessFlags := 25, nameIndex := 290, descriptorIndex := 25, attributes := #[] }, { accessFlags := 25, nameIndex := 292, descriptorIndex := 25, attributes := #[] }, { accessFlags := 26, nameIndex := 108, descriptorIndex := 109, attributes := #[] }, { accessFlags := 25, nameIndex := 294, descriptorIndex := 25, attributes := #[] }])
  fields := #[{ name := "U", type := (.object "jdk/internal/misc/Unsafe"), accessFlags := 24, slot := 0, constantValue := 0 }, { name := "BIG_ENDIAN", type := .boolean, accessFlags := 26, slot := 1, constantValue := 0 }, { name := "LOG2_ARRAY_BOOLEAN_INDEX_SCALE", type := .int, accessFlags := 25, slot := 2, constantValue := 0 }, { name := "LOG2_ARRAY_BYTE_INDEX_SCALE", type := .int, accessFlags := 25, slot := 3, constantValue := 0 }, { name := "LOG2_ARRAY_CHAR_INDEX_SCALE", type := .int, accessFlags := 25, slot := 4, constantValue := 0 }, { name := "LOG2_ARRAY_SHORT_INDEX_SCALE", type := .int, accessFlags := 25, slot := 5, constantValue := 0 }, { name := "LOG2_ARRAY_INT_INDEX_SCALE", type := .int, accessFlags := 25, slot := 6, constantValue := 0 }, { name := "LOG2_ARRAY_LONG_INDEX_SCALE", type := .int, accessFlags := 25, slot := 7, constantValue := 0 }, { name := "LOG2_ARRAY_FLOAT_INDEX_SCALE", type := .int, accessFlags := 25, slot := 8, constantValue := 0 }, { name := "LOG2_ARRAY_DOUBLE_INDEX_SCALE", type := .int, accessFlags := 25, slot := 9, constantValue := 0 }, { name := "LOG2_BYTE_BIT_SIZE", type := .int, accessFlags := 26, slot := 10, constantValue := 0 }, { name := "T_BOOLEAN", type := .int, accessFlags := 25, slot := 11, constantValue := 0 }, { name := "T_CHAR", type := .int, accessFlags := 25, slot := 12, constantValue := 0 }, { name := "T_FLOAT", type := .int, accessFlags := 25, slot := 13, constantValue := 0 }, { name := "T_DOUBLE", type := .int, accessFlags := 25, slot := 14, constantValue := 0 }, { name := "T_BYTE", type := .int, accessFlags := 25, slot := 15, constantValue := 0 }, { name := "T_SHORT", type := .int, accessFlags := 25, slot := 16, constantValue := 0 }, { name := "T_INT", type := .int, accessFlags := 25, slot := 17, constantValue := 0 }, { name := "T_LONG", type := .int, accessFlags := 25, slot := 18, constantValue := 0 }, { name := "JLA", type := (.object "jdk/internal/access/JavaLangAccess"), accessFlags := 26, slot := 19, constantValue := 0 }, { name := "SOFT_MAX_ARRAY_LENGTH", type := .int, accessFlags := 25, slot := 20, constantValue := 0 }]
  methods := #[k12m0]
  instanceTypes := #[]
  staticTypes := #[(.object "jdk/internal/misc/Unsafe"), .boolean, .int, .int, .int, .int, .int, .int, .int, .int, .int, .int, .int, .int, .int, .int, .int, .int, .int, (.object "jdk/internal/access/JavaLangAccess"), .int]
  resolved := Array.replicate 378 none
  statics := none }

def pool13 : Array CpInfo := pool [(1, u "java/lang/Cloneable"), (0, .class_ 1), (0, u "java/lang/Object"), (0, .class_ 3)] 3

/-- java/lang/Cloneable -/
def k13 : Class := { plain "java/lang/Cloneable" (some 0) with
  accessFlags := 1537
  interfaces := #[]
  cf := some (fileOf pool13 2 #[] #[] 1537 4 #[] #[])
  fields := #[]
  methods := #[]
  instanceTypes := #[]
  staticTypes := #[]
  resolved := Array.replicate 8 none
  statics := none }

/-- the primitive byte -/
def k14 : Class := { plain "byte" none with kind := .primitive 'B', accessFlags := 0x411 }
/-- [B -/
def k15 : Class := { plain "[B" (some 0) with kind := .array 14 .byte, interfaces := #[13, 2], accessFlags := 1041 }

/-- the primitive char -/
def k16 : Class := { plain "char" none with kind := .primitive 'C', accessFlags := 0x411 }
/-- [C -/
def k17 : Class := { plain "[C" (some 0) with kind := .array 16 .char, interfaces := #[13, 2], accessFlags := 1041 }

/-- the primitive int -/
def k18 : Class := { plain "int" none with kind := .primitive 'I', accessFlags := 0x411 }
/-- [I -/
def k19 : Class := { plain "[I" (some 0) with kind := .array 18 .int, interfaces := #[13, 2], accessFlags := 1041 }

def heap : Heap := #[{ cls := 7, slots := #[.long 0, .int 1, .null, .int 0, .null, .int 0, .int 0], vm := .statics 7 },
  { cls := 10, slots := #[.int 0, .int 8, .int 0, .int 1], vm := .statics 10 },
  { cls := 11, slots := #[.null, .null, .null], vm := .statics 11 }]
def classes : Array Class := #[k0, k1, k2, k3, k4, k5, k6, k7, k8, k9, k10, k11, k12, k13, k14, k15, k16, k17, k18, k19]
def interned : List (Array UInt16 × Addr) := []
def slotsUsed : Nat := 14
def theMethod : MethodId := ⟨1, 1⟩
def args0 : Array Value := #[.int 5, .int 6, .int 7, .int 8, .int 9]
def aboutOver (below : List Frame) : State where
  vm := { classes := classes, interned := interned.toArray }
  heap := heap
  slotsUsed := slotsUsed
  threads := #[{ frames := .invoking theMethod args0 :: below }]
def below0 : List Frame := [.native { method := ⟨0, 0⟩, args := #[] }]
def about1 : State := aboutOver below0
def p0 : Program := .bare "" "" ""
def e0 : Env := launch0.env 0 0 0
theorem w_frames : about1.frames = Frame.invoking theMethod args0 :: below0 := rfl
set_option maxRecDepth 65536 in
theorem w_args : argsFit about1.vm theMethod args0 = true := by decide +kernel
set_option maxRecDepth 65536 in
theorem w_heap : heapFits about1 = true := by decide +kernel
set_option maxRecDepth 65536 in
theorem w_runnable : about1.curStatus? = some .runnable := by decide +kernel
set_option maxRecDepth 65536 in
theorem w_alone : about1.alone = true := by decide +kernel
set_option maxRecDepth 65536 in
theorem w_named : about1.methodNamed? x = some theMethod := by decide +kernel
set_option maxRecDepth 65536 in
theorem w_hears : about1.hears theMethod below0 = true := by decide +kernel
set_option maxRecDepth 65536 in
theorem w_ripe : about1.ripe theMethod args0 below0 = true := by decide +kernel
theorem w_running : about1.status = .running := rfl
set_option maxRecDepth 65536 in
theorem w_room : about1.hasRoom e0.platform room_1 = true :=
  launch0.hasRoom_least _ room_1 (by decide +kernel) (by decide +kernel) (by decide +kernel) (by decide +kernel) (by decide +kernel) (by decide +kernel)
theorem allAtoms_all (ts : List Jvm.Cond) (a : Array Jvm.Value) (st : Jvm.State) : (allAtoms ts).before a st = ts.all (fun c => c.before a st) := by
  induction ts with
  | nil => rfl
  | cons c t ih =>
    show (Jvm.Cond.and c (allAtoms t)).before a st = _
    rw [Jvm.Cond.before_and, ih, List.all_cons]
def words1 : List Jvm.Cond := Jvm.Cond.code x code maxLocals ret :: tables_1
/-- a 'code' word, met by the world's own term for the bytes: nothing is compared byte by byte -/
theorem code_word {y : MethodName} {bytes : ByteArray} {mx : Nat} {rt : Option FieldType} {a : Array Value} {s : State} {m : MethodId} {meth : Method} {c : Code} (h1 : s.methodNamed? y = some m) (h2 : s.vm.method? m = some meth) (h3 : meth.code = some c) (h4 : c.code = bytes)
    (h5 : (c.maxLocals == mx && c.exceptionTable.isEmpty && decide (c.maxStack ≤ mostOperands) && decide (meth.sig.returnType = rt) && !meth.locks && decide (parseMethodDescriptor y.desc = some meth.sig)) = true) : (Jvm.Cond.code y bytes mx rt).before a s = true := by
  simp only [Bool.and_eq_true, beq_iff_eq, Bool.not_eq_true', decide_eq_true_eq] at h5
  obtain ⟨⟨⟨⟨⟨g1, g2⟩, g3⟩, g4⟩, g5⟩, g6⟩ := h5
  simp [Cond.before, Cond.holds, Cond.value, h1, h2, h3, h4, g1, g2, g3, g4, g5, g6]
def isCode : Jvm.Cond → Bool
  | .code _ _ _ _ => true
  | _ => false
theorem all_split {L : List Jvm.Cond} {P : Jvm.Cond → Bool} (h1 : L.all (fun c => isCode c || P c) = true) (h2 : ∀ c ∈ L.filter isCode, P c = true) : L.all P = true := by
  refine List.all_eq_true.mpr fun c hc => ?_
  have h := List.all_eq_true.mp h1 c hc
  rcases Bool.eq_false_or_eq_true (isCode c) with hi | hi
  · exact h2 c (List.mem_filter.mpr ⟨hc, hi⟩)
  · simpa [hi] using h
set_option maxRecDepth 65536 in
theorem w_c0 : (Jvm.Cond.code x code maxLocals ret).before args0 about1 = true := code_word (m := ⟨1, 1⟩) (meth := k1m1) (c := k1c1) (by decide +kernel) rfl rfl rfl (by decide +kernel)
set_option maxRecDepth 65536 in
theorem w_c1 : (Jvm.Cond.code ({ cls := "java/lang/String", name := "<init>", desc := "([C)V" } : Jvm.MethodName) jdk_42_method_3_code (2 : Nat) (Option.none : Option Jvm.ClassFile.FieldType)).before args0 about1 = true := code_word (m := ⟨7, 1⟩) (meth := k7m1) (c := k7c1) (by decide +kernel) rfl rfl rfl (by decide +kernel)
set_option maxRecDepth 65536 in
theorem w_c2 : (Jvm.Cond.code ({ cls := "java/lang/String", name := "<init>", desc := "([CIILjava/lang/Void;)V" } : Jvm.MethodName) jdk_42_method_149_code (6 : Nat) (Option.none : Option Jvm.ClassFile.FieldType)).before args0 about1 = true := code_word (m := ⟨7, 5⟩) (meth := k7m5) (c := k7c5) (by decide +kernel) rfl rfl rfl (by decide +kernel)
set_option maxRecDepth 65536 in
theorem w_c3 : (Jvm.Cond.code ({ cls := "java/lang/Object", name := "<init>", desc := "()V" } : Jvm.MethodName) object_method_1_code (1 : Nat) (Option.none : Option Jvm.ClassFile.FieldType)).before args0 about1 = true := code_word (m := ⟨0, 0⟩) (meth := k0m0) (c := k0c0) (by decide +kernel) rfl rfl rfl (by decide +kernel)
set_option maxRecDepth 65536 in
theorem w_c4 : (Jvm.Cond.code ({ cls := "com/example/roleward/roleward/http/Ascii", name := "toLowerCase", desc := "(Ljava/lang/String;)Ljava/lang/String;" } : Jvm.MethodName) prog_5_method_3_code (3 : Nat) (Option.some (Jvm.ClassFile.FieldType.object "java/lang/String"))).before args0 about1 = true := code_word (m := ⟨8, 1⟩) (meth := k8m1) (c := k8c1) (by decide +kernel) rfl rfl rfl (by decide +kernel)
set_option maxRecDepth 65536 in
theorem w_c5 : (Jvm.Cond.code ({ cls := "java/lang/String", name := "toCharArray", desc := "()[C" } : Jvm.MethodName) jdk_42_method_129_code (1 : Nat) (Option.some (Jvm.ClassFile.FieldType.array Jvm.ClassFile.FieldType.char))).before args0 about1 = true := code_word (m := ⟨7, 4⟩) (meth := k7m4) (c := k7c4) (by decide +kernel) rfl rfl rfl (by decide +kernel)
set_option maxRecDepth 65536 in
theorem w_c6 : (Jvm.Cond.code ({ cls := "java/lang/String", name := "isLatin1", desc := "()Z" } : Jvm.MethodName) jdk_42_method_154_code (1 : Nat) (Option.some Jvm.ClassFile.FieldType.boolean)).before args0 about1 = true := code_word (m := ⟨7, 7⟩) (meth := k7m7) (c := k7c7) (by decide +kernel) rfl rfl rfl (by decide +kernel)
set_option maxRecDepth 65536 in
theorem w_c7 : (Jvm.Cond.code ({ cls := "java/lang/StringLatin1", name := "toChars", desc := "([B)[C" } : Jvm.MethodName) jdk_43_method_9_code (2 : Nat) (Option.some (Jvm.ClassFile.FieldType.array Jvm.ClassFile.FieldType.char))).before args0 about1 = true := code_word (m := ⟨9, 2⟩) (meth := k9m2) (c := k9c2) (by decide +kernel) rfl rfl rfl (by decide +kernel)
set_option maxRecDepth 65536 in
theorem w_c8 : (Jvm.Cond.code ({ cls := "java/lang/StringLatin1", name := "inflate", desc := "([BI[CII)V" } : Jvm.MethodName) jdk_43_method_49_code (6 : Nat) (Option.none : Option Jvm.ClassFile.FieldType)).before args0 about1 = true := code_word (m := ⟨9, 3⟩) (meth := k9m3) (c := k9c3) (by decide +kernel) rfl rfl rfl (by decide +kernel)
set_option maxRecDepth 65536 in
theorem w_c9 : (Jvm.Cond.code ({ cls := "java/lang/String", name := "length", desc := "()I" } : Jvm.MethodName) jdk_42_method_54_code (1 : Nat) (Option.some Jvm.ClassFile.FieldType.int)).before args0 about1 = true := code_word (m := ⟨7, 2⟩) (meth := k7m2) (c := k7c2) (by decide +kernel) rfl rfl rfl (by decide +kernel)
set_option maxRecDepth 65536 in
theorem w_c10 : (Jvm.Cond.code ({ cls := "java/lang/String", name := "coder", desc := "()B" } : Jvm.MethodName) jdk_42_method_152_code (1 : Nat) (Option.some Jvm.ClassFile.FieldType.byte)).before args0 about1 = true := code_word (m := ⟨7, 6⟩) (meth := k7m6) (c := k7c6) (by decide +kernel) rfl rfl rfl (by decide +kernel)
set_option maxRecDepth 65536 in
theorem w_c11 : (Jvm.Cond.code ({ cls := "java/lang/StringUTF16", name := "compress", desc := "([CII)[B" } : Jvm.MethodName) jdk_52_method_16_code (6 : Nat) (Option.some (Jvm.ClassFile.FieldType.array Jvm.ClassFile.FieldType.byte))).before args0 about1 = true := code_word (m := ⟨10, 9⟩) (meth := k10m9) (c := k10c9) (by decide +kernel) rfl rfl rfl (by decide +kernel)
set_option maxRecDepth 65536 in
theorem w_c12 : (Jvm.Cond.code ({ cls := "java/lang/StringUTF16", name := "compress", desc := "([CI[BII)I" } : Jvm.MethodName) jdk_52_method_21_code (7 : Nat) (Option.some Jvm.ClassFile.FieldType.int)).before args0 about1 = true := code_word (m := ⟨10, 10⟩) (meth := k10m10) (c := k10c10) (by decide +kernel) rfl rfl rfl (by decide +kernel)
set_option maxRecDepth 65536 in
theorem w_c13 : (Jvm.Cond.code ({ cls := "java/lang/StringUTF16", name := "coderFromArrayLen", desc := "([BI)B" } : Jvm.MethodName) jdk_52_method_15_code (2 : Nat) (Option.some Jvm.ClassFile.FieldType.byte)).before args0 about1 = true := code_word (m := ⟨10, 8⟩) (meth := k10m8) (c := k10c8) (by decide +kernel) rfl rfl rfl (by decide +kernel)
set_option maxRecDepth 65536 in
theorem w_c14 : (Jvm.Cond.code ({ cls := "com/example/roleward/roleward/http/Ascii", name := "lower", desc := "(C)C" } : Jvm.MethodName) prog_5_method_4_code (1 : Nat) (Option.some Jvm.ClassFile.FieldType.char)).before args0 about1 = true := code_word (m := ⟨8, 2⟩) (meth := k8m2) (c := k8c2) (by decide +kernel) rfl rfl rfl (by decide +kernel)
set_option maxRecDepth 65536 in
theorem w_c15 : (Jvm.Cond.code ({ cls := "java/lang/String", name := "charAt", desc := "(I)C" } : Jvm.MethodName) jdk_42_method_56_code (2 : Nat) (Option.some Jvm.ClassFile.FieldType.char)).before args0 about1 = true := code_word (m := ⟨7, 3⟩) (meth := k7m3) (c := k7c3) (by decide +kernel) rfl rfl rfl (by decide +kernel)
set_option maxRecDepth 65536 in
theorem w_c16 : (Jvm.Cond.code ({ cls := "java/lang/StringLatin1", name := "charAt", desc := "([BI)C" } : Jvm.MethodName) jdk_43_method_2_code (2 : Nat) (Option.some Jvm.ClassFile.FieldType.char)).before args0 about1 = true := code_word (m := ⟨9, 1⟩) (meth := k9m1) (c := k9c1) (by decide +kernel) rfl rfl rfl (by decide +kernel)
set_option maxRecDepth 65536 in
theorem w_c17 : (Jvm.Cond.code ({ cls := "java/lang/String", name := "checkIndex", desc := "(II)V" } : Jvm.MethodName) jdk_42_method_155_code (2 : Nat) (Option.none : Option Jvm.ClassFile.FieldType)).before args0 about1 = true := code_word (m := ⟨7, 8⟩) (meth := k7m8) (c := k7c8) (by decide +kernel) rfl rfl rfl (by decide +kernel)
set_option maxRecDepth 65536 in
theorem w_c18 : (Jvm.Cond.code ({ cls := "jdk/internal/util/Preconditions", name := "checkIndex", desc := "(IILjava/util/function/BiFunction;)I" } : Jvm.MethodName) jdk_41_method_11_code (3 : Nat) (Option.some Jvm.ClassFile.FieldType.int)).before args0 about1 = true := code_word (m := ⟨11, 1⟩) (meth := k11m1) (c := k11c1) (by decide +kernel) rfl rfl rfl (by decide +kernel)
set_option maxRecDepth 65536 in
theorem w_c19 : (Jvm.Cond.code ({ cls := "com/example/roleward/roleward/http/AsciiToLowerCasePinLaw", name := "expect", desc := "(C)C" } : Jvm.MethodName) method_3_code (2 : Nat) (Option.some Jvm.ClassFile.FieldType.char)).before args0 about1 = true := code_word (m := ⟨1, 2⟩) (meth := k1m2) (c := k1c2) (by decide +kernel) rfl rfl rfl (by decide +kernel)
set_option maxRecDepth 65536 in
theorem w_c20 : (Jvm.Cond.code ({ cls := "java/lang/StringUTF16", name := "toBytes", desc := "([CII)[B" } : Jvm.MethodName) jdk_52_method_14_code (5 : Nat) (Option.some (Jvm.ClassFile.FieldType.array Jvm.ClassFile.FieldType.byte))).before args0 about1 = true := code_word (m := ⟨10, 7⟩) (meth := k10m7) (c := k10c7) (by decide +kernel) rfl rfl rfl (by decide +kernel)
set_option maxRecDepth 65536 in
theorem w_c21 : (Jvm.Cond.code ({ cls := "java/lang/StringUTF16", name := "newBytesFor", desc := "(I)[B" } : Jvm.MethodName) jdk_52_method_2_code (1 : Nat) (Option.some (Jvm.ClassFile.FieldType.array Jvm.ClassFile.FieldType.byte))).before args0 about1 = true := code_word (m := ⟨10, 1⟩) (meth := k10m1) (c := k10c1) (by decide +kernel) rfl rfl rfl (by decide +kernel)
set_option maxRecDepth 65536 in
theorem w_c22 : (Jvm.Cond.code ({ cls := "java/lang/StringUTF16", name := "newBytesLength", desc := "(I)I" } : Jvm.MethodName) jdk_52_method_3_code (1 : Nat) (Option.some Jvm.ClassFile.FieldType.int)).before args0 about1 = true := code_word (m := ⟨10, 2⟩) (meth := k10m2) (c := k10c2) (by decide +kernel) rfl rfl rfl (by decide +kernel)
set_option maxRecDepth 65536 in
theorem w_c23 : (Jvm.Cond.code ({ cls := "java/lang/StringUTF16", name := "putChar", desc := "([BII)V" } : Jvm.MethodName) jdk_52_method_4_code (3 : Nat) (Option.none : Option Jvm.ClassFile.FieldType)).before args0 about1 = true := code_word (m := ⟨10, 3⟩) (meth := k10m3) (c := k10c3) (by decide +kernel) rfl rfl rfl (by decide +kernel)
set_option maxRecDepth 65536 in
theorem w_c24 : (Jvm.Cond.code ({ cls := "java/lang/StringUTF16", name := "getChar", desc := "([BI)C" } : Jvm.MethodName) jdk_52_method_5_code (2 : Nat) (Option.some Jvm.ClassFile.FieldType.char)).before args0 about1 = true := code_word (m := ⟨10, 4⟩) (meth := k10m4) (c := k10c4) (by decide +kernel) rfl rfl rfl (by decide +kernel)
set_option maxRecDepth 65536 in
theorem w_c25 : (Jvm.Cond.code ({ cls := "java/lang/StringUTF16", name := "toChars", desc := "([B)[C" } : Jvm.MethodName) jdk_52_method_13_code (2 : Nat) (Option.some (Jvm.ClassFile.FieldType.array Jvm.ClassFile.FieldType.char))).before args0 about1 = true := code_word (m := ⟨10, 6⟩) (meth := k10m6) (c := k10c6) (by decide +kernel) rfl rfl rfl (by decide +kernel)
set_option maxRecDepth 65536 in
theorem w_c26 : (Jvm.Cond.code ({ cls := "java/lang/StringUTF16", name := "getChars", desc := "([BII[CI)V" } : Jvm.MethodName) jdk_52_method_26_code (6 : Nat) (Option.none : Option Jvm.ClassFile.FieldType)).before args0 about1 = true := code_word (m := ⟨10, 11⟩) (meth := k10m11) (c := k10c11) (by decide +kernel) rfl rfl rfl (by decide +kernel)
set_option maxRecDepth 65536 in
theorem w_c27 : (Jvm.Cond.code ({ cls := "java/lang/StringUTF16", name := "checkBoundsOffCount", desc := "(II[B)V" } : Jvm.MethodName) jdk_52_method_94_code (3 : Nat) (Option.none : Option Jvm.ClassFile.FieldType)).before args0 about1 = true := code_word (m := ⟨10, 14⟩) (meth := k10m14) (c := k10c14) (by decide +kernel) rfl rfl rfl (by decide +kernel)
set_option maxRecDepth 65536 in
theorem w_c28 : (Jvm.Cond.code ({ cls := "java/lang/StringUTF16", name := "length", desc := "([B)I" } : Jvm.MethodName) jdk_52_method_6_code (1 : Nat) (Option.some Jvm.ClassFile.FieldType.int)).before args0 about1 = true := code_word (m := ⟨10, 5⟩) (meth := k10m5) (c := k10c5) (by decide +kernel) rfl rfl rfl (by decide +kernel)
set_option maxRecDepth 65536 in
theorem w_c29 : (Jvm.Cond.code ({ cls := "java/lang/String", name := "checkBoundsOffCount", desc := "(III)I" } : Jvm.MethodName) jdk_42_method_157_code (3 : Nat) (Option.some Jvm.ClassFile.FieldType.int)).before args0 about1 = true := code_word (m := ⟨7, 9⟩) (meth := k7m9) (c := k7c9) (by decide +kernel) rfl rfl rfl (by decide +kernel)
set_option maxRecDepth 65536 in
theorem w_c30 : (Jvm.Cond.code ({ cls := "jdk/internal/util/Preconditions", name := "checkFromIndexSize", desc := "(IIILjava/util/function/BiFunction;)I" } : Jvm.MethodName) jdk_41_method_13_code (4 : Nat) (Option.some Jvm.ClassFile.FieldType.int)).before args0 about1 = true := code_word (m := ⟨11, 2⟩) (meth := k11m2) (c := k11c2) (by decide +kernel) rfl rfl rfl (by decide +kernel)
set_option maxRecDepth 65536 in
theorem w_c31 : (Jvm.Cond.code ({ cls := "java/lang/StringUTF16", name := "charAt", desc := "([BI)C" } : Jvm.MethodName) jdk_52_method_83_code (2 : Nat) (Option.some Jvm.ClassFile.FieldType.char)).before args0 about1 = true := code_word (m := ⟨10, 12⟩) (meth := k10m12) (c := k10c12) (by decide +kernel) rfl rfl rfl (by decide +kernel)
set_option maxRecDepth 65536 in
theorem w_c32 : (Jvm.Cond.code ({ cls := "java/lang/StringUTF16", name := "checkIndex", desc := "(I[B)V" } : Jvm.MethodName) jdk_52_method_91_code (2 : Nat) (Option.none : Option Jvm.ClassFile.FieldType)).before args0 about1 = true := code_word (m := ⟨10, 13⟩) (meth := k10m13) (c := k10c13) (by decide +kernel) rfl rfl rfl (by decide +kernel)
def codes1 : List Jvm.Cond := [Jvm.Cond.code x code maxLocals ret, Jvm.Cond.code ({ cls := "java/lang/String", name := "<init>", desc := "([C)V" } : Jvm.MethodName) jdk_42_method_3_code (2 : Nat) (Option.none : Option Jvm.ClassFile.FieldType), Jvm.Cond.code ({ cls := "java/lang/String", name := "<init>", desc := "([CIILjava/lang/Void;)V" } : Jvm.MethodName) jdk_42_method_149_code (6 : Nat) (Option.none : Option Jvm.ClassFile.FieldType), Jvm.Cond.code ({ cls := "java/lang/Object", name := "<init>", desc := "()V" } : Jvm.MethodName) object_method_1_code (1 : Nat) (Option.none : Option Jvm.ClassFile.FieldType), Jvm.Cond.code ({ cls := "com/example/roleward/roleward/http/Ascii", name := "toLowerCase", desc := "(Ljava/lang/String;)Ljava/lang/String;" } : Jvm.MethodName) prog_5_method_3_code (3 : Nat) (Option.some (Jvm.ClassFile.FieldType.object "java/lang/String")), Jvm.Cond.code ({ cls := "java/lang/String", name := "toCharArray", desc := "()[C" } : Jvm.MethodName) jdk_42_method_129_code (1 : Nat) (Option.some (Jvm.ClassFile.FieldType.array Jvm.ClassFile.FieldType.char)), Jvm.Cond.code ({ cls := "java/lang/String", name := "isLatin1", desc := "()Z" } : Jvm.MethodName) jdk_42_method_154_code (1 : Nat) (Option.some Jvm.ClassFile.FieldType.boolean), Jvm.Cond.code ({ cls := "java/lang/StringLatin1", name := "toChars", desc := "([B)[C" } : Jvm.MethodName) jdk_43_method_9_code (2 : Nat) (Option.some (Jvm.ClassFile.FieldType.array Jvm.ClassFile.FieldType.char)), Jvm.Cond.code ({ cls := "java/lang/StringLatin1", name := "inflate", desc := "([BI[CII)V" } : Jvm.MethodName) jdk_43_method_49_code (6 : Nat) (Option.none : Option Jvm.ClassFile.FieldType), Jvm.Cond.code ({ cls := "java/lang/String", name := "length", desc := "()I" } : Jvm.MethodName) jdk_42_method_54_code (1 : Nat) (Option.some Jvm.ClassFile.FieldType.int), Jvm.Cond.code ({ cls := "java/lang/String", name := "coder", desc := "()B" } : Jvm.MethodName) jdk_42_method_152_code (1 : Nat) (Option.some Jvm.ClassFile.FieldType.byte), Jvm.Cond.code ({ cls := "java/lang/StringUTF16", name := "compress", desc := "([CII)[B" } : Jvm.MethodName) jdk_52_method_16_code (6 : Nat) (Option.some (Jvm.ClassFile.FieldType.array Jvm.ClassFile.FieldType.byte)), Jvm.Cond.code ({ cls := "java/lang/StringUTF16", name := "compress", desc := "([CI[BII)I" } : Jvm.MethodName) jdk_52_method_21_code (7 : Nat) (Option.some Jvm.ClassFile.FieldType.int), Jvm.Cond.code ({ cls := "java/lang/StringUTF16", name := "coderFromArrayLen", desc := "([BI)B" } : Jvm.MethodName) jdk_52_method_15_code (2 : Nat) (Option.some Jvm.ClassFile.FieldType.byte), Jvm.Cond.code ({ cls := "com/example/roleward/roleward/http/Ascii", name := "lower", desc := "(C)C" } : Jvm.MethodName) prog_5_method_4_code (1 : Nat) (Option.some Jvm.ClassFile.FieldType.char), Jvm.Cond.code ({ cls := "java/lang/String", name := "charAt", desc := "(I)C" } : Jvm.MethodName) jdk_42_method_56_code (2 : Nat) (Option.some Jvm.ClassFile.FieldType.char), Jvm.Cond.code ({ cls := "java/lang/StringLatin1", name := "charAt", desc := "([BI)C" } : Jvm.MethodName) jdk_43_method_2_code (2 : Nat) (Option.some Jvm.ClassFile.FieldType.char), Jvm.Cond.code ({ cls := "java/lang/String", name := "checkIndex", desc := "(II)V" } : Jvm.MethodName) jdk_42_method_155_code (2 : Nat) (Option.none : Option Jvm.ClassFile.FieldType), Jvm.Cond.code ({ cls := "jdk/internal/util/Preconditions", name := "checkIndex", desc := "(IILjava/util/function/BiFunction;)I" } : Jvm.MethodName) jdk_41_method_11_code (3 : Nat) (Option.some Jvm.ClassFile.FieldType.int), Jvm.Cond.code ({ cls := "com/example/roleward/roleward/http/AsciiToLowerCasePinLaw", name := "expect", desc := "(C)C" } : Jvm.MethodName) method_3_code (2 : Nat) (Option.some Jvm.ClassFile.FieldType.char), Jvm.Cond.code ({ cls := "java/lang/StringUTF16", name := "toBytes", desc := "([CII)[B" } : Jvm.MethodName) jdk_52_method_14_code (5 : Nat) (Option.some (Jvm.ClassFile.FieldType.array Jvm.ClassFile.FieldType.byte)), Jvm.Cond.code ({ cls := "java/lang/StringUTF16", name := "newBytesFor", desc := "(I)[B" } : Jvm.MethodName) jdk_52_method_2_code (1 : Nat) (Option.some (Jvm.ClassFile.FieldType.array Jvm.ClassFile.FieldType.byte)), Jvm.Cond.code ({ cls := "java/lang/StringUTF16", name := "newBytesLength", desc := "(I)I" } : Jvm.MethodName) jdk_52_method_3_code (1 : Nat) (Option.some Jvm.ClassFile.FieldType.int), Jvm.Cond.code ({ cls := "java/lang/StringUTF16", name := "putChar", desc := "([BII)V" } : Jvm.MethodName) jdk_52_method_4_code (3 : Nat) (Option.none : Option Jvm.ClassFile.FieldType), Jvm.Cond.code ({ cls := "java/lang/StringUTF16", name := "getChar", desc := "([BI)C" } : Jvm.MethodName) jdk_52_method_5_code (2 : Nat) (Option.some Jvm.ClassFile.FieldType.char), Jvm.Cond.code ({ cls := "java/lang/StringUTF16", name := "toChars", desc := "([B)[C" } : Jvm.MethodName) jdk_52_method_13_code (2 : Nat) (Option.some (Jvm.ClassFile.FieldType.array Jvm.ClassFile.FieldType.char)), Jvm.Cond.code ({ cls := "java/lang/StringUTF16", name := "getChars", desc := "([BII[CI)V" } : Jvm.MethodName) jdk_52_method_26_code (6 : Nat) (Option.none : Option Jvm.ClassFile.FieldType), Jvm.Cond.code ({ cls := "java/lang/StringUTF16", name := "checkBoundsOffCount", desc := "(II[B)V" } : Jvm.MethodName) jdk_52_method_94_code (3 : Nat) (Option.none : Option Jvm.ClassFile.FieldType), Jvm.Cond.code ({ cls := "java/lang/StringUTF16", name := "length", desc := "([B)I" } : Jvm.MethodName) jdk_52_method_6_code (1 : Nat) (Option.some Jvm.ClassFile.FieldType.int), Jvm.Cond.code ({ cls := "java/lang/String", name := "checkBoundsOffCount", desc := "(III)I" } : Jvm.MethodName) jdk_42_method_157_code (3 : Nat) (Option.some Jvm.ClassFile.FieldType.int), Jvm.Cond.code ({ cls := "jdk/internal/util/Preconditions", name := "checkFromIndexSize", desc := "(IIILjava/util/function/BiFunction;)I" } : Jvm.MethodName) jdk_41_method_13_code (4 : Nat) (Option.some Jvm.ClassFile.FieldType.int), Jvm.Cond.code ({ cls := "java/lang/StringUTF16", name := "charAt", desc := "([BI)C" } : Jvm.MethodName) jdk_52_method_83_code (2 : Nat) (Option.some Jvm.ClassFile.FieldType.char), Jvm.Cond.code ({ cls := "java/lang/StringUTF16", name := "checkIndex", desc := "(I[B)V" } : Jvm.MethodName) jdk_52_method_91_code (2 : Nat) (Option.none : Option Jvm.ClassFile.FieldType)]
set_option maxRecDepth 65536 in
theorem codes_eq : words1.filter isCode = codes1 := rfl
theorem w_codes : ∀ c ∈ words1.filter isCode, c.before args0 about1 = true := by
  rw [codes_eq]
  intro c hc
  simp only [codes1, List.mem_cons, List.not_mem_nil, or_false] at hc
  rcases hc with rfl | rfl | rfl | rfl | rfl | rfl | rfl | rfl | rfl | rfl | rfl | rfl | rfl | rfl | rfl | rfl | rfl | rfl | rfl | rfl | rfl | rfl | rfl | rfl | rfl | rfl | rfl | rfl | rfl | rfl | rfl | rfl | rfl
  · exact w_c0
  · exact w_c1
  · exact w_c2
  · exact w_c3
  · exact w_c4
  · exact w_c5
  · exact w_c6
  · exact w_c7
  · exact w_c8
  · exact w_c9
  · exact w_c10
  · exact w_c11
  · exact w_c12
  · exact w_c13
  · exact w_c14
  · exact w_c15
  · exact w_c16
  · exact w_c17
  · exact w_c18
  · exact w_c19
  · exact w_c20
  · exact w_c21
  · exact w_c22
  · exact w_c23
  · exact w_c24
  · exact w_c25
  · exact w_c26
  · exact w_c27
  · exact w_c28
  · exact w_c29
  · exact w_c30
  · exact w_c31
  · exact w_c32
set_option maxRecDepth 65536 in
theorem w_t1 : (words1.take 24).all (fun c => isCode c || c.before args0 about1) = true := by decide +kernel
set_option maxRecDepth 65536 in
theorem w_t2 : ((words1.drop 24).take 24).all (fun c => isCode c || c.before args0 about1) = true := by decide +kernel
set_option maxRecDepth 65536 in
theorem w_t3 : (((words1.drop 24).drop 24).take 24).all (fun c => isCode c || c.before args0 about1) = true := by decide +kernel
set_option maxRecDepth 65536 in
theorem w_t4 : ((((words1.drop 24).drop 24).drop 24).take 24).all (fun c => isCode c || c.before args0 about1) = true := by decide +kernel
set_option maxRecDepth 65536 in
theorem w_t5 : (((((words1.drop 24).drop 24).drop 24).drop 24).take 24).all (fun c => isCode c || c.before args0 about1) = true := by decide +kernel
set_option maxRecDepth 65536 in
theorem w_t6 : (((((words1.drop 24).drop 24).drop 24).drop 24).drop 24).all (fun c => isCode c || c.before args0 about1) = true := by decide +kernel
theorem w_tables : (allAtoms (Jvm.Cond.code x code maxLocals ret :: tables_1)).before args0 about1 = true := by
  rw [allAtoms_all]
  show words1.all (fun c => c.before args0 about1) = true
  refine all_split ?_ w_codes
  rw [← List.take_append_drop 24 words1, List.all_append, w_t1, ← List.take_append_drop 24 (words1.drop 24), List.all_append, w_t2, ← List.take_append_drop 24 ((words1.drop 24).drop 24), List.all_append, w_t3, ← List.take_append_drop 24 (((words1.drop 24).drop 24).drop 24), List.all_append, w_t4, ← List.take_append_drop 24 ((((words1.drop 24).drop 24).drop 24).drop 24), List.all_append, w_t5, w_t6]
  rfl
set_option maxRecDepth 65536 in
theorem w_rest : rest_1_c.before args0 about1 = true := by decide +kernel
set_option maxRecDepth 65536 in
theorem w_case : (Jvm.Cond.and given_1 narrow_1).before args0 about1 = true := by decide +kernel
set_option maxRecDepth 65536 in
theorem w_consts : constsHeld consts_1 about1 := Jvm.Lit.constsHeldB_iff.mp (by decide +kernel)
theorem w_applies : (headSpec (Jvm.Cond.code x code maxLocals ret :: tables_1) room_1).applies x e0.platform about1 = true :=
  (Spec.applies_iff w_frames).mpr ⟨w_running, w_runnable, w_alone, w_named, w_hears, w_ripe, w_room, w_tables⟩
theorem atStart : AtStart classFile x code maxLocals ret World_1 tables_1 room_1 Calls_1 rest_1 Pre_1 launch0 p0 e0 about1 theMethod args0 below0 :=
  ⟨lists_1, trivial, launch0.admits_env _ _ _, launch0.least_env, fairChoices_fair.cas, fairChoices_fair.clock, w_frames, w_args, w_heap, w_applies, ⟨w_consts, trivial⟩, w_rest, w_case⟩
end start1
theorem witness_1 : WitnessClaimed_1 := ⟨start1.p0, start1.e0, start1.about1, start1.theMethod, start1.args0, start1.below0, start1.atStart⟩
end Jvm.Pilot.@@N@@
