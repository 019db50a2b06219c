import JvmDerived
import JvmDerived.Pilot.@@N@@Statement
import JvmDerived.Pilot.@@N@@Code
set_option linter.unusedVariables false
set_option linter.unusedSimpArgs false
/- laws to paste: Road.lenW, Road.codOf, pair_says, lo8_mask, shr0 (cut by pick.py; bodies as the Statement names them) -/
namespace Jvm.Pilot.@@N@@
namespace StrChars
open Jvm Sem ClassFile Op Lib Jvm.Stand Jvm.Free.XT Jvm.Free.ALB Jvm.Free.JM Jvm.Free
open Jvm.Lib.Cold (StaticIs)
/-- a char array whose places are chars -/
def Ch (a : Addr) (A : Cell) (U : State) : Prop := Arr .char a A U ∧ Typed .char A
theorem Ch.mv {a : Addr} {A : Cell} {U U' : State} (h : Ch a A U) (hal : U.vm.Alike U'.vm) (hh : U'.heap = U.heap) : Ch a A U' := ⟨h.1.mv hal hh, h.2⟩
theorem Ch.keep {a : Addr} {A : Cell} {U U' : State} (h : Ch a A U) (hal : U.vm.Alike U'.vm) (hk : U'.heap[a]? = some A) : Ch a A U' := ⟨h.1.keep hal hk, h.2⟩
/-- what place i of a char[]'s cell holds -/
def cv (A : Cell) (i : Nat) : Int32 := match A.slots[i]? with | some (.int x) => x | _ => 0
theorem Ch.get {a : Addr} {A : Cell} {U : State} (h : Ch a A U) {i : Nat} (hi : i < A.slots.size) : A.slots[i]? = some (.int (cv A i)) := by
  have e := Array.getElem?_eq_getElem hi
  have f := h.2 i _ e
  unfold cv; rw [e]
  generalize A.slots[i] = v at f
  cases v <;> simp [fits] at f ⊢
/-- the byte that i2b leaves of a char -/
def lo8 (x : Int32) : Int32 := x.toInt8.toInt32
theorem fits_lo8 (y : Int32) : fits .byte (.int (lo8 y)) = true := by
  have h1 := y.toInt8.le_toInt
  have h2 := y.toInt8.toInt_lt
  simp only [lo8, fits, Bool.and_eq_true, decide_eq_true_eq, Int32.le_iff_toInt_le, Int8.toInt_toInt32, show (-128 : Int32).toInt = -128 from by decide, show (127 : Int32).toInt = 127 from by decide]
  omega
/-- A' is A but that each place j of lo .. hi - 1 holds f j -/
def Laid (A A' : Cell) (lo hi : Nat) (f : Nat → Value) : Prop := A'.cls = A.cls ∧ A'.vm = A.vm ∧ A'.slots.size = A.slots.size ∧ ∀ i, A'.slots[i]? = if lo ≤ i ∧ i < hi then some (f i) else A.slots[i]?
theorem Laid.zero (A : Cell) (lo : Nat) (f : Nat → Value) : Laid A A lo (lo + 0) f := ⟨rfl, rfl, rfl, fun i => by rw [if_neg (by omega)]⟩
theorem Laid.step {A Ak : Cell} {lo k : Nat} {f : Nat → Value} {v : Value} (h : Laid A Ak lo k f) (hlo : lo ≤ k) (hk : k < Ak.slots.size) (hv : v = f k) : Laid A (Ak.setSlot k v) lo (k + 1) f := by
  refine ⟨h.1, h.2.1, by simpa [Cell.setSlot] using h.2.2.1, fun i => ?_⟩
  by_cases e : k = i
  · subst e; rw [Cell.slots_setSlot_self v hk, if_pos (by omega), hv]
  · rw [Cell.slots_setSlot_ne v e, h.2.2.2 i]
    by_cases q : lo ≤ i ∧ i < k
    · rw [if_pos q, if_pos (by omega)]
    · rw [if_neg q, if_neg (by omega)]
def U16 : String := "java/lang/StringUTF16"
namespace Cmp5
def yN : MethodName := ⟨"java/lang/StringUTF16", "compress", "([CI[BII)I"⟩
abbrev yB : ByteArray := jdk_52_method_21_code
theorem d0 : decode yB 0 = .ok (.iconst 0, 1) := by decide +kernel
theorem d1 : decode yB 1 = .ok (.istore 5, 2) := by decide +kernel
theorem d3 : decode yB 3 = .ok (.iload 5, 2) := by decide +kernel
theorem d5 : decode yB 5 = .ok (.iload 4, 2) := by decide +kernel
theorem d7 : decode yB 7 = .ok (.if_icmp (.ge) 37, 3) := by decide +kernel
theorem d10 : decode yB 10 = .ok (.aload_n 0, 1) := by decide +kernel
theorem d11 : decode yB 11 = .ok (.iload_n 1, 1) := by decide +kernel
theorem d12 : decode yB 12 = .ok (.caload, 1) := by decide +kernel
theorem d13 : decode yB 13 = .ok (.istore 6, 2) := by decide +kernel
theorem d15 : decode yB 15 = .ok (.iload 6, 2) := by decide +kernel
theorem d17 : decode yB 17 = .ok (.sipush 255, 3) := by decide +kernel
theorem d20 : decode yB 20 = .ok (.if_icmp (.le) 6, 3) := by decide +kernel
theorem d26 : decode yB 26 = .ok (.aload_n 2, 1) := by decide +kernel
theorem d27 : decode yB 27 = .ok (.iload_n 3, 1) := by decide +kernel
theorem d28 : decode yB 28 = .ok (.iload 6, 2) := by decide +kernel
theorem d30 : decode yB 30 = .ok (.i2b, 1) := by decide +kernel
theorem d31 : decode yB 31 = .ok (.bastore, 1) := by decide +kernel
theorem d32 : decode yB 32 = .ok (.iinc 1 1, 3) := by decide +kernel
theorem d35 : decode yB 35 = .ok (.iinc 3 1, 3) := by decide +kernel
theorem d38 : decode yB 38 = .ok (.iinc 5 1, 3) := by decide +kernel
theorem d41 : decode yB 41 = .ok (.goto (-38), 3) := by decide +kernel
theorem d44 : decode yB 44 = .ok (.iload 4, 2) := by decide +kernel
theorem d46 : decode yB 46 = .ok (.ireturn, 1) := by decide +kernel
def site : List Cond := []
def tab : Cond := tabOf yN yB 7 (some .int) site
def P (b : Addr) (A : Cell) (d : Addr) (B : Cell) (o q len : Nat) (args : Array Value) (s : State) : Prop := args = #[.ref b, .int (Int32.ofNat o), .ref d, .int (Int32.ofNat q), .int (Int32.ofNat len)] ∧ Ch b A s ∧ Arr .byte d B s ∧ b ≠ d ∧ o + len ≤ A.slots.size ∧ q + len ≤ B.slots.size ∧ ∀ i, i < len → ¬ 255 < cv A (o + i)
def E (b : Addr) (A : Cell) (d : Addr) (B : Cell) (o q len : Nat) (r : Option Value) (s u : State) : Prop := r = some (.int (Int32.ofNat len)) ∧ ∃ B', Put d B' s u ∧ Laid B B' q (q + len) (fun j => Value.int (lo8 (cv A (o + (j - q)))))
/-- no char of the range above 255: len; the places written hold each char's low byte -/
theorem law (l : Launch) (b : Addr) (A : Cell) (d : Addr) (B : Cell) (o q len : Nat) : Law l yN 5 5 0 0 yB 7 (some .int) site (P b A d B o q len) (E b A d B o q len) (copyLocs d q len) 0 0 := by
  refine Law.of_walk (plainFor_of_name (by decide +kernel)) (by decide +kernel) (by decide +kernel) (by decide) (fun _ _ h => by rw [h.1]; rfl) (fun _ U U' hal hh h => ⟨h.1, h.2.1.mv hal hh, h.2.2.1.mv hal hh, h.2.2.2⟩) (fun r U U' V V' h1 hal h2 h => ⟨h.1, h.2.elim fun B' q => ⟨B', q.1.mv h1 h2, q.2⟩⟩) ?_
  intro p e s m args below meth c s₁ X0 hexec hbytes hml hret hlk hnm hown hh0 W hP
  obtain ⟨rfl, hA, hB, hne, l1, l2, hp⟩ := hP
  have c1 : Steps p.tables e below (s₁.setTop (entryFrame m #[.ref b, .int (Int32.ofNat o), .ref d, .int (Int32.ofNat q), .int (Int32.ofNat len)] 7)) (s₁.setTop (mkF m 0 #[.val (.ref b), .val (.int (Int32.ofNat o)), .val (.ref d), .val (.int (Int32.ofNat q)), .val (.int (Int32.ofNat len)), .unset, .unset] [])) := entry rfl
  have hA0 := hA.1.mv X0.warmed.alike hh0
  have hB0 := hB.mv X0.warmed.alike hh0
  have a31 := hA.1.2.2.2
  have c2 : Steps p.tables e below (s₁.setTop (entryFrame m #[.ref b, .int (Int32.ofNat o), .ref d, .int (Int32.ofNat q), .int (Int32.ofNat len)] 7)) (s₁.setTop (mkF m 3 #[.val (.ref b), .val (.int (Int32.ofNat o)), .val (.ref d), .val (.int (Int32.ofNat q)), .val (.int (Int32.ofNat len)), .val (.int 0), .unset] [])) := c1.trans (by
    refine iconstV X0.here hexec rfl 0 (hb hbytes d0) (by decide) ?_
    refine XS.istore X0.here hexec rfl (hb hbytes d1) rfl rfl ?_
    exact Steps.refl _)
  have loop : ∀ (r i : Nat), i + r = len → ∀ (z : Slot), (z = .unset ∨ ∃ w, z = .val w ∧ w.category = 1) → ∀ (Tl : State) (Bk : Cell), Stand p l e { frames := 0, locals := 0, cells := 0, slots := 0 } s m #[.ref b, .int (Int32.ofNat o), .ref d, .int (Int32.ofNat q), .int (Int32.ofNat len)] below meth c Tl ([] ++ copyLocs d q i) 0 0 → Put d Bk s₁ Tl → Laid B Bk q (q + i) (fun j => Value.int (lo8 (cv A (o + (j - q))))) →
      Steps p.tables e below (s₁.setTop (entryFrame m #[.ref b, .int (Int32.ofNat o), .ref d, .int (Int32.ofNat q), .int (Int32.ofNat len)] 7)) (Tl.setTop (mkF m 3 #[.val (.ref b), .val (.int (Int32.ofNat (o + i))), .val (.ref d), .val (.int (Int32.ofNat (q + i))), .val (.int (Int32.ofNat len)), .val (.int (Int32.ofNat i)), z] [])) → ∃ (T' : State) (B' : Cell) (z' : Slot), Stand p l e { frames := 0, locals := 0, cells := 0, slots := 0 } s m #[.ref b, .int (Int32.ofNat o), .ref d, .int (Int32.ofNat q), .int (Int32.ofNat len)] below meth c T' ([] ++ copyLocs d q len) 0 0 ∧ Put d B' s₁ T' ∧ Laid B B' q (q + len) (fun j => Value.int (lo8 (cv A (o + (j - q))))) ∧
      Steps p.tables e below (s₁.setTop (entryFrame m #[.ref b, .int (Int32.ofNat o), .ref d, .int (Int32.ofNat q), .int (Int32.ofNat len)] 7)) (T'.setTop (mkF m 3 #[.val (.ref b), .val (.int (Int32.ofNat (o + len))), .val (.ref d), .val (.int (Int32.ofNat (q + len))), .val (.int (Int32.ofNat len)), .val (.int (Int32.ofNat len)), z'] [])) := by
    intro r
    induction r with
    | zero =>
      intro i hi z hz Tl Bk Xl pl fl cl
      have hil : i = len := by omega
      rw [hil] at Xl fl cl
      exact ⟨Tl, Bk, z, Xl, pl, fl, cl⟩
    | succ r ih =>
      intro i hi z hz Tl Bk Xl pl fl cl
      have all := X0.warmed.alike.symm.trans Xl.warmed.alike
      have hAl := hA0.keep all (pl.other hne hA0.1)
      have hBk := hB0.like all pl.1 fl.1 fl.2.1 fl.2.2.1
      have hlt : q + i < Bk.slots.size := by rw [fl.2.2.1]; omega
      have c3 : Steps p.tables e below (s₁.setTop (entryFrame m #[.ref b, .int (Int32.ofNat o), .ref d, .int (Int32.ofNat q), .int (Int32.ofNat len)] 7)) (Tl.setTop (mkF m 12 #[.val (.ref b), .val (.int (Int32.ofNat (o + i))), .val (.ref d), .val (.int (Int32.ofNat (q + i))), .val (.int (Int32.ofNat len)), .val (.int (Int32.ofNat i)), z] [.int (Int32.ofNat (o + i)), .ref b])) := cl.trans (by
        refine XS.iload Xl.here hexec rfl (hb hbytes d3) rfl ?_
        refine XS.iload Xl.here hexec rfl (hb hbytes d5) rfl ?_
        refine XS.icmpNo Xl.here hexec rfl (hb hbytes d7) rfl (ii_ge_f (lt32 (by omega) (by omega))) ?_
        refine XS.aloadN Xl.here hexec rfl (hb hbytes d10) rfl rfl ?_
        refine XS.iloadN Xl.here hexec rfl (hb hbytes d11) rfl ?_
        exact Steps.refl _)
      have c4 : Steps p.tables e below (s₁.setTop (entryFrame m #[.ref b, .int (Int32.ofNat o), .ref d, .int (Int32.ofNat q), .int (Int32.ofNat len)] 7)) (Tl.setTop (mkF m 13 #[.val (.ref b), .val (.int (Int32.ofNat (o + i))), .val (.ref d), .val (.int (Int32.ofNat (q + i))), .val (.int (Int32.ofNat len)), .val (.int (Int32.ofNat i)), z] [.int (cv A (o + i))])) := c3.trans (by
        refine Xl.aget hexec hAl rfl (hA.get (i := o + i) (by omega)) rfl rfl (hb hbytes d12) ?_
        exact Steps.refl _)
      have c5 : Steps p.tables e below (s₁.setTop (entryFrame m #[.ref b, .int (Int32.ofNat o), .ref d, .int (Int32.ofNat q), .int (Int32.ofNat len)] 7)) (Tl.setTop (mkF m 15 #[.val (.ref b), .val (.int (Int32.ofNat (o + i))), .val (.ref d), .val (.int (Int32.ofNat (q + i))), .val (.int (Int32.ofNat len)), .val (.int (Int32.ofNat i)), .val (.int (cv A (o + i)))] [])) := c4.trans (by
        refine XS.istoreS Xl.here hexec rfl (hb hbytes d13) rfl rfl hz ?_
        exact Steps.refl _)
      have c6 : Steps p.tables e below (s₁.setTop (entryFrame m #[.ref b, .int (Int32.ofNat o), .ref d, .int (Int32.ofNat q), .int (Int32.ofNat len)] 7)) (Tl.setTop (mkF m 31 #[.val (.ref b), .val (.int (Int32.ofNat (o + i))), .val (.ref d), .val (.int (Int32.ofNat (q + i))), .val (.int (Int32.ofNat len)), .val (.int (Int32.ofNat i)), .val (.int (cv A (o + i)))] [.int (lo8 (cv A (o + i))), .int (Int32.ofNat (q + i)), .ref d])) := c5.trans (by
        refine XS.iload Xl.here hexec rfl (hb hbytes d15) rfl ?_
        refine sipushV Xl.here hexec rfl 255 (hb hbytes d17) (by decide) ?_
        refine XS.icmpYes Xl.here hexec rfl (pc0 := 20) rfl (hb hbytes d20) rfl (ii_le_t (hp i (by omega))) (by decide) rfl ?_
        refine XS.aloadN Xl.here hexec rfl (hb hbytes d26) rfl rfl ?_
        refine XS.iloadN Xl.here hexec rfl (hb hbytes d27) rfl ?_
        refine XS.iload Xl.here hexec rfl (hb hbytes d28) rfl ?_
        refine i2b Xl.here hexec rfl (hb hbytes d30) rfl ?_
        exact Steps.refl _)
      obtain ⟨T7, X7, p7, st7⟩ := Xl.aput hexec hBk rfl hlt rfl (fits_lo8 (cv A (o + i))) (g := (mkF m 31 #[.val (.ref b), .val (.int (Int32.ofNat (o + i))), .val (.ref d), .val (.int (Int32.ofNat (q + i))), .val (.int (Int32.ofNat len)), .val (.int (Int32.ofNat i)), .val (.int (cv A (o + i)))] [.int (lo8 (cv A (o + i))), .int (Int32.ofNat (q + i)), .ref d])) rfl (rest := []) rfl (hb hbytes d31)
      have c8 : Steps p.tables e below (s₁.setTop (entryFrame m #[.ref b, .int (Int32.ofNat o), .ref d, .int (Int32.ofNat q), .int (Int32.ofNat len)] 7)) (T7.setTop (mkF m 32 #[.val (.ref b), .val (.int (Int32.ofNat (o + i))), .val (.ref d), .val (.int (Int32.ofNat (q + i))), .val (.int (Int32.ofNat len)), .val (.int (Int32.ofNat i)), .val (.int (cv A (o + i)))] [])) := c6.trans (st7 _ (Steps.refl _))
      have c9 : Steps p.tables e below (s₁.setTop (entryFrame m #[.ref b, .int (Int32.ofNat o), .ref d, .int (Int32.ofNat q), .int (Int32.ofNat len)] 7)) (T7.setTop (mkF m 3 #[.val (.ref b), .val (.int (Int32.ofNat (o + i) + 1)), .val (.ref d), .val (.int (Int32.ofNat (q + i) + 1)), .val (.int (Int32.ofNat len)), .val (.int (Int32.ofNat i + 1)), .val (.int (cv A (o + i)))] [])) := c8.trans (by
        refine iincV X7.here hexec rfl 1 (hb hbytes d32) (by decide) rfl rfl ?_
        refine iincV X7.here hexec rfl 1 (hb hbytes d35) (by decide) rfl rfl ?_
        refine iincV X7.here hexec rfl 1 (hb hbytes d38) (by decide) rfl rfl ?_
        refine XS.goto X7.here hexec rfl (pc0 := 41) rfl (hb hbytes d41) (by decide) rfl ?_
        exact Steps.refl _)
      have c10 : Steps p.tables e below (s₁.setTop (entryFrame m #[.ref b, .int (Int32.ofNat o), .ref d, .int (Int32.ofNat q), .int (Int32.ofNat len)] 7)) (T7.setTop (mkF m 3 #[.val (.ref b), .val (.int (Int32.ofNat (o + (i + 1)))), .val (.ref d), .val (.int (Int32.ofNat (q + (i + 1)))), .val (.int (Int32.ofNat len)), .val (.int (Int32.ofNat (i + 1))), .val (.int (cv A (o + i)))] [])) := by
        have := c9
        rw [succ32, succ32, succ32] at this
        exact this
      exact ih (i + 1) (by omega) _ (Or.inr ⟨_, rfl, rfl⟩) T7 _ (by rw [copyLocs_step, ← List.append_assoc]; exact X7) (pl.trans p7) (fl.step (by omega) hlt (by simp)) c10
  obtain ⟨T9, B9, z9, X9, p9, f9, g9⟩ := loop len 0 (by omega) .unset (Or.inl rfl) s₁ B (by simpa [copyLocs] using X0) ⟨hB0.1, fun _ _ => rfl, rfl⟩ (Laid.zero _ _ _) c2
  have c11 : Steps p.tables e below (s₁.setTop (entryFrame m #[.ref b, .int (Int32.ofNat o), .ref d, .int (Int32.ofNat q), .int (Int32.ofNat len)] 7)) (T9.setTop (mkF m 46 #[.val (.ref b), .val (.int (Int32.ofNat (o + len))), .val (.ref d), .val (.int (Int32.ofNat (q + len))), .val (.int (Int32.ofNat len)), .val (.int (Int32.ofNat len)), z9] [.int (Int32.ofNat len)])) := g9.trans (by
    refine XS.iload X9.here hexec rfl (hb hbytes d3) rfl ?_
    refine XS.iload X9.here hexec rfl (hb hbytes d5) rfl ?_
    refine XS.icmpYes X9.here hexec rfl (pc0 := 7) rfl (hb hbytes d7) rfl (ii_ge_t (nlt32 (by omega) (Nat.le_refl _))) (by decide) rfl ?_
    refine XS.iload X9.here hexec rfl (hb hbytes d44) rfl ?_
    exact Steps.refl _)
  exact ⟨T9, some (.int (Int32.ofNat len)), _, _, _, X9, by simp, rfl, rfl, (fun h => by cases h), ⟨rfl, B9, p9.from hh0, f9⟩, fun fs hl => c11.trans (X9.ireturnOut hexec hret rfl (Or.inl rfl) (hb hbytes d46) hl)⟩
end Cmp5
namespace Cmp3
def yN : MethodName := ⟨"java/lang/StringUTF16", "compress", "([CII)[B"⟩
abbrev yB : ByteArray := jdk_52_method_16_code
theorem d0 : decode yB 0 = .ok (.iload_n 2, 1) := by decide +kernel
theorem d1 : decode yB 1 = .ok (.newarray .byte, 2) := by decide +kernel
theorem d3 : decode yB 3 = .ok (.astore_n 3, 1) := by decide +kernel
theorem d4 : decode yB 4 = .ok (.aload_n 0, 1) := by decide +kernel
theorem d5 : decode yB 5 = .ok (.iload_n 1, 1) := by decide +kernel
theorem d6 : decode yB 6 = .ok (.aload_n 3, 1) := by decide +kernel
theorem d7 : decode yB 7 = .ok (.iconst 0, 1) := by decide +kernel
theorem d8 : decode yB 8 = .ok (.iload_n 2, 1) := by decide +kernel
theorem d9 : decode yB 9 = .ok (.invokestatic 115, 3) := by decide +kernel
theorem d12 : decode yB 12 = .ok (.istore 4, 2) := by decide +kernel
theorem d14 : decode yB 14 = .ok (.iload 4, 2) := by decide +kernel
theorem d16 : decode yB 16 = .ok (.iload_n 2, 1) := by decide +kernel
theorem d17 : decode yB 17 = .ok (.if_icmp (.eq) 40, 3) := by decide +kernel
theorem d57 : decode yB 57 = .ok (.aload_n 3, 1) := by decide +kernel
theorem d58 : decode yB 58 = .ok (.areturn, 1) := by decide +kernel
def site : List Cond := [.arrayClass .byte, Cmp5.tab] ++ staticW U16 115 Cmp5.yN
def tab : Cond := tabOf yN yB 6 (some (.array .byte)) site
def P (b : Addr) (A : Cell) (o len : Nat) (args : Array Value) (s : State) : Prop := args = #[.ref b, .int (Int32.ofNat o), .int (Int32.ofNat len)] ∧ Ch b A s ∧ o + len ≤ A.slots.size ∧ len ≤ 536870912 ∧ ∀ i, i < len → ¬ 255 < cv A (o + i)
def E (b : Addr) (A : Cell) (o len : Nat) (r : Option Value) (s u : State) : Prop := NewArr .byte "[B" len (fun j => .int (lo8 (cv A (o + j)))) r s u ∧ u.heap.size = s.heap.size + 1
/-- no char of the range above 255: a new byte[] of their low bytes -/
theorem law (l : Launch) (b : Addr) (A : Cell) (o len : Nat) : Law l yN 3 3 1 18 yB 6 (some (.array .byte)) site (P b A o len) (E b A o len) [] 1 len := by
  refine Law.of_walk (plainFor_of_name (by decide +kernel)) (by decide +kernel) (by decide +kernel) (by decide) (fun _ _ h => by rw [h.1]; rfl) (fun _ U U' hal hh h => ⟨h.1, h.2.1.mv hal hh, h.2.2⟩) (fun r U U' V V' h1 hal h2 h => ⟨NewArr.mv r U U' V V' h1 hal h2 h.1, by rw [h1, h2]; exact h.2⟩) ?_
  intro p e s m args below meth c s₁ X0 hexec hbytes hml hret hlk hnm hown hh0 W hP
  obtain ⟨rfl, hA, l1, l2, hp⟩ := hP
  have a31 := hA.1.2.2.2
  have c1 : Steps p.tables e below (s₁.setTop (entryFrame m #[.ref b, .int (Int32.ofNat o), .int (Int32.ofNat len)] 6)) (s₁.setTop (mkF m 0 #[.val (.ref b), .val (.int (Int32.ofNat o)), .val (.int (Int32.ofNat len)), .unset, .unset, .unset] [])) := entry rfl
  have c2 : Steps p.tables e below (s₁.setTop (entryFrame m #[.ref b, .int (Int32.ofNat o), .int (Int32.ofNat len)] 6)) (s₁.setTop (mkF m 1 #[.val (.ref b), .val (.int (Int32.ofNat o)), .val (.int (Int32.ofNat len)), .unset, .unset, .unset] [.int (Int32.ofNat len)])) := c1.trans (by
    refine XS.iloadN X0.here hexec rfl (hb hbytes d0) rfl ?_
    exact Steps.refl _)
  obtain ⟨T3, B3, X3, ba3, bs3, bv3, bh3, bf3, st3⟩ := X0.anew hexec (atype := .byte) (wk W (.arrayClass .byte)) rfl (by show len * 1 ≤ _; omega) (by omega) (g := (mkF m 1 #[.val (.ref b), .val (.int (Int32.ofNat o)), .val (.int (Int32.ofNat len)), .unset, .unset, .unset] [.int (Int32.ofNat len)])) rfl (hb hbytes d1) (rest := []) rfl (Nat.le_refl _) (by show 0 + len ≤ len; omega)
  rw [hh0] at ba3 st3
  have kp3 : XT.Kept s T3 := (XT.Kept.of_eq hh0).push bh3
  have hA3 := hA.keep X3.warmed.alike (kp3 _ _ hA.1.1)
  have hne : b ≠ s.heap.size := hA.1.ne
  have c4 : Steps p.tables e below (s₁.setTop (entryFrame m #[.ref b, .int (Int32.ofNat o), .int (Int32.ofNat len)] 6)) (T3.setTop (mkF m 3 #[.val (.ref b), .val (.int (Int32.ofNat o)), .val (.int (Int32.ofNat len)), .unset, .unset, .unset] [.ref s.heap.size])) := c2.trans (st3 _ (Steps.refl _))
  have c5 : Steps p.tables e below (s₁.setTop (entryFrame m #[.ref b, .int (Int32.ofNat o), .int (Int32.ofNat len)] 6)) (T3.setTop (mkF m 9 #[.val (.ref b), .val (.int (Int32.ofNat o)), .val (.int (Int32.ofNat len)), .val (.ref s.heap.size), .unset, .unset] [.int (Int32.ofNat len), .int 0, .ref s.heap.size, .int (Int32.ofNat o), .ref b])) := c4.trans (by
    refine XS.astoreN X3.here hexec rfl (hb hbytes d3) rfl rfl rfl ?_
    refine XS.aloadN X3.here hexec rfl (hb hbytes d4) rfl rfl ?_
    refine XS.iloadN X3.here hexec rfl (hb hbytes d5) rfl ?_
    refine XS.aloadN X3.here hexec rfl (hb hbytes d6) rfl rfl ?_
    refine iconstV X3.here hexec rfl 0 (hb hbytes d7) (by decide) ?_
    refine XS.iloadN X3.here hexec rfl (hb hbytes d8) rfl ?_
    exact Steps.refl _)
  obtain ⟨v6, T6, X6, E6, g6⟩ := X3.callS hexec (Cmp5.law l b A s.heap.size B3 o 0 len) hown (wks W (staticW U16 115 Cmp5.yN)) (wk W Cmp5.tab) (W := 0) (Nat.le_of_ble_eq_true rfl) (Nat.le_of_ble_eq_true rfl) (Nat.le_refl _) (by show 0 + len + 0 ≤ len; omega) (g := (mkF m 9 #[.val (.ref b), .val (.int (Int32.ofNat o)), .val (.int (Int32.ofNat len)), .val (.ref s.heap.size), .unset, .unset] [.int (Int32.ofNat len), .int (Int32.ofNat 0), .ref s.heap.size, .int (Int32.ofNat o), .ref b])) rfl (by rw [hml]; rfl) c5 (argsL := [.ref b, .int (Int32.ofNat o), .ref s.heap.size, .int (Int32.ofNat 0), .int (Int32.ofNat len)]) (rest := []) rfl rfl (by show 2 * 0 + 0 ≤ _; decide) (hb hbytes d9) (⟨rfl, hA3, ba3, hne, l1, by rw [bs3]; simp, hp⟩)
  obtain ⟨rfl, B6, p6, f6⟩ := E6
  have c7 : Steps p.tables e below (s₁.setTop (entryFrame m #[.ref b, .int (Int32.ofNat o), .int (Int32.ofNat len)] 6)) (T6.setTop (mkF m 12 #[.val (.ref b), .val (.int (Int32.ofNat o)), .val (.int (Int32.ofNat len)), .val (.ref s.heap.size), .unset, .unset] [.int (Int32.ofNat len)])) := g6
  have c8 : Steps p.tables e below (s₁.setTop (entryFrame m #[.ref b, .int (Int32.ofNat o), .int (Int32.ofNat len)] 6)) (T6.setTop (mkF m 58 #[.val (.ref b), .val (.int (Int32.ofNat o)), .val (.int (Int32.ofNat len)), .val (.ref s.heap.size), .val (.int (Int32.ofNat len)), .unset] [.ref s.heap.size])) := c7.trans (by
    refine XS.istore X6.here hexec rfl (hb hbytes d12) rfl rfl ?_
    refine XS.iload X6.here hexec rfl (hb hbytes d14) rfl ?_
    refine XS.iloadN X6.here hexec rfl (hb hbytes d16) rfl ?_
    refine XS.icmpYes X6.here hexec rfl (pc0 := 17) rfl (hb hbytes d17) rfl (ii_eq_t rfl) (by decide) rfl ?_
    refine XS.aloadN X6.here hexec rfl (hb hbytes d57) rfl rfl ?_
    exact Steps.refl _)
  have X8 := X6.wide (L' := []) (cells' := 1) (slots' := len) (fun x hx hlt => by
    simp only [List.nil_append, copyLocs, List.mem_map, List.mem_range] at hx
    obtain ⟨i, -, rfl⟩ := hx
    exact absurd hlt (Nat.lt_irrefl _)) (Nat.le_refl _) (by omega)
  exact ⟨T6, some (.ref s.heap.size), _, _, _, X8, rfl, rfl, rfl, (fun h => by cases h), ⟨⟨rfl, B6, ba3.like (X3.warmed.alike.symm.trans X6.warmed.alike) p6.1 f6.1 f6.2.1 f6.2.2.1, f6.2.1.trans bv3, by rw [X6.warmed.alike.findClass, f6.1]; exact bf3, by rw [f6.2.2.1, bs3]; simp, fun j hj => by rw [f6.2.2.2 j, if_pos (by omega)]; rfl, kp3.put p6 (Nat.le_refl _)⟩, by rw [p6.2.2, bh3, hh0]; simp⟩, fun fs hl => c8.trans (X8.areturnOut hexec rfl hret rfl (hb hbytes d58) hl)⟩
end Cmp3
namespace CodL
def yN : MethodName := ⟨"java/lang/StringUTF16", "coderFromArrayLen", "([BI)B"⟩
abbrev yB : ByteArray := jdk_52_method_15_code
theorem d0 : decode yB 0 = .ok (.iload_n 1, 1) := by decide +kernel
theorem d1 : decode yB 1 = .ok (.aload_n 0, 1) := by decide +kernel
theorem d2 : decode yB 2 = .ok (.arraylength, 1) := by decide +kernel
theorem d3 : decode yB 3 = .ok (.isub, 1) := by decide +kernel
theorem d4 : decode yB 4 = .ok (.bipush 31, 2) := by decide +kernel
theorem d6 : decode yB 6 = .ok (.iushr, 1) := by decide +kernel
theorem d7 : decode yB 7 = .ok (.i2b, 1) := by decide +kernel
theorem d8 : decode yB 8 = .ok (.ireturn, 1) := by decide +kernel
def site : List Cond := []
def tab : Cond := tabOf yN yB 2 (some .byte) site
def P (d : Addr) (B : Cell) (args : Array Value) (s : State) : Prop := args = #[.ref d, .int (Int32.ofNat B.slots.size)] ∧ Arr .byte d B s
def E (r : Option Value) (s u : State) : Prop := XT.PureE (some (.int 0)) r s u
/-- an array as long as the number of chars: LATIN1 -/
theorem law (l : Launch) (d : Addr) (B : Cell) : Law l yN 2 2 0 0 yB 2 (some .byte) site (P d B) E [] 0 0 := by
  refine Law.of_walk (plainFor_of_name (by decide +kernel)) (by decide +kernel) (by decide +kernel) (by decide) (fun _ _ h => by rw [h.1]; rfl) (fun _ U U' hal hh h => ⟨h.1, h.2.mv hal hh⟩) (fun r U U' V V' h1 hal h2 h => XT.PureE.mv r U U' V V' h1 hal h2 h) ?_
  intro p e s m args below meth c s₁ X0 hexec hbytes hml hret hlk hnm hown hh0 W hP
  obtain ⟨rfl, hB⟩ := hP
  have hB0 := hB.mv X0.warmed.alike hh0
  have c1 : Steps p.tables e below (s₁.setTop (entryFrame m #[.ref d, .int (Int32.ofNat B.slots.size)] 2)) (s₁.setTop (mkF m 0 #[.val (.ref d), .val (.int (Int32.ofNat B.slots.size))] [])) := entry rfl
  have c2 : Steps p.tables e below (s₁.setTop (entryFrame m #[.ref d, .int (Int32.ofNat B.slots.size)] 2)) (s₁.setTop (mkF m 2 #[.val (.ref d), .val (.int (Int32.ofNat B.slots.size))] [.ref d, .int (Int32.ofNat B.slots.size)])) := c1.trans (by
    refine XS.iloadN X0.here hexec rfl (hb hbytes d0) rfl ?_
    refine XS.aloadN X0.here hexec rfl (hb hbytes d1) rfl rfl ?_
    exact Steps.refl _)
  have c3 : Steps p.tables e below (s₁.setTop (entryFrame m #[.ref d, .int (Int32.ofNat B.slots.size)] 2)) (s₁.setTop (mkF m 8 #[.val (.ref d), .val (.int (Int32.ofNat B.slots.size))] [.int (lo8 (ushr (Int32.ofNat B.slots.size - Int32.ofNat B.slots.size) 31))])) := c2.trans (by
    refine X0.alen hexec hB0 rfl rfl (hb hbytes d2) ?_
    refine XS.isub X0.here hexec rfl (hb hbytes d3) rfl ?_
    refine bipushV X0.here hexec rfl 31 (hb hbytes d4) (by decide) ?_
    refine iushr X0.here hexec rfl (hb hbytes d6) rfl ?_
    refine i2b X0.here hexec rfl (hb hbytes d7) rfl ?_
    exact Steps.refl _)
  have e0 : lo8 (ushr (Int32.ofNat B.slots.size - Int32.ofNat B.slots.size) 31) = 0 := by rw [Int32.sub_self]; decide
  rw [e0] at c3
  exact ⟨s₁, some (.int 0), _, _, _, X0, rfl, rfl, rfl, (fun h => by cases h), ⟨rfl, hh0⟩, fun fs hl => c3.trans (X0.ireturnOut hexec hret rfl (Or.inr (Or.inr (Or.inl rfl))) (hb hbytes d8) hl)⟩
end CodL
/-- the String at a is Latin-1 over a new byte[] (the heap's one new cell): the low bytes of the len chars of A from o on; every cell but a is kept -/
def Got (a : Addr) (D : Cell) (fV fC : Field) (A : Cell) (o len : Nat) (r : Option Value) (s u : State) : Prop := r = none ∧ ∃ D' V : Cell, Blank "java/lang/String" a D' u ∧ Same D D' [fV.slot, fC.slot] ∧ D'.slots[fV.slot]? = some (.ref s.heap.size) ∧ D'.slots[fC.slot]? = some (.int 0) ∧ Arr .byte s.heap.size V u ∧ V.vm = .none ∧ u.vm.findClass "[B" = some V.cls ∧ V.slots.size = len ∧ (∀ j, j < len → V.slots[j]? = some (.int (lo8 (cv A (o + j))))) ∧ (∀ (y : Addr) (c : Cell), y ≠ a → s.heap[y]? = some c → u.heap[y]? = some c) ∧ u.heap.size = s.heap.size + 1
theorem Got.mv {a : Addr} {D A : Cell} {fV fC : Field} {o len : Nat} : ∀ r (U U' V V' : State), U'.heap = U.heap → V.vm.Alike V'.vm → V'.heap = V.heap → Got a D fV fC A o len r U V → Got a D fV fC A o len r U' V' :=
  fun r U U' V V' h1 hal h2 ⟨e0, D', X, a1, a2, a3, a4, a5, a6, a7, a8, a9, a10, a11⟩ => ⟨e0, D', X, a1.mv hal h2, a2, by rw [h1]; exact a3, a4, by rw [h1]; exact a5.mv hal h2, a6, by rw [hal.findClass]; exact a7, a8, a9, by rw [h1, h2]; exact a10, by rw [h1, h2]; exact a11⟩
namespace New4
def yN : MethodName := ⟨"java/lang/String", "<init>", "([CIILjava/lang/Void;)V"⟩
abbrev yB : ByteArray := jdk_42_method_149_code
theorem d0 : decode yB 0 = .ok (.aload_n 0, 1) := by decide +kernel
theorem d1 : decode yB 1 = .ok (.invokespecial 1, 3) := by decide +kernel
theorem d4 : decode yB 4 = .ok (.iload_n 3, 1) := by decide +kernel
theorem d5 : decode yB 5 = .ok (.ifCond (.ne) 22, 3) := by decide +kernel
theorem d27 : decode yB 27 = .ok (.getstatic 38, 3) := by decide +kernel
theorem d30 : decode yB 30 = .ok (.ifCond (.eq) 28, 3) := by decide +kernel
theorem d33 : decode yB 33 = .ok (.aload_n 1, 1) := by decide +kernel
theorem d34 : decode yB 34 = .ok (.iload_n 2, 1) := by decide +kernel
theorem d35 : decode yB 35 = .ok (.iload_n 3, 1) := by decide +kernel
theorem d36 : decode yB 36 = .ok (.invokestatic 177, 3) := by decide +kernel
theorem d39 : decode yB 39 = .ok (.astore 5, 2) := by decide +kernel
theorem d41 : decode yB 41 = .ok (.aload_n 0, 1) := by decide +kernel
theorem d42 : decode yB 42 = .ok (.aload 5, 2) := by decide +kernel
theorem d44 : decode yB 44 = .ok (.iload_n 3, 1) := by decide +kernel
theorem d45 : decode yB 45 = .ok (.invokestatic 47, 3) := by decide +kernel
theorem d48 : decode yB 48 = .ok (.putfield 15, 3) := by decide +kernel
theorem d51 : decode yB 51 = .ok (.aload_n 0, 1) := by decide +kernel
theorem d52 : decode yB 52 = .ok (.aload 5, 2) := by decide +kernel
theorem d54 : decode yB 54 = .ok (.putfield 9, 3) := by decide +kernel
theorem d57 : decode yB 57 = .ok (.return_, 1) := by decide +kernel
def site : List Cond := [.fieldLink "java/lang/String" 38 "java/lang/String" "COMPACT_STRINGS" "Z", Cmp3.tab, CodL.tab, .laysFinal "java/lang/String" "java/lang/String" "value" "[B", .fieldLink "java/lang/String" 9 "java/lang/String" "value" "[B", .laysFinal "java/lang/String" "java/lang/String" "coder" "B", .fieldLink "java/lang/String" 15 "java/lang/String" "coder" "B"] ++ objW "java/lang/String" 1 ++ staticW "java/lang/String" 177 Cmp3.yN ++ staticW "java/lang/String" 47 CodL.yN
def tab : Cond := tabOf yN yB 6 none site
def P (a : Addr) (D : Cell) (fV fC : Field) (b : Addr) (A : Cell) (z : Int32) (o len : Nat) (args : Array Value) (s : State) : Prop := args = #[.ref a, .ref b, .int (Int32.ofNat o), .int (Int32.ofNat len), .null] ∧ Blank "java/lang/String" a D s ∧ Found "java/lang/String" "value" "[B" fV s ∧ Found "java/lang/String" "coder" "B" fC s ∧ Ch b A s ∧ StaticIs s "java/lang/String" "COMPACT_STRINGS" "Z" (.int z) ∧ ¬ z = 0 ∧ 0 < len ∧ o + len ≤ A.slots.size ∧ len ≤ 536870912 ∧ ∀ i, i < len → ¬ 255 < cv A (o + i)
def E (a : Addr) (D : Cell) (fV fC : Field) (A : Cell) (o len : Nat) (r : Option Value) (s u : State) : Prop := Got a D fV fC A o len r s u
/-- len > 0, no char of the range above 255: a Latin-1 String of their low bytes -/
theorem law (l : Launch) (a : Addr) (D : Cell) (fV fC : Field) (b : Addr) (A : Cell) (z : Int32) (o len : Nat) : Law l yN 5 4 2 35 yB 6 none site (P a D fV fC b A z o len) (E a D fV fC A o len) [⟨a, fC.slot⟩, ⟨a, fV.slot⟩] 1 len := by
  refine Law.of_walk (plainFor_of_name (by decide +kernel)) (by decide +kernel) (by decide +kernel) (by decide) (fun _ _ h => by rw [h.1]; rfl) (fun _ U U' hal hh h => ⟨h.1, h.2.1.mv hal hh, h.2.2.1.al hal, h.2.2.2.1.al hal, h.2.2.2.2.1.mv hal hh, h.2.2.2.2.2.1.there hal hh, h.2.2.2.2.2.2⟩) (fun r U U' V V' h1 hal h2 h => Got.mv r U U' V V' h1 hal h2 h) ?_
  intro p e s m args below meth c s₁ X0 hexec hbytes hml hret hlk hnm hown hh0 W hP
  obtain ⟨rfl, hB, f1, f2, hA, s1, hz, l0, l1, l2, hp⟩ := hP
  have a31 := hA.1.2.2.2
  have c1 : Steps p.tables e below (s₁.setTop (entryFrame m #[.ref a, .ref b, .int (Int32.ofNat o), .int (Int32.ofNat len), .null] 6)) (s₁.setTop (mkF m 0 #[.val (.ref a), .val (.ref b), .val (.int (Int32.ofNat o)), .val (.int (Int32.ofNat len)), .val .null, .unset] [])) := entry rfl
  have c2 : Steps p.tables e below (s₁.setTop (entryFrame m #[.ref a, .ref b, .int (Int32.ofNat o), .int (Int32.ofNat len), .null] 6)) (s₁.setTop (mkF m 1 #[.val (.ref a), .val (.ref b), .val (.int (Int32.ofNat o)), .val (.int (Int32.ofNat len)), .val .null, .unset] [.ref a])) := c1.trans (by
    refine XS.aloadN X0.here hexec rfl (hb hbytes d0) rfl rfl ?_
    exact Steps.refl _)
  obtain ⟨T3, X3, q3, st3⟩ := X0.oinit hexec hown (wks W (objW "java/lang/String" 1)) (g := (mkF m 1 #[.val (.ref a), .val (.ref b), .val (.int (Int32.ofNat o)), .val (.int (Int32.ofNat len)), .val .null, .unset] [.ref a])) rfl (by rw [hml]; rfl) (rest := []) rfl (hb hbytes d1) (W := 0) (by show 2 * 0 + 0 ≤ _; decide) (Nat.le_of_ble_eq_true rfl) (Nat.le_of_ble_eq_true rfl)
  have hh3 := q3.trans hh0
  have c4 : Steps p.tables e below (s₁.setTop (entryFrame m #[.ref a, .ref b, .int (Int32.ofNat o), .int (Int32.ofNat len), .null] 6)) (T3.setTop (mkF m 27 #[.val (.ref a), .val (.ref b), .val (.int (Int32.ofNat o)), .val (.int (Int32.ofNat len)), .val .null, .unset] [])) := (c2.trans (st3 _ (Steps.refl _))).trans (by
    refine XS.iloadN X3.here hexec rfl (hb hbytes d4) rfl ?_
    refine XS.ifYes X3.here hexec rfl (pc0 := 5) rfl (hb hbytes d5) rfl (i0_ne_t (nz32 (by omega) l0)) (by decide) rfl ?_
    exact Steps.refl _)
  obtain ⟨T5, X5, q5, st5⟩ := X3.sget hexec hown (wk W (.fieldLink "java/lang/String" 38 "java/lang/String" "COMPACT_STRINGS" "Z")) s1 (fun _ _ h => by rw [hh3]; exact h) (g := (mkF m 27 #[.val (.ref a), .val (.ref b), .val (.int (Int32.ofNat o)), .val (.int (Int32.ofNat len)), .val .null, .unset] [])) rfl (hb hbytes d27)
  have hh5 := q5.trans hh3
  have c6 : Steps p.tables e below (s₁.setTop (entryFrame m #[.ref a, .ref b, .int (Int32.ofNat o), .int (Int32.ofNat len), .null] 6)) (T5.setTop (mkF m 30 #[.val (.ref a), .val (.ref b), .val (.int (Int32.ofNat o)), .val (.int (Int32.ofNat len)), .val .null, .unset] [.int z])) := c4.trans (st5 _ (Steps.refl _))
  have c7 : Steps p.tables e below (s₁.setTop (entryFrame m #[.ref a, .ref b, .int (Int32.ofNat o), .int (Int32.ofNat len), .null] 6)) (T5.setTop (mkF m 36 #[.val (.ref a), .val (.ref b), .val (.int (Int32.ofNat o)), .val (.int (Int32.ofNat len)), .val .null, .unset] [.int (Int32.ofNat len), .int (Int32.ofNat o), .ref b])) := c6.trans (by
    refine XS.ifNo X5.here hexec rfl (hb hbytes d30) rfl (i0_eq_f hz) ?_
    refine XS.aloadN X5.here hexec rfl (hb hbytes d33) rfl rfl ?_
    refine XS.iloadN X5.here hexec rfl (hb hbytes d34) rfl ?_
    refine XS.iloadN X5.here hexec rfl (hb hbytes d35) rfl ?_
    exact Steps.refl _)
  obtain ⟨v8, T8, X8, E8, g8⟩ := X5.callS hexec (Cmp3.law l b A o len) hown (wks W (staticW "java/lang/String" 177 Cmp3.yN)) (wk W Cmp3.tab) (W := 0) (Nat.le_of_ble_eq_true rfl) (Nat.le_of_ble_eq_true rfl) (Nat.le_refl _) (by show 0 + len ≤ len; omega) (g := (mkF m 36 #[.val (.ref a), .val (.ref b), .val (.int (Int32.ofNat o)), .val (.int (Int32.ofNat len)), .val .null, .unset] [.int (Int32.ofNat len), .int (Int32.ofNat o), .ref b])) rfl (by rw [hml]; rfl) c7 (argsL := [.ref b, .int (Int32.ofNat o), .int (Int32.ofNat len)]) (rest := []) rfl rfl (by show 2 * 0 + 0 ≤ _; decide) (hb hbytes d36) (⟨rfl, hA.mv X5.warmed.alike hh5, l1, l2, hp⟩)
  obtain ⟨e8, z8⟩ := E8
  obtain ⟨rfl, N, n1, n2, n3, n4, n5, n6⟩ := NewArr.mv _ T5 s _ _ hh5.symm (Vm.Alike.refl _) rfl e8
  rw [hh5] at z8
  have hB1 := hB.keep X8.warmed.alike (n6 _ _ hB.1)
  have hne : s.heap.size ≠ a := (Nat.ne_of_lt (Array.getElem?_eq_some_iff.mp hB.1).1).symm
  have c9 : Steps p.tables e below (s₁.setTop (entryFrame m #[.ref a, .ref b, .int (Int32.ofNat o), .int (Int32.ofNat len), .null] 6)) (T8.setTop (mkF m 39 #[.val (.ref a), .val (.ref b), .val (.int (Int32.ofNat o)), .val (.int (Int32.ofNat len)), .val .null, .unset] [.ref s.heap.size])) := g8
  have c10 : Steps p.tables e below (s₁.setTop (entryFrame m #[.ref a, .ref b, .int (Int32.ofNat o), .int (Int32.ofNat len), .null] 6)) (T8.setTop (mkF m 45 #[.val (.ref a), .val (.ref b), .val (.int (Int32.ofNat o)), .val (.int (Int32.ofNat len)), .val .null, .val (.ref s.heap.size)] [.int (Int32.ofNat N.slots.size), .ref s.heap.size, .ref a])) := by
    have hc : Steps p.tables e below (s₁.setTop (entryFrame m #[.ref a, .ref b, .int (Int32.ofNat o), .int (Int32.ofNat len), .null] 6)) (T8.setTop (mkF m 45 #[.val (.ref a), .val (.ref b), .val (.int (Int32.ofNat o)), .val (.int (Int32.ofNat len)), .val .null, .val (.ref s.heap.size)] [.int (Int32.ofNat len), .ref s.heap.size, .ref a])) := c9.trans (by
      refine XS.astore X8.here hexec rfl (hb hbytes d39) rfl rfl rfl ?_
      refine XS.aloadN X8.here hexec rfl (hb hbytes d41) rfl rfl ?_
      refine XS.aload X8.here hexec rfl (hb hbytes d42) rfl rfl ?_
      refine XS.iloadN X8.here hexec rfl (hb hbytes d44) rfl ?_
      exact Steps.refl _)
    rw [n4]; exact hc
  obtain ⟨v11, T11, X11, E11, g11⟩ := X8.callS hexec (CodL.law l s.heap.size N) hown (wks W (staticW "java/lang/String" 47 CodL.yN)) (wk W CodL.tab) (W := 1) (Nat.le_of_ble_eq_true rfl) (Nat.le_of_ble_eq_true rfl) (Nat.le_refl _) (by show 0 + len + 0 ≤ len; omega) (g := (mkF m 45 #[.val (.ref a), .val (.ref b), .val (.int (Int32.ofNat o)), .val (.int (Int32.ofNat len)), .val .null, .val (.ref s.heap.size)] [.int (Int32.ofNat N.slots.size), .ref s.heap.size, .ref a])) rfl (by rw [hml]; rfl) c10 (argsL := [.ref s.heap.size, .int (Int32.ofNat N.slots.size)]) (rest := [.ref a]) rfl rfl (by show 2 * 0 + (1 + 0) ≤ _; decide) (hb hbytes d45) (⟨rfl, n1⟩)
  obtain ⟨rfl, q11⟩ := E11
  have hB11 := hB1.mv (X8.warmed.alike.symm.trans X11.warmed.alike) q11
  have c12 : Steps p.tables e below (s₁.setTop (entryFrame m #[.ref a, .ref b, .int (Int32.ofNat o), .int (Int32.ofNat len), .null] 6)) (T11.setTop (mkF m 48 #[.val (.ref a), .val (.ref b), .val (.int (Int32.ofNat o)), .val (.int (Int32.ofNat len)), .val .null, .val (.ref s.heap.size)] [.int 0, .ref a])) := g11
  obtain ⟨T13, X13, p13, bl13, sl13, st13⟩ := X11.finit hexec hown (wk W (.fieldLink "java/lang/String" 15 "java/lang/String" "coder" "B")) (Or.inr ⟨_, (wk W (.laysFinal "java/lang/String" "java/lang/String" "coder" "B"))⟩) (Or.inl ⟨rfl, hnm⟩) f2 (Or.inl rfl) hB11 (t := .byte) (by decide +kernel) rfl (g := (mkF m 48 #[.val (.ref a), .val (.ref b), .val (.int (Int32.ofNat o)), .val (.int (Int32.ofNat len)), .val .null, .val (.ref s.heap.size)] [.int 0, .ref a])) rfl (rest := []) rfl (hb hbytes d48)
  have c14 : Steps p.tables e below (s₁.setTop (entryFrame m #[.ref a, .ref b, .int (Int32.ofNat o), .int (Int32.ofNat len), .null] 6)) (T13.setTop (mkF m 54 #[.val (.ref a), .val (.ref b), .val (.int (Int32.ofNat o)), .val (.int (Int32.ofNat len)), .val .null, .val (.ref s.heap.size)] [.ref s.heap.size, .ref a])) := (c12.trans (st13 _ (Steps.refl _))).trans (by
    refine XS.aloadN X13.here hexec rfl (hb hbytes d51) rfl rfl ?_
    refine XS.aload X13.here hexec rfl (hb hbytes d52) rfl rfl ?_
    exact Steps.refl _)
  obtain ⟨T15, X15, p15, bl15, sl15, st15⟩ := X13.finit hexec hown (wk W (.fieldLink "java/lang/String" 9 "java/lang/String" "value" "[B")) (Or.inr ⟨_, (wk W (.laysFinal "java/lang/String" "java/lang/String" "value" "[B"))⟩) (Or.inl ⟨rfl, hnm⟩) f1 (Or.inl rfl) bl13 (t := (.array .byte)) (by decide +kernel) rfl (g := (mkF m 54 #[.val (.ref a), .val (.ref b), .val (.int (Int32.ofNat o)), .val (.int (Int32.ofNat len)), .val .null, .val (.ref s.heap.size)] [.ref s.heap.size, .ref a])) rfl (rest := []) rfl (hb hbytes d54)
  have c16 : Steps p.tables e below (s₁.setTop (entryFrame m #[.ref a, .ref b, .int (Int32.ofNat o), .int (Int32.ofNat len), .null] 6)) (T15.setTop (mkF m 57 #[.val (.ref a), .val (.ref b), .val (.int (Int32.ofNat o)), .val (.int (Int32.ofNat len)), .val .null, .val (.ref s.heap.size)] [])) := c14.trans (st15 _ (Steps.refl _))
  have ap := apart (Or.inr ⟨_, (wk W (.laysFinal "java/lang/String" "java/lang/String" "value" "[B"))⟩) (Or.inr ⟨_, (wk W (.laysFinal "java/lang/String" "java/lang/String" "coder" "B"))⟩) f1 f2 (t₁ := .array .byte) (t₂ := .byte) (by decide +kernel) (by decide +kernel) (by decide)
  have al := X8.warmed.alike.symm.trans X15.warmed.alike
  have n7 : T11.heap[s.heap.size]? = some N := by rw [q11]; exact n1.1
  exact ⟨T15, none, _, _, _, X15, by simp, rfl, by omega, (fun _ => rfl), ⟨rfl, _, N, bl15, ((Same.refl D _).set _ (by simp)).set _ (by simp), sl15, (Cell.slots_setSlot_ne _ ap).trans sl13, n1.keep al (p15.other hne (p13.other hne n7)), n2, by rw [al.findClass]; exact n3, n4, n5, fun y c h1 h2 => p15.other h1 (p13.other h1 (by rw [q11]; exact n6 y c h2)), by rw [p15.2.2, p13.2.2, q11]; exact z8⟩, fun fs hl => c16.trans (X15.returnOut hexec hret (hb hbytes d57) hl)⟩
end New4
namespace New1
def yN : MethodName := ⟨"java/lang/String", "<init>", "([C)V"⟩
abbrev yB : ByteArray := jdk_42_method_3_code
theorem d0 : decode yB 0 = .ok (.aload_n 0, 1) := by decide +kernel
theorem d1 : decode yB 1 = .ok (.aload_n 1, 1) := by decide +kernel
theorem d2 : decode yB 2 = .ok (.iconst 0, 1) := by decide +kernel
theorem d3 : decode yB 3 = .ok (.aload_n 1, 1) := by decide +kernel
theorem d4 : decode yB 4 = .ok (.arraylength, 1) := by decide +kernel
theorem d5 : decode yB 5 = .ok (.aconst_null, 1) := by decide +kernel
theorem d6 : decode yB 6 = .ok (.invokespecial 27, 3) := by decide +kernel
theorem d9 : decode yB 9 = .ok (.return_, 1) := by decide +kernel
def site : List Cond := [New4.tab] ++ initW "java/lang/String" 27 New4.yN
def tab : Cond := tabOf yN yB 2 none site
def P (a : Addr) (D : Cell) (fV fC : Field) (b : Addr) (A : Cell) (z : Int32) (args : Array Value) (s : State) : Prop := args = #[.ref a, .ref b] ∧ Blank "java/lang/String" a D s ∧ Found "java/lang/String" "value" "[B" fV s ∧ Found "java/lang/String" "coder" "B" fC s ∧ Ch b A s ∧ StaticIs s "java/lang/String" "COMPACT_STRINGS" "Z" (.int z) ∧ ¬ z = 0 ∧ 0 < A.slots.size ∧ A.slots.size ≤ 536870912 ∧ ∀ i, i < A.slots.size → ¬ 255 < cv A i
def E (a : Addr) (D : Cell) (fV fC : Field) (A : Cell) (r : Option Value) (s u : State) : Prop := Got a D fV fC A 0 A.slots.size r s u
/-- new String(chars), not empty, no char above 255: a Latin-1 String of their low bytes -/
theorem law (l : Launch) (a : Addr) (D : Cell) (fV fC : Field) (b : Addr) (A : Cell) (z : Int32) : Law l yN 2 1 3 52 yB 2 none site (P a D fV fC b A z) (E a D fV fC A) [⟨a, fC.slot⟩, ⟨a, fV.slot⟩] 1 A.slots.size := by
  refine Law.of_walk (plainFor_of_name (by decide +kernel)) (by decide +kernel) (by decide +kernel) (by decide) (fun _ _ h => by rw [h.1]; rfl) (fun _ U U' hal hh h => ⟨h.1, h.2.1.mv hal hh, h.2.2.1.al hal, h.2.2.2.1.al hal, h.2.2.2.2.1.mv hal hh, h.2.2.2.2.2.1.there hal hh, h.2.2.2.2.2.2⟩) (fun r U U' V V' h1 hal h2 h => Got.mv r U U' V V' h1 hal h2 h) ?_
  intro p e s m args below meth c s₁ X0 hexec hbytes hml hret hlk hnm hown hh0 W hP
  obtain ⟨rfl, hB, f1, f2, hA, s1, hz, l0, l2, hp⟩ := hP
  have c1 : Steps p.tables e below (s₁.setTop (entryFrame m #[.ref a, .ref b] 2)) (s₁.setTop (mkF m 0 #[.val (.ref a), .val (.ref b)] [])) := entry rfl
  have c2 : Steps p.tables e below (s₁.setTop (entryFrame m #[.ref a, .ref b] 2)) (s₁.setTop (mkF m 6 #[.val (.ref a), .val (.ref b)] [.null, .int (Int32.ofNat A.slots.size), .int 0, .ref b, .ref a])) := c1.trans (by
    refine XS.aloadN X0.here hexec rfl (hb hbytes d0) rfl rfl ?_
    refine XS.aloadN X0.here hexec rfl (hb hbytes d1) rfl rfl ?_
    refine iconstV X0.here hexec rfl 0 (hb hbytes d2) (by decide) ?_
    refine XS.aloadN X0.here hexec rfl (hb hbytes d3) rfl rfl ?_
    refine X0.alen hexec (hA.1.mv X0.warmed.alike hh0) rfl rfl (hb hbytes d4) ?_
    refine XS.aconstNull X0.here hexec rfl (hb hbytes d5) ?_
    exact Steps.refl _)
  obtain ⟨v3, T3, X3, E3, g3⟩ := X0.callN hexec (New4.law l a D fV fC b A z 0 A.slots.size) rfl hown (wks W (initW "java/lang/String" 27 New4.yN)) (W New4.tab (by simp only [site, List.mem_cons, List.mem_append, true_or, or_true])) (W := 0) (Nat.le_of_ble_eq_true rfl) (Nat.le_of_ble_eq_true rfl) (Nat.le_refl _) (by show 0 + A.slots.size ≤ A.slots.size; omega) (g := (mkF m 6 #[.val (.ref a), .val (.ref b)] [.null, .int (Int32.ofNat A.slots.size), .int (Int32.ofNat 0), .ref b, .ref a])) rfl (by rw [hml]; rfl) c2 (argsL := [.ref b, .int (Int32.ofNat 0), .int (Int32.ofNat A.slots.size), .null]) (rest := []) rfl rfl (by show 2 * 0 + 0 ≤ _; decide) (hb hbytes d6) (⟨rfl, hB.mv X0.warmed.alike hh0, f1.al X0.warmed.alike, f2.al X0.warmed.alike, hA.mv X0.warmed.alike hh0, s1.there X0.warmed.alike hh0, hz, l0, by omega, l2, fun i hi => by rw [Nat.zero_add]; exact hp i hi⟩)
  have e0 := Got.mv _ s₁ s _ _ hh0.symm (Vm.Alike.refl _) rfl E3
  obtain rfl := e0.1
  have c4 : Steps p.tables e below (s₁.setTop (entryFrame m #[.ref a, .ref b] 2)) (T3.setTop (mkF m 9 #[.val (.ref a), .val (.ref b)] [])) := g3
  exact ⟨T3, none, _, _, _, X3, by simp, rfl, by omega, (fun _ => rfl), e0, fun fs hl => c4.trans (X3.returnOut hexec hret (hb hbytes d9) hl)⟩
theorem pays {l : Launch} {R : Room} {p : Program} {e : Env} {below : List Frame} {s : State} {sargs : Array Value} {len W : Nat} (a : Addr) (D : Cell) (fV fC : Field) (b : Addr) (A : Cell) (z : Int32) (htab : tab.before sargs s = true) (hfr : 4 ≤ R.frames) (hlo : W + 65 ≤ R.locals) :
    Back l R p e below s sargs yN len W (fun A₁ a₁ => A₁.cells + 1 ≤ R.cells ∧ A₁.slots + A.slots.size ≤ R.slots ∧ P a D fV fC b A z a₁ A₁.U) (fun A₁ _ v₁ B₁ => E a D fV fC A v₁ A₁.U B₁.U ∧ B₁.locs = A₁.locs ++ [⟨a, fC.slot⟩, ⟨a, fV.slot⟩] ∧ B₁.cells = A₁.cells + 1 ∧ B₁.slots = A₁.slots + A.slots.size) :=
  (law l a D fV fC b A z).pays htab hfr (by omega)
end New1
/-- the byte, read back as charAt reads it, is the char -/
theorem lo8_mask {x : Int32} (h0 : ¬ x < 0) (h1 : ¬ 255 < x) : lo8 x &&& 255 = x := by
  have t : ∀ k : Fin 256, lo8 (Int32.ofNat k.val) &&& 255 = Int32.ofNat k.val := by decide +kernel
  rw [Int32.lt_iff_toInt_lt] at h0 h1
  have e0 : (0 : Int32).toInt = 0 := rfl
  have e1 : (255 : Int32).toInt = 255 := rfl
  obtain ⟨k, hk⟩ : ∃ k : Nat, x.toInt = k := ⟨x.toInt.toNat, by omega⟩
  have hx : x = Int32.ofNat k := Int32.toInt_inj.mp (by rw [hk, Int32.toInt_ofNat_small (by omega)])
  rw [hx]
  exact t ⟨k, by omega⟩
end StrChars
namespace StrChars.Road
open Jvm Sem ClassFile Op Lib Jvm.Stand Jvm.Free Jvm.Free.XT
open Jvm.Lib.Cold (StaticIs)
abbrev ST : String := "java/lang/String"
/-- every table word that New1's law asks, flat -/
abbrev words : List Jvm.Cond := [.code New1.yN New1.yB 2 none, .initialized ST, .methodLink ST 27 New4.yN, .instanceMethod New4.yN,
  .code New4.yN New4.yB 6 none, .fieldLink ST 38 ST "COMPACT_STRINGS" "Z", .laysFinal ST ST "value" "[B", .fieldLink ST 9 ST "value" "[B", .laysFinal ST ST "coder" "B", .fieldLink ST 15 ST "coder" "B",
  .methodLink ST 1 Lib.objectInit, .instanceMethod Lib.objectInit, .code Lib.objectInit ⟨#[0xb1]⟩ 1 none, .methodLink ST 177 Cmp3.yN, .static Cmp3.yN, .methodLink ST 47 CodL.yN, .static CodL.yN,
  .code Cmp3.yN Cmp3.yB 6 (some (.array .byte)), .initialized U16, .arrayClass .byte, .methodLink U16 115 Cmp5.yN, .static Cmp5.yN, .code Cmp5.yN Cmp5.yB 7 (some .int), .code CodL.yN CodL.yB 2 (some .byte)]
theorem tab_of {a : Array Value} {s : State} (h : ∀ w ∈ words, w.before a s = true) : New1.tab.before a s = true := by
  have h5 : Cmp5.tab.before a s = true := unparts (wk h (.code Cmp5.yN Cmp5.yB 7 (some .int))) (wks h (.initialized Cmp5.yN.cls :: Cmp5.site))
  have hc : CodL.tab.before a s = true := unparts (wk h (.code CodL.yN CodL.yB 2 (some .byte))) (wks h (.initialized CodL.yN.cls :: CodL.site))
  have q5 : ∀ w ∈ Cmp5.tab :: words, w.before a s = true := fun w hw => (List.mem_cons.mp hw).elim (fun e => e ▸ h5) (h w)
  have h3 : Cmp3.tab.before a s = true := unparts (wk q5 (.code Cmp3.yN Cmp3.yB 6 (some (.array .byte)))) (wks q5 (.initialized Cmp3.yN.cls :: Cmp3.site))
  have q3 : ∀ w ∈ Cmp3.tab :: CodL.tab :: words, w.before a s = true := fun w hw => (List.mem_cons.mp hw).elim (fun e => e ▸ h3) fun hw => (List.mem_cons.mp hw).elim (fun e => e ▸ hc) (h w)
  have h4 : New4.tab.before a s = true := unparts (wk q3 (.code New4.yN New4.yB 6 none)) (wks q3 (.initialized New4.yN.cls :: New4.site))
  have q4 : ∀ w ∈ New4.tab :: words, w.before a s = true := fun w hw => (List.mem_cons.mp hw).elim (fun e => e ▸ h4) (h w)
  exact unparts (wk q4 (.code New1.yN New1.yB 2 none)) (wks q4 (.initialized New1.yN.cls :: New1.site))
/-- the words ride from the start Z to the walk's own state -/
theorem moved {Z s : State} {a0 args : Array Value} (hZ : Z.Warmed39 s.vm) (hw : ∀ d ∈ words, d.before a0 Z = true) : ∀ d ∈ words, d.before args s = true := fun d hd => by
  have q := hw d hd
  have t : ∀ d ∈ words, d = .arrayClass .byte ∨ (d.onTables && d.keepsFace) = true := by decide +kernel
  rcases t d hd with rfl | t
  · exact RoadKit.mvA hZ q
  · exact RoadKit.mv hZ q t
/-- WHAT COMES BACK, over the tables of the start Z: h the heap at the call, h' behind it -/
def Q (Z : State) (x : Addr) (A : Cell) (h : Heap) (v : Option Value) (h' : Heap) (L : List Loc) : Prop := v = none ∧ (∀ y ∈ L, y.base = x) ∧ RoadKit.Keep h h' [x] ∧ h'.size = h.size + 1 ∧ RoadKit.Exa Z h' x ST ∧ RoadKit.Fld Z h' x ST "value" "[B" (.ref h.size) ∧ RoadKit.Fld Z h' x ST "coder" "B" (.int 0) ∧
  (∃ V : Cell, RoadKit.Arr Z h' h.size V .byte ∧ V.vm = .none ∧ Z.vm.findClass "[B" = some V.cls ∧ V.slots.size = A.slots.size ∧ ∀ j, j < A.slots.size → V.slots[j]? = some (.int (lo8 (cv A j)))) ∧
  ∀ (O n d : String) (w : Value), RoadKit.Fld Z h x O n d w → RoadKit.slotOf Z O n d ≠ RoadKit.slotOf Z ST "value" "[B" → RoadKit.slotOf Z O n d ≠ RoadKit.slotOf Z ST "coder" "B" → RoadKit.Fld Z h' x O n d w
/-- **new String(chars) AT A CALL, IN THE ROAD'S FORM**: for specialBack behind newO: x the fresh String, b the char[] with the cell A -/
theorem back {p : Program} {l : Launch} {e : Env} {R : Room} {s : State} {args : Array Value} {below : List Frame} {len W : Nat} {Z : State} {a0 : Array Value} {h : Heap} (hZ : Z.Warmed39 s.vm) (hw : ∀ d ∈ words, d.before a0 Z = true) {kI : Nat} (wi : (Jvm.Cond.instantiable ST kI).before a0 Z = true)
    {x b : Addr} {A : Cell} {z : Int32} {v0 c0 : Value} (E : RoadKit.Exa Z h x ST) (V : RoadKit.Fld Z h x ST "value" "[B" v0) (C : RoadKit.Fld Z h x ST "coder" "B" c0) (K : RoadKit.Arr Z h b A .char) (hty : Typed .char A) (S : RoadKit.Sta Z h ST "COMPACT_STRINGS" "Z" (.int z)) (hz : ¬ z = 0)
    (l0 : 0 < A.slots.size) (l2 : A.slots.size ≤ 536870912) (hp : ∀ i, i < A.slots.size → ¬ 255 < cv A i) (hfr : 4 ≤ R.frames) (hlo : W + 65 ≤ R.locals) :
    Back l R p e below s args New1.yN len W (fun P a => a = #[.ref x, .ref b] ∧ P.U.heap = h ∧ P.cells + 1 ≤ R.cells ∧ P.slots + A.slots.size ≤ R.slots)
      (fun P _ v B => ∃ L, Q Z x A h v B.U.heap L ∧ B.locs = P.locs ++ L ∧ B.cells = P.cells + 1 ∧ B.slots = P.slots + A.slots.size) := by
  intro m meth c P g ig mk a X hg hsize hdg hW hn hp'
  obtain ⟨rfl, rfl, r1, r2⟩ := hp'
  have al : Z.vm.Alike P.U.vm := hZ.alike.trans X.warmed.alike
  obtain ⟨D, cfV, kV, iV, fV, hD, gV, stV, knV, obV, asV, slV⟩ := id V
  obtain ⟨D', cfC, kC, iC, fC, hD', gC, stC, -, -, asC, slC⟩ := id C
  cases hD.symm.trans hD'
  obtain ⟨D2, kD, e1, e2, e3, e4, e5⟩ := id E
  cases hD.symm.trans e1
  obtain ⟨c2, k2, i1, i2, i3, -⟩ := Cond.instantiable_spec wi
  cases e2.symm.trans i1
  cases e3.symm.trans i2
  obtain ⟨kU, u1, u2⟩ := al.2.2 _ _ e3
  have hB : Blank ST x D P.U := ⟨hD, ⟨knV, fun q hq => by rw [hq] at obV; cases obV⟩, by rw [al.findClass]; exact e2, kU, u1, by rw [u2]; exact i3, by rw [u2]; exact e5 i3⟩
  have F1 : Found ST "value" "[B" fV P.U := ⟨SBG.found_only al ⟨cfV, kV, iV, gV⟩, stV⟩
  have F2 : Found ST "coder" "B" fC P.U := ⟨SBG.found_only al ⟨cfC, kC, iC, gC⟩, stC⟩
  have hA : Ch b A P.U := ⟨⟨K.1, State.isArrayOf_alike al K.2.1, K.2.2, by omega⟩, hty⟩
  have hS : StaticIs P.U ST "COMPACT_STRINGS" "Z" (.int z) := by
    obtain ⟨cfS, iS, kS, fS, st, cS, t1, t2, t3, t4, t5, t6, t7⟩ := S
    exact StaticIs.there (s := { Z with heap := P.U.heap }) ⟨cfS, iS, kS, fS, st, cS, t1, t2, t3, t4, t5, (fun q => by rw [q] at t6; cases t6), t7⟩ al rfl
  obtain ⟨v, B, X', ⟨⟨hv, E', V', q1, q2, q3, q4, q5, q6, q7, q8, q9, q10, q11⟩, hl, hc, hs⟩, st⟩ := New1.pays x D fV fC b A z (tab_of (moved hZ hw)) hfr hlo m meth c P g ig mk _ X hg hsize hdg hW hn ⟨r1, r2, rfl, hB, F1, F2, hA, hS, hz, l0, l2, hp⟩
  have al' : Z.vm.Alike B.U.vm := hZ.alike.trans X'.warmed.alike
  have hsz : E'.slots.size = D.slots.size := by
    obtain ⟨-, -, -, kB, w1, w2, w3⟩ := q1
    obtain ⟨kB', y1, y2⟩ := al'.2.2 _ _ e3
    rw [q2.2.1] at w1
    cases w1.symm.trans y1
    rw [w3, e5 i3, y2]
  refine ⟨v, B, X', ⟨_, ⟨hv, ?_, ⟨by omega, fun y cy hy hn' => q10 y cy (by simpa using hn') hy, fun y cy hy => ?_⟩, q11, ⟨E', _, q1.1, by rw [q2.2.1]; exact e2, by rw [q2.2.1]; exact e3, by rw [q2.1]; exact obV, fun _ => by rw [hsz]; exact e5 i3⟩,
    ⟨E', cfV, kV, iV, fV, q1.1, gV, stV, by rw [q2.1]; exact knV, by rw [q2.1]; exact obV, by rw [q2.2.1]; exact asV, q3⟩, ⟨E', cfC, kC, iC, fC, q1.1, gC, stC, by rw [q2.1]; exact knV, by rw [q2.1]; exact obV, by rw [q2.2.1]; exact asC, q4⟩,
    ⟨V', ⟨q5.1, State.isArrayOf_alike al'.symm q5.2.1, q5.2.2.1⟩, q6, by rw [← al'.findClass]; exact q7, q8, fun j hj => by have := q9 j hj; rwa [Nat.zero_add] at this⟩, fun O n d w F n1 n2 => ?_⟩, hl, hc, hs⟩, st⟩
  · intro y hy
    simp only [List.mem_cons, List.not_mem_nil, or_false] at hy
    rcases hy with rfl | rfl <;> rfl
  · by_cases q : y = x
    · subst q
      cases hD.symm.trans hy
      exact ⟨E', q1.1, q2.2.1, q2.1, hsz⟩
    · exact ⟨cy, q10 y cy q hy, rfl, rfl, rfl⟩
  · obtain ⟨D3, cf, k, i, f, g1, g2, g3, g4, g5, g6, g7⟩ := F
    cases hD.symm.trans g1
    simp only [RoadKit.slotOf, g2, gV, gC, Option.map_some, Option.getD_some] at n1 n2
    exact ⟨E', cf, k, i, f, q1.1, g2, g3, by rw [q2.1]; exact g4, by rw [q2.1]; exact g5, by rw [q2.2.1]; exact g6, by rw [q2.2.2 f.slot (by simp [n1, n2])]; exact g7⟩
end StrChars.Road
namespace StrChars.Road
open Jvm Sem ClassFile Op Lib Jvm.Stand Jvm.Free Jvm.Free.XT
/-- WHAT COMES BACK, the byte[] as a list of values -/
def QA (Z : State) (x : Addr) (zn : Int32) (cs : List Int32) (h : Heap) (v : Option Value) (h' : Heap) (L : List Loc) : Prop := v = none ∧ (∀ y ∈ L, y.base = x) ∧ RoadKit.Keep h h' [x] ∧ h'.size = h.size + 1 ∧ RoadKit.Exa Z h' x ST ∧ RoadKit.Fld Z h' x ST "value" "[B" (.ref h.size) ∧ RoadKit.Fld Z h' x ST "coder" "B" (.int 0) ∧
  (∃ kb, Z.vm.findClass "[B" = some kb ∧ RoadKit.Arv Z h' h.size kb .byte zn (cs.map fun c => .int (lo8 c)) (.int 0)) ∧
  ∀ (O n d : String) (w : Value), RoadKit.Fld Z h x O n d w → RoadKit.slotOf Z O n d ≠ RoadKit.slotOf Z ST "value" "[B" → RoadKit.slotOf Z O n d ≠ RoadKit.slotOf Z ST "coder" "B" → RoadKit.Fld Z h' x O n d w
/-- **new String(chars) AT A CALL, THE ARRAYS AS LISTS**: the char[] at b holds cs, not empty, no char above 255 -/
theorem backArv {p : Program} {l : Launch} {e : Env} {R : Room} {s : State} {args : Array Value} {below : List Frame} {len W : Nat} {Z : State} {a0 : Array Value} {h : Heap} (hZ : Z.Warmed39 s.vm) (hw : ∀ d ∈ words, d.before a0 Z = true) {kI : Nat} (wi : (Jvm.Cond.instantiable ST kI).before a0 Z = true)
    {x b : Addr} {k : ClassId} {zn z : Int32} {cs : List Int32} {dv v0 c0 : Value} (E : RoadKit.Exa Z h x ST) (V : RoadKit.Fld Z h x ST "value" "[B" v0) (C : RoadKit.Fld Z h x ST "coder" "B" c0) (K : RoadKit.Arv Z h b k .char zn (cs.map Value.int) dv) (S : RoadKit.Sta Z h ST "COMPACT_STRINGS" "Z" (.int z)) (hz : ¬ z = 0)
    (hlen : zn.toNatClampNeg = cs.length) (h0 : 0 < cs.length) (hbig : cs.length ≤ 536870912) (hall : ∀ c ∈ cs, ¬ 255 < c) (hfr : 4 ≤ R.frames) (hlo : W + 65 ≤ R.locals) :
    Back l R p e below s args New1.yN len W (fun P a => a = #[.ref x, .ref b] ∧ P.U.heap = h ∧ P.cells + 1 ≤ R.cells ∧ P.slots + cs.length ≤ R.slots)
      (fun P _ v B => ∃ L, QA Z x zn cs h v B.U.heap L ∧ B.locs = P.locs ++ L ∧ B.cells = P.cells + 1 ∧ B.slots = P.slots + cs.length) := by
  obtain ⟨A, K1, K2, K3, K4, K5, K6⟩ := K
  have e : A.slots.size = cs.length := K3.trans hlen
  have hat : ∀ (i : Nat) (hi : i < cs.length), A.slots[i]? = some (.int cs[i]) := fun i hi => by rw [K5 i (by omega)]; simp [List.getD_eq_getElem?_getD, hi]
  have hcv : ∀ (i : Nat) (hi : i < cs.length), cv A i = cs[i] := fun i hi => by unfold cv; rw [hat i hi]
  have hty : Typed .char A := fun i v hv => by
    have hi : i < A.slots.size := (Array.getElem?_eq_some_iff.mp hv).1
    have q := K5 i hi
    rw [hv] at q
    rw [Option.some.inj q]
    exact K6 i hi
  refine Back.mono (back hZ hw wi E V C K1 hty S hz (by omega) (by omega) (fun i hi => by rw [hcv i (by omega)]; exact hall _ (List.getElem_mem _)) hfr hlo) (fun P a hp => ⟨hp.1, hp.2.1, hp.2.2.1, by rw [e]; exact hp.2.2.2⟩) (fun P a v B hp hq => ?_)
  obtain ⟨L, ⟨q1, q2, q3, q4, q5, q6, q7, ⟨V', v1, v2, v3, v4, v5⟩, q9⟩, hl, hc, hs⟩ := hq
  refine ⟨L, ⟨q1, q2, q3, q4, q5, q6, q7, ⟨V'.cls, v3, V', v1, rfl, by rw [v4, e, hlen], K4, fun i hi => ?_, fun i hi => ?_⟩, q9⟩, hl, hc, by rw [hs, e]⟩
  · have hi' : i < cs.length := by omega
    rw [v5 i (by omega), hcv i hi']; simp [List.getD_eq_getElem?_getD, hi']
  · have hi' : i < cs.length := by omega
    simp only [List.getD_eq_getElem?_getD, List.getElem?_map, List.getElem?_eq_getElem hi', Option.map_some, Option.getD_some]
    exact fits_lo8 _
end StrChars.Road
namespace StrChars.Road
open Jvm Sem ClassFile Op Lib Jvm.Stand Jvm.Free Jvm.Free.XT
/-- WHAT COMES BACK, in the writer's own shape -/
def QV (Z : State) (x : Addr) (N : Int32) (bs : List Int32) (h : Heap) (n0 : Nat) (v : Option Value) (h' : Heap) (L : List Loc) : Prop := v = none ∧ RoadKit.Fr n0 L ∧ RoadKit.Keep h h' [x] ∧ RoadKit.Exa Z h' x ST ∧ RoadKit.Fld Z h' x ST "coder" "B" (.int 0) ∧
  ∃ (t : Addr) (kb : ClassId), n0 ≤ t ∧ h.size ≤ t ∧ ¬ t = x ∧ RoadKit.Fld Z h' x ST "value" "[B" (.ref t) ∧ RoadKit.Arv Z h' t kb .byte N (bs.map Value.int) (.int 0)
/-- **new String(chars) AT A CALL, FOR THE WRITER**: a char[] of n known ints, each 0 to 255 -/
theorem backV {p : Program} {l : Launch} {e : Env} {R : Room} {s : State} {args : Array Value} {below : List Frame} {len W : Nat} {Z : State} {a0 : Array Value} {h : Heap} (hZ : Z.Warmed39 s.vm) (hw : ∀ d ∈ words, d.before a0 Z = true) {kI : Nat} (wi : (Jvm.Cond.instantiable ST kI).before a0 Z = true)
    {x b : Addr} {kC : ClassId} {cs bs : List Int32} {d v0 c0 : Value} {z N : Int32} {n n0 : Nat} (hx0 : n0 ≤ x) (hh0 : n0 ≤ h.size) (E : RoadKit.Exa Z h x ST) (V : RoadKit.Fld Z h x ST "value" "[B" v0) (C : RoadKit.Fld Z h x ST "coder" "B" c0) (K : RoadKit.Arv Z h b kC .char N (cs.map Value.int) d) (S : RoadKit.Sta Z h ST "COMPACT_STRINGS" "Z" (.int z)) (hz : ¬ z = 0)
    (hn : cs.length = n) (hN : N = Int32.ofNat n) (l0 : 0 < n) (l2 : n ≤ 4000) (hp : ∀ c ∈ cs, ¬ c < 0 ∧ ¬ (255 : Int32) < c) (hb : bs = cs.map (fun c => c.toInt8.toInt32)) (hfr : 4 ≤ R.frames) (hlo : W + 65 ≤ R.locals) :
    Back l R p e below s args (⟨"java/lang/String", "<init>", "([C)V"⟩ : MethodName) len W (fun P a => a = #[.ref x, .ref b] ∧ P.U.heap = h ∧ P.cells + 1 ≤ R.cells ∧ P.slots + n ≤ R.slots)
      (fun P _ v B => ∃ L, QV Z x N bs h n0 v B.U.heap L ∧ B.locs = P.locs ++ L ∧ B.cells = P.cells + 1 ∧ B.slots = P.slots + n) := by
  subst hn hN hb
  refine Back.mono (backArv hZ hw wi E V C K S hz (n32 (by omega)) l0 (by omega) (fun c hc => (hp c hc).2) hfr hlo) (fun P a hp => hp) (fun P a v B hp hq => ?_)
  obtain ⟨L, ⟨q1, q2, q3, q4, q5, q6, q7, ⟨kb, v1, v2⟩, q9⟩, hl, hc, hs⟩ := hq
  exact ⟨L, ⟨q1, fun y hy => by rw [q2 y hy]; exact hx0, q3, q5, q7, h.size, kb, hh0, Nat.le_refl _, Nat.ne_of_gt E.lt, q6, by rw [List.map_map]; exact v2⟩, hl, hc, hs⟩
end StrChars.Road
namespace StrChars
open Jvm Sem ClassFile Op Lib Jvm.Stand Jvm.Free.XT Jvm.Free.ALB Jvm.Free.JM Jvm.Free
open Jvm.Lib.Cold (StaticIs)
def hi8 (x : Int32) : Int32 := lo8 (x >>> ((8 : Int32) &&& 31))
/-- what StringUTF16.getChar makes of two bytes -/
def pairCh (u v : Int32) : Int32 := (((u &&& 255) <<< ((0 : Int32) &&& 31)) ||| ((v &&& 255) <<< ((8 : Int32) &&& 31))).toUInt32.toUInt16.toUInt32.toInt32
theorem shr0 (c : Int32) : c >>> ((0 : Int32) &&& 31) = c := by
  have e : ((0 : Int32) &&& 31) = 0 := by decide
  rw [e]
  apply Int32.toBitVec_inj.mp
  rw [Int32.toBitVec_shiftRight]
  have e1 : ((0 : Int32).toBitVec.smod 32) = 0#32 := by decide
  rw [e1, BitVec.sshiftRight_eq']
  exact BitVec.sshiftRight_zero
theorem lo8_and (x : Int32) : (lo8 x &&& 255).toBitVec.toNat = x.toBitVec.toNat % 256 := by
  have h : (lo8 x).toBitVec = (x.toBitVec.signExtend 8).signExtend 32 := by rw [lo8, Int8.toBitVec_toInt32, Int32.toBitVec_toInt8]
  rw [Int32.toBitVec_and, BitVec.toNat_and, h]
  have e : ((x.toBitVec.signExtend 8).signExtend 32).toNat % 256 = x.toBitVec.toNat % 256 := by
    rw [BitVec.toNat_signExtend]
    have hlt := x.toBitVec.isLt
    simp only [BitVec.toNat_setWidth, BitVec.toNat_signExtend]
    split <;> split <;> omega
  rw [← e]
  exact Nat.and_two_pow_sub_one_eq_mod _ 8
theorem pair_says {c : Int32} (h0 : ¬ c < 0) (h1 : ¬ 65535 < c) : pairCh (lo8 c) (hi8 c) = c := by
  rw [Int32.lt_iff_toInt_lt] at h0 h1
  have e0 : (0 : Int32).toInt = 0 := rfl
  have e1 : (65535 : Int32).toInt = 65535 := rfl
  have hc : c.toInt = c.toBitVec.toNat := by
    have := c.toBitVec.isLt
    have e : c.toInt = c.toBitVec.toInt := rfl
    rw [e] at h0 h1
    rw [e]
    rw [BitVec.toInt_eq_toNat_cond] at h0 h1 ⊢
    split at h0 <;> split <;> omega
  have hn : c.toBitVec.toNat < 65536 := by omega
  have a1 := lo8_and c
  have a2 : (hi8 c &&& 255).toBitVec.toNat = c.toBitVec.toNat / 256 := by
    rw [hi8, lo8_and]
    have e : ((8 : Int32) &&& 31) = 8 := by decide
    rw [e, Int32.toBitVec_shiftRight]
    have e2 : ((8 : Int32).toBitVec.smod 32) = 8#32 := by decide
    rw [e2, BitVec.sshiftRight_eq', BitVec.toNat_sshiftRight_of_msb_false (by rw [BitVec.msb_eq_false_iff_two_mul_lt]; omega)]
    show c.toBitVec.toNat >>> 8 % 256 = _
    rw [Nat.shiftRight_eq_div_pow]
    omega
  unfold pairCh
  apply Int32.toBitVec_inj.mp
  apply BitVec.eq_of_toNat_eq
  have f0 : ((0 : Int32) &&& 31) = 0 := by decide
  have f8 : ((8 : Int32) &&& 31) = 8 := by decide
  rw [f0, f8]
  have g : (((lo8 c &&& 255) <<< (0 : Int32)) ||| ((hi8 c &&& 255) <<< (8 : Int32))).toBitVec.toNat = c.toBitVec.toNat := by
    rw [Int32.toBitVec_or, Int32.toBitVec_shiftLeft, Int32.toBitVec_shiftLeft]
    have s0 : ((0 : Int32).toBitVec.smod 32) = 0#32 := by decide
    have s8 : ((8 : Int32).toBitVec.smod 32) = 8#32 := by decide
    rw [s0, s8, BitVec.toNat_or]
    simp only [BitVec.shiftLeft_eq', BitVec.toNat_shiftLeft, a1, a2]
    show (c.toBitVec.toNat % 256) <<< 0 % 2 ^ 32 ||| (c.toBitVec.toNat / 256) <<< 8 % 2 ^ 32 = _
    rw [Nat.shiftLeft_zero, Nat.mod_eq_of_lt (show c.toBitVec.toNat % 256 < 2 ^ 32 by omega), Nat.mod_eq_of_lt (show (c.toBitVec.toNat / 256) <<< 8 < 2 ^ 32 by rw [Nat.shiftLeft_eq]; omega), Nat.or_comm, ← Nat.shiftLeft_add_eq_or_of_lt (by omega), Nat.shiftLeft_eq]
    omega
  show BitVec.toNat (((((lo8 c &&& 255) <<< (0 : Int32)) ||| ((hi8 c &&& 255) <<< (8 : Int32))).toBitVec.setWidth 16).setWidth 32) = _
  rw [BitVec.toNat_setWidth, BitVec.toNat_setWidth, g]
  omega
end StrChars
namespace StrChars
open Jvm Sem ClassFile Op Lib Jvm.Stand Jvm.Free.XT Jvm.Free.ALB Jvm.Free.JM Jvm.Free
open Jvm.Lib.Cold (StaticIs)
theorem shr1 {n : Nat} (h : 2 * n < 2 ^ 31) : Int32.ofNat (2 * n) >>> ((1 : Int32) &&& 31) = Int32.ofNat n := by
  have e : ((1 : Int32) &&& 31) = 1 := by decide
  rw [e]
  apply Int32.toBitVec_inj.mp
  rw [Int32.toBitVec_shiftRight]
  have e1 : ((1 : Int32).toBitVec.smod 32) = 1#32 := by decide
  have hm : (BitVec.ofNat 32 (2 * n)).toNat = 2 * n := by rw [BitVec.toNat_ofNat, Nat.mod_eq_of_lt (by omega)]
  rw [e1, BitVec.sshiftRight_eq']
  apply BitVec.eq_of_toNat_eq
  show ((BitVec.ofNat 32 (2 * n)).sshiftRight 1).toNat = (BitVec.ofNat 32 n).toNat
  rw [BitVec.toNat_sshiftRight_of_msb_false (by rw [BitVec.msb_eq_false_iff_two_mul_lt, hm]; omega), hm, BitVec.toNat_ofNat, Nat.shiftRight_eq_div_pow]
  omega
/-- the array's cell V codes the n chars f 0 .. f (n - 1) by the coder cd, as the JDK does: coder 1 just where some char is above 255 -/
def Cod (cd : Int32) (n : Nat) (f : Nat → Int32) (V : Cell) : Prop := (cd = 0 ∧ V.slots.size = n ∧ ∀ j, j < n → V.slots[j]? = some (.int (lo8 (f j))) ∧ ¬ 255 < f j) ∨ (cd = 1 ∧ V.slots.size = 2 * n ∧ (∀ j, j < n → V.slots[2 * j]? = some (.int (lo8 (f j))) ∧ V.slots[2 * j + 1]? = some (.int (hi8 (f j)))) ∧ ∃ j, j < n ∧ 255 < f j)
theorem Cod.cd {cd : Int32} {n : Nat} {f : Nat → Int32} {V : Cell} (h : Cod cd n f V) : cd = 0 ∨ cd = 1 := h.imp (fun q => q.1) fun q => q.1
theorem Cod.len {cd : Int32} {n : Nat} {f : Nat → Int32} {V : Cell} (h : Cod cd n f V) (hs : V.slots.size < 2 ^ 31) : Int32.ofNat V.slots.size >>> (cd &&& 31) = Int32.ofNat n := by
  rcases h with ⟨rfl, h, -⟩ | ⟨rfl, h, -⟩
  · rw [shr0, h]
  · rw [h, shr1 (by omega)]
/-- **x is a String of the n chars f 0 .. f (n - 1)**, Latin-1 or UTF-16; its array at t has the cell V -/
def Txt (x t : Addr) (V : Cell) (cd : Int32) (n : Nat) (f : Nat → Int32) (U : State) : Prop := Exact "java/lang/String" x U ∧ Has x "java/lang/String" "value" "[B" (.ref t) U ∧ Has x "java/lang/String" "coder" "B" (.int cd) U ∧ XT.Arr .byte t V U ∧ Cod cd n f V ∧ ∀ j, j < n → ¬ f j < 0 ∧ ¬ 65535 < f j
theorem Txt.mv {x t : Addr} {V : Cell} {cd : Int32} {n : Nat} {f : Nat → Int32} {U U' : State} (h : Txt x t V cd n f U) (hal : U.vm.Alike U'.vm) (hh : U'.heap = U.heap) : Txt x t V cd n f U' := ⟨h.1.mv hal hh, h.2.1.mv hal hh, h.2.2.1.mv hal hh, h.2.2.2.1.mv hal hh, h.2.2.2.2⟩
namespace Cdr
def yN : MethodName := ⟨"java/lang/String", "coder", "()B"⟩
abbrev yB : ByteArray := jdk_42_method_152_code
theorem d0 : decode yB 0 = .ok (.getstatic 38, 3) := by decide +kernel
theorem d3 : decode yB 3 = .ok (.ifCond (.eq) 10, 3) := by decide +kernel
theorem d6 : decode yB 6 = .ok (.aload_n 0, 1) := by decide +kernel
theorem d7 : decode yB 7 = .ok (.getfield 15, 3) := by decide +kernel
theorem d10 : decode yB 10 = .ok (.goto 4, 3) := by decide +kernel
theorem d14 : decode yB 14 = .ok (.ireturn, 1) := by decide +kernel
def site : List Cond := [.fieldLink "java/lang/String" 38 "java/lang/String" "COMPACT_STRINGS" "Z", .fieldLink "java/lang/String" 15 "java/lang/String" "coder" "B"]
def tab : Cond := tabOf yN yB 1 (some .byte) site
def P (x : Addr) (cd z : Int32) (args : Array Value) (s : State) : Prop := args = #[.ref x] ∧ Has x "java/lang/String" "coder" "B" (.int cd) s ∧ (cd = 0 ∨ cd = 1) ∧ StaticIs s "java/lang/String" "COMPACT_STRINGS" "Z" (.int z) ∧ ¬ z = 0
def E (cd : Int32) (r : Option Value) (s u : State) : Prop := XT.PureE (some (.int cd)) r s u
theorem law (l : Launch) (x : Addr) (cd z : Int32) : Law l yN 1 0 0 0 yB 1 (some .byte) site (P x cd z) (E cd) [] 0 0 := by
  refine Law.of_walk (plainFor_of_name (by decide +kernel)) (by decide +kernel) (by decide +kernel) (by decide) (fun _ _ h => by rw [h.1]; rfl) (fun _ U U' hal hh h => ⟨h.1, h.2.1.mv hal hh, h.2.2.1, h.2.2.2.1.there hal hh, h.2.2.2.2⟩) (fun r U U' V V' h1 hal h2 h => XT.PureE.mv r U U' V V' h1 hal h2 h) ?_
  intro p e s m args below meth c s₁ X0 hexec hbytes hml hret hlk hnm hown hh0 W hP
  obtain ⟨rfl, hx, hc, s1, hz⟩ := hP
  have c1 : Steps p.tables e below (s₁.setTop (entryFrame m #[.ref x] 1)) (s₁.setTop (mkF m 0 #[.val (.ref x)] [])) := entry rfl
  obtain ⟨T2, X2, q2, st2⟩ := X0.sget hexec hown (wk W (.fieldLink "java/lang/String" 38 "java/lang/String" "COMPACT_STRINGS" "Z")) s1 (fun _ _ h => by rw [hh0]; exact h) (g := (mkF m 0 #[.val (.ref x)] [])) rfl (hb hbytes d0)
  have hh2 := q2.trans hh0
  have c3 : Steps p.tables e below (s₁.setTop (entryFrame m #[.ref x] 1)) (T2.setTop (mkF m 7 #[.val (.ref x)] [.ref x])) := (c1.trans (st2 _ (Steps.refl _))).trans (by
    refine XS.ifNo X2.here hexec rfl (hb hbytes d3) rfl (i0_eq_f hz) ?_
    refine XS.aloadN X2.here hexec rfl (hb hbytes d6) rfl rfl ?_
    exact Steps.refl _)
  obtain ⟨T4, X4, q4, st4⟩ := X2.hget hexec hown (wk W (.fieldLink "java/lang/String" 15 "java/lang/String" "coder" "B")) (hx.mv X2.warmed.alike hh2) (g := (mkF m 7 #[.val (.ref x)] [.ref x])) rfl (rest := []) rfl (hb hbytes d7)
  have c5 : Steps p.tables e below (s₁.setTop (entryFrame m #[.ref x] 1)) (T4.setTop (mkF m 14 #[.val (.ref x)] [.int cd])) := (c3.trans (st4 _ (Steps.refl _))).trans (by
    refine XS.goto X4.here hexec rfl (pc0 := 10) rfl (hb hbytes d10) (by decide) rfl ?_
    exact Steps.refl _)
  exact ⟨T4, some (.int cd), _, _, _, X4, rfl, rfl, rfl, (fun h => by cases h), ⟨rfl, q4.trans hh2⟩, fun fs hl => c5.trans (X4.ireturnOut hexec hret (by rcases hc with rfl | rfl <;> rfl) (Or.inr (Or.inr (Or.inl rfl))) (hb hbytes d14) hl)⟩
end Cdr
namespace Len
def yN : MethodName := ⟨"java/lang/String", "length", "()I"⟩
abbrev yB : ByteArray := jdk_42_method_54_code
theorem d0 : decode yB 0 = .ok (.aload_n 0, 1) := by decide +kernel
theorem d1 : decode yB 1 = .ok (.getfield 9, 3) := by decide +kernel
theorem d4 : decode yB 4 = .ok (.arraylength, 1) := by decide +kernel
theorem d5 : decode yB 5 = .ok (.aload_n 0, 1) := by decide +kernel
theorem d6 : decode yB 6 = .ok (.invokevirtual 335, 3) := by decide +kernel
theorem d9 : decode yB 9 = .ok (.ishr, 1) := by decide +kernel
theorem d10 : decode yB 10 = .ok (.ireturn, 1) := by decide +kernel
def site : List Cond := [.fieldLink "java/lang/String" 9 "java/lang/String" "value" "[B", Cdr.tab] ++ virtW "java/lang/String" 335 "java/lang/String" Cdr.yN Cdr.yN
def tab : Cond := tabOf yN yB 1 (some .int) site
def P (x t : Addr) (V : Cell) (cd : Int32) (n : Nat) (f : Nat → Int32) (z : Int32) (args : Array Value) (s : State) : Prop := args = #[.ref x] ∧ Txt x t V cd n f s ∧ StaticIs s "java/lang/String" "COMPACT_STRINGS" "Z" (.int z) ∧ ¬ z = 0
def E (n : Nat) (r : Option Value) (s u : State) : Prop := XT.PureE (some (.int (Int32.ofNat n))) r s u
/-- length() of a String of n chars, in either coding -/
theorem law (l : Launch) (x t : Addr) (V : Cell) (cd : Int32) (n : Nat) (f : Nat → Int32) (z : Int32) : Law l yN 1 0 1 13 yB 1 (some .int) site (P x t V cd n f z) (E n) [] 0 0 := by
  refine Law.of_walk (plainFor_of_name (by decide +kernel)) (by decide +kernel) (by decide +kernel) (by decide) (fun _ _ h => by rw [h.1]; rfl) (fun _ U U' hal hh h => ⟨h.1, h.2.1.mv hal hh, h.2.2.1.there hal hh, h.2.2.2⟩) (fun r U U' V V' h1 hal h2 h => XT.PureE.mv r U U' V V' h1 hal h2 h) ?_
  intro p e s m args below meth c s₁ X0 hexec hbytes hml hret hlk hnm hown hh0 W hP
  obtain ⟨rfl, hx, s1, hz⟩ := hP
  have v31 := hx.2.2.2.1.2.2.2
  have c1 : Steps p.tables e below (s₁.setTop (entryFrame m #[.ref x] 1)) (s₁.setTop (mkF m 1 #[.val (.ref x)] [.ref x])) := Steps.trans (entry rfl) (by
    show Steps p.tables e below (s₁.setTop (mkF m 0 #[.val (.ref x)] [])) _
    refine XS.aloadN X0.here hexec rfl (hb hbytes d0) rfl rfl ?_
    exact Steps.refl _)
  obtain ⟨T2, X2, q2, st2⟩ := X0.hget hexec hown (wk W (.fieldLink "java/lang/String" 9 "java/lang/String" "value" "[B")) (hx.mv X0.warmed.alike hh0).2.1 (g := (mkF m 1 #[.val (.ref x)] [.ref x])) rfl (rest := []) rfl (hb hbytes d1)
  have hh2 := q2.trans hh0
  have hx2 := hx.mv X2.warmed.alike hh2
  have c3 : Steps p.tables e below (s₁.setTop (entryFrame m #[.ref x] 1)) (T2.setTop (mkF m 6 #[.val (.ref x)] [.ref x, .int (Int32.ofNat V.slots.size)])) := (c1.trans (st2 _ (Steps.refl _))).trans (by
    refine X2.alen hexec hx2.2.2.2.1 rfl rfl (hb hbytes d4) ?_
    refine XS.aloadN X2.here hexec rfl (hb hbytes d5) rfl rfl ?_
    exact Steps.refl _)
  obtain ⟨v4, T4, X4, E4, g4⟩ := X2.callV hexec (Cdr.law l x cd z) hown (wks W (virtW "java/lang/String" 335 "java/lang/String" Cdr.yN Cdr.yN)) rfl (by decide) (wk W Cdr.tab) (W := 1) (Nat.le_of_ble_eq_true rfl) (Nat.le_of_ble_eq_true rfl) (Nat.le_refl _) (Nat.le_refl _) (hx2.1.fc X2.warmed.alike) hx2.1.is (g := (mkF m 6 #[.val (.ref x)] [.ref x, .int (Int32.ofNat V.slots.size)])) rfl (by rw [hml]; rfl) c3 (argsL := []) (rest := [.int (Int32.ofNat V.slots.size)]) rfl rfl (by show 2 * 0 + (1 + 0) ≤ _; decide) (hb hbytes d6) (⟨rfl, hx2.2.2.1, hx.2.2.2.2.1.cd, s1.there X2.warmed.alike hh2, hz⟩)
  obtain ⟨rfl, q4⟩ := E4
  have c5 : Steps p.tables e below (s₁.setTop (entryFrame m #[.ref x] 1)) (T4.setTop (mkF m 10 #[.val (.ref x)] [.int (Int32.ofNat V.slots.size >>> (cd &&& 31))])) := Steps.trans g4 (by
    refine ishr X4.here hexec rfl (hb hbytes d9) rfl ?_
    exact Steps.refl _)
  rw [hx.2.2.2.2.1.len v31] at c5
  exact ⟨T4, some (.int (Int32.ofNat n)), _, _, _, X4, rfl, rfl, rfl, (fun h => by cases h), ⟨rfl, q4.trans hh2⟩, fun fs hl => c5.trans (X4.ireturnOut hexec hret rfl (Or.inl rfl) (hb hbytes d10) hl)⟩
theorem pays {l : Launch} {R : Room} {p : Program} {e : Env} {below : List Frame} {s : State} {sargs : Array Value} {len W : Nat} (x t : Addr) (V : Cell) (cd : Int32) (n : Nat) (f : Nat → Int32) (z : Int32) (htab : tab.before sargs s = true) (hfr : 2 ≤ R.frames) (hlo : W + 25 ≤ R.locals) :
    Back l R p e below s sargs yN len W (fun A₁ a₁ => A₁.cells + 0 ≤ R.cells ∧ A₁.slots + 0 ≤ R.slots ∧ P x t V cd n f z a₁ A₁.U) (fun A₁ _ v₁ B₁ => E n v₁ A₁.U B₁.U ∧ B₁.locs = A₁.locs ++ [] ∧ B₁.cells = A₁.cells + 0 ∧ B₁.slots = A₁.slots + 0) :=
  (law l x t V cd n f z).pays htab hfr (by omega)
end Len
end StrChars
namespace StrChars.Road
open Jvm Sem ClassFile Op Lib Jvm.Stand Jvm.Free Jvm.Free.XT
open Jvm.Lib.Cold (StaticIs)
theorem consq {a : Array Value} {s : State} {c : Jvm.Cond} {L : List Jvm.Cond} (h0 : c.before a s = true) (h : ∀ w ∈ L, w.before a s = true) : ∀ w ∈ c :: L, w.before a s = true := fun w hw => (List.mem_cons.mp hw).elim (fun e => e ▸ h0) (h w)
/-- the words of String.length(), either coding -/
abbrev wordsLen : List Jvm.Cond := [.code Len.yN Len.yB 1 (some .int), .initialized ST, .fieldLink ST 9 ST "value" "[B", .fieldLink ST 38 ST "COMPACT_STRINGS" "Z", .fieldLink ST 15 ST "coder" "B", .code Cdr.yN Cdr.yB 1 (some .byte), .methodLink ST 335 Cdr.yN, .declares Cdr.yN, .selects ST Cdr.yN Cdr.yN, .instanceMethod Cdr.yN]
theorem tabLen_of {a : Array Value} {s : State} (h : ∀ w ∈ wordsLen, w.before a s = true) : Len.tab.before a s = true := by
  have hc : Cdr.tab.before a s = true := unparts (wk h (.code Cdr.yN Cdr.yB 1 (some .byte))) (wks h (.initialized Cdr.yN.cls :: Cdr.site))
  have q := consq hc h
  exact unparts (wk q (.code Len.yN Len.yB 1 (some .int))) (wks q (.initialized Len.yN.cls :: Len.site))
theorem movedLen {Z s : State} {a0 args : Array Value} (hZ : Z.Warmed39 s.vm) (hw : ∀ d ∈ wordsLen, d.before a0 Z = true) : ∀ d ∈ wordsLen, d.before args s = true := fun d hd => by
  have q := hw d hd
  have t : ∀ d ∈ wordsLen, d = .arrayClass .byte ∨ (d.onTables && d.keepsFace) = true := by decide +kernel
  rcases t d hd with rfl | t
  · exact RoadKit.mvA hZ q
  · exact RoadKit.mv hZ q t
/-- the bytes of the chars cs, low before high -/
def wideBytes : List Int32 → List Value
  | [] => []
  | c :: cs => .int (lo8 c) :: .int (hi8 c) :: wideBytes cs
theorem wide_lo (d : Value) : ∀ (cs : List Int32) (j : Nat), j < cs.length → (wideBytes cs).getD (2 * j) d = .int (lo8 (cs.getD j 0))
  | [], j, h => absurd h (Nat.not_lt_zero j)
  | c :: cs, 0, _ => rfl
  | c :: cs, j + 1, h => by
    have q := wide_lo d cs j (by simpa using h)
    rw [show 2 * (j + 1) = 2 * j + 1 + 1 from by omega]
    simpa [wideBytes] using q
theorem wide_hi (d : Value) : ∀ (cs : List Int32) (j : Nat), j < cs.length → (wideBytes cs).getD (2 * j + 1) d = .int (hi8 (cs.getD j 0))
  | [], j, h => absurd h (Nat.not_lt_zero j)
  | c :: cs, 0, _ => rfl
  | c :: cs, j + 1, h => by
    have q := wide_hi d cs j (by simpa using h)
    rw [show 2 * (j + 1) + 1 = 2 * j + 1 + 1 + 1 from by omega]
    simpa [wideBytes] using q
theorem low_at (d : Value) (cs : List Int32) (j : Nat) (h : j < cs.length) : (cs.map fun c => Value.int (lo8 c)).getD j d = .int (lo8 (cs.getD j 0)) := by
  simp [List.getD_eq_getElem?_getD, h]
/-- an array of N2 bytes vs codes the chars cs by the coder cd -/
def CodA (cs : List Int32) (cd N2 : Int32) (vs : List Value) : Prop := (cd = 0 ∧ N2 = Int32.ofNat cs.length ∧ vs = (cs.map fun c => Value.int (lo8 c)) ∧ ∀ c ∈ cs, ¬ 255 < c) ∨ (cd = 1 ∧ N2 = Int32.ofNat (2 * cs.length) ∧ vs = wideBytes cs ∧ ∃ c ∈ cs, 255 < c)
theorem CodA.cod {cs : List Int32} {cd N2 : Int32} {vs : List Value} {V : Cell} (h : CodA cs cd N2 vs) (hn : 2 * cs.length < 2 ^ 31) (hs : V.slots.size = N2.toNatClampNeg) (hv : RoadKit.Has V vs (.int 0)) : Cod cd cs.length (fun j => cs.getD j 0) V := by
  rcases h with ⟨rfl, rfl, rfl, h⟩ | ⟨rfl, rfl, rfl, c, hc, hw⟩
  · rw [n32 (by omega)] at hs
    exact Or.inl ⟨rfl, hs, fun j hj => ⟨by rw [hv j (by omega), low_at _ _ _ hj], by
      have e : cs.getD j 0 = cs[j] := by simp [List.getD_eq_getElem?_getD, hj]
      show ¬ 255 < cs.getD j 0
      rw [e]; exact h _ (List.getElem_mem _)⟩⟩
  · rw [n32 (by omega)] at hs
    obtain ⟨j, hj, rfl⟩ := List.getElem_of_mem hc
    exact Or.inr ⟨rfl, hs, fun j hj => ⟨by rw [hv _ (by omega), wide_lo _ _ _ hj], by rw [hv _ (by omega), wide_hi _ _ _ hj]⟩, j, hj, by
      have e : cs.getD j 0 = cs[j] := by simp [List.getD_eq_getElem?_getD, hj]
      show 255 < cs.getD j 0
      rw [e]; exact hw⟩
/-- an object of exactly java/lang/String, its two fields found: as the laws ask it -/
theorem strObj {Z U : State} {a0 : Array Value} {kI : Nat} (wi : (Jvm.Cond.instantiable ST kI).before a0 Z = true) (al : Z.vm.Alike U.vm) {x : Addr} {v0 c0 : Value} (E : RoadKit.Exa Z U.heap x ST) (V : RoadKit.Fld Z U.heap x ST "value" "[B" v0) (C : RoadKit.Fld Z U.heap x ST "coder" "B" c0) :
    ∃ (D : Cell) (fV fC : Field), Blank ST x D U ∧ Found ST "value" "[B" fV U ∧ Found ST "coder" "B" fC U ∧ D.slots[fV.slot]? = some v0 ∧ D.slots[fC.slot]? = some c0 ∧ RoadKit.slotOf Z ST "value" "[B" = fV.slot ∧ RoadKit.slotOf Z ST "coder" "B" = fC.slot := by
  obtain ⟨D, cfV, kV, iV, fV, hD, gV, stV, knV, obV, asV, slV⟩ := V
  obtain ⟨D', cfC, kC, iC, fC, hD', gC, stC, -, -, asC, slC⟩ := C
  cases hD.symm.trans hD'
  obtain ⟨D2, kD, e1, e2, e3, e4, e5⟩ := E
  cases hD.symm.trans e1
  obtain ⟨c2, k2, i1, i2, i3, -⟩ := Cond.instantiable_spec wi
  cases e2.symm.trans i1
  cases e3.symm.trans i2
  obtain ⟨kU, u1, u2⟩ := al.2.2 _ _ e3
  exact ⟨D, fV, fC, ⟨hD, ⟨knV, fun q hq => by rw [hq] at obV; cases obV⟩, by rw [al.findClass]; exact e2, kU, u1, by rw [u2]; exact i3, by rw [u2]; exact e5 i3⟩, ⟨SBG.found_only al ⟨cfV, kV, iV, gV⟩, stV⟩, ⟨SBG.found_only al ⟨cfC, kC, iC, gC⟩, stC⟩, slV, slC, by simp [RoadKit.slotOf, gV], by simp [RoadKit.slotOf, gC]⟩
theorem sta_is {Z U : State} (al : Z.vm.Alike U.vm) {C n d : String} {v : Value} (S : RoadKit.Sta Z U.heap C n d v) : StaticIs U C n d v := by
  obtain ⟨cfS, iS, kS, fS, st, cS, t1, t2, t3, t4, t5, t6, t7⟩ := S
  exact StaticIs.there (s := { Z with heap := U.heap }) ⟨cfS, iS, kS, fS, st, cS, t1, t2, t3, t4, t5, (fun q => by rw [q] at t6; cases t6), t7⟩ al rfl
/-- **length() OF SUCH A STRING** -/
theorem lenW {p : Program} {l : Launch} {e : Env} {R : Room} {s : State} {args : Array Value} {below : List Frame} {len W : Nat} {Z : State} {a0 : Array Value} {h : Heap} (hZ : Z.Warmed39 s.vm) (hw : ∀ d ∈ wordsLen, d.before a0 Z = true) {kI : Nat} (wi : (Jvm.Cond.instantiable ST kI).before a0 Z = true)
    {x t : Addr} {kb : ClassId} {cs : List Int32} {cd N2 z : Int32} {vs : List Value} (E : RoadKit.Exa Z h x ST) (V : RoadKit.Fld Z h x ST "value" "[B" (.ref t)) (C : RoadKit.Fld Z h x ST "coder" "B" (.int cd)) (K : RoadKit.Arv Z h t kb .byte N2 vs (.int 0)) (hc : CodA cs cd N2 vs) (hb : ∀ c ∈ cs, ¬ c < 0 ∧ ¬ (65535 : Int32) < c)
    (S : RoadKit.Sta Z h ST "COMPACT_STRINGS" "Z" (.int z)) (hz : ¬ z = 0) (l2 : cs.length ≤ 4000) (hfr : 2 ≤ R.frames) (hlo : W + 25 ≤ R.locals) :
    Back l R p e below s args (⟨"java/lang/String", "length", "()I"⟩ : MethodName) len W (fun P a => a = #[.ref x] ∧ P.U.heap = h ∧ P.cells + 0 ≤ R.cells ∧ P.slots + 0 ≤ R.slots)
      (fun P _ v B => ∃ L, (v = some (.int (Int32.ofNat cs.length)) ∧ L = [] ∧ B.U.heap = h) ∧ B.locs = P.locs ++ L ∧ B.cells = P.cells + 0 ∧ B.slots = P.slots + 0) := by
  obtain ⟨A, K1, K2, K3, K4, K5, K6⟩ := K
  have hcod := hc.cod (by omega) K3 K5
  intro m meth c P g ig mk a X hg hsize hdg hW hn hp'
  obtain ⟨rfl, rfl, r1, r2⟩ := hp'
  have al : Z.vm.Alike P.U.vm := hZ.alike.trans X.warmed.alike
  obtain ⟨D, fV, fC, hB, F1, F2, g1, g2, -, -⟩ := strObj wi al E V C
  have hx : Txt x t A cd cs.length (fun j => cs.getD j 0) P.U := ⟨⟨_, hB.2.2.1, D, hB.1, rfl, by cases q : D.vm <;> first | rfl | exact absurd q (hB.2.1.2 _)⟩, Has.of hB F1 g1, Has.of hB F2 g2, ⟨K1.1, State.isArrayOf_alike al K1.2.1, K1.2.2, by rcases hcod with ⟨-, q, -⟩ | ⟨-, q, -⟩ <;> omega⟩, hcod, fun j hj => by
    have e : cs.getD j 0 = cs[j] := by simp [List.getD_eq_getElem?_getD, hj]
    show ¬ cs.getD j 0 < 0 ∧ ¬ 65535 < cs.getD j 0
    rw [e]; exact hb _ (List.getElem_mem _)⟩
  obtain ⟨v, B, X', ⟨⟨hv, hh⟩, hl, hk, hs⟩, st⟩ := Len.pays x t A cd cs.length (fun j => cs.getD j 0) z (tabLen_of (movedLen hZ hw)) hfr hlo m meth c P g ig mk _ X hg hsize hdg hW hn ⟨r1, r2, rfl, hx, sta_is al S, hz⟩
  exact ⟨v, B, X', ⟨[], ⟨hv, rfl, hh⟩, hl, hk, hs⟩, st⟩
end StrChars.Road
namespace StrChars.Road
open Jvm Sem ClassFile Op Lib Jvm.Stand Jvm.Free Jvm.Free.XT
open Jvm.Lib.Cold (StaticIs)
/-- what backV says of its String, as the contracts of this text ask it: cs's low bytes, coder 0 -/
theorem codOf {cs : List Int32} {n : Nat} (hn : cs.length = n) (hb : ∀ c ∈ cs, ¬ 255 < c) : CodA cs 0 (Int32.ofNat n) ((cs.map lo8).map Value.int) := Or.inl ⟨rfl, by rw [hn], by simp [List.map_map, Function.comp_def], hb⟩
end StrChars.Road
end Jvm.Pilot.@@N@@
namespace Jvm.Pilot.@@N@@
open Jvm Jvm.ClassFile Sem Op Lib Jvm.Free Jvm.Stand Jvm.LawKit Jvm.RoadKit Bundle Jvm.Pilot.@@N@@.Jvm.D
section OwnKit
variable {Z : State} {EL : List (String × Nat)} {a0 : Array Value} {n0 : Nat} {h0 : Heap} {ws : List Addr} {own : String} {bytes : ByteArray} {mx : Nat} {p : Program} {l : Launch} {e : Env} {R : Room} {s : State} {m : MethodId} {args : Array Value} {below : List Frame} {meth : Method} {c : Code} {sv : List Addr} {T : State} {h : Heap} {k n : Nat} {P : Outcome → State → Prop} {pc : Nat} {Ls : Array Slot} {st : List Value}
def OGo (tb : Tables) (e : Env) (below : List Frame) (P : Outcome → State → Prop) (T : State) (g : JFrame) : Prop := ∃ (t : State) (o : Outcome), Steps tb e below (T.setTop g) t ∧ t.status = .running ∧ Ended t below o ∧ P o t
theorem og {tb : Tables} {T' : State} {g g' : JFrame} (st : ∀ t, Steps tb e below (T'.setTop g') t → Steps tb e below (T.setTop g) t) (K : OGo tb e below P T' g') : OGo tb e below P T g := by
  obtain ⟨t, o, h1, h2⟩ := K
  exact ⟨t, o, st t h1, h2⟩
def OEnd (Z : State) (EL : List (String × Nat)) (n0 : Nat) (h0 : Heap) (ws : List Addr) (s : State) (Q : Option Value → Heap → Prop) (k n : Nat) (o : Outcome) (t : State) : Prop :=
  ∃ v L, o = .returned v ∧ (Fr n0 L ∧ Keep h0 t.heap ws ∧ Q v t.heap) ∧ CHr Z EL s.vm s.heap t.vm t.heap ∧ ReturnedEndW s o t L k n ∧ (EL = [] → FrameEnd s o t L k n)
def OIn (Z : State) (EL : List (String × Nat)) (a0 : Array Value) (n0 : Nat) (h0 : Heap) (ws : List Addr) (own : String) (s : State) (m : MethodId) (sv : List Addr) (vm0 : Vm) (locs : List Loc) (h : Heap) : Prop :=
  s.heap = h0 ∧ Old Z n0 h ∧ Keep h0 h ws ∧ (∃ k0, s.Since vm0 k0 ∧ k0 ≤ h.size) ∧ Z.Warmed39 vm0 ∧ vm0.findClass own = some m.cls ∧ EW Z a0 EL ∧ CHr Z EL s.vm s.heap vm0 h ∧ (EL = [] → vm0 = s.vm) ∧ Fr n0 locs ∧ ∀ x ∈ sv, n0 ≤ x ∧ x < h.size ∧ (x ∈ ws ∨ h0.size ≤ x) ∧ Safe Z EL vm0 h x
def OSt (Z : State) (EL : List (String × Nat)) (a0 : Array Value) (n0 : Nat) (h0 : Heap) (ws : List Addr) (own : String) (bytes : ByteArray) (mx : Nat) (p : Program) (l : Launch) (e : Env) (R : Room) (s : State) (m : MethodId) (args : Array Value) (below : List Frame) (meth : Method) (c : Code) (sv : List Addr) (T : State) (h : Heap) (k n : Nat) : Prop :=
  p.tables.exec = Jvm.exec ∧ c.code = bytes ∧ c.maxLocals = mx ∧ T.heap = h ∧ meth.locks = false ∧ ∃ (vm0 : Vm) (locs : List Loc), Stand p l e R (s.setVm vm0) m args below meth c T locs k n ∧ OIn Z EL a0 n0 h0 ws own s m sv vm0 locs h
theorem OSt.here (X : OSt Z EL a0 n0 h0 ws own bytes mx p l e R s m args below meth c sv T h k n) : At T m c below := by obtain ⟨-, -, -, -, -, _, _, Y, -⟩ := X; exact Y.here
theorem OSt.hx (X : OSt Z EL a0 n0 h0 ws own bytes mx p l e R s m args below meth c sv T h k n) : p.tables.exec = Jvm.exec := X.1
theorem OSt.hd (X : OSt Z EL a0 n0 h0 ws own bytes mx p l e R s m args below meth c sv T h k n) {r : Except ClassFile.DecodeError (ClassFile.Instr × Nat)} (hd : decode bytes pc = r) : decode c.code pc = r := hb X.2.1 hd
theorem OSt.old (X : OSt Z EL a0 n0 h0 ws own bytes mx p l e R s m args below meth c sv T h k n) : Old Z n0 h := by obtain ⟨-, -, -, -, -, _, _, -, -, I, -⟩ := X; exact I
theorem OSt.kept (X : OSt Z EL a0 n0 h0 ws own bytes mx p l e R s m args below meth c sv T h k n) : Keep h0 h ws := by obtain ⟨-, -, -, -, -, _, _, -, -, -, I, -⟩ := X; exact I
theorem OSt.more (X : OSt Z EL a0 n0 h0 ws own bytes mx p l e R s m args below meth c sv T h k n) {k' n' : Nat} (hk : k ≤ k') (hn : n ≤ n') : OSt Z EL a0 n0 h0 ws own bytes mx p l e R s m args below meth c sv T h k' n' := by
  obtain ⟨a1, a2, a3, a4, a5, vm0, locs, Y, I⟩ := X
  exact ⟨a1, a2, a3, a4, a5, vm0, locs, Y.more hk hn, I⟩
theorem OSt.less (X : OSt Z EL a0 n0 h0 ws own bytes mx p l e R s m args below meth c sv T h k n) {sv' : List Addr} (q : ∀ x ∈ sv', x ∈ sv) : OSt Z EL a0 n0 h0 ws own bytes mx p l e R s m args below meth c sv' T h k n := by
  obtain ⟨a1, a2, a3, a4, a5, vm0, locs, Y, b1, b2, b3, b4, b5, b6, b7, b8, b9, b10, b11⟩ := X
  exact ⟨a1, a2, a3, a4, a5, vm0, locs, Y, b1, b2, b3, b4, b5, b6, b7, b8, b9, b10, fun x hx => b11 x (q x hx)⟩
theorem OIn.ext {vm0 : Vm} {locs : List Loc} {h' : Heap} (I : OIn Z EL a0 n0 h0 ws own s m sv vm0 locs h) (E : Ext h h') : OIn Z EL a0 n0 h0 ws own s m sv vm0 locs h' := by
  obtain ⟨b1, b2, b3, ⟨k0, b4, b4'⟩, b5, b6, b7, b8, b9, b10, b11⟩ := I
  exact ⟨b1, b2.ext E, b3.ext E, ⟨k0, b4, Nat.le_trans b4' E.1⟩, b5, b6, b7, b8.trans (CHr.ext E b8.1), b9, b10, fun x hx => let q := b11 x hx; ⟨q.1, Nat.lt_of_lt_of_le q.2.1 E.1, q.2.2.1, Safe.ext E b8.1 q.2.2.2⟩⟩
theorem OIn.new {vm0 : Vm} {locs : List Loc} {h' : Heap} (I : OIn Z EL a0 n0 h0 ws own s m sv vm0 locs h) (E : Ext h h') {b : Addr} (h1 : h.size ≤ b) (h2 : b < h'.size) : OIn Z EL a0 n0 h0 ws own s m (b :: sv) vm0 locs h' := by
  have I' := I.ext E
  obtain ⟨b1, b2, b3, -, -, -, -, b8, -⟩ := I
  obtain ⟨c1, c2, c3, c4, c5, c6, c7, c8, c9, c10, c11⟩ := I'
  refine ⟨c1, c2, c3, c4, c5, c6, c7, c8, c9, c10, fun x hx => ?_⟩
  rcases List.mem_cons.mp hx with rfl | hx
  · exact ⟨Nat.le_trans (Nat.le_of_eq b2.1.symm) (Nat.le_trans b2.2.1 h1), h2, Or.inr (Nat.le_trans b3.1 h1), Safe.ext E b8.1 (Safe.new h1)⟩
  · exact c11 x hx
theorem OIn.wr {vm0 : Vm} {locs : List Loc} {h' : Heap} (I : OIn Z EL a0 n0 h0 ws own s m sv vm0 locs h) {a : Addr} {sl : Nat} {v : Value} (ha : a ∈ sv) (W : Wr h h' a sl v) : OIn Z EL a0 n0 h0 ws own s m sv vm0 (locs ++ [⟨a, sl⟩]) h' := by
  obtain ⟨b1, b2, b3, ⟨k0, b4, b4'⟩, b5, b6, b7, b8, b9, b10, b11⟩ := I
  obtain ⟨q1, q2, q3, q4⟩ := b11 a ha
  refine ⟨b1, b2.wr W q1, b3.wr W q3, ⟨k0, b4, by rw [W.size]; exact b4'⟩, b5, b6, b7, b8.trans (CHr.wr W q4 b8.1), b9, b10.app fun y hy => ?_, fun x hx => let r := b11 x hx; ⟨r.1, by rw [W.size]; exact r.2.1, r.2.2.1, Safe.wr W q4 b8.1 r.2.2.2⟩⟩
  cases List.mem_singleton.mp hy; exact q1
theorem OIn.keep {vm0 : Vm} {locs : List Loc} {h' : Heap} (I : OIn Z EL a0 n0 h0 ws own s m sv vm0 locs h) {ws' : List Addr} {L : List Loc} (K : Keep h h' ws') (hs : ∀ x ∈ ws', x ∈ sv) (N : Fr n0 L) : OIn Z EL a0 n0 h0 ws own s m sv vm0 (locs ++ L) h' := by
  obtain ⟨b1, b2, b3, ⟨k0, b4, b4'⟩, b5, b6, b7, b8, b9, b10, b11⟩ := I
  have sf : ∀ x ∈ ws', Safe Z EL vm0 h x := fun x hx => (b11 x (hs x hx)).2.2.2
  exact ⟨b1, b2.keep K fun x hx => (b11 x (hs x hx)).1, b3.trans K fun x hx => (b11 x (hs x hx)).2.2.1, ⟨k0, b4, Nat.le_trans b4' K.1⟩, b5, b6, b7, b8.trans (CHr.keep K sf b8.1), b9, b10.app N, fun x hx => let r := b11 x hx; ⟨r.1, Nat.lt_of_lt_of_le r.2.1 K.1, r.2.2.1, Safe.keep K sf b8.1 r.2.2.2⟩⟩
theorem OIn.call {vm0 : Vm} {locs : List Loc} {h' : Heap} {vm1 : Vm} (I : OIn Z EL a0 n0 h0 ws own s m sv vm0 locs h) {ws' : List Addr} {L : List Loc} (K : Keep h h' ws') (hs : ∀ x ∈ ws', x ∈ sv) (N : Fr n0 L) (C : CHr Z EL vm0 h vm1 h') (S : (s.setVm vm0).Since vm1 h'.size) (hne : EL = [] → vm1 = vm0) : OIn Z EL a0 n0 h0 ws own s m sv vm1 (locs ++ L) h' := by
  obtain ⟨b1, b2, b3, ⟨k0, b4, b4'⟩, b5, b6, b7, b8, b9, b10, b11⟩ := I
  exact ⟨b1, b2.keep K fun x hx => (b11 x (hs x hx)).1, b3.trans K fun x hx => (b11 x (hs x hx)).2.2.1, ⟨_, b4.trans S (Nat.le_trans b4' K.1), Nat.le_refl _⟩, State.Warmed39.trans (t := s.setVm vm0) b5 S.1, by rw [S.1.alike.findClass]; exact b6, b7, b8.trans C, fun q => (hne q).trans (b9 q), b10.app N, fun x hx => let r := b11 x hx; ⟨r.1, Nat.lt_of_lt_of_le r.2.1 K.1, r.2.2.1, C.safe r.2.1 r.2.2.2⟩⟩
theorem og_aload (X : OSt Z EL a0 n0 h0 ws own bytes mx p l e R s m args below meth c sv T h k n) (pc' : Nat) {j : Nat} {v : Value} (hd : decode bytes pc = .ok (.aload j, 2)) (hl : Ls[j]? = some (.val (v))) (hv : v.isRef = true) (hq : pc' = pc + 2) (K : OGo p.tables e below P T (mkF m pc' Ls (v :: st))) : OGo p.tables e below P T (mkF m pc Ls st) := by
  subst hq
  exact og (fun _ q => XS.aload X.here X.hx rfl (X.hd hd) hl hv q) K
theorem og_aloadN (X : OSt Z EL a0 n0 h0 ws own bytes mx p l e R s m args below meth c sv T h k n) (pc' : Nat) {j : Fin 4} {v : Value} (hd : decode bytes pc = .ok (.aload_n j, 1)) (hl : Ls[j.val]? = some (.val (v))) (hv : v.isRef = true) (hq : pc' = pc + 1) (K : OGo p.tables e below P T (mkF m pc' Ls (v :: st))) : OGo p.tables e below P T (mkF m pc Ls st) := by
  subst hq
  exact og (fun _ q => XS.aloadN X.here X.hx rfl (X.hd hd) hl hv q) K
theorem og_iload (X : OSt Z EL a0 n0 h0 ws own bytes mx p l e R s m args below meth c sv T h k n) (pc' : Nat) {j : Nat} {v : Int32} (hd : decode bytes pc = .ok (.iload j, 2)) (hl : Ls[j]? = some (.val (.int v))) (hq : pc' = pc + 2) (K : OGo p.tables e below P T (mkF m pc' Ls (.int v :: st))) : OGo p.tables e below P T (mkF m pc Ls st) := by
  subst hq
  exact og (fun _ q => XS.iload X.here X.hx rfl (X.hd hd) hl q) K
theorem og_iloadN (X : OSt Z EL a0 n0 h0 ws own bytes mx p l e R s m args below meth c sv T h k n) (pc' : Nat) {j : Fin 4} {v : Int32} (hd : decode bytes pc = .ok (.iload_n j, 1)) (hl : Ls[j.val]? = some (.val (.int v))) (hq : pc' = pc + 1) (K : OGo p.tables e below P T (mkF m pc' Ls (.int v :: st))) : OGo p.tables e below P T (mkF m pc Ls st) := by
  subst hq
  exact og (fun _ q => XS.iloadN X.here X.hx rfl (X.hd hd) hl q) K
theorem og_lload (X : OSt Z EL a0 n0 h0 ws own bytes mx p l e R s m args below meth c sv T h k n) (pc' : Nat) {j : Nat} {v : Int64} (hd : decode bytes pc = .ok (.lload j, 2)) (hl : Ls[j]? = some (.val (.long v))) (hq : pc' = pc + 2) (K : OGo p.tables e below P T (mkF m pc' Ls (.long v :: st))) : OGo p.tables e below P T (mkF m pc Ls st) := by
  subst hq
  exact og (fun _ q => XT.lload X.here X.hx rfl (X.hd hd) hl q) K
theorem og_lloadN (X : OSt Z EL a0 n0 h0 ws own bytes mx p l e R s m args below meth c sv T h k n) (pc' : Nat) {j : Fin 4} {v : Int64} (hd : decode bytes pc = .ok (.lload_n j, 1)) (hl : Ls[j.val]? = some (.val (.long v))) (hq : pc' = pc + 1) (K : OGo p.tables e below P T (mkF m pc' Ls (.long v :: st))) : OGo p.tables e below P T (mkF m pc Ls st) := by
  subst hq
  exact og (fun _ q => XT.lloadN X.here X.hx rfl (X.hd hd) hl q) K
theorem og_iconst (X : OSt Z EL a0 n0 h0 ws own bytes mx p l e R s m args below meth c sv T h k n) (pc' : Nat) (v : Int32) {i : Int} (hd : decode bytes pc = .ok (.iconst i, 1)) (hv : Int32.ofInt i = v) (hq : pc' = pc + 1) (K : OGo p.tables e below P T (mkF m pc' Ls (.int v :: st))) : OGo p.tables e below P T (mkF m pc Ls st) := by
  subst hq hv
  exact og (fun _ q => XS.iconst X.here X.hx rfl (X.hd hd) q) K
theorem og_bipush (X : OSt Z EL a0 n0 h0 ws own bytes mx p l e R s m args below meth c sv T h k n) (pc' : Nat) (v : Int32) {i : Int} (hd : decode bytes pc = .ok (.bipush i, 2)) (hv : (Int8.ofInt i).toInt32 = v) (hq : pc' = pc + 2) (K : OGo p.tables e below P T (mkF m pc' Ls (.int v :: st))) : OGo p.tables e below P T (mkF m pc Ls st) := by
  subst hq hv
  exact og (fun _ q => XS.bipush X.here X.hx rfl (X.hd hd) q) K
theorem og_sipush (X : OSt Z EL a0 n0 h0 ws own bytes mx p l e R s m args below meth c sv T h k n) (pc' : Nat) (v : Int32) {i : Int} (hd : decode bytes pc = .ok (.sipush i, 3)) (hv : (Int16.ofInt i).toInt32 = v) (hq : pc' = pc + 3) (K : OGo p.tables e below P T (mkF m pc' Ls (.int v :: st))) : OGo p.tables e below P T (mkF m pc Ls st) := by
  subst hq hv
  exact og (fun _ q => XS.sipush X.here X.hx rfl (X.hd hd) q) K
theorem og_lconst (X : OSt Z EL a0 n0 h0 ws own bytes mx p l e R s m args below meth c sv T h k n) (pc' : Nat) (v : Int64) {i : Fin 2} (hd : decode bytes pc = .ok (.lconst i, 1)) (hv : Int64.ofNat i = v) (hq : pc' = pc + 1) (K : OGo p.tables e below P T (mkF m pc' Ls (.long v :: st))) : OGo p.tables e below P T (mkF m pc Ls st) := by
  subst hq hv
  exact og (fun _ q => XT.lconst X.here X.hx rfl (X.hd hd) q) K
theorem og_aconstNull (X : OSt Z EL a0 n0 h0 ws own bytes mx p l e R s m args below meth c sv T h k n) (pc' : Nat)  (hd : decode bytes pc = .ok (.aconst_null, 1))  (hq : pc' = pc + 1) (K : OGo p.tables e below P T (mkF m pc' Ls (.null :: st))) : OGo p.tables e below P T (mkF m pc Ls st) := by
  subst hq
  exact og (fun _ q => XS.aconstNull X.here X.hx rfl (X.hd hd) q) K
theorem og_iadd (X : OSt Z EL a0 n0 h0 ws own bytes mx p l e R s m args below meth c sv T h k n) (pc' : Nat) {x y : Int32} (hd : decode bytes pc = .ok (.iadd, 1))  (hq : pc' = pc + 1) (K : OGo p.tables e below P T (mkF m pc' Ls (.int (x + y) :: st))) : OGo p.tables e below P T (mkF m pc Ls (.int y :: .int x :: st)) := by
  subst hq
  exact og (fun _ q => XS.iadd X.here X.hx rfl (X.hd hd) rfl q) K
theorem og_isub (X : OSt Z EL a0 n0 h0 ws own bytes mx p l e R s m args below meth c sv T h k n) (pc' : Nat) {x y : Int32} (hd : decode bytes pc = .ok (.isub, 1))  (hq : pc' = pc + 1) (K : OGo p.tables e below P T (mkF m pc' Ls (.int (x - y) :: st))) : OGo p.tables e below P T (mkF m pc Ls (.int y :: .int x :: st)) := by
  subst hq
  exact og (fun _ q => XS.isub X.here X.hx rfl (X.hd hd) rfl q) K
theorem og_iand (X : OSt Z EL a0 n0 h0 ws own bytes mx p l e R s m args below meth c sv T h k n) (pc' : Nat) {x y : Int32} (hd : decode bytes pc = .ok (.iand, 1))  (hq : pc' = pc + 1) (K : OGo p.tables e below P T (mkF m pc' Ls (.int (x &&& y) :: st))) : OGo p.tables e below P T (mkF m pc Ls (.int y :: .int x :: st)) := by
  subst hq
  exact og (fun _ q => XS.iand X.here X.hx rfl (X.hd hd) rfl q) K
theorem og_imul (X : OSt Z EL a0 n0 h0 ws own bytes mx p l e R s m args below meth c sv T h k n) (pc' : Nat) {x y : Int32} (hd : decode bytes pc = .ok (.imul, 1))  (hq : pc' = pc + 1) (K : OGo p.tables e below P T (mkF m pc' Ls (.int (x * y) :: st))) : OGo p.tables e below P T (mkF m pc Ls (.int y :: .int x :: st)) := by
  subst hq
  exact og (fun _ q => XS.imul X.here X.hx rfl (X.hd hd) rfl q) K
theorem og_ixor (X : OSt Z EL a0 n0 h0 ws own bytes mx p l e R s m args below meth c sv T h k n) (pc' : Nat) {x y : Int32} (hd : decode bytes pc = .ok (.ixor, 1))  (hq : pc' = pc + 1) (K : OGo p.tables e below P T (mkF m pc' Ls (.int (x ^^^ y) :: st))) : OGo p.tables e below P T (mkF m pc Ls (.int y :: .int x :: st)) := by
  subst hq
  exact og (fun _ q => XT.ixor X.here X.hx rfl (X.hd hd) rfl q) K
theorem og_ior (X : OSt Z EL a0 n0 h0 ws own bytes mx p l e R s m args below meth c sv T h k n) (pc' : Nat) {x y : Int32} (hd : decode bytes pc = .ok (.ior, 1))  (hq : pc' = pc + 1) (K : OGo p.tables e below P T (mkF m pc' Ls (.int (x ||| y) :: st))) : OGo p.tables e below P T (mkF m pc Ls (.int y :: .int x :: st)) := by
  subst hq
  exact og (fun _ q => XT.ior X.here X.hx rfl (X.hd hd) rfl q) K
theorem og_ishl (X : OSt Z EL a0 n0 h0 ws own bytes mx p l e R s m args below meth c sv T h k n) (pc' : Nat) {x y : Int32} (hd : decode bytes pc = .ok (.ishl, 1))  (hq : pc' = pc + 1) (K : OGo p.tables e below P T (mkF m pc' Ls (.int (x <<< (y &&& 31)) :: st))) : OGo p.tables e below P T (mkF m pc Ls (.int y :: .int x :: st)) := by
  subst hq
  exact og (fun _ q => XT.ishl X.here X.hx rfl (X.hd hd) rfl q) K
theorem og_ishr (X : OSt Z EL a0 n0 h0 ws own bytes mx p l e R s m args below meth c sv T h k n) (pc' : Nat) {x y : Int32} (hd : decode bytes pc = .ok (.ishr, 1))  (hq : pc' = pc + 1) (K : OGo p.tables e below P T (mkF m pc' Ls (.int (x >>> (y &&& 31)) :: st))) : OGo p.tables e below P T (mkF m pc Ls (.int y :: .int x :: st)) := by
  subst hq
  exact og (fun _ q => XT.ishr X.here X.hx rfl (X.hd hd) rfl q) K
theorem og_iushr (X : OSt Z EL a0 n0 h0 ws own bytes mx p l e R s m args below meth c sv T h k n) (pc' : Nat) {x y : Int32} (hd : decode bytes pc = .ok (.iushr, 1))  (hq : pc' = pc + 1) (K : OGo p.tables e below P T (mkF m pc' Ls (.int (Jvm.Free.XT.ushr x y) :: st))) : OGo p.tables e below P T (mkF m pc Ls (.int y :: .int x :: st)) := by
  subst hq
  exact og (fun _ q => XT.iushr X.here X.hx rfl (X.hd hd) rfl q) K
theorem og_idiv (X : OSt Z EL a0 n0 h0 ws own bytes mx p l e R s m args below meth c sv T h k n) (pc' : Nat) {x y : Int32} (hd : decode bytes pc = .ok (.idiv, 1)) (hy : y ≠ 0) (hq : pc' = pc + 1) (K : OGo p.tables e below P T (mkF m pc' Ls (.int (x / y) :: st))) : OGo p.tables e below P T (mkF m pc Ls (.int y :: .int x :: st)) := by
  subst hq
  exact og (fun _ q => XS.idiv X.here X.hx rfl (X.hd hd) rfl hy q) K
theorem og_irem (X : OSt Z EL a0 n0 h0 ws own bytes mx p l e R s m args below meth c sv T h k n) (pc' : Nat) {x y : Int32} (hd : decode bytes pc = .ok (.irem, 1)) (hy : y ≠ 0) (hq : pc' = pc + 1) (K : OGo p.tables e below P T (mkF m pc' Ls (.int (x % y) :: st))) : OGo p.tables e below P T (mkF m pc Ls (.int y :: .int x :: st)) := by
  subst hq
  have q0 : x - x / y * y = x % y := irem_eq_mod x y
  exact og (fun _ q => XS.irem X.here X.hx rfl (X.hd hd) rfl hy (by rw [q0]; exact q)) K
theorem og_ineg (X : OSt Z EL a0 n0 h0 ws own bytes mx p l e R s m args below meth c sv T h k n) (pc' : Nat) {x : Int32} (hd : decode bytes pc = .ok (.ineg, 1))  (hq : pc' = pc + 1) (K : OGo p.tables e below P T (mkF m pc' Ls (.int (-x) :: st))) : OGo p.tables e below P T (mkF m pc Ls (.int x :: st)) := by
  subst hq
  exact og (fun _ q => XS.ineg X.here X.hx rfl (X.hd hd) rfl q) K
theorem og_ladd (X : OSt Z EL a0 n0 h0 ws own bytes mx p l e R s m args below meth c sv T h k n) (pc' : Nat) {x y : Int64} (hd : decode bytes pc = .ok (.ladd, 1))  (hq : pc' = pc + 1) (K : OGo p.tables e below P T (mkF m pc' Ls (.long (x + y) :: st))) : OGo p.tables e below P T (mkF m pc Ls (.long y :: .long x :: st)) := by
  subst hq
  exact og (fun _ q => XT.ladd X.here X.hx rfl (X.hd hd) rfl q) K
theorem og_lsub (X : OSt Z EL a0 n0 h0 ws own bytes mx p l e R s m args below meth c sv T h k n) (pc' : Nat) {x y : Int64} (hd : decode bytes pc = .ok (.lsub, 1))  (hq : pc' = pc + 1) (K : OGo p.tables e below P T (mkF m pc' Ls (.long (x - y) :: st))) : OGo p.tables e below P T (mkF m pc Ls (.long y :: .long x :: st)) := by
  subst hq
  exact og (fun _ q => XT.lsub X.here X.hx rfl (X.hd hd) rfl q) K
theorem og_lmul (X : OSt Z EL a0 n0 h0 ws own bytes mx p l e R s m args below meth c sv T h k n) (pc' : Nat) {x y : Int64} (hd : decode bytes pc = .ok (.lmul, 1))  (hq : pc' = pc + 1) (K : OGo p.tables e below P T (mkF m pc' Ls (.long (x * y) :: st))) : OGo p.tables e below P T (mkF m pc Ls (.long y :: .long x :: st)) := by
  subst hq
  exact og (fun _ q => XT.lmul X.here X.hx rfl (X.hd hd) rfl q) K
theorem og_land (X : OSt Z EL a0 n0 h0 ws own bytes mx p l e R s m args below meth c sv T h k n) (pc' : Nat) {x y : Int64} (hd : decode bytes pc = .ok (.land, 1))  (hq : pc' = pc + 1) (K : OGo p.tables e below P T (mkF m pc' Ls (.long (x &&& y) :: st))) : OGo p.tables e below P T (mkF m pc Ls (.long y :: .long x :: st)) := by
  subst hq
  exact og (fun _ q => XT.land X.here X.hx rfl (X.hd hd) rfl q) K
theorem og_lor (X : OSt Z EL a0 n0 h0 ws own bytes mx p l e R s m args below meth c sv T h k n) (pc' : Nat) {x y : Int64} (hd : decode bytes pc = .ok (.lor, 1))  (hq : pc' = pc + 1) (K : OGo p.tables e below P T (mkF m pc' Ls (.long (x ||| y) :: st))) : OGo p.tables e below P T (mkF m pc Ls (.long y :: .long x :: st)) := by
  subst hq
  exact og (fun _ q => XT.lor X.here X.hx rfl (X.hd hd) rfl q) K
theorem og_lxor (X : OSt Z EL a0 n0 h0 ws own bytes mx p l e R s m args below meth c sv T h k n) (pc' : Nat) {x y : Int64} (hd : decode bytes pc = .ok (.lxor, 1))  (hq : pc' = pc + 1) (K : OGo p.tables e below P T (mkF m pc' Ls (.long (x ^^^ y) :: st))) : OGo p.tables e below P T (mkF m pc Ls (.long y :: .long x :: st)) := by
  subst hq
  exact og (fun _ q => XT.lxor X.here X.hx rfl (X.hd hd) rfl q) K
theorem og_lcmp (X : OSt Z EL a0 n0 h0 ws own bytes mx p l e R s m args below meth c sv T h k n) (pc' : Nat) {x y : Int64} (hd : decode bytes pc = .ok (.lcmp, 1))  (hq : pc' = pc + 1) (K : OGo p.tables e below P T (mkF m pc' Ls (.int (Jvm.Free.XT.cmpL x y) :: st))) : OGo p.tables e below P T (mkF m pc Ls (.long y :: .long x :: st)) := by
  subst hq
  exact og (fun _ q => XT.lcmp X.here X.hx rfl (X.hd hd) rfl q) K
theorem og_i2l (X : OSt Z EL a0 n0 h0 ws own bytes mx p l e R s m args below meth c sv T h k n) (pc' : Nat) {x : Int32} (hd : decode bytes pc = .ok (.i2l, 1))  (hq : pc' = pc + 1) (K : OGo p.tables e below P T (mkF m pc' Ls (.long x.toInt64 :: st))) : OGo p.tables e below P T (mkF m pc Ls (.int x :: st)) := by
  subst hq
  exact og (fun _ q => XT.i2l X.here X.hx rfl (X.hd hd) rfl q) K
theorem og_i2b (X : OSt Z EL a0 n0 h0 ws own bytes mx p l e R s m args below meth c sv T h k n) (pc' : Nat) {x : Int32} (hd : decode bytes pc = .ok (.i2b, 1))  (hq : pc' = pc + 1) (K : OGo p.tables e below P T (mkF m pc' Ls (.int x.toInt8.toInt32 :: st))) : OGo p.tables e below P T (mkF m pc Ls (.int x :: st)) := by
  subst hq
  exact og (fun _ q => XT.i2b X.here X.hx rfl (X.hd hd) rfl q) K
theorem og_i2c (X : OSt Z EL a0 n0 h0 ws own bytes mx p l e R s m args below meth c sv T h k n) (pc' : Nat) {x : Int32} (hd : decode bytes pc = .ok (.i2c, 1))  (hq : pc' = pc + 1) (K : OGo p.tables e below P T (mkF m pc' Ls (.int x.toUInt32.toUInt16.toUInt32.toInt32 :: st))) : OGo p.tables e below P T (mkF m pc Ls (.int x :: st)) := by
  subst hq
  exact og (fun _ q => XT.i2c X.here X.hx rfl (X.hd hd) rfl q) K
theorem og_i2s (X : OSt Z EL a0 n0 h0 ws own bytes mx p l e R s m args below meth c sv T h k n) (pc' : Nat) {x : Int32} (hd : decode bytes pc = .ok (.i2s, 1))  (hq : pc' = pc + 1) (K : OGo p.tables e below P T (mkF m pc' Ls (.int x.toInt16.toInt32 :: st))) : OGo p.tables e below P T (mkF m pc Ls (.int x :: st)) := by
  subst hq
  exact og (fun _ q => XT.i2s X.here X.hx rfl (X.hd hd) rfl q) K
theorem og_l2i (X : OSt Z EL a0 n0 h0 ws own bytes mx p l e R s m args below meth c sv T h k n) (pc' : Nat) {x : Int64} (hd : decode bytes pc = .ok (.l2i, 1))  (hq : pc' = pc + 1) (K : OGo p.tables e below P T (mkF m pc' Ls (.int x.toInt32 :: st))) : OGo p.tables e below P T (mkF m pc Ls (.long x :: st)) := by
  subst hq
  exact og (fun _ q => XT.l2i X.here X.hx rfl (X.hd hd) rfl q) K
theorem og_i2c8 (X : OSt Z EL a0 n0 h0 ws own bytes mx p l e R s m args below meth c sv T h k n) (pc' : Nat) {x : Int32} (hd : decode bytes pc = .ok (.i2c, 1)) (hq : pc' = pc + 1) (K : OGo p.tables e below P T (mkF m pc' Ls (.int (x &&& 255) :: st))) : OGo p.tables e below P T (mkF m pc Ls (.int (x &&& 255) :: st)) := by
  subst hq
  exact og (fun _ q => XT.i2c X.here X.hx rfl (X.hd hd) rfl (by rw [i2c_mask]; exact q)) K
theorem og_dup (X : OSt Z EL a0 n0 h0 ws own bytes mx p l e R s m args below meth c sv T h k n) (pc' : Nat) {x : Value} (hd : decode bytes pc = .ok (.dup, 1)) (hc : x.category = 1) (hq : pc' = pc + 1) (K : OGo p.tables e below P T (mkF m pc' Ls (x :: x :: st))) : OGo p.tables e below P T (mkF m pc Ls (x :: st)) := by
  subst hq
  exact og (fun _ q => XS.dup X.here X.hx rfl (X.hd hd) rfl hc q) K
theorem og_pop (X : OSt Z EL a0 n0 h0 ws own bytes mx p l e R s m args below meth c sv T h k n) (pc' : Nat) {x : Value} (hd : decode bytes pc = .ok (.pop, 1)) (hc : x.category = 1) (hq : pc' = pc + 1) (K : OGo p.tables e below P T (mkF m pc' Ls st)) : OGo p.tables e below P T (mkF m pc Ls (x :: st)) := by
  subst hq
  exact og (fun _ q => XT.pop X.here X.hx rfl (X.hd hd) rfl hc q) K
theorem og_dupX1 (X : OSt Z EL a0 n0 h0 ws own bytes mx p l e R s m args below meth c sv T h k n) (pc' : Nat) {x y : Value} (hd : decode bytes pc = .ok (.dup_x1, 1)) (hc : x.category = 1) (hc' : y.category = 1) (hq : pc' = pc + 1) (K : OGo p.tables e below P T (mkF m pc' Ls (x :: y :: x :: st))) : OGo p.tables e below P T (mkF m pc Ls (x :: y :: st)) := by
  subst hq
  exact og (fun _ q => XT.dupX1 X.here X.hx rfl (X.hd hd) rfl hc hc' q) K
theorem og_dup2 (X : OSt Z EL a0 n0 h0 ws own bytes mx p l e R s m args below meth c sv T h k n) (pc' : Nat) {x y : Value} (hd : decode bytes pc = .ok (.dup2, 1)) (hc : x.category = 1) (hc' : y.category = 1) (hq : pc' = pc + 1) (K : OGo p.tables e below P T (mkF m pc' Ls (x :: y :: x :: y :: st))) : OGo p.tables e below P T (mkF m pc Ls (x :: y :: st)) := by
  subst hq
  exact og (fun _ q => XT.dup2 X.here X.hx rfl (X.hd hd) rfl hc hc' q) K
theorem og_istore (X : OSt Z EL a0 n0 h0 ws own bytes mx p l e R s m args below meth c sv T h k n) (pc' : Nat) (l' : Array Slot) {j : Nat} {x : Int32} (hd : decode bytes pc = .ok (.istore j, 2)) (hl : storeLocals Ls j (.int x) = some l') (hq : pc' = pc + 2) (K : OGo p.tables e below P T (mkF m pc' l' st)) : OGo p.tables e below P T (mkF m pc Ls (.int x :: st)) := by
  subst hq
  exact og (fun _ q => XS.istore X.here X.hx rfl (X.hd hd) rfl hl q) K
theorem og_istoreN (X : OSt Z EL a0 n0 h0 ws own bytes mx p l e R s m args below meth c sv T h k n) (pc' : Nat) (l' : Array Slot) {j : Fin 4} {x : Int32} (hd : decode bytes pc = .ok (.istore_n j, 1)) (hl : storeLocals Ls j.val (.int x) = some l') (hq : pc' = pc + 1) (K : OGo p.tables e below P T (mkF m pc' l' st)) : OGo p.tables e below P T (mkF m pc Ls (.int x :: st)) := by
  subst hq
  exact og (fun _ q => XS.istoreN X.here X.hx rfl (X.hd hd) rfl hl q) K
theorem og_lstore (X : OSt Z EL a0 n0 h0 ws own bytes mx p l e R s m args below meth c sv T h k n) (pc' : Nat) (l' : Array Slot) {j : Nat} {x : Int64} (hd : decode bytes pc = .ok (.lstore j, 2)) (hl : storeLocals Ls j (.long x) = some l') (hq : pc' = pc + 2) (K : OGo p.tables e below P T (mkF m pc' l' st)) : OGo p.tables e below P T (mkF m pc Ls (.long x :: st)) := by
  subst hq
  exact og (fun _ q => XT.lstore X.here X.hx rfl (X.hd hd) rfl hl q) K
theorem og_lstoreN (X : OSt Z EL a0 n0 h0 ws own bytes mx p l e R s m args below meth c sv T h k n) (pc' : Nat) (l' : Array Slot) {j : Fin 4} {x : Int64} (hd : decode bytes pc = .ok (.lstore_n j, 1)) (hl : storeLocals Ls j.val (.long x) = some l') (hq : pc' = pc + 1) (K : OGo p.tables e below P T (mkF m pc' l' st)) : OGo p.tables e below P T (mkF m pc Ls (.long x :: st)) := by
  subst hq
  exact og (fun _ q => XT.lstoreN X.here X.hx rfl (X.hd hd) rfl hl q) K
theorem og_astore (X : OSt Z EL a0 n0 h0 ws own bytes mx p l e R s m args below meth c sv T h k n) (pc' : Nat) (l' : Array Slot) {j : Nat} {x : Value} (hd : decode bytes pc = .ok (.astore j, 2)) (hv : x.isRef = true) (hl : storeLocals Ls j x = some l') (hq : pc' = pc + 2) (K : OGo p.tables e below P T (mkF m pc' l' st)) : OGo p.tables e below P T (mkF m pc Ls (x :: st)) := by
  subst hq
  exact og (fun _ q => XS.astore X.here X.hx rfl (X.hd hd) rfl hv hl q) K
theorem og_astoreN (X : OSt Z EL a0 n0 h0 ws own bytes mx p l e R s m args below meth c sv T h k n) (pc' : Nat) (l' : Array Slot) {j : Fin 4} {x : Value} (hd : decode bytes pc = .ok (.astore_n j, 1)) (hv : x.isRef = true) (hl : storeLocals Ls j.val x = some l') (hq : pc' = pc + 1) (K : OGo p.tables e below P T (mkF m pc' l' st)) : OGo p.tables e below P T (mkF m pc Ls (x :: st)) := by
  subst hq
  exact og (fun _ q => XS.astoreN X.here X.hx rfl (X.hd hd) rfl hv hl q) K
theorem og_iinc (X : OSt Z EL a0 n0 h0 ws own bytes mx p l e R s m args below meth c sv T h k n) (pc' : Nat) (l' : Array Slot) {j : Nat} {i : Int} {x : Int32} (hd : decode bytes pc = .ok (.iinc j i, 3)) (hl : Ls[j]? = some (.val (.int x))) (hl' : storeLocals Ls j (.int (x + Int32.ofInt i)) = some l') (hq : pc' = pc + 3) (K : OGo p.tables e below P T (mkF m pc' l' st)) : OGo p.tables e below P T (mkF m pc Ls st) := by
  subst hq
  exact og (fun _ q => XS.iinc X.here X.hx rfl (X.hd hd) hl hl' q) K
theorem og_goto (X : OSt Z EL a0 n0 h0 ws own bytes mx p l e R s m args below meth c sv T h k n) (pc' : Nat)  {o : Int} (hd : decode bytes pc = .ok (.goto o, 3))  (ho : 0 ≤ (pc : Int) + o) (hp : ((pc : Int) + o).toNat = pc') (K : OGo p.tables e below P T (mkF m pc' Ls st)) : OGo p.tables e below P T (mkF m pc Ls st) := og (fun _ q => XS.goto X.here X.hx rfl rfl (X.hd hd) ho hp q) K
theorem og_ifY (X : OSt Z EL a0 n0 h0 ws own bytes mx p l e R s m args below meth c sv T h k n) (pc' : Nat) {cd : ClassFile.Cond} {x : Int32} {o : Int} (hd : decode bytes pc = .ok (.ifCond cd o, 3)) (hc : ifCond.holds cd x = true) (ho : 0 ≤ (pc : Int) + o) (hp : ((pc : Int) + o).toNat = pc') (K : OGo p.tables e below P T (mkF m pc' Ls st)) : OGo p.tables e below P T (mkF m pc Ls (.int x :: st)) := og (fun _ q => XS.ifYes X.here X.hx rfl rfl (X.hd hd) rfl hc ho hp q) K
theorem og_icmpY (X : OSt Z EL a0 n0 h0 ws own bytes mx p l e R s m args below meth c sv T h k n) (pc' : Nat) {cd : ClassFile.Cond} {x y : Int32} {o : Int} (hd : decode bytes pc = .ok (.if_icmp cd o, 3)) (hc : if_icmp.holds cd x y = true) (ho : 0 ≤ (pc : Int) + o) (hp : ((pc : Int) + o).toNat = pc') (K : OGo p.tables e below P T (mkF m pc' Ls st)) : OGo p.tables e below P T (mkF m pc Ls (.int y :: .int x :: st)) := og (fun _ q => XS.icmpYes X.here X.hx rfl rfl (X.hd hd) rfl hc ho hp q) K
theorem og_nullY (X : OSt Z EL a0 n0 h0 ws own bytes mx p l e R s m args below meth c sv T h k n) (pc' : Nat)  {o : Int} (hd : decode bytes pc = .ok (.ifnull o, 3))  (ho : 0 ≤ (pc : Int) + o) (hp : ((pc : Int) + o).toNat = pc') (K : OGo p.tables e below P T (mkF m pc' Ls st)) : OGo p.tables e below P T (mkF m pc Ls (.null :: st)) := og (fun _ q => XS.ifnullYes X.here X.hx rfl rfl (X.hd hd) rfl ho hp q) K
theorem og_nonnullY (X : OSt Z EL a0 n0 h0 ws own bytes mx p l e R s m args below meth c sv T h k n) (pc' : Nat) {b : Addr} {o : Int} (hd : decode bytes pc = .ok (.ifnonnull o, 3))  (ho : 0 ≤ (pc : Int) + o) (hp : ((pc : Int) + o).toNat = pc') (K : OGo p.tables e below P T (mkF m pc' Ls st)) : OGo p.tables e below P T (mkF m pc Ls (.ref b :: st)) := og (fun _ q => XT.ifnonnullYes X.here X.hx rfl rfl (X.hd hd) rfl ho hp q) K
theorem og_acmpY (X : OSt Z EL a0 n0 h0 ws own bytes mx p l e R s m args below meth c sv T h k n) (pc' : Nat) {cd : ClassFile.ACond} {x y : Value} {o : Int} (hd : decode bytes pc = .ok (.if_acmp cd o, 3)) (hx' : x.isRef = true) (hy' : y.isRef = true) (hc : Jvm.Free.XT.acmp cd x y = true) (ho : 0 ≤ (pc : Int) + o) (hp : ((pc : Int) + o).toNat = pc') (K : OGo p.tables e below P T (mkF m pc' Ls st)) : OGo p.tables e below P T (mkF m pc Ls (y :: x :: st)) := og (fun _ q => XT.acmpYes X.here X.hx rfl rfl (X.hd hd) rfl hx' hy' hc ho hp q) K
theorem og_ifN (X : OSt Z EL a0 n0 h0 ws own bytes mx p l e R s m args below meth c sv T h k n) (pc' : Nat) {cd : ClassFile.Cond} {o : Int} {x : Int32} (hd : decode bytes pc = .ok (.ifCond cd o, 3)) (hc : ifCond.holds cd x = false) (hq : pc' = pc + 3) (K : OGo p.tables e below P T (mkF m pc' Ls st)) : OGo p.tables e below P T (mkF m pc Ls (.int x :: st)) := by
  subst hq
  exact og (fun _ q => XS.ifNo X.here X.hx rfl (X.hd hd) rfl hc q) K
theorem og_icmpN (X : OSt Z EL a0 n0 h0 ws own bytes mx p l e R s m args below meth c sv T h k n) (pc' : Nat) {cd : ClassFile.Cond} {o : Int} {x y : Int32} (hd : decode bytes pc = .ok (.if_icmp cd o, 3)) (hc : if_icmp.holds cd x y = false) (hq : pc' = pc + 3) (K : OGo p.tables e below P T (mkF m pc' Ls st)) : OGo p.tables e below P T (mkF m pc Ls (.int y :: .int x :: st)) := by
  subst hq
  exact og (fun _ q => XS.icmpNo X.here X.hx rfl (X.hd hd) rfl hc q) K
theorem og_nullN (X : OSt Z EL a0 n0 h0 ws own bytes mx p l e R s m args below meth c sv T h k n) (pc' : Nat) {o : Int} {b : Addr} (hd : decode bytes pc = .ok (.ifnull o, 3))  (hq : pc' = pc + 3) (K : OGo p.tables e below P T (mkF m pc' Ls st)) : OGo p.tables e below P T (mkF m pc Ls (.ref b :: st)) := by
  subst hq
  exact og (fun _ q => XS.ifnullNo X.here X.hx rfl (X.hd hd) rfl q) K
theorem og_nonnullN (X : OSt Z EL a0 n0 h0 ws own bytes mx p l e R s m args below meth c sv T h k n) (pc' : Nat) {o : Int} (hd : decode bytes pc = .ok (.ifnonnull o, 3))  (hq : pc' = pc + 3) (K : OGo p.tables e below P T (mkF m pc' Ls st)) : OGo p.tables e below P T (mkF m pc Ls (.null :: st)) := by
  subst hq
  exact og (fun _ q => XT.ifnonnullNo X.here X.hx rfl (X.hd hd) rfl q) K
theorem og_acmpN (X : OSt Z EL a0 n0 h0 ws own bytes mx p l e R s m args below meth c sv T h k n) (pc' : Nat) {cd : ClassFile.ACond} {o : Int} {x y : Value} (hd : decode bytes pc = .ok (.if_acmp cd o, 3)) (hx' : x.isRef = true) (hy' : y.isRef = true) (hc : Jvm.Free.XT.acmp cd x y = false) (hq : pc' = pc + 3) (K : OGo p.tables e below P T (mkF m pc' Ls st)) : OGo p.tables e below P T (mkF m pc Ls (y :: x :: st)) := by
  subst hq
  exact og (fun _ q => XT.acmpNo X.here X.hx rfl (X.hd hd) rfl hx' hy' hc q) K
theorem own_nc8 (y : Int32) : nar .char (y &&& 255) = y &&& 255 := i2c_mask y
theorem own_u16 (u : UInt16) : (u.toUInt32.toInt32).toInt = u.toNat := by
  have hu := u.toNat_lt
  show ((u.toUInt32).toBitVec).toInt = _
  have hm : (u.toUInt32).toBitVec.toNat = u.toNat := by
    show (u.toUInt32).toNat = _
    simp
  rw [BitVec.toInt_eq_toNat_cond, hm, if_pos (by omega)]
theorem own_ncc (y : Int32) : nar .char (y.toUInt32.toUInt16.toUInt32.toInt32) = y.toUInt32.toUInt16.toUInt32.toInt32 := by
  have e : (y.toUInt32.toUInt16.toUInt32.toInt32).toUInt32.toUInt16 = y.toUInt32.toUInt16 := UInt16.toUInt16_toUInt32 _
  show ((y.toUInt32.toUInt16.toUInt32.toInt32).toUInt32.toUInt16).toUInt32.toInt32 = _
  rw [e]
theorem own_lat16 (y : Int32) : ¬ y.toUInt32.toUInt16.toUInt32.toInt32 < 0 ∧ ¬ (65535 : Int32) < y.toUInt32.toUInt16.toUInt32.toInt32 := by
  have h2 := (y.toUInt32.toUInt16).toNat_lt
  have e1 : (0 : Int32).toInt = 0 := (by decide)
  have e2 : (65535 : Int32).toInt = 65535 := (by decide)
  rw [Int32.lt_iff_toInt_lt, Int32.lt_iff_toInt_lt, own_u16, e1, e2]
  omega
theorem own_lat8 (x : Int32) : ¬ (x &&& 255) < 0 ∧ ¬ (255 : Int32) < (x &&& 255) := by
  have t : ∀ k : Fin 256, ¬ (Int32.ofNat k.val) < 0 ∧ ¬ (255 : Int32) < (Int32.ofNat k.val) := by decide +kernel
  have h : (x &&& 255).toBitVec.toNat < 256 := by
    simp only [Int32.toBitVec_and, BitVec.toNat_and]
    exact Nat.lt_succ_of_le Nat.and_le_right
  have e : (x &&& 255) = Int32.ofNat (x &&& 255).toBitVec.toNat := by
    apply Int32.toBitVec_inj.mp
    show _ = BitVec.ofNat 32 _
    rw [BitVec.ofNat_toNat]; simp
  rw [e]
  exact t ⟨_, h⟩
theorem own_up8 {c : Int32} (h : ¬ (255 : Int32) < c) : ¬ (65535 : Int32) < c := fun q => h (by rw [Int32.lt_iff_toInt_lt] at q ⊢; have e1 : (65535 : Int32).toInt = 65535 := rfl; have e2 : (255 : Int32).toInt = 255 := rfl; omega)
def own_stv (Z : State) (C n d : String) : Value := ((Term.static C n d).eval #[] Z none [] Z).getD .null
def own_sti (Z : State) (C n d : String) : Int32 := match (Term.static C n d).eval #[] Z none [] Z with | some (.int z) => z | _ => 0
theorem own_stv_of {Z : State} {C n d : String} {v : Value} {a : Array Value} (h : (Term.static C n d).eval a Z none [] Z = some v) : own_stv Z C n d = v := by
  have q : (Term.static C n d).eval #[] Z none [] Z = some v := h
  simp [own_stv, q]
theorem own_sti_of {Z : State} {C n d : String} {v : Int32} {a : Array Value} (h : (Term.static C n d).eval a Z none [] Z = some (.int v)) : own_sti Z C n d = v := by
  have q : (Term.static C n d).eval #[] Z none [] Z = some (.int v) := h
  simp [own_sti, q]
theorem own_l0 {P : Int32 → Prop} : ∀ c ∈ ([] : List Int32), P c := fun _ q => nomatch q
theorem own_lS {P : Int32 → Prop} {y : Int32} {M : List Int32} (q : P y) (r : ∀ x ∈ M, P x) : ∀ x ∈ y :: M, P x := fun x z => (List.mem_cons.mp z).elim (fun u => u ▸ q) (r x)
def own_N (x : Int32) : Nat := x.toBitVec.toNat
theorem own_N_lt (x : Int32) : own_N x < 4294967296 := x.toBitVec.isLt
theorem own_N_inj {x y : Int32} : own_N x = own_N y ↔ x = y := ⟨fun h => Int32.toBitVec_inj.mp (BitVec.eq_of_toNat_eq h), fun h => by rw [h]⟩
theorem own_N_and {x m : Int32} (k : Nat) (hm : m.toBitVec.toNat = 2 ^ k - 1) : own_N (x &&& m) = own_N x % 2 ^ k := by
  unfold own_N; rw [Int32.toBitVec_and, BitVec.toNat_and, hm, Nat.and_two_pow_sub_one_eq_mod]
theorem own_N_ushr {x j : Int32} (k : Nat) (hj : (j &&& 31).toUInt32.toNat = k) (hk : k < 32) : own_N (XT.ushr x j) = own_N x / 2 ^ k := by
  show (x.toUInt32 >>> (j &&& 31).toUInt32).toNat = x.toUInt32.toNat / 2 ^ k
  rw [UInt32.toNat_shiftRight, hj, Nat.mod_eq_of_lt hk, Nat.shiftRight_eq_div_pow]
theorem own_N3 (x : Int32) : own_N (x &&& 3) = own_N x % 4 := own_N_and 2 rfl
theorem own_N255 (x : Int32) : own_N (x &&& 255) = own_N x % 256 := own_N_and 8 rfl
theorem own_nbb (y : Int32) : (y.toInt8.toInt32).toInt8.toInt32 = y.toInt8.toInt32 := by simp
theorem own_zb {z : Int32} (h : z = 0 ∨ z = 1) : narrow .boolean (.int z) = .int z ∧ fits .boolean (.int z) = true := by rcases h with rfl | rfl <;> exact ⟨rfl, rfl⟩
theorem own_xor0 {a b : Int32} : a ^^^ b = 0 ↔ a = b := by
  rw [← Int32.toBitVec_inj, ← Int32.toBitVec_inj, Int32.toBitVec_xor]
  exact BitVec.xor_eq_zero_iff
theorem own_xor_ushr_and (x y j k : Int32) : XT.ushr (x ^^^ y) j &&& k = (XT.ushr x j &&& k) ^^^ (XT.ushr y j &&& k) := by
  apply Int32.toBitVec_inj.mp
  show ((x ^^^ y).toUInt32 >>> (j &&& 31).toUInt32).toBitVec &&& k.toBitVec = ((x.toUInt32 >>> (j &&& 31).toUInt32).toBitVec &&& k.toBitVec) ^^^ ((y.toUInt32 >>> (j &&& 31).toUInt32).toBitVec &&& k.toBitVec)
  have e : (x ^^^ y).toUInt32 = x.toUInt32 ^^^ y.toUInt32 := rfl
  rw [e, UInt32.toBitVec_shiftRight, UInt32.toBitVec_shiftRight, UInt32.toBitVec_shiftRight, UInt32.toBitVec_xor]
  ext i hi
  simp [Bool.and_xor_distrib_right]
theorem own_nch {c : Int32} (h0 : ¬ c < 0) (h1 : ¬ (65535 : Int32) < c) : nar .char c = c := by
  rw [Int32.lt_iff_toInt_lt] at h0 h1
  have e0 : (0 : Int32).toInt = 0 := rfl
  have e1 : (65535 : Int32).toInt = 65535 := rfl
  rw [e0] at h0; rw [e1] at h1
  have hn : c.toUInt32.toNat = c.toInt.toNat := by
    have : c.toInt = (c.toBitVec).toInt := rfl
    have h2 : (c.toBitVec).toInt = if 2 * c.toBitVec.toNat < 2 ^ 32 then (c.toBitVec.toNat : Int) else (c.toBitVec.toNat : Int) - 2 ^ 32 := BitVec.toInt_eq_toNat_cond _
    have h3 : c.toUInt32.toNat = c.toBitVec.toNat := rfl
    have := c.toBitVec.isLt
    split at h2 <;> omega
  apply Int32.toInt_inj.mp
  show (c.toUInt32.toUInt16.toUInt32.toInt32).toInt = _
  rw [own_u16]
  show ((c.toUInt32.toUInt16.toNat : Nat) : Int) = _
  have h4 : c.toUInt32.toUInt16.toNat = c.toUInt32.toNat % 65536 := by simp
  rw [h4, hn]; omega
theorem own_fitC {c : Int32} (h0 : ¬ c < 0) (h1 : ¬ (65535 : Int32) < c) : narrow .char (.int c) = .int c := by
  show Value.int (nar .char c) = _
  rw [own_nch h0 h1]
theorem own_lc {x : Int64} (h1 : ¬ x < -128) (h2 : ¬ 127 < x) : ¬ (x.toInt32 + 128) < 0 ∧ (x.toInt32 + 128) < 256 ∧ ((x.toInt32 + 128) - 128).toInt64 = x := by
  rw [Int64.lt_iff_toInt_lt] at h1 h2
  have e1 : (-128 : Int64).toInt = -128 := rfl
  have e2 : (127 : Int64).toInt = 127 := rfl
  rw [e1] at h1; rw [e2] at h2
  have hx : x.toInt32.toInt = x.toInt := by rw [Int64.toInt_toInt32]; exact Int.bmod_eq_of_le (by omega) (by omega)
  have hs : (x.toInt32 + 128).toInt = x.toInt + 128 := by
    rw [Int32.toInt_add, hx]; show (x.toInt + 128).bmod _ = _; exact Int.bmod_eq_of_le (by omega) (by omega)
  refine ⟨?_, ?_, ?_⟩
  · rw [Int32.lt_iff_toInt_lt, hs]; show ¬ _ < (0 : Int); omega
  · rw [Int32.lt_iff_toInt_lt, hs]; show _ < (256 : Int); omega
  · apply Int64.toInt_inj.mp
    rw [Int32.toInt_toInt64, Int32.toInt_sub, hs]
    show (x.toInt + 128 - 128).bmod _ = _
    rw [show x.toInt + 128 - 128 = x.toInt by omega]
    exact Int.bmod_eq_of_le (by omega) (by omega)
theorem own_and3 (y : Int32) : y &&& 3 = 0 ∨ y &&& 3 = 1 ∨ y &&& 3 = 2 ∨ y &&& 3 = 3 := by
  have c0 : own_N 0 = 0 := rfl
  have c1 : own_N 1 = 1 := rfl
  have c2 : own_N 2 = 2 := rfl
  have c3 : own_N 3 = 3 := rfl
  simp only [← own_N_inj, own_N3, c0, c1, c2, c3]
  omega
def own_sta (Z : State) (C n d : String) : Addr := match own_stv Z C n d with | .ref a => a | _ => 0
theorem own_sta_of {Z : State} {C n d : String} {v : Addr} {a : Array Value} (h : (Term.static C n d).eval a Z none [] Z = some (.ref v)) : own_sta Z C n d = v := by
  unfold own_sta; rw [own_stv_of h]
theorem own_new (X : OSt Z EL a0 n0 h0 ws own bytes mx p l e R s m args below meth c sv T h k n) (pc' : Nat) {C : String} {index z : Nat} (hd : decode bytes pc = .ok (.new index, 3)) (w : (Cond.classLink own index C).before a0 Z = true) (wi : (Cond.instantiable C z).before a0 Z = true) (wz : (Cond.initialized C).before a0 Z = true) (hc : k + 1 ≤ R.cells) (hl : n + z ≤ R.slots) (hq : pc' = pc + 3)
    (K : ∀ (T' : State) (h' : Heap) (b : Addr), OSt Z EL a0 n0 h0 ws own bytes mx p l e R s m args below meth c (b :: sv) T' h' (k + 1) (n + z) → Keep h h' [] → h.size ≤ b → b < h'.size → Exa Z h' b C → (∀ {O nm d : String} {ty : FieldType}, Laid Z a0 C O nm d → parseFieldDescriptor d = some ty → Fld Z h' b O nm d (defaultValue ty)) → OGo p.tables e below P T' (mkF m pc' Ls (.ref b :: st))) : OGo p.tables e below P T (mkF m pc Ls st) := by
  subst hq
  obtain ⟨hx, hby, hml, eT, hlk, vm0, locs, Y, I⟩ := X
  obtain ⟨T', h', Y', e', E, A, D, -, stp⟩ := newO Y hx (show Z.Warmed39 (s.setVm vm0).vm from I.2.2.2.2.1) (show (s.setVm vm0).vm.findClass own = _ from I.2.2.2.2.2.1) w wi wz eT (g := mkF m pc Ls st) rfl (hb hby hd) hc hl
  exact og stp (K T' h' h.size ⟨hx, hby, hml, e', hlk, vm0, locs, Y', I.new E (Nat.le_refl _) A.lt⟩ ((Keep.refl _ _).ext E) (Nat.le_refl _) A.lt A D)
theorem own_arr (X : OSt Z EL a0 n0 h0 ws own bytes mx p l e R s m args below meth c sv T h k n) (pc' : Nat) {aty : ArrayType} {z : Int32} (hd : decode bytes pc = .ok (.newarray aty, 2)) (w : (Cond.arrayClass (newarray.typeOf aty)).before a0 Z = true) (hz : ¬ z < 0) {cap : Nat} (hcap : z.toNatClampNeg = cap) (hbig : cap * 8 ≤ 536870912) (hc : k + 1 ≤ R.cells) (hl : n + cap ≤ R.slots) (hq : pc' = pc + 2)
    (K : ∀ (T' : State) (h' : Heap) (b : Addr) (kb : ClassId), OSt Z EL a0 n0 h0 ws own bytes mx p l e R s m args below meth c (b :: sv) T' h' (k + 1) (n + cap) → Keep h h' [] → h.size ≤ b → b < h'.size → Arv Z h' b kb (newarray.typeOf aty) z (List.replicate cap (defaultValue (newarray.typeOf aty))) (defaultValue (newarray.typeOf aty)) → OGo p.tables e below P T' (mkF m pc' Ls (.ref b :: st))) : OGo p.tables e below P T (mkF m pc Ls (.int z :: st)) := by
  subst hq
  obtain ⟨hx, hby, hml, eT, hlk, vm0, locs, Y, I⟩ := X
  obtain ⟨T', h', kb, Y', e', E, A, stp⟩ := newP Y hx (show Z.Warmed39 (s.setVm vm0).vm from I.2.2.2.2.1) w eT (g := mkF m pc Ls (.int z :: st)) rfl (hb hby hd) rfl hz (cap := cap) (Nat.le_of_eq hcap) hbig hc hl
  have V := (Arv.new A hz).pad (pad_rep [] (defaultValue (newarray.typeOf aty)) cap)
  rw [List.nil_append] at V
  exact og stp (K T' h' h.size kb ⟨hx, hby, hml, e', hlk, vm0, locs, Y', I.new E (Nat.le_refl _) A.lt⟩ ((Keep.refl _ _).ext E) (Nat.le_refl _) A.lt V)
theorem own_anew (X : OSt Z EL a0 n0 h0 ws own bytes mx p l e R s m args below meth c sv T h k n) (pc' : Nat) {C : String} {index : Nat} {z : Int32} (hd : decode bytes pc = .ok (.anewarray index, 3)) (w : (Cond.classLink own index C).before a0 Z = true) (w2 : (Cond.arrayOver (.object C)).before a0 Z = true) (hz : ¬ z < 0) {cap : Nat} (hcap : z.toNatClampNeg = cap) (hbig : cap * 8 ≤ 536870912) (hc : k + 1 ≤ R.cells) (hl : n + cap ≤ R.slots) (hq : pc' = pc + 3)
    (K : ∀ (T' : State) (h' : Heap) (b : Addr) (kb : ClassId), OSt Z EL a0 n0 h0 ws own bytes mx p l e R s m args below meth c (b :: sv) T' h' (k + 1) (n + cap) → Keep h h' [] → h.size ≤ b → b < h'.size → Arv Z h' b kb (.object C) z (List.replicate cap .null) .null → Ovr Z kb C → OGo p.tables e below P T' (mkF m pc' Ls (.ref b :: st))) : OGo p.tables e below P T (mkF m pc Ls (.int z :: st)) := by
  subst hq
  obtain ⟨hx, hby, hml, eT, hlk, vm0, locs, Y, I⟩ := X
  obtain ⟨T', h', kb, Y', e', E, A, O, stp⟩ := newR Y hx (show Z.Warmed39 (s.setVm vm0).vm from I.2.2.2.2.1) (show (s.setVm vm0).vm.findClass own = _ from I.2.2.2.2.2.1) w w2 eT (g := mkF m pc Ls (.int z :: st)) rfl (hb hby hd) rfl hz (cap := cap) (Nat.le_of_eq hcap) hbig hc hl
  have V := (Arv.new A hz).pad (pad_rep [] (defaultValue (.object C)) cap)
  rw [List.nil_append] at V
  exact og stp (K T' h' h.size kb ⟨hx, hby, hml, e', hlk, vm0, locs, Y', I.new E (Nat.le_refl _) A.lt⟩ ((Keep.refl _ _).ext E) (Nat.le_refl _) A.lt V O)
theorem own_put (X : OSt Z EL a0 n0 h0 ws own bytes mx p l e R s m args below meth c sv T h k n) (pc' : Nat) {R0 O nm d host C : String} {index kk : Nat} {ty : FieldType} {a : Addr} {v old : Value} (hd : decode bytes pc = .ok (.putfield index, 3)) (w : (Cond.fieldLink own index R0 nm d).before a0 Z = true ∨ (Cond.fieldLinkNest own index R0 nm d host).before a0 Z = true) (via : Via Z R0 O nm d)
    (F : Fld Z h a O nm d old) (E : Exa Z h a C) (L : (Cond.lays C O nm d).before a0 Z = true ∨ ((Cond.laysFinal C O nm d).before a0 Z = true ∧ own = O ∧ meth.name = "<init>")) (wi : (Cond.instantiable C kk).before a0 Z = true) (hty : parseFieldDescriptor d = some ty) (hn : narrow ty v = v) (hf : fits ty v = true) (ha : a ∈ sv) (hq : pc' = pc + 3)
    (K : ∀ (T' : State) (h' : Heap), OSt Z EL a0 n0 h0 ws own bytes mx p l e R s m args below meth c sv T' h' k n → Wr h h' a (RoadKit.slotOf Z O nm d) v → Keep h h' [a] → Fld Z h' a O nm d v → OGo p.tables e below P T' (mkF m pc' Ls st)) : OGo p.tables e below P T (mkF m pc Ls (v :: .ref a :: st)) := by
  subst hq
  obtain ⟨hx, hby, hml, eT, hlk, vm0, locs, Y, I⟩ := X
  obtain ⟨T', h', Y', e', W, stp⟩ := putF Y hx (show Z.Warmed39 (s.setVm vm0).vm from I.2.2.2.2.1) (show (s.setVm vm0).vm.findClass own = _ from I.2.2.2.2.2.1) w via eT F E L wi hty hn hf (g := mkF m pc Ls (v :: .ref a :: st)) rfl rfl (hb hby hd)
  exact og stp (K T' h' ⟨hx, hby, hml, e', hlk, vm0, _, Y', I.wr ha W⟩ W (Keep.of_wr W) (F.same W))
theorem own_get (X : OSt Z EL a0 n0 h0 ws own bytes mx p l e R s m args below meth c sv T h k n) (pc' : Nat) {R0 O nm d host : String} {index : Nat} {a : Addr} {v : Value} (hd : decode bytes pc = .ok (.getfield index, 3)) (w : (Cond.fieldLink own index R0 nm d).before a0 Z = true ∨ (Cond.fieldLinkNest own index R0 nm d host).before a0 Z = true) (via : Via Z R0 O nm d) (F : Fld Z h a O nm d v) (hq : pc' = pc + 3)
    (K : ∀ (T' : State), OSt Z EL a0 n0 h0 ws own bytes mx p l e R s m args below meth c sv T' h k n → OGo p.tables e below P T' (mkF m pc' Ls (v :: st))) : OGo p.tables e below P T (mkF m pc Ls (.ref a :: st)) := by
  subst hq
  obtain ⟨hx, hby, hml, eT, hlk, vm0, locs, Y, I⟩ := X
  obtain ⟨T', Y', e', stp⟩ := getF Y hx (show Z.Warmed39 (s.setVm vm0).vm from I.2.2.2.2.1) (show (s.setVm vm0).vm.findClass own = _ from I.2.2.2.2.2.1) w via eT F (g := mkF m pc Ls (.ref a :: st)) rfl rfl (hb hby hd)
  exact og stp (K T' ⟨hx, hby, hml, e', hlk, vm0, _, Y', I⟩)
theorem own_getS (X : OSt Z EL a0 n0 h0 ws own bytes mx p l e R s m args below meth c sv T h k n) (pc' : Nat) {R0 O nm d host : String} {index : Nat} {v : Value} (hd : decode bytes pc = .ok (.getstatic index, 3)) (w : (Cond.fieldLink own index R0 nm d).before a0 Z = true ∨ (Cond.fieldLinkNest own index R0 nm d host).before a0 Z = true) (via : Via Z R0 O nm d) (F : Sta Z Z.heap O nm d v) (hq : pc' = pc + 3)
    (K : ∀ (T' : State), OSt Z EL a0 n0 h0 ws own bytes mx p l e R s m args below meth c sv T' h k n → OGo p.tables e below P T' (mkF m pc' Ls (v :: st))) : OGo p.tables e below P T (mkF m pc Ls st) := by
  subst hq
  have O1 := X.old
  obtain ⟨hx, hby, hml, eT, hlk, vm0, locs, Y, I⟩ := X
  obtain ⟨T', Y', e', stp⟩ := getS2 Y hx (show Z.Warmed39 (s.setVm vm0).vm from I.2.2.2.2.1) (show (s.setVm vm0).vm.findClass own = _ from I.2.2.2.2.2.1) w via eT (F.ext O1.2) (g := mkF m pc Ls st) rfl (hb hby hd)
  exact og stp (K T' ⟨hx, hby, hml, e', hlk, vm0, _, Y', I⟩)
theorem own_cast (X : OSt Z EL a0 n0 h0 ws own bytes mx p l e R s m args below meth c sv T h k n) (pc' : Nat) {C : String} {index : Nat} {a : Addr} (hd : decode bytes pc = .ok (.checkcast index, 3)) (w : (Cond.classLink own index C).before a0 Z = true) (F : Ins Z h a C true) (hq : pc' = pc + 3)
    (K : ∀ (T' : State), OSt Z EL a0 n0 h0 ws own bytes mx p l e R s m args below meth c sv T' h k n → OGo p.tables e below P T' (mkF m pc' Ls (.ref a :: st))) : OGo p.tables e below P T (mkF m pc Ls (.ref a :: st)) := by
  subst hq
  obtain ⟨hx, hby, hml, eT, hlk, vm0, locs, Y, I⟩ := X
  obtain ⟨T', Y', e', stp⟩ := castY Y hx (show Z.Warmed39 (s.setVm vm0).vm from I.2.2.2.2.1) (show (s.setVm vm0).vm.findClass own = _ from I.2.2.2.2.2.1) w eT F (g := mkF m pc Ls (.ref a :: st)) rfl rfl (hb hby hd)
  exact og stp (K T' ⟨hx, hby, hml, e', hlk, vm0, _, Y', I⟩)
theorem own_instY (X : OSt Z EL a0 n0 h0 ws own bytes mx p l e R s m args below meth c sv T h k n) (pc' : Nat) {C : String} {index : Nat} {a : Addr} (hd : decode bytes pc = .ok (.instanceof index, 3)) (w : (Cond.classLink own index C).before a0 Z = true) (F : Ins Z h a C true) (hq : pc' = pc + 3)
    (K : ∀ (T' : State), OSt Z EL a0 n0 h0 ws own bytes mx p l e R s m args below meth c sv T' h k n → OGo p.tables e below P T' (mkF m pc' Ls (.int 1 :: st))) : OGo p.tables e below P T (mkF m pc Ls (.ref a :: st)) := by
  subst hq
  obtain ⟨hx, hby, hml, eT, hlk, vm0, locs, Y, I⟩ := X
  obtain ⟨T', Y', e', stp⟩ := instY Y hx (show Z.Warmed39 (s.setVm vm0).vm from I.2.2.2.2.1) (show (s.setVm vm0).vm.findClass own = _ from I.2.2.2.2.2.1) w eT F (g := mkF m pc Ls (.ref a :: st)) rfl rfl (hb hby hd)
  exact og stp (K T' ⟨hx, hby, hml, e', hlk, vm0, _, Y', I⟩)
theorem own_instN (X : OSt Z EL a0 n0 h0 ws own bytes mx p l e R s m args below meth c sv T h k n) (pc' : Nat) {C C' : String} {index : Nat} {a : Addr} (hd : decode bytes pc = .ok (.instanceof index, 3)) (w : (Cond.classLink own index C).before a0 Z = true) (F : Ins Z h0 a C false) (E : Exa Z h0 a C') (hq : pc' = pc + 3)
    (K : ∀ (T' : State), OSt Z EL a0 n0 h0 ws own bytes mx p l e R s m args below meth c sv T' h k n → OGo p.tables e below P T' (mkF m pc' Ls (.int 0 :: st))) : OGo p.tables e below P T (mkF m pc Ls (.ref a :: st)) := by
  subst hq
  obtain ⟨hx, hby, hml, eT, hlk, vm0, locs, Y, I⟩ := X
  have e0 : (s.setVm vm0).heap = h0 := I.1
  obtain ⟨T', Y', e', stp⟩ := instN Y hx (show Z.Warmed39 (s.setVm vm0).vm from I.2.2.2.2.1) (show (s.setVm vm0).vm.findClass own = _ from I.2.2.2.2.2.1) w eT (by rw [e0]; exact F) (by rw [e0]; exact E) (g := mkF m pc Ls (.ref a :: st)) rfl rfl (hb hby hd)
  exact og stp (K T' ⟨hx, hby, hml, e', hlk, vm0, _, Y', I⟩)
theorem own_obj0 (X : OSt Z EL a0 n0 h0 ws own bytes mx p l e R s m args below meth c sv T h k n) (pc' : Nat) {index : Nat} {a : Addr} (hd : decode bytes pc = .ok (.invokespecial index, 3)) (w1 : (Cond.methodLink own index Lib.objectInit).before a0 Z = true) (w2 : (Cond.instanceMethod Lib.objectInit).before a0 Z = true) (w3 : (Cond.code Lib.objectInit ⟨#[0xb1]⟩ 1 none).before a0 Z = true) (hsz : Ls.size = mx) {W : Nat} (hW : (st.map fun v => v.category).sum = W) (hf : 1 ≤ R.frames) (hl : W + 12 ≤ R.locals) (hq : pc' = pc + 3)
    (K : ∀ (T' : State), OSt Z EL a0 n0 h0 ws own bytes mx p l e R s m args below meth c sv T' h k n → OGo p.tables e below P T' (mkF m pc' Ls st)) : OGo p.tables e below P T (mkF m pc Ls (.ref a :: st)) := by
  subst hq
  obtain ⟨hx, hby, hml, eT, hlk, vm0, locs, Y, I⟩ := X
  obtain ⟨T', Y', e', stp⟩ := initO Y hx (show Z.Warmed39 (s.setVm vm0).vm from I.2.2.2.2.1) (show (s.setVm vm0).vm.findClass own = _ from I.2.2.2.2.2.1) w1 w2 w3 eT (g := mkF m pc Ls (.ref a :: st)) rfl (by rw [hml]; exact hsz) rfl (hb hby hd) hf (W := W) (by show 2 * 0 + _ ≤ _; rw [hW]; omega) hl
  exact og stp (K T' ⟨hx, hby, hml, e', hlk, vm0, _, Y', I⟩)
theorem own_inb {cl : Cell} {z j : Int32} (S : cl.slots.size = z.toNatClampNeg) (h1 : ¬ j < 0) (h2 : j < z) : ¬ (j < 0 ∨ cl.slots.size ≤ j.toNatClampNeg) := inb_of S ⟨h1, h2⟩
theorem own_stC (X : OSt Z EL a0 n0 h0 ws own bytes mx p l e R s m args below meth c sv T h k n) (pc' : Nat) {a : Addr} {kb : ClassId} {z j x x' : Int32} {vs : List Value} {dv : Value} (hd : decode bytes pc = .ok (.castore, 1)) (A : Arv Z h a kb .char z vs dv) (hx' : nar .char x = x') (h1 : ¬ j < 0) (h2 : j < z) {i : Nat} (hi : j.toNatClampNeg = i) (hl : i < vs.length) (ha : a ∈ sv) (hq : pc' = pc + 1)
    (K : ∀ (T' : State) (h' : Heap), OSt Z EL a0 n0 h0 ws own bytes mx p l e R s m args below meth c sv T' h' k n → Wr h h' a j.toNatClampNeg (.int x') → Keep h h' [a] → Arv Z h' a kb .char z (vs.set i (.int x')) dv → OGo p.tables e below P T' (mkF m pc' Ls st)) : OGo p.tables e below P T (mkF m pc Ls (.int x :: .int j :: .ref a :: st)) := by
  subst hq hx'
  obtain ⟨hx, hby, hml, eT, hlk, vm0, locs, Y, I⟩ := X
  obtain ⟨cl, Ar, q, S, N, Hs, G⟩ := A
  obtain ⟨T', h', Y', e', W, stp⟩ := stC Y hx (show Z.Warmed39 (s.setVm vm0).vm from I.2.2.2.2.1) eT Ar (j := j) (x := x) (own_inb S h1 h2) (g := mkF m pc Ls (.int x :: .int j :: .ref a :: st)) rfl rfl (hb hby hd)
  exact og stp (K T' h' ⟨hx, hby, hml, e', hlk, vm0, _, Y', I.wr ha W⟩ W (Keep.of_wr W) (Arv.set Ar q S N Hs G (fits_nar_char _) W i hi hl))
theorem own_stB (X : OSt Z EL a0 n0 h0 ws own bytes mx p l e R s m args below meth c sv T h k n) (pc' : Nat) {a : Addr} {kb : ClassId} {z j x x' : Int32} {vs : List Value} {dv : Value} (hd : decode bytes pc = .ok (.bastore, 1)) (A : Arv Z h a kb .byte z vs dv) (hx' : x.toInt8.toInt32 = x') (h1 : ¬ j < 0) (h2 : j < z) {i : Nat} (hi : j.toNatClampNeg = i) (hl : i < vs.length) (ha : a ∈ sv) (hq : pc' = pc + 1)
    (K : ∀ (T' : State) (h' : Heap), OSt Z EL a0 n0 h0 ws own bytes mx p l e R s m args below meth c sv T' h' k n → Wr h h' a j.toNatClampNeg (.int x') → Keep h h' [a] → Arv Z h' a kb .byte z (vs.set i (.int x')) dv → OGo p.tables e below P T' (mkF m pc' Ls st)) : OGo p.tables e below P T (mkF m pc Ls (.int x :: .int j :: .ref a :: st)) := by
  subst hq hx'
  obtain ⟨hx, hby, hml, eT, hlk, vm0, locs, Y, I⟩ := X
  obtain ⟨cl, Ar, q, S, N, Hs, G⟩ := A
  obtain ⟨T', h', Y', e', W, stp⟩ := stB Y hx (show Z.Warmed39 (s.setVm vm0).vm from I.2.2.2.2.1) eT Ar (j := j) (x := x) (own_inb S h1 h2) (g := mkF m pc Ls (.int x :: .int j :: .ref a :: st)) rfl rfl (hb hby hd)
  exact og stp (K T' h' ⟨hx, hby, hml, e', hlk, vm0, _, Y', I.wr ha W⟩ W (Keep.of_wr W) (Arv.set Ar q S N Hs G (fits_nar_byte _) W i hi hl))
theorem own_stR (X : OSt Z EL a0 n0 h0 ws own bytes mx p l e R s m args below meth c sv T h k n) (pc' : Nat) {a : Addr} {kb : ClassId} {ty : FieldType} {z j : Int32} {v : Value} {vs : List Value} {dv : Value} (hd : decode bytes pc = .ok (.aastore, 1)) (A : Arv Z h a kb ty z vs dv) (hty : ty.isReference = true) (hf : fits ty v = true) (F : Sto Z h a v) (h1 : ¬ j < 0) (h2 : j < z) {i : Nat} (hi : j.toNatClampNeg = i) (hl : i < vs.length) (ha : a ∈ sv) (hq : pc' = pc + 1)
    (K : ∀ (T' : State) (h' : Heap), OSt Z EL a0 n0 h0 ws own bytes mx p l e R s m args below meth c sv T' h' k n → Wr h h' a j.toNatClampNeg v → Keep h h' [a] → Arv Z h' a kb ty z (vs.set i v) dv → OGo p.tables e below P T' (mkF m pc' Ls st)) : OGo p.tables e below P T (mkF m pc Ls (v :: .int j :: .ref a :: st)) := by
  subst hq
  obtain ⟨hx, hby, hml, eT, hlk, vm0, locs, Y, I⟩ := X
  obtain ⟨cl, Ar, q, S, N, Hs, G⟩ := A
  obtain ⟨T', h', Y', e', W, stp⟩ := stR Y hx (show Z.Warmed39 (s.setVm vm0).vm from I.2.2.2.2.1) eT Ar (j := j) (v := v) (own_inb S h1 h2) hty F (g := mkF m pc Ls (v :: .int j :: .ref a :: st)) rfl rfl (hb hby hd)
  exact og stp (K T' h' ⟨hx, hby, hml, e', hlk, vm0, _, Y', I.wr ha W⟩ W (Keep.of_wr W) (Arv.set Ar q S N Hs G hf W i hi hl))
theorem own_len (X : OSt Z EL a0 n0 h0 ws own bytes mx p l e R s m args below meth c sv T h k n) (pc' : Nat) {a : Addr} {kb : ClassId} {ty : FieldType} {z : Int32} {vs : List Value} {dv : Value} (hd : decode bytes pc = .ok (.arraylength, 1)) (A : Arv Z h a kb ty z vs dv) (hq : pc' = pc + 1) (K : OGo p.tables e below P T (mkF m pc' Ls (.int z :: st))) : OGo p.tables e below P T (mkF m pc Ls (.ref a :: st)) := by
  subst hq
  obtain ⟨hx, hby, hml, eT, hlk, vm0, locs, Y, I⟩ := X
  obtain ⟨cl, Ar, q, S, N, Hs, G⟩ := A
  refine og (fun _ r => Y.arraylength hx (by rw [eT]; exact Ar.1) (State.isArrayOf_alike (show Z.Warmed39 (s.setVm vm0).vm from I.2.2.2.2.1).alike Ar.2.1) (g := mkF m pc Ls (.ref a :: st)) rfl rfl (hb hby hd) _ r) ?_
  rw [len_of S N]; exact K
theorem own_ldC (X : OSt Z EL a0 n0 h0 ws own bytes mx p l e R s m args below meth c sv T h k n) (pc' : Nat) {a : Addr} {kb : ClassId} {z j : Int32} {v : Value} {vs : List Value} {dv : Value} (hd : decode bytes pc = .ok (.caload, 1)) (A : Arv Z h a kb .char z vs dv) (h1 : ¬ j < 0) (h2 : j < z) (hv : vs.getD j.toNatClampNeg dv = v) (hq : pc' = pc + 1) (K : OGo p.tables e below P T (mkF m pc' Ls (v :: st))) : OGo p.tables e below P T (mkF m pc Ls (.int j :: .ref a :: st)) := by
  subst hq
  obtain ⟨hx, hby, hml, eT, hlk, vm0, locs, Y, I⟩ := X
  obtain ⟨cl, Ar, q, S, N, Hs, G⟩ := A
  exact og (fun _ r => Y.caload hx (j := j) (v := v) (by rw [eT]; exact Ar.1) (State.isArrayOf_alike (show Z.Warmed39 (s.setVm vm0).vm from I.2.2.2.2.1).alike Ar.2.1) Ar.2.2 (own_inb S h1 h2) (Hs.at (own_inb S h1 h2) hv) (g := mkF m pc Ls (.int j :: .ref a :: st)) rfl rfl (hb hby hd) _ r) K
theorem own_ldB (X : OSt Z EL a0 n0 h0 ws own bytes mx p l e R s m args below meth c sv T h k n) (pc' : Nat) {a : Addr} {kb : ClassId} {z j : Int32} {v : Value} {vs : List Value} {dv : Value} (hd : decode bytes pc = .ok (.baload, 1)) (A : Arv Z h a kb .byte z vs dv) (h1 : ¬ j < 0) (h2 : j < z) (hv : vs.getD j.toNatClampNeg dv = v) (hq : pc' = pc + 1) (K : OGo p.tables e below P T (mkF m pc' Ls (v :: st))) : OGo p.tables e below P T (mkF m pc Ls (.int j :: .ref a :: st)) := by
  subst hq
  obtain ⟨hx, hby, hml, eT, hlk, vm0, locs, Y, I⟩ := X
  obtain ⟨cl, Ar, q, S, N, Hs, G⟩ := A
  exact og (fun _ r => Y.baloadBytes hx (j := j) (v := v) (by rw [eT]; exact Ar.1) (State.isArrayOf_alike (show Z.Warmed39 (s.setVm vm0).vm from I.2.2.2.2.1).alike Ar.2.1) Ar.2.2 (own_inb S h1 h2) (Hs.at (own_inb S h1 h2) hv) (g := mkF m pc Ls (.int j :: .ref a :: st)) rfl rfl (hb hby hd) _ r) K
theorem own_ldR (X : OSt Z EL a0 n0 h0 ws own bytes mx p l e R s m args below meth c sv T h k n) (pc' : Nat) {a : Addr} {kb : ClassId} {ty : FieldType} {z j : Int32} {v : Value} {vs : List Value} {dv : Value} (hd : decode bytes pc = .ok (.aaload, 1)) (A : Arv Z h a kb ty z vs dv) (hty : ty.isReference = true) (h1 : ¬ j < 0) (h2 : j < z) (hv : vs.getD j.toNatClampNeg dv = v) (hq : pc' = pc + 1) (K : OGo p.tables e below P T (mkF m pc' Ls (v :: st))) : OGo p.tables e below P T (mkF m pc Ls (.int j :: .ref a :: st)) := by
  subst hq
  obtain ⟨hx, hby, hml, eT, hlk, vm0, locs, Y, I⟩ := X
  obtain ⟨cl, Ar, q, S, N, Hs, G⟩ := A
  exact og (fun _ r => Y.aaload hx (j := j) (v := v) (by rw [eT]; exact Ar.1) (State.isArrayOf_alike (show Z.Warmed39 (s.setVm vm0).vm from I.2.2.2.2.1).alike Ar.2.1) hty Ar.2.2 (own_inb S h1 h2) (Hs.at (own_inb S h1 h2) hv) (g := mkF m pc Ls (.int j :: .ref a :: st)) rfl rfl (hb hby hd) _ r) K
theorem own_ldcI (X : OSt Z EL a0 n0 h0 ws own bytes mx p l e R s m args below meth c sv T h k n) (pc' : Nat) {index : Nat} {v : Int32} (hd : decode bytes pc = .ok (.ldc index, 2)) (w : (Cond.constant own index v).before a0 Z = true) (hq : pc' = pc + 2) (K : OGo p.tables e below P T (mkF m pc' Ls (.int v :: st))) : OGo p.tables e below P T (mkF m pc Ls st) := by
  subst hq
  obtain ⟨hx, hby, hml, eT, hlk, vm0, locs, Y, I⟩ := X
  exact og (fun _ r => Y.ldcInt hx (show (s.setVm vm0).vm.findClass own = _ from I.2.2.2.2.2.1) (mvT (show Z.Warmed39 (s.setVm vm0).vm from I.2.2.2.2.1) w) (g := mkF m pc Ls st) rfl (hb hby hd) _ r) K
theorem own_instNull (X : OSt Z EL a0 n0 h0 ws own bytes mx p l e R s m args below meth c sv T h k n) (pc' : Nat) {index : Nat} (hd : decode bytes pc = .ok (.instanceof index, 3)) (hq : pc' = pc + 3) (K : OGo p.tables e below P T (mkF m pc' Ls (.int 0 :: st))) : OGo p.tables e below P T (mkF m pc Ls (.null :: st)) := by
  subst hq
  obtain ⟨hx, hby, hml, eT, hlk, vm0, locs, Y, I⟩ := X
  exact og (fun _ r => Y.instanceofNull hx (g := mkF m pc Ls (.null :: st)) rfl rfl (hb hby hd) _ r) K
theorem own_castNull (X : OSt Z EL a0 n0 h0 ws own bytes mx p l e R s m args below meth c sv T h k n) (pc' : Nat) {index : Nat} (hd : decode bytes pc = .ok (.checkcast index, 3)) (hq : pc' = pc + 3) (K : OGo p.tables e below P T (mkF m pc' Ls (.null :: st))) : OGo p.tables e below P T (mkF m pc Ls (.null :: st)) := by
  subst hq
  obtain ⟨hx, hby, hml, eT, hlk, vm0, locs, Y, I⟩ := X
  exact og (fun _ r => Y.checkcastNull hx (g := mkF m pc Ls (.null :: st)) rfl rfl (hb hby hd) _ r) K
theorem own_instNo (X : OSt Z EL a0 n0 h0 ws own bytes mx p l e R s m args below meth c sv T h k n) (pc' : Nat) {C C' : String} {index : Nat} {a : Addr} (hd : decode bytes pc = .ok (.instanceof index, 3)) (w : (Cond.classLink own index C).before a0 Z = true) (E : Exa Z h a C') (F : ∃ c t, Z.vm.findClass C' = some c ∧ Z.vm.findClass C = some t ∧ Z.vm.assignable c t = false) (hq : pc' = pc + 3)
    (K : ∀ (T' : State), OSt Z EL a0 n0 h0 ws own bytes mx p l e R s m args below meth c sv T' h k n → OGo p.tables e below P T' (mkF m pc' Ls (.int 0 :: st))) : OGo p.tables e below P T (mkF m pc Ls (.ref a :: st)) := by
  subst hq
  obtain ⟨hx, hby, hml, eT, hlk, vm0, locs, Y, I⟩ := X
  obtain ⟨T', Y', e', stp⟩ := instNo Y hx (show Z.Warmed39 (s.setVm vm0).vm from I.2.2.2.2.1) (show (s.setVm vm0).vm.findClass own = _ from I.2.2.2.2.2.1) w eT E F (g := mkF m pc Ls (.ref a :: st)) rfl rfl (hb hby hd)
  exact og stp (K T' ⟨hx, hby, hml, e', hlk, vm0, _, Y', I⟩)
theorem own_nsRoot {O C : String} {kk : Nat} (w : (Cond.noSuperclass O).before a0 Z = true) (wk : (Cond.instantiable C kk).before a0 Z = true) (hn : O ≠ C) : NS Z O C := by
  obtain ⟨c, k, h1, h2, h3, -, -⟩ := Cond.noSuperclass_spec w
  obtain ⟨t, k2, g1, -⟩ := Cond.instantiable_spec wk
  have ne := ids_ne h1 g1 hn
  refine ⟨c, t, h1, g1, fun fuel => ?_⟩
  cases fuel with
  | zero => rfl
  | succ f => simp [Vm.isSubclassAux, ne, h2, h3]
theorem own_nsNo {C S K' : String} {kk : Nat} (w : (Cond.superclass C S).before a0 Z = true) (wk : (Cond.instantiable K' kk).before a0 Z = true) (N : NS Z C K') (hn : C ≠ K') : ∃ c t, Z.vm.findClass C = some c ∧ Z.vm.findClass K' = some t ∧ Z.vm.assignable c t = false := by
  obtain ⟨c, t, h0, g0, n3⟩ := N
  obtain ⟨p, k, kp, h1, h2, h3, h4, h5, -, h7⟩ := Cond.superclass_spec h0 w
  obtain ⟨t', k2, g1, g2, g3, g4, -⟩ := Cond.instantiable_spec wk
  cases g0.symm.trans g1
  have ne := ids_ne h0 g0 hn
  have g5 : k2.isInterface = false := by
    cases hi : k2.isInterface with
    | false => rfl
    | true => rw [hi] at g4; simp at g4
  refine ⟨c, t, h0, g0, ?_⟩
  show Z.vm.assignableAux (255 + 1) c t = false
  simp [Vm.assignableAux, ne, h2, g2, h5, g3, g5, Vm.isSubclass, n3]
theorem own_ldc2L (X : OSt Z EL a0 n0 h0 ws own bytes mx p l e R s m args below meth c sv T h k n) (pc' : Nat) {index : Nat} {v : Int64} (hd : decode bytes pc = .ok (.ldc2_w index, 3)) (w : (Cond.constantLong own index v).before a0 Z = true) (hq : pc' = pc + 3) (K : OGo p.tables e below P T (mkF m pc' Ls (.long v :: st))) : OGo p.tables e below P T (mkF m pc Ls st) := by
  subst hq
  obtain ⟨hx, hby, hml, eT, hlk, vm0, locs, Y, I⟩ := X
  exact og (fun _ r => Y.ldc2Long hx (show (s.setVm vm0).vm.findClass own = _ from I.2.2.2.2.2.1) (mvT (show Z.Warmed39 (s.setVm vm0).vm from I.2.2.2.2.1) w) (g := mkF m pc Ls st) rfl (hb hby hd) _ r) K
theorem own_ldBox (X : OSt Z EL a0 n0 h0 ws own bytes mx p l e R s m args below meth c sv T h k n) (pc' : Nat) {a : Addr} {cl : Cell} {C d : String} {z j : Int32} {val : Int32 → Value} (hd : decode bytes pc = .ok (.aaload, 1)) (B : Bxs Z a cl C d z val) (h1 : ¬ j < 0) (h2 : j < z) (hq : pc' = pc + 1) (K : ∀ b : Addr, Exa Z h b C → Fld Z h b C "value" d (val j) → OGo p.tables e below P T (mkF m pc' Ls (.ref b :: st))) : OGo p.tables e below P T (mkF m pc Ls (.int j :: .ref a :: st)) := by
  subst hq
  have O1 := X.old
  obtain ⟨hx, hby, hml, eT, hlk, vm0, locs, Y, I⟩ := X
  obtain ⟨A, S, N, F⟩ := B
  obtain ⟨b, q1, q2, q3⟩ := F j (own_inb S h1 h2)
  exact og (fun _ r => Y.aaload hx (j := j) (v := .ref b) (by rw [eT]; exact (A.ext O1.2).1) (State.isArrayOf_alike (show Z.Warmed39 (s.setVm vm0).vm from I.2.2.2.2.1).alike A.2.1) rfl A.2.2 (own_inb S h1 h2) q1 (g := mkF m pc Ls (.int j :: .ref a :: st)) rfl rfl (hb hby hd) _ r) (K b (q2.ext O1.2) (q3.ext O1.2))
def OMet (l : Launch) (Z : State) (EL : List (String × Nat)) (n0 : Nat) (y : MethodName) (wc : List Jvm.Cond) (rm : Room) (as' : Array Value) (h0 : Heap) (ws : List Addr) (Q : Option Value → Heap → Prop) : Prop :=
  MetFree l y (head1 wc rm) (fun a U => a = as' ∧ Z.Warmed39 U.vm ∧ U.heap = h0 ∧ CHv Z EL U.vm h0 ∧ ∀ x ∈ ws, Safe Z EL U.vm h0 x) (fun _ _ _ _ _ => True) (fun _ U o U' => OEnd Z EL n0 h0 ws U Q rm.cells rm.slots o U')
theorem own_enter {y : MethodName} {ret : Option FieldType} {wc : List Jvm.Cond} {rm : Room} {as' : Array Value} {Q : Option Value → Heap → Prop} (Ls : Array Slot) (hn : plainFor y = true) (ef : ∀ m, entryFrame m as' mx = mkF m 0 Ls []) (hEL : EW Z a0 EL) (O : Old Z n0 h0) (hlt : ∀ x ∈ ws, n0 ≤ x ∧ x < h0.size)
    (K : ∀ (p : Program) (e : Env) (s : State) (m : MethodId) (below : List Frame) (meth : Method) (c : Code) (T : State), OSt Z EL a0 n0 h0 ws y.cls bytes mx p l e rm s m as' below meth c ws T h0 0 0 → meth.name = y.name → meth.sig.returnType = ret → OGo p.tables e below (OEnd Z EL n0 h0 ws s Q rm.cells rm.slots) T (mkF m 0 Ls [])) :
    OMet l Z EL n0 y (Jvm.Cond.code y bytes mx ret :: wc) rm as' h0 ws Q := by
  refine MetFree.of_bodySF hn hisR ?_
  intro p e s m args below meth c s₁ Bd hml hP _
  obtain ⟨rfl, hZ, hh, hC, hS⟩ := hP
  have Y : Stand p l e rm (s.setVm s.vm) m args below meth c s₁ [] 0 0 := Stand.of_body Bd
  have hown := findClass_of_methodNamed Bd.named
  have e0 : s₁.heap = h0 := by rw [← hh, Bd.state]; rfl
  obtain ⟨t, o, g1, g2⟩ := K p e s m below meth c s₁ ⟨Bd.exec, Bd.bytes, hml, e0, Bd.notSynchronized, s.vm, [], Y, hh, O, Keep.refl _ _, ⟨_, (State.WarmedH.refl s).since _, Nat.le_refl _⟩, hZ, hown, hEL, by rw [hh]; exact CHr.refl hC, fun _ => rfl, Fr.nil _, fun x hx => ⟨(hlt x hx).1, (hlt x hx).2, Or.inl hx, hS x hx⟩⟩ (name_of_methodNamed Bd.named Bd.method).1 Bd.returns
  exact ⟨t, o, castTop (ef m) g1, g2⟩
theorem own_leave (X : OSt Z EL a0 n0 h0 ws own bytes mx p l e R s m args below meth c sv T h k n) {v : Option Value} {Q : Option Value → Heap → Prop} {k' n' : Nat} (hv : meth.sig.returnType = none → v = none) (hk : k ≤ k') (hn : n ≤ n') (hQ : Q v h) :
    ∃ fs, (∀ (f : JFrame) (acts : List Action), f.method = m → f.locked = none → f.entered = [] → (doReturn e (T.setTop f) acts v).1 = T.setFrames fs) ∧ (T.setFrames fs).status = .running ∧ Ended (T.setFrames fs) below (.returned v) ∧ OEnd Z EL n0 h0 ws s Q k' n' (.returned v) (T.setFrames fs) := by
  obtain ⟨hx, hby, hml, eT, hlk, vm0, locs, Y, b1, b2, b3, ⟨k0, b4, b4'⟩, b5, b6, b7, b8, b9, b10, b11⟩ := X.more hk hn
  obtain ⟨fs, h1, h2, h3, hW, hs⟩ := Y.leave hv hlk
  have C := CHv.at Y b5 b7 b8.1
  obtain ⟨q1, q2, q3⟩ := b4.ended (U := T.setFrames fs) hW (by show k0 ≤ T.heap.size; rw [eT]; exact b4') hs
  refine ⟨fs, h1, h2, h3, v, locs, rfl, ⟨b10, by show Keep h0 T.heap ws; rw [eT]; exact b3, by show Q v T.heap; rw [eT]; exact hQ⟩, by show CHr Z EL s.vm s.heap T.vm T.heap; rw [eT]; exact b8.trans C, ⟨⟨v, rfl⟩, q1, q2, q3⟩, fun hnil => ?_⟩
  have := b9 hnil
  subst this
  exact ⟨⟨v, rfl⟩, hW, hs⟩
theorem own_retV (X : OSt Z EL a0 n0 h0 ws own bytes mx p l e R s m args below meth c sv T h k n) {Q : Option Value → Heap → Prop} {k' n' : Nat} (hd : decode bytes pc = .ok (.return_, 1)) (hret : meth.sig.returnType = none) (hk : k ≤ k') (hn : n ≤ n') (hQ : Q none h) : OGo p.tables e below (OEnd Z EL n0 h0 ws s Q k' n') T (mkF m pc Ls []) := by
  obtain ⟨fs, h1, h2, h3, h4⟩ := own_leave X (fun _ => rfl) hk hn hQ
  have X' := X
  obtain ⟨hx, hby, hml, eT, hlk, vm0, locs, Y, -⟩ := X'
  exact ⟨_, _, Y.returnOut hx hret (hb hby hd) h1, h2, h3, h4⟩
theorem own_ret (X : OSt Z EL a0 n0 h0 ws own bytes mx p l e R s m args below meth c sv T h k n) {Q : Option Value → Heap → Prop} {k' n' : Nat} {t : FieldType} {w : Value} {i : Instr} (hd : decode bytes pc = .ok (i, 1)) (hret : meth.sig.returnType = some t) (hnw : narrow t w = w)
    (hi : (i = .ireturn ∧ (t = .int ∨ t = .boolean ∨ t = .byte ∨ t = .char ∨ t = .short) ∧ ∃ z, w = .int z) ∨ (i = .lreturn ∧ t = .long ∧ ∃ z, w = .long z) ∨ (i = .dreturn ∧ t = .double ∧ ∃ z, w = .double z) ∨ (i = .freturn ∧ t = .float ∧ ∃ z, w = .float z) ∨ (i = .areturn ∧ t.isReference = true ∧ w.isRef = true))
    (hk : k ≤ k') (hn : n ≤ n') (hQ : Q (some w) h) : OGo p.tables e below (OEnd Z EL n0 h0 ws s Q k' n') T (mkF m pc Ls (w :: st)) := by
  obtain ⟨fs, h1, h2, h3, h4⟩ := own_leave X (fun q => by rw [hret] at q; cases q) hk hn hQ
  have X' := X
  obtain ⟨hx, hby, hml, eT, hlk, vm0, locs, Y, -⟩ := X'
  exact ⟨_, _, retOut Y hx hret hnw hi (hb hby hd) h1, h2, h3, h4⟩
theorem own_retI (X : OSt Z EL a0 n0 h0 ws own bytes mx p l e R s m args below meth c sv T h k n) {Q : Option Value → Heap → Prop} {k' n' : Nat} {z : Int32} (hd : decode bytes pc = .ok (.ireturn, 1)) (hret : meth.sig.returnType = some .int) (hk : k ≤ k') (hn : n ≤ n') (hQ : Q (some (.int z)) h) : OGo p.tables e below (OEnd Z EL n0 h0 ws s Q k' n') T (mkF m pc Ls (.int z :: st)) :=
  own_ret X hd hret rfl (Or.inl ⟨rfl, Or.inl rfl, z, rfl⟩) hk hn hQ
theorem own_retZ (X : OSt Z EL a0 n0 h0 ws own bytes mx p l e R s m args below meth c sv T h k n) {Q : Option Value → Heap → Prop} {k' n' : Nat} {z : Int32} (hd : decode bytes pc = .ok (.ireturn, 1)) (hret : meth.sig.returnType = some .boolean) (hz : narrow .boolean (.int z) = .int z) (hk : k ≤ k') (hn : n ≤ n') (hQ : Q (some (.int z)) h) : OGo p.tables e below (OEnd Z EL n0 h0 ws s Q k' n') T (mkF m pc Ls (.int z :: st)) :=
  own_ret X hd hret hz (Or.inl ⟨rfl, Or.inr (Or.inl rfl), z, rfl⟩) hk hn hQ
theorem own_retC (X : OSt Z EL a0 n0 h0 ws own bytes mx p l e R s m args below meth c sv T h k n) {Q : Option Value → Heap → Prop} {k' n' : Nat} {z : Int32} (hd : decode bytes pc = .ok (.ireturn, 1)) (hret : meth.sig.returnType = some .char) (hz : narrow .char (.int z) = .int z) (hk : k ≤ k') (hn : n ≤ n') (hQ : Q (some (.int z)) h) : OGo p.tables e below (OEnd Z EL n0 h0 ws s Q k' n') T (mkF m pc Ls (.int z :: st)) :=
  own_ret X hd hret hz (Or.inl ⟨rfl, Or.inr (Or.inr (Or.inr (Or.inl rfl))), z, rfl⟩) hk hn hQ
theorem own_retY (X : OSt Z EL a0 n0 h0 ws own bytes mx p l e R s m args below meth c sv T h k n) {Q : Option Value → Heap → Prop} {k' n' : Nat} {z : Int32} (hd : decode bytes pc = .ok (.ireturn, 1)) (hret : meth.sig.returnType = some .byte) (hz : narrow .byte (.int z) = .int z) (hk : k ≤ k') (hn : n ≤ n') (hQ : Q (some (.int z)) h) : OGo p.tables e below (OEnd Z EL n0 h0 ws s Q k' n') T (mkF m pc Ls (.int z :: st)) :=
  own_ret X hd hret hz (Or.inl ⟨rfl, Or.inr (Or.inr (Or.inl rfl)), z, rfl⟩) hk hn hQ
theorem own_retL (X : OSt Z EL a0 n0 h0 ws own bytes mx p l e R s m args below meth c sv T h k n) {Q : Option Value → Heap → Prop} {k' n' : Nat} {z : Int64} (hd : decode bytes pc = .ok (.lreturn, 1)) (hret : meth.sig.returnType = some .long) (hk : k ≤ k') (hn : n ≤ n') (hQ : Q (some (.long z)) h) : OGo p.tables e below (OEnd Z EL n0 h0 ws s Q k' n') T (mkF m pc Ls (.long z :: st)) :=
  own_ret X hd hret rfl (Or.inr (Or.inl ⟨rfl, rfl, z, rfl⟩)) hk hn hQ
theorem own_narR {t : FieldType} {w : Value} (ht : t.isReference = true) (hw : w.isRef = true) : narrow t w = w := by
  rcases ref_cases hw with rfl | ⟨a, rfl⟩ <;> cases t <;> first | rfl | cases ht
theorem own_retA (X : OSt Z EL a0 n0 h0 ws own bytes mx p l e R s m args below meth c sv T h k n) {Q : Option Value → Heap → Prop} {k' n' : Nat} {t : FieldType} {w : Value} (hd : decode bytes pc = .ok (.areturn, 1)) (hret : meth.sig.returnType = some t) (ht : t.isReference = true) (hw : w.isRef = true) (hk : k ≤ k') (hn : n ≤ n') (hQ : Q (some w) h) : OGo p.tables e below (OEnd Z EL n0 h0 ws s Q k' n') T (mkF m pc Ls (w :: st)) :=
  own_ret X hd hret (own_narR ht hw) (Or.inr (Or.inr (Or.inr (Or.inr ⟨rfl, ht, hw⟩)))) hk hn hQ
theorem own_payN {vm0 : Vm} {y : MethodName} {maxL : Nat} {ret : Option FieldType} {rm : Room} {len W : Nat} {as' : Array Value} {ws' : List Addr} {Q : Option Value → Heap → Prop} {bc : ByteArray} (hnil : EL = []) (hM : OMet l Z EL n0 y [Jvm.Cond.code y bc maxL ret] rm as' h ws' Q) (hZ : Z.Warmed39 vm0) (wc : (Cond.code y bc maxL ret).before a0 Z = true) (wz : (Cond.initialized y.cls).before a0 Z = true) (hf : rm.frames + 1 ≤ R.frames) (hl : W + (maxL + 11) + rm.locals ≤ R.locals) (hEL : EW Z a0 EL) (H : CHv Z EL vm0 h) (hS : ∀ x ∈ ws', x < h.size ∧ Safe Z EL vm0 h x) :
    Back l R p e below (s.setVm vm0) args y len W (fun A a => a = as' ∧ A.U.heap = h ∧ A.cells + rm.cells ≤ R.cells ∧ A.slots + rm.slots ≤ R.slots)
      (fun A _ v B => ∃ L, (Fr n0 L ∧ Keep h B.U.heap ws' ∧ Q v B.U.heap) ∧ B.locs = A.locs ++ L ∧ B.cells = A.cells + rm.cells ∧ B.slots = A.slots + rm.slots) :=
  Back.of_free (bytes := bc) (maxL := maxL) (ret := ret) (E := fun _ _ o t L k n => k = rm.cells ∧ n = rm.slots ∧ ∃ v, o = .returned v ∧ (Fr n0 L ∧ Keep h t.heap ws' ∧ Q v t.heap)) hM hf hl
    (fun m meth c A a Y hp => have hU : Z.Warmed39 A.U.vm := wtrans (s := s.setVm vm0) hZ Y.warmed
      ⟨by show (Cond.and _ .tt).before a A.U = true; rw [Cond.before_and, mv hU wc]; rfl, mv hU wc, mv hU wz, hp.2.2.1, hp.2.2.2⟩)
    (fun m meth c A a g mk Y hp => ⟨hp.1, wtrans (s := s.setVm vm0) hZ Y.warmed, hp.2.1, (CHv.at Y hZ hEL H).1, fun x hx => (CHv.at Y hZ hEL H).safe (hS x hx).1 (hS x hx).2⟩) (fun _ _ _ _ _ _ _ _ _ => trivial)
    (fun _ _ _ _ ⟨v, L, h1, h2, _, _, h3⟩ => ⟨L, _, _, h3 hnil, rfl, rfl, v, h1, h2⟩)
    (fun m meth c A a g mk v t L k n Y hp _ _ ⟨e1, e2, v', e3, e4⟩ => by cases e3; subst e1 e2; exact ⟨L, e4, rfl, rfl, rfl⟩)
theorem own_payW {vm0 : Vm} {y : MethodName} {maxL : Nat} {ret : Option FieldType} {rm : Room} {len W : Nat} {as' : Array Value} {ws' : List Addr} {Q : Option Value → Heap → Prop} {bc : ByteArray} (hM : OMet l Z EL n0 y [Jvm.Cond.code y bc maxL ret] rm as' h ws' Q) (hZ : Z.Warmed39 vm0) (wc : (Cond.code y bc maxL ret).before a0 Z = true) (wz : (Cond.initialized y.cls).before a0 Z = true) (hf : rm.frames + 1 ≤ R.frames) (hl : W + (maxL + 11) + rm.locals ≤ R.locals) (hEL : EW Z a0 EL) (H : CHv Z EL vm0 h) (hS : ∀ x ∈ ws', x < h.size ∧ Safe Z EL vm0 h x) :
    BackS l R p e below (s.setVm vm0) args y len W (fun A a => a = as' ∧ A.U.heap = h ∧ A.cells + rm.cells ≤ R.cells ∧ A.slots + rm.slots ≤ R.slots)
      (fun A _ v B => ∃ L, (Fr n0 L ∧ Keep h B.U.heap ws' ∧ Q v B.U.heap) ∧ B.locs = A.locs ++ L ∧ B.cells = A.cells + rm.cells ∧ B.slots = A.slots + rm.slots ∧ CHr Z EL vm0 h B.U.vm B.U.heap) :=
  BackS.of_freeW (bytes := bc) (maxL := maxL) (ret := ret) (E := fun _ first o t L k n => k = rm.cells ∧ n = rm.slots ∧ (∃ v, o = .returned v ∧ (Fr n0 L ∧ Keep h t.heap ws' ∧ Q v t.heap)) ∧ CHr Z EL first.vm first.heap t.vm t.heap) hM hf hl
    (fun m meth c A a Y hp => have hU : Z.Warmed39 A.U.vm := wtrans (s := s.setVm vm0) hZ Y.warmed
      ⟨by show (Cond.and _ .tt).before a A.U = true; rw [Cond.before_and, mv hU wc]; rfl, mv hU wc, mv hU wz, hp.2.2.1, hp.2.2.2⟩)
    (fun m meth c A a g mk Y hp => ⟨hp.1, wtrans (s := s.setVm vm0) hZ Y.warmed, hp.2.1, (CHv.at Y hZ hEL H).1, fun x hx => (CHv.at Y hZ hEL H).safe (hS x hx).1 (hS x hx).2⟩) (fun _ _ _ _ _ _ _ _ _ => trivial)
    (fun _ _ _ _ ⟨v, L, h1, h2, h3, h4, _⟩ => ⟨L, _, _, h4, rfl, rfl, ⟨v, h1, h2⟩, h3⟩)
    (fun m meth c A a g mk v t L k n Y hp _ _ ⟨e1, e2, ⟨v', e3, e4⟩, e5⟩ => by
      cases e3; subst e1 e2
      refine ⟨L, e4, rfl, rfl, rfl, (CHv.at Y hZ hEL H).trans ?_⟩
      rw [← hp.2.1]; exact e5)
theorem own_stat (X : OSt Z EL a0 n0 h0 ws own bytes mx p l e R s m args below meth c sv T h k n) (pc' : Nat) {y : MethodName} {index maxL W : Nat} {ret : Option FieldType} {rm : Room} {as' : Array Value} {ws' : List Addr} {Q : Option Value → Heap → Prop} {bc : ByteArray} {argsL rest : List Value} (hd : decode bytes pc = .ok (.invokestatic index, 3)) (hM : OMet l Z EL n0 y [Jvm.Cond.code y bc maxL ret] rm as' h ws' Q) (w1 : (Cond.methodLink own index y).before a0 Z = true) (w2 : (Cond.static y).before a0 Z = true) (wz : (Cond.initialized y.cls).before a0 Z = true) (wc : (Cond.code y bc maxL ret).before a0 Z = true) (hy : y.cls ≠ "java/lang/invoke/MethodHandle" ∧ y.cls ≠ "java/lang/invoke/VarHandle")
    (hlen : ∀ sig, parseMethodDescriptor y.desc = some sig → argsL.length = sig.parameters.length) (hst : st = argsL.reverse ++ rest) (has : argsL.toArray = as') (hsz : Ls.size = mx) (hW : (rest.map fun v => v.category).sum = W) (hf : rm.frames + 1 ≤ R.frames) (hl : W + (maxL + 11) + rm.locals ≤ R.locals) (hc : k + rm.cells ≤ R.cells) (hs : n + rm.slots ≤ R.slots) (hsv : ∀ x ∈ ws', x ∈ sv) (hq : pc' = pc + 3)
    (K : ∀ (T' : State) (h' : Heap) (v : Option Value), OSt Z EL a0 n0 h0 ws own bytes mx p l e R s m args below meth c sv T' h' (k + rm.cells) (n + rm.slots) → Keep h h' ws' → Q v h' → OGo p.tables e below P T' (mkF m pc' Ls (v.toList ++ rest))) : OGo p.tables e below P T (mkF m pc Ls st) := by
  subst hq
  obtain ⟨hx, hby, hml, eT, hlk, vm0, locs, Y, I⟩ := X
  have I0 := I
  obtain ⟨b1, b2, b3, b4, b5, b6, b7, b8, b9, b10, b11⟩ := I0
  have hS : ∀ x ∈ ws', x < h.size ∧ Safe Z EL vm0 h x := fun x hx => ⟨(b11 x (hsv x hx)).2.1, (b11 x (hsv x hx)).2.2.2⟩
  have hZ : Z.Warmed39 (s.setVm vm0).vm := b5
  have hW' : 2 * (mkF m pc Ls st).monitorRoom + (rest.map fun v => v.category).sum ≤ W := by show 2 * 0 + _ ≤ _; rw [hW]; omega
  by_cases hnil : EL = []
  · obtain ⟨v, vm₁, ⟨U, L', k', n'⟩, -, Y', ⟨L, ⟨q1, q2, q3⟩, l1, l2, l3⟩, stp⟩ := Jvm.LawKit.callS Y hx (y := y) (show (s.setVm vm0).vm.findClass own = _ from b6) (mvT hZ w1) (mvT hZ w2) (mvT hZ wz) (mvT hZ wc) hy (own_payN hnil hM b5 wc wz hf hl b7 b8.1 hS) (g := mkF m pc Ls st) rfl (by rw [hml]; exact hsz) (argsL := argsL) (rest := rest) hlen hst hW' (hb hby hd) (fun _ _ => ⟨has, eT, hc, hs⟩)
    dsimp only [Pt.U, Pt.locs, Pt.cells, Pt.slots] at Y' l1 l2 l3 q1 q2 q3 stp
    subst l1 l2 l3
    exact og stp (K U U.heap v ⟨hx, hby, hml, rfl, hlk, vm0, _, Y', I.keep q2 hsv q1⟩ q2 q3)
  · obtain ⟨v, vm₁, ⟨U, L', k', n'⟩, -, Y', S', g', ⟨L, ⟨q1, q2, q3⟩, l1, l2, l3, C⟩, stp⟩ := callSS Y hx (y := y) (show (s.setVm vm0).vm.findClass own = _ from b6) (mvT hZ w1) (mvT hZ w2) (mvT hZ wz) (mvT hZ wc) hy (own_payW hM b5 wc wz hf hl b7 b8.1 hS) (g := mkF m pc Ls st) rfl (by rw [hml]; exact hsz) (argsL := argsL) (rest := rest) hlen hst hW' (hb hby hd) (fun _ _ => ⟨has, eT, hc, hs⟩)
    dsimp only [Pt.U, Pt.locs, Pt.cells, Pt.slots] at Y' l1 l2 l3 q1 q2 q3 stp S' g' C
    subst l1 l2 l3
    exact og (fun _ q => stp.trans q) (K U U.heap v ⟨hx, hby, hml, rfl, hlk, U.vm, _, Y', I.call q2 hsv q1 C S' (fun q => absurd q hnil)⟩ q2 q3)
theorem own_spec (X : OSt Z EL a0 n0 h0 ws own bytes mx p l e R s m args below meth c sv T h k n) (pc' : Nat) {y : MethodName} {index maxL W : Nat} {rm : Room} {as' : Array Value} {ws' : List Addr} {Q : Option Value → Heap → Prop} {bc : ByteArray} {a : Addr} {argsL rest : List Value} (hd : decode bytes pc = .ok (.invokespecial index, 3)) (hy1 : y.name = "<init>") (hM : OMet l Z EL n0 y [Jvm.Cond.code y bc maxL none] rm as' h ws' Q) (w1 : (Cond.methodLink own index y).before a0 Z = true) (w2 : (Cond.instanceMethod y).before a0 Z = true) (wz : (Cond.initialized y.cls).before a0 Z = true) (wc : (Cond.code y bc maxL none).before a0 Z = true) (hy : y.cls ≠ "java/lang/invoke/MethodHandle" ∧ y.cls ≠ "java/lang/invoke/VarHandle")
    (hlen : ∀ sig, parseMethodDescriptor y.desc = some sig → argsL.length = sig.parameters.length) (hst : st = argsL.reverse ++ .ref a :: rest) (has : (.ref a :: argsL).toArray = as') (hsz : Ls.size = mx) (hW : (rest.map fun v => v.category).sum = W) (hf : rm.frames + 1 ≤ R.frames) (hl : W + (maxL + 11) + rm.locals ≤ R.locals) (hc : k + rm.cells ≤ R.cells) (hs : n + rm.slots ≤ R.slots) (hsv : ∀ x ∈ ws', x ∈ sv) (hq : pc' = pc + 3)
    (K : ∀ (T' : State) (h' : Heap) (v : Option Value), OSt Z EL a0 n0 h0 ws own bytes mx p l e R s m args below meth c sv T' h' (k + rm.cells) (n + rm.slots) → Keep h h' ws' → Q v h' → OGo p.tables e below P T' (mkF m pc' Ls (v.toList ++ rest))) : OGo p.tables e below P T (mkF m pc Ls st) := by
  subst hq
  obtain ⟨hx, hby, hml, eT, hlk, vm0, locs, Y, I⟩ := X
  have I0 := I
  obtain ⟨b1, b2, b3, b4, b5, b6, b7, b8, b9, b10, b11⟩ := I0
  have hS : ∀ x ∈ ws', x < h.size ∧ Safe Z EL vm0 h x := fun x hx => ⟨(b11 x (hsv x hx)).2.1, (b11 x (hsv x hx)).2.2.2⟩
  have hZ : Z.Warmed39 (s.setVm vm0).vm := b5
  have hW' : 2 * (mkF m pc Ls st).monitorRoom + (rest.map fun v => v.category).sum ≤ W := by show 2 * 0 + _ ≤ _; rw [hW]; omega
  by_cases hnil : EL = []
  · obtain ⟨v, vm₁, ⟨U, L', k', n'⟩, -, Y', ⟨L, ⟨q1, q2, q3⟩, l1, l2, l3⟩, stp⟩ := Y.specialBack hx (y := y) hy1 (show (s.setVm vm0).vm.findClass own = _ from b6) (mvT hZ w1) (mvT hZ w2) (mvT hZ wc) hy (own_payN hnil hM b5 wc wz hf hl b7 b8.1 hS) (g := mkF m pc Ls st) rfl (by rw [hml]; exact hsz) (Steps.refl _) (a := a) (argsL := argsL) (rest := rest) hlen hst hW' (hb hby hd) (fun _ _ => ⟨has, eT, hc, hs⟩)
    dsimp only [Pt.U, Pt.locs, Pt.cells, Pt.slots] at Y' l1 l2 l3 q1 q2 q3 stp
    subst l1 l2 l3
    exact og (fun _ q => stp.trans q) (K U U.heap v ⟨hx, hby, hml, rfl, hlk, vm0, _, Y', I.keep q2 hsv q1⟩ q2 q3)
  · obtain ⟨v, vm₁, ⟨U, L', k', n'⟩, -, Y', S', g', ⟨L, ⟨q1, q2, q3⟩, l1, l2, l3, C⟩, stp⟩ := Y.specialBackS hx (y := y) hy1 (show (s.setVm vm0).vm.findClass own = _ from b6) (mvT hZ w1) (mvT hZ w2) (mvT hZ wc) hy (own_payW hM b5 wc wz hf hl b7 b8.1 hS) (g := mkF m pc Ls st) rfl (by rw [hml]; exact hsz) (Steps.refl _) (a := a) (argsL := argsL) (rest := rest) hlen hst hW' (hb hby hd) (fun _ _ => ⟨has, eT, hc, hs⟩)
    dsimp only [Pt.U, Pt.locs, Pt.cells, Pt.slots] at Y' l1 l2 l3 q1 q2 q3 stp S' g' C
    subst l1 l2 l3
    exact og (fun _ q => stp.trans q) (K U U.heap v ⟨hx, hby, hml, rfl, hlk, U.vm, _, Y', I.call q2 hsv q1 C S' (fun q => absurd q hnil)⟩ q2 q3)
theorem own_virt (X : OSt Z EL a0 n0 h0 ws own bytes mx p l e R s m args below meth c sv T h k n) (pc' : Nat) {y z : MethodName} {C : String} {index maxL W : Nat} {ret : Option FieldType} {rm : Room} {as' : Array Value} {ws' : List Addr} {Q : Option Value → Heap → Prop} {bc : ByteArray} {a : Addr} {argsL rest : List Value} (hd : decode bytes pc = .ok (.invokevirtual index, 3)) (E : Exa Z h a C) (hnf : ∀ vm0, Z.Warmed39 (s.setVm vm0).vm → NotFace (s.setVm vm0) y) (hM : OMet l Z EL n0 z [Jvm.Cond.code z bc maxL ret] rm as' h ws' Q) (w1 : (Cond.methodLink own index y).before a0 Z = true) (w2 : (Cond.declares y).before a0 Z = true) (w3 : (Cond.selects C y z).before a0 Z = true) (w4 : (Cond.instanceMethod z).before a0 Z = true) (wz : (Cond.initialized z.cls).before a0 Z = true) (wc : (Cond.code z bc maxL ret).before a0 Z = true) (hy : y.cls ≠ "java/lang/invoke/MethodHandle" ∧ y.cls ≠ "java/lang/invoke/VarHandle")
    (hlen : ∀ sig, parseMethodDescriptor y.desc = some sig → argsL.length = sig.parameters.length) (hst : st = argsL.reverse ++ .ref a :: rest) (has : (.ref a :: argsL).toArray = as') (hsz : Ls.size = mx) (hW : (rest.map fun v => v.category).sum = W) (hf : rm.frames + 1 ≤ R.frames) (hl : W + (maxL + 11) + rm.locals ≤ R.locals) (hc : k + rm.cells ≤ R.cells) (hs : n + rm.slots ≤ R.slots) (hsv : ∀ x ∈ ws', x ∈ sv) (hq : pc' = pc + 3)
    (K : ∀ (T' : State) (h' : Heap) (v : Option Value), OSt Z EL a0 n0 h0 ws own bytes mx p l e R s m args below meth c sv T' h' (k + rm.cells) (n + rm.slots) → Keep h h' ws' → Q v h' → OGo p.tables e below P T' (mkF m pc' Ls (v.toList ++ rest))) : OGo p.tables e below P T (mkF m pc Ls st) := by
  subst hq
  obtain ⟨hx, hby, hml, eT, hlk, vm0, locs, Y, I⟩ := X
  have I0 := I
  obtain ⟨b1, b2, b3, b4, b5, b6, b7, b8, b9, b10, b11⟩ := I0
  have hS : ∀ x ∈ ws', x < h.size ∧ Safe Z EL vm0 h x := fun x hx => ⟨(b11 x (hsv x hx)).2.1, (b11 x (hsv x hx)).2.2.2⟩
  have hZ : Z.Warmed39 (s.setVm vm0).vm := b5
  have hW' : 2 * (mkF m pc Ls st).monitorRoom + (rest.map fun v => v.category).sum ≤ W := by show 2 * 0 + _ ≤ _; rw [hW]; omega
  obtain ⟨cq, kq, qa, qb, qc⟩ := isOf (s := s.setVm vm0) hZ eT E
  by_cases hnil : EL = []
  · obtain ⟨v, vm₁, ⟨U, L', k', n'⟩, -, Y', ⟨L, ⟨q1, q2, q3⟩, l1, l2, l3⟩, stp⟩ := Y.virtualBack hx (y := y) (z := z) (show (s.setVm vm0).vm.findClass own = _ from b6) (mvT hZ w1) (mvT hZ w2) (hnf vm0 hZ) (mvT hZ w3) (mvT hZ w4) hy (own_payN hnil hM b5 wc wz hf hl b7 b8.1 hS) qa qc (g := mkF m pc Ls st) rfl (by rw [hml]; exact hsz) (Steps.refl _) (argsL := argsL) (rest := rest) hlen hst hW' (hb hby hd) (fun _ _ => ⟨has, eT, hc, hs⟩)
    dsimp only [Pt.U, Pt.locs, Pt.cells, Pt.slots] at Y' l1 l2 l3 q1 q2 q3 stp
    subst l1 l2 l3
    exact og (fun _ q => stp.trans q) (K U U.heap v ⟨hx, hby, hml, rfl, hlk, vm0, _, Y', I.keep q2 hsv q1⟩ q2 q3)
  · obtain ⟨v, vm₁, ⟨U, L', k', n'⟩, -, Y', S', g', ⟨L, ⟨q1, q2, q3⟩, l1, l2, l3, C⟩, stp⟩ := Y.virtualBackS hx (y := y) (z := z) (show (s.setVm vm0).vm.findClass own = _ from b6) (mvT hZ w1) (mvT hZ w2) (hnf vm0 hZ) (mvT hZ w3) (mvT hZ w4) hy (own_payW hM b5 wc wz hf hl b7 b8.1 hS) qa qc (g := mkF m pc Ls st) rfl (by rw [hml]; exact hsz) (Steps.refl _) (argsL := argsL) (rest := rest) hlen hst hW' (hb hby hd) (fun _ _ => ⟨has, eT, hc, hs⟩)
    dsimp only [Pt.U, Pt.locs, Pt.cells, Pt.slots] at Y' l1 l2 l3 q1 q2 q3 stp S' g' C
    subst l1 l2 l3
    exact og (fun _ q => stp.trans q) (K U U.heap v ⟨hx, hby, hml, rfl, hlk, U.vm, _, Y', I.call q2 hsv q1 C S' (fun q => absurd q hnil)⟩ q2 q3)
theorem own_priv (X : OSt Z EL a0 n0 h0 ws own bytes mx p l e R s m args below meth c sv T h k n) (pc' : Nat) {y : MethodName} {C : String} {index maxL W : Nat} {ret : Option FieldType} {rm : Room} {as' : Array Value} {ws' : List Addr} {Q : Option Value → Heap → Prop} {bc : ByteArray} {a : Addr} {argsL rest : List Value} (hd : decode bytes pc = .ok (.invokevirtual index, 3)) (E : Exa Z h a C) (hM : OMet l Z EL n0 y [Jvm.Cond.code y bc maxL ret] rm as' h ws' Q) (w1 : (Cond.methodLink own index y).before a0 Z = true) (w2 : (Cond.instanceMethod y).before a0 Z = true) (w3 : (Cond.selects y.cls y y).before a0 Z = true) (w4 : (Cond.privateMethod y).before a0 Z = true) (wz : (Cond.initialized y.cls).before a0 Z = true) (wc : (Cond.code y bc maxL ret).before a0 Z = true) (hy : y.cls ≠ "java/lang/invoke/MethodHandle" ∧ y.cls ≠ "java/lang/invoke/VarHandle")
    (hlen : ∀ sig, parseMethodDescriptor y.desc = some sig → argsL.length = sig.parameters.length) (hst : st = argsL.reverse ++ .ref a :: rest) (has : (.ref a :: argsL).toArray = as') (hsz : Ls.size = mx) (hW : (rest.map fun v => v.category).sum = W) (hf : rm.frames + 1 ≤ R.frames) (hl : W + (maxL + 11) + rm.locals ≤ R.locals) (hc : k + rm.cells ≤ R.cells) (hs : n + rm.slots ≤ R.slots) (hsv : ∀ x ∈ ws', x ∈ sv) (hq : pc' = pc + 3)
    (K : ∀ (T' : State) (h' : Heap) (v : Option Value), OSt Z EL a0 n0 h0 ws own bytes mx p l e R s m args below meth c sv T' h' (k + rm.cells) (n + rm.slots) → Keep h h' ws' → Q v h' → OGo p.tables e below P T' (mkF m pc' Ls (v.toList ++ rest))) : OGo p.tables e below P T (mkF m pc Ls st) := by
  subst hq
  obtain ⟨hx, hby, hml, eT, hlk, vm0, locs, Y, I⟩ := X
  have I0 := I
  obtain ⟨b1, b2, b3, b4, b5, b6, b7, b8, b9, b10, b11⟩ := I0
  have hS : ∀ x ∈ ws', x < h.size ∧ Safe Z EL vm0 h x := fun x hx => ⟨(b11 x (hsv x hx)).2.1, (b11 x (hsv x hx)).2.2.2⟩
  have hZ : Z.Warmed39 (s.setVm vm0).vm := b5
  have hW' : 2 * (mkF m pc Ls st).monitorRoom + (rest.map fun v => v.category).sum ≤ W := by show 2 * 0 + _ ≤ _; rw [hW]; omega
  obtain ⟨cq, q0, q0'⟩ := E.cell
  by_cases hnil : EL = []
  · obtain ⟨v, vm₁, ⟨U, L', k', n'⟩, -, Y', ⟨L, ⟨q1, q2, q3⟩, l1, l2, l3⟩, stp⟩ := Y.privateBack hx (y := y) (show (s.setVm vm0).vm.findClass own = _ from b6) (mvT hZ w1) (mvT hZ w2) (mvT hZ w3) (Cond.privateMethod_at (mvP hZ w4 (args := #[]))) (mvT hZ wc) hy (own_payN hnil hM b5 wc wz hf hl b7 b8.1 hS) (g := mkF m pc Ls st) rfl (by rw [hml]; exact hsz) (Steps.refl _) (a := a) (by rw [eT]; exact q0) q0' (argsL := argsL) (rest := rest) hlen hst hW' (hb hby hd) (fun _ _ => ⟨has, eT, hc, hs⟩)
    dsimp only [Pt.U, Pt.locs, Pt.cells, Pt.slots] at Y' l1 l2 l3 q1 q2 q3 stp
    subst l1 l2 l3
    exact og (fun _ q => stp.trans q) (K U U.heap v ⟨hx, hby, hml, rfl, hlk, vm0, _, Y', I.keep q2 hsv q1⟩ q2 q3)
  · obtain ⟨v, vm₁, ⟨U, L', k', n'⟩, -, Y', S', g', ⟨L, ⟨q1, q2, q3⟩, l1, l2, l3, C⟩, stp⟩ := Y.privateBackS hx (y := y) (show (s.setVm vm0).vm.findClass own = _ from b6) (mvT hZ w1) (mvT hZ w2) (mvT hZ w3) (Cond.privateMethod_at (mvP hZ w4 (args := #[]))) (mvT hZ wc) hy (own_payW hM b5 wc wz hf hl b7 b8.1 hS) (g := mkF m pc Ls st) rfl (by rw [hml]; exact hsz) (Steps.refl _) (a := a) (by rw [eT]; exact q0) q0' (argsL := argsL) (rest := rest) hlen hst hW' (hb hby hd) (fun _ _ => ⟨has, eT, hc, hs⟩)
    dsimp only [Pt.U, Pt.locs, Pt.cells, Pt.slots] at Y' l1 l2 l3 q1 q2 q3 stp S' g' C
    subst l1 l2 l3
    exact og (fun _ q => stp.trans q) (K U U.heap v ⟨hx, hby, hml, rfl, hlk, U.vm, _, Y', I.call q2 hsv q1 C S' (fun q => absurd q hnil)⟩ q2 q3)
theorem own_specB (X : OSt Z EL a0 n0 h0 ws own bytes mx p l e R s m args below meth c sv T h k n) (pc' : Nat) {y : MethodName} {index maxL W rc rs : Nat} {as' : Array Value} {ws' : List Addr} {Q : Option Value → Heap → List Loc → Prop} {bc : ByteArray} {a : Addr} {argsL rest : List Value} (hd : decode bytes pc = .ok (.invokespecial index, 3)) (hy1 : y.name = "<init>")
    (hK : ∀ vm0, Z.Warmed39 (s.setVm vm0).vm → Back l R p e below (s.setVm vm0) args y 3 W (fun A a => a = as' ∧ A.U.heap = h ∧ A.cells + rc ≤ R.cells ∧ A.slots + rs ≤ R.slots) (fun A _ v B => ∃ L, Q v B.U.heap L ∧ B.locs = A.locs ++ L ∧ B.cells = A.cells + rc ∧ B.slots = A.slots + rs)) (hQ : ∀ v h' L, Q v h' L → Fr n0 L ∧ Keep h h' ws')
    (w1 : (Cond.methodLink own index y).before a0 Z = true) (w2 : (Cond.instanceMethod y).before a0 Z = true) (wc : (Cond.code y bc maxL none).before a0 Z = true) (hy : y.cls ≠ "java/lang/invoke/MethodHandle" ∧ y.cls ≠ "java/lang/invoke/VarHandle")
    (hlen : ∀ sig, parseMethodDescriptor y.desc = some sig → argsL.length = sig.parameters.length) (hst : st = argsL.reverse ++ .ref a :: rest) (has : (.ref a :: argsL).toArray = as') (hsz : Ls.size = mx) (hW : (rest.map fun v => v.category).sum = W) (hc : k + rc ≤ R.cells) (hs : n + rs ≤ R.slots) (hsv : ∀ x ∈ ws', x ∈ sv) (hq : pc' = pc + 3)
    (K : ∀ (T' : State) (h' : Heap) (v : Option Value) (L : List Loc), OSt Z EL a0 n0 h0 ws own bytes mx p l e R s m args below meth c sv T' h' (k + rc) (n + rs) → Keep h h' ws' → Q v h' L → OGo p.tables e below P T' (mkF m pc' Ls (v.toList ++ rest))) : OGo p.tables e below P T (mkF m pc Ls st) := by
  subst hq
  obtain ⟨hx, hby, hml, eT, hlk, vm0, locs, Y, I⟩ := X
  have hZ : Z.Warmed39 (s.setVm vm0).vm := I.2.2.2.2.1
  have hW' : 2 * (mkF m pc Ls st).monitorRoom + (rest.map fun v => v.category).sum ≤ W := by show 2 * 0 + _ ≤ _; rw [hW]; omega
  obtain ⟨v, vm₁, ⟨U, L', k', n'⟩, -, Y', ⟨L, q, l1, l2, l3⟩, stp⟩ := Y.specialBack hx (y := y) hy1 (show (s.setVm vm0).vm.findClass own = _ from I.2.2.2.2.2.1) (mvT hZ w1) (mvT hZ w2) (mvT hZ wc) hy (hK vm0 hZ) (g := mkF m pc Ls st) rfl (by rw [hml]; exact hsz) (Steps.refl _) (a := a) (argsL := argsL) (rest := rest) hlen hst hW' (hb hby hd) (fun _ _ => ⟨has, eT, hc, hs⟩)
  dsimp only [Pt.U, Pt.locs, Pt.cells, Pt.slots] at Y' l1 l2 l3 q stp
  subst l1 l2 l3
  exact og (fun _ q => stp.trans q) (K U U.heap v L ⟨hx, hby, hml, rfl, hlk, vm0, _, Y', I.keep (hQ _ _ _ q).2 hsv (hQ _ _ _ q).1⟩ (hQ _ _ _ q).2 q)
theorem own_virtB (X : OSt Z EL a0 n0 h0 ws own bytes mx p l e R s m args below meth c sv T h k n) (pc' : Nat) {y z : MethodName} {C : String} {index W rc rs : Nat} {as' : Array Value} {ws' : List Addr} {Q : Option Value → Heap → List Loc → Prop} {a : Addr} {argsL rest : List Value} (hd : decode bytes pc = .ok (.invokevirtual index, 3)) (E : Exa Z h a C) (hnf : ∀ vm0, Z.Warmed39 (s.setVm vm0).vm → NotFace (s.setVm vm0) y)
    (hK : ∀ vm0, Z.Warmed39 (s.setVm vm0).vm → Back l R p e below (s.setVm vm0) args z 3 W (fun A a => a = as' ∧ A.U.heap = h ∧ A.cells + rc ≤ R.cells ∧ A.slots + rs ≤ R.slots) (fun A _ v B => ∃ L, Q v B.U.heap L ∧ B.locs = A.locs ++ L ∧ B.cells = A.cells + rc ∧ B.slots = A.slots + rs)) (hQ : ∀ v h' L, Q v h' L → Fr n0 L ∧ Keep h h' ws')
    (w1 : (Cond.methodLink own index y).before a0 Z = true) (w2 : (Cond.declares y).before a0 Z = true) (w3 : (Cond.selects C y z).before a0 Z = true) (w4 : (Cond.instanceMethod z).before a0 Z = true) (hy : y.cls ≠ "java/lang/invoke/MethodHandle" ∧ y.cls ≠ "java/lang/invoke/VarHandle")
    (hlen : ∀ sig, parseMethodDescriptor y.desc = some sig → argsL.length = sig.parameters.length) (hst : st = argsL.reverse ++ .ref a :: rest) (has : (.ref a :: argsL).toArray = as') (hsz : Ls.size = mx) (hW : (rest.map fun v => v.category).sum = W) (hc : k + rc ≤ R.cells) (hs : n + rs ≤ R.slots) (hsv : ∀ x ∈ ws', x ∈ sv) (hq : pc' = pc + 3)
    (K : ∀ (T' : State) (h' : Heap) (v : Option Value) (L : List Loc), OSt Z EL a0 n0 h0 ws own bytes mx p l e R s m args below meth c sv T' h' (k + rc) (n + rs) → Keep h h' ws' → Q v h' L → OGo p.tables e below P T' (mkF m pc' Ls (v.toList ++ rest))) : OGo p.tables e below P T (mkF m pc Ls st) := by
  subst hq
  obtain ⟨hx, hby, hml, eT, hlk, vm0, locs, Y, I⟩ := X
  have hZ : Z.Warmed39 (s.setVm vm0).vm := I.2.2.2.2.1
  have hW' : 2 * (mkF m pc Ls st).monitorRoom + (rest.map fun v => v.category).sum ≤ W := by show 2 * 0 + _ ≤ _; rw [hW]; omega
  obtain ⟨cq, kq, qa, qb, qc⟩ := isOf (s := s.setVm vm0) hZ eT E
  obtain ⟨v, vm₁, ⟨U, L', k', n'⟩, -, Y', ⟨L, q, l1, l2, l3⟩, stp⟩ := Y.virtualBack hx (y := y) (z := z) (show (s.setVm vm0).vm.findClass own = _ from I.2.2.2.2.2.1) (mvT hZ w1) (mvT hZ w2) (hnf vm0 hZ) (mvT hZ w3) (mvT hZ w4) hy (hK vm0 hZ) qa qc (g := mkF m pc Ls st) rfl (by rw [hml]; exact hsz) (Steps.refl _) (argsL := argsL) (rest := rest) hlen hst hW' (hb hby hd) (fun _ _ => ⟨has, eT, hc, hs⟩)
  dsimp only [Pt.U, Pt.locs, Pt.cells, Pt.slots] at Y' l1 l2 l3 q stp
  subst l1 l2 l3
  exact og (fun _ q => stp.trans q) (K U U.heap v L ⟨hx, hby, hml, rfl, hlk, vm0, _, Y', I.keep (hQ _ _ _ q).2 hsv (hQ _ _ _ q).1⟩ (hQ _ _ _ q).2 q)
theorem own_svb (X : OSt Z EL a0 n0 h0 ws own bytes mx p l e R s m args below meth c sv T h k n) {a : Addr} (ha : a ∈ sv) : n0 ≤ a ∧ a < h.size := by
  obtain ⟨-, -, -, -, -, _, _, -, -, -, -, -, -, -, -, -, -, -, q⟩ := X
  exact ⟨(q a ha).1, (q a ha).2.1⟩
theorem own_fitR {t : FieldType} {w : Value} (ht : t.isReference = true) (hw : w.isRef = true) : fits t w = true := by
  rcases ref_cases hw with rfl | ⟨a, rfl⟩ <;> cases t <;> first | rfl | cases ht
theorem own_sto {a y : Addr} {kb : ClassId} {ty : FieldType} {z : Int32} {vs : List Value} {dv : Value} {C : String} (A : Arv Z h a kb ty z vs dv) (O : Ovr Z kb C) (i : Ins Z h y C true) : Sto Z h a (.ref y) := by
  obtain ⟨cl, Ar, q, -⟩ := A
  exact Sto.ofV Ar q O i
theorem own_face (X : OSt Z EL a0 n0 h0 ws own bytes mx p l e R s m args below meth c sv T h k n) (pc' : Nat) {y z : MethodName} {C : String} {index count maxL W : Nat} {ret : Option FieldType} {rm : Room} {as' : Array Value} {ws' : List Addr} {Q : Option Value → Heap → Prop} {bc : ByteArray} {a : Addr} {argsL rest : List Value} (hd : decode bytes pc = .ok (.invokeinterface index count, 5)) (E : Exa Z h a C) (hM : OMet l Z EL n0 z [Jvm.Cond.code z bc maxL ret] rm as' h ws' Q) (w1 : (Cond.methodLink own index y).before a0 Z = true) (w2 : (Cond.declares y).before a0 Z = true) (w3 : (Cond.interfaceMethod y.cls y.cls y.name y.desc).before a0 Z = true) (w4 : (Cond.selects C y z).before a0 Z = true) (w5 : (Cond.instanceMethod z).before a0 Z = true) (w6 : (Cond.publicMethod z).before a0 Z = true) (w7 : (Cond.unhidden C y.name y.desc).before a0 Z = true) (w8 : (Cond.castable C y.cls).before a0 Z = true) (wz : (Cond.initialized z.cls).before a0 Z = true) (wc : (Cond.code z bc maxL ret).before a0 Z = true) (hy : y.cls ≠ "java/lang/invoke/MethodHandle" ∧ y.cls ≠ "java/lang/invoke/VarHandle")
    (hlen : ∀ sig, parseMethodDescriptor y.desc = some sig → argsL.length = sig.parameters.length) (hst : st = argsL.reverse ++ .ref a :: rest) (has : (.ref a :: argsL).toArray = as') (hsz : Ls.size = mx) (hW : (rest.map fun v => v.category).sum = W) (hf : rm.frames + 1 ≤ R.frames) (hl : W + (maxL + 11) + rm.locals ≤ R.locals) (hc : k + rm.cells ≤ R.cells) (hs : n + rm.slots ≤ R.slots) (hsv : ∀ x ∈ ws', x ∈ sv) (hq : pc' = pc + 5)
    (K : ∀ (T' : State) (h' : Heap) (v : Option Value), OSt Z EL a0 n0 h0 ws own bytes mx p l e R s m args below meth c sv T' h' (k + rm.cells) (n + rm.slots) → Keep h h' ws' → Q v h' → OGo p.tables e below P T' (mkF m pc' Ls (v.toList ++ rest))) : OGo p.tables e below P T (mkF m pc Ls st) := by
  subst hq
  obtain ⟨hx, hby, hml, eT, hlk, vm0, locs, Y, I⟩ := X
  have I0 := I
  obtain ⟨b1, b2, b3, b4, b5, b6, b7, b8, b9, b10, b11⟩ := I0
  have hS : ∀ x ∈ ws', x < h.size ∧ Safe Z EL vm0 h x := fun x hx => ⟨(b11 x (hsv x hx)).2.1, (b11 x (hsv x hx)).2.2.2⟩
  have hZ : Z.Warmed39 (s.setVm vm0).vm := b5
  have hW' : 2 * (mkF m pc Ls st).monitorRoom + (rest.map fun v => v.category).sum ≤ W := by show 2 * 0 + _ ≤ _; rw [hW]; omega
  obtain ⟨cq, kq, qa, qb, qc⟩ := isOf (s := s.setVm vm0) hZ eT E
  by_cases hnil : EL = []
  · obtain ⟨v, vm₁, ⟨U, L', k', n'⟩, -, Y', ⟨L, ⟨q1, q2, q3⟩, l1, l2, l3⟩, stp⟩ := Y.interfaceBack hx (xi := y) (y := z) (show (s.setVm vm0).vm.findClass own = _ from b6) (mvT hZ w1 (by first | rfl | decide | simp [Cond.onTables, Cond.keepsFace, Cond.keeps, Cond.steady, Cond.faceAtom, hy.1, hy.2])) (mvT hZ w2 (by first | rfl | decide | simp [Cond.onTables, Cond.keepsFace, Cond.keeps, Cond.steady, Cond.faceAtom, hy.1, hy.2])) (mvT hZ w3 (by first | rfl | decide | simp [Cond.onTables, Cond.keepsFace, Cond.keeps, Cond.steady, Cond.faceAtom, hy.1, hy.2])) (mvT hZ w4 (by first | rfl | decide | simp [Cond.onTables, Cond.keepsFace, Cond.keeps, Cond.steady, Cond.faceAtom, hy.1, hy.2])) (mvT hZ w5 (by first | rfl | decide | simp [Cond.onTables, Cond.keepsFace, Cond.keeps, Cond.steady, Cond.faceAtom, hy.1, hy.2])) (mvT hZ w6 (by first | rfl | decide | simp [Cond.onTables, Cond.keepsFace, Cond.keeps, Cond.steady, Cond.faceAtom, hy.1, hy.2])) (mvT hZ w7 (by first | rfl | decide | simp [Cond.onTables, Cond.keepsFace, Cond.keeps, Cond.steady, Cond.faceAtom, hy.1, hy.2])) (mvT hZ w8 (by first | rfl | decide | simp [Cond.onTables, Cond.keepsFace, Cond.keeps, Cond.steady, Cond.faceAtom, hy.1, hy.2])) hy (own_payN hnil hM b5 wc wz hf hl b7 b8.1 hS) qa qb qc (g := mkF m pc Ls st) rfl (by rw [hml]; exact hsz) (Steps.refl _) (argsL := argsL) (rest := rest) hlen hst hW' (hb hby hd) (fun _ _ => ⟨has, eT, hc, hs⟩)
    dsimp only [Pt.U, Pt.locs, Pt.cells, Pt.slots] at Y' l1 l2 l3 q1 q2 q3 stp
    subst l1 l2 l3
    exact og (fun _ q => stp.trans q) (K U U.heap v ⟨hx, hby, hml, rfl, hlk, vm0, _, Y', I.keep q2 hsv q1⟩ q2 q3)
  · obtain ⟨v, vm₁, ⟨U, L', k', n'⟩, -, Y', S', g', ⟨L, ⟨q1, q2, q3⟩, l1, l2, l3, C⟩, stp⟩ := Y.interfaceBackS hx (xi := y) (y := z) (show (s.setVm vm0).vm.findClass own = _ from b6) (mvT hZ w1 (by first | rfl | decide | simp [Cond.onTables, Cond.keepsFace, Cond.keeps, Cond.steady, Cond.faceAtom, hy.1, hy.2])) (mvT hZ w2 (by first | rfl | decide | simp [Cond.onTables, Cond.keepsFace, Cond.keeps, Cond.steady, Cond.faceAtom, hy.1, hy.2])) (mvT hZ w3 (by first | rfl | decide | simp [Cond.onTables, Cond.keepsFace, Cond.keeps, Cond.steady, Cond.faceAtom, hy.1, hy.2])) (mvT hZ w4 (by first | rfl | decide | simp [Cond.onTables, Cond.keepsFace, Cond.keeps, Cond.steady, Cond.faceAtom, hy.1, hy.2])) (mvT hZ w5 (by first | rfl | decide | simp [Cond.onTables, Cond.keepsFace, Cond.keeps, Cond.steady, Cond.faceAtom, hy.1, hy.2])) (mvT hZ w6 (by first | rfl | decide | simp [Cond.onTables, Cond.keepsFace, Cond.keeps, Cond.steady, Cond.faceAtom, hy.1, hy.2])) (mvT hZ w7 (by first | rfl | decide | simp [Cond.onTables, Cond.keepsFace, Cond.keeps, Cond.steady, Cond.faceAtom, hy.1, hy.2])) (mvT hZ w8 (by first | rfl | decide | simp [Cond.onTables, Cond.keepsFace, Cond.keeps, Cond.steady, Cond.faceAtom, hy.1, hy.2])) hy (own_payW hM b5 wc wz hf hl b7 b8.1 hS) qa qb qc (g := mkF m pc Ls st) rfl (by rw [hml]; exact hsz) (Steps.refl _) (argsL := argsL) (rest := rest) hlen hst hW' (hb hby hd) (fun _ _ => ⟨has, eT, hc, hs⟩)
    dsimp only [Pt.U, Pt.locs, Pt.cells, Pt.slots] at Y' l1 l2 l3 q1 q2 q3 stp S' g' C
    subst l1 l2 l3
    exact og (fun _ q => stp.trans q) (K U U.heap v ⟨hx, hby, hml, rfl, hlk, U.vm, _, Y', I.call q2 hsv q1 C S' (fun q => absurd q hnil)⟩ q2 q3)
theorem own_ldcO (X : OSt Z EL a0 n0 h0 ws own bytes mx p l e R s m args below meth c sv T h k n) (pc' : Nat) {index cap : Nat} {text : String} (hd : decode bytes pc = .ok (.ldc index, 2)) (hne : EL ≠ []) (w : (Cond.stringLink own index text).before a0 Z = true) (wS : ∀ a ∈ Bundle.stringAtoms, a.before a0 Z = true) (hcap : 4 * text.toList.length ≤ cap) (hbig : cap ≤ 536870912) (hc : k + 2 ≤ R.cells) (hl : n + (cap + 4) ≤ R.slots) (hq : pc' = pc + 2)
    (K : ∀ (T' : State) (h' : Heap) (a : Addr), OSt Z EL a0 n0 h0 ws own bytes mx p l e R s m args below meth c sv T' h' (k + 2) (n + (cap + 4)) → Keep h h' [] → OGo p.tables e below P T' (mkF m pc' Ls (.ref a :: st))) : OGo p.tables e below P T (mkF m pc Ls st) := by
  subst hq
  obtain ⟨hx, hby, hml, eT, hlk, vm0, locs, Y, I⟩ := X
  have I0 := I
  obtain ⟨b1, b2, b3, ⟨k0, b4, b4'⟩, b5, b6, b7, b8, b9, b10, b11⟩ := I0
  obtain ⟨a, T', h', k1, Y', e', E, S', hk', hZ', hown', C, -, stp⟩ := ldcOH Y hx b5 b6 w wS eT b4 b4' b7 b8.1 (g := mkF m pc Ls st) rfl (hb hby hd) hcap hbig hc hl
  have hZ' : Z.Warmed39 T'.vm := hZ'
  refine og stp (K T' h' a ⟨hx, hby, hml, e', hlk, T'.vm, locs, Y', b1, b2.ext E, b3.ext E, ⟨k1, S', hk'⟩, hZ', hown', b7, b8.trans C, fun q => absurd q hne, b10, fun x hx => ?_⟩ ((Keep.refl _ _).ext E))
  exact ⟨(b11 x hx).1, Nat.lt_of_lt_of_le (b11 x hx).2.1 E.1, (b11 x hx).2.2.1, C.safe (b11 x hx).2.1 (b11 x hx).2.2.2⟩
theorem own_ldcR (X : OSt Z EL a0 n0 h0 ws own bytes mx p l e R s m args below meth c sv T h k n) (pc' : Nat) {index cap : Nat} {text : String} {vs : List Value} {z : Int32} (hd : decode bytes pc = .ok (.ldc index, 2)) (hmem : (own, index) ∈ EL) (w : (Cond.stringLink own index text).before a0 Z = true) (wS : ∀ a ∈ Bundle.stringAtoms, a.before a0 Z = true) (ht : (∀ c ∈ text.toList, c.toNat < 256) ∧ text.toList.map (fun c => Value.int (Jvm.Lit.byteI c.toNat.toUInt16)) = vs) (hz : ¬ z < 0) (hlz : z.toNatClampNeg = vs.length) (hcap : 4 * text.toList.length ≤ cap) (hbig : cap ≤ 536870912) (hc : k + 2 ≤ R.cells) (hl : n + (cap + 4) ≤ R.slots) (hq : pc' = pc + 2)
    (K : ∀ (T' : State) (h' : Heap) (a b : Addr) (kb : ClassId), OSt Z EL a0 n0 h0 ws own bytes mx p l e R s m args below meth c sv T' h' (k + 2) (n + (cap + 4)) → Keep h h' [] → Exa Z h' a "java/lang/String" → Fld Z h' a "java/lang/String" "coder" "B" (.int 0) → Fld Z h' a "java/lang/String" "value" "[B" (.ref b) → Arv Z h' b kb .byte z vs (.int 0) → (∀ x ∈ sv, x ≠ a ∧ x ≠ b) → OGo p.tables e below P T' (mkF m pc' Ls (.ref a :: st))) : OGo p.tables e below P T (mkF m pc Ls st) := by
  subst hq
  obtain ⟨hx, hby, hml, eT, hlk, vm0, locs, Y, I⟩ := X
  have I0 := I
  obtain ⟨b1, b2, b3, ⟨k0, b4, b4'⟩, b5, b6, b7, b8, b9, b10, b11⟩ := I0
  obtain ⟨a, T', h', k1, b, kb, Y', e', E, S', hk', hZ', hown', r1, r2, r3, r4, r5, r6, C, -, far, stp⟩ := ldcCH Y hx b5 b6 w wS eT b4 b4' b7 hmem b8.1 ht hz hlz (g := mkF m pc Ls st) rfl (hb hby hd) hcap hbig hc hl
  have hZ' : Z.Warmed39 T'.vm := hZ'
  have sf : ∀ x ∈ sv, Safe Z EL T'.vm h' x := fun x hx => C.safe (b11 x hx).2.1 (b11 x hx).2.2.2
  refine og stp (K T' h' a b kb ⟨hx, hby, hml, e', hlk, T'.vm, locs, Y', b1, b2.ext E, b3.ext E, ⟨k1, S', hk'⟩, hZ', hown', b7, b8.trans C, fun q => ?_, b10, fun x hx => ?_⟩ ((Keep.refl _ _).ext E) r1 r2 r3 r4 fun x hx => far x (sf x hx))
  · rw [q] at hmem; cases hmem
  · exact ⟨(b11 x hx).1, Nat.lt_of_lt_of_le (b11 x hx).2.1 E.1, (b11 x hx).2.2.1, sf x hx⟩
theorem own_n0 (X : OSt Z EL a0 n0 h0 ws own bytes mx p l e R s m args below meth c sv T h k n) : n0 ≤ h.size := X.old.1 ▸ X.old.2.1
theorem own_svE (X : OSt Z EL a0 n0 h0 ws own bytes mx p l e R s m args below meth c sv T h k n) {r : Addr} {C : String} (E : Exa Z h r C) (h1 : C ≠ "java/lang/String") (h2 : C ≠ "[B") (hn : n0 ≤ r) (hg : h0.size ≤ r) : OSt Z EL a0 n0 h0 ws own bytes mx p l e R s m args below meth c (r :: sv) T h k n := by
  obtain ⟨a1, a2, a3, a4, a5, vm0, locs, Y, b1, b2, b3, b4, b5, b6, b7, b8, b9, b10, b11⟩ := X
  refine ⟨a1, a2, a3, a4, a5, vm0, locs, Y, b1, b2, b3, b4, b5, b6, b7, b8, b9, b10, fun x hx => ?_⟩
  rcases List.mem_cons.mp hx with rfl | hx
  · exact ⟨hn, E.lt, Or.inr hg, Safe.exa b5.alike E h1 h2⟩
  · exact b11 x hx
theorem own_svA (X : OSt Z EL a0 n0 h0 ws own bytes mx p l e R s m args below meth c sv T h k n) {r : Addr} {kb : ClassId} {ty : FieldType} {z : Int32} {vs : List Value} {dv : Value} (A : Arv Z h r kb ty z vs dv) (h1 : ty ≠ .byte) (hn : n0 ≤ r) (hg : h0.size ≤ r) : OSt Z EL a0 n0 h0 ws own bytes mx p l e R s m args below meth c (r :: sv) T h k n := by
  obtain ⟨a1, a2, a3, a4, a5, vm0, locs, Y, b1, b2, b3, b4, b5, b6, b7, b8, b9, b10, b11⟩ := X
  refine ⟨a1, a2, a3, a4, a5, vm0, locs, Y, b1, b2, b3, b4, b5, b6, b7, b8, b9, b10, fun x hx => ?_⟩
  rcases List.mem_cons.mp hx with rfl | hx
  · exact ⟨hn, A.lt, Or.inr hg, Safe.arv b5.alike A h1⟩
  · exact b11 x hx
def OFar (Z : State) (h : Heap) (B : Nat) (y : Addr) : Prop := B ≤ y ∨ ∃ (C : String) (kk : Nat) (a0 : Array Value), Exa Z h y C ∧ C ≠ "java/lang/String" ∧ (Jvm.Cond.instantiable C kk).before a0 Z = true
def OStr (Z : State) (h : Heap) (x : Addr) (cs : List Int32) (B : Nat) : Prop := ∃ (t : Addr) (kb : ClassId) (cd N : Int32) (vs : List Value), Exa Z h x "java/lang/String" ∧ Fld Z h x "java/lang/String" "coder" "B" (.int cd) ∧ Fld Z h x "java/lang/String" "value" "[B" (.ref t) ∧ Arv Z h t kb .byte N vs (.int 0) ∧ StrChars.Road.CodA cs cd N vs ∧ (∀ c ∈ cs, ¬ c < 0 ∧ ¬ (65535 : Int32) < c) ∧ cs.length ≤ 4000 ∧ x < B ∧ t < B
theorem OStr.exa {Z : State} {h : Heap} {x : Addr} {cs : List Int32} {B : Nat} (F : OStr Z h x cs B) : Exa Z h x "java/lang/String" := by obtain ⟨t, kb, cd, N, vs, r, -⟩ := F; exact r
theorem OStr.lt {Z : State} {h : Heap} {x : Addr} {cs : List Int32} {B : Nat} (F : OStr Z h x cs B) : x < h.size := F.exa.lt
theorem OStr.ltB {Z : State} {h : Heap} {x : Addr} {cs : List Int32} {B : Nat} (F : OStr Z h x cs B) : x < B := by obtain ⟨t, kb, cd, N, vs, -, -, -, -, -, -, -, r, -⟩ := F; exact r
theorem OStr.top {Z : State} {h : Heap} {x : Addr} {cs : List Int32} {B : Nat} (F : OStr Z h x cs B) : OStr Z h x cs h.size := by
  obtain ⟨t, kb, cd, N, vs, r1, r2, r3, r4, r5, r6, r7, -, -⟩ := F
  exact ⟨t, kb, cd, N, vs, r1, r2, r3, r4, r5, r6, r7, r1.lt, r4.lt⟩
theorem OStr.keep {Z : State} {h h' : Heap} {x : Addr} {cs : List Int32} {B : Nat} {ws : List Addr} (F : OStr Z h x cs B) (K : Keep h h' ws) (q : ∀ y ∈ ws, OFar Z h B y) : OStr Z h' x cs B := by
  obtain ⟨t, kb, cd, N, vs, r1, r2, r3, r4, r5, r6, r7, r8, r9⟩ := F
  have nx : x ∉ ws := fun hx => by
    rcases q x hx with u | ⟨C, kk, a0, E, hC, -⟩
    · exact absurd r8 (Nat.not_lt.mpr u)
    · exact ne_exa r1 E (Ne.symm hC) rfl
  have nt : t ∉ ws := fun hx => by
    rcases q t hx with u | ⟨C, kk, a0, E, hC, wi⟩
    · exact absurd r9 (Nat.not_lt.mpr u)
    · obtain ⟨c, A, -⟩ := r4
      exact ne_arr E wi A rfl
  exact ⟨t, kb, cd, N, vs, r1.keep K, r2.keep K nx, r3.keep K nx, r4.keep K nt, r5, r6, r7, r8, r9⟩
theorem own_mkStr {Z : State} {h : Heap} {x t : Addr} {kb : ClassId} {cs bs : List Int32} {N : Int32} {n : Nat} (E : Exa Z h x "java/lang/String") (C : Fld Z h x "java/lang/String" "coder" "B" (.int 0)) (V : Fld Z h x "java/lang/String" "value" "[B" (.ref t)) (A : Arv Z h t kb .byte N (bs.map Value.int) (.int 0)) (hb : bs = cs.map (fun c => c.toInt8.toInt32)) (hp : ∀ c ∈ cs, ¬ c < 0 ∧ ¬ (255 : Int32) < c) (hn : cs.length = n) (hN : N = Int32.ofNat n) (hl : n ≤ 4000) : OStr Z h x cs h.size := by
  subst hn hN hb
  exact ⟨t, kb, 0, _, _, E, C, V, A, StrChars.Road.codOf rfl (fun c hc => (hp c hc).2), fun c hc => ⟨(hp c hc).1, own_up8 (hp c hc).2⟩, hl, E.lt, A.lt⟩
theorem own_strLen  (X : OSt Z EL a0 n0 h0 ws own bytes mx p l e R s m args below meth c sv T h k n) (pc' : Nat) {index W : Nat} {x : Addr} {cs : List Int32} {B1 : Nat} {z0 : Int32} {rest : List Value} (hd : decode bytes pc = .ok (.invokevirtual index, 3)) (S1 : OStr Z h x cs B1) (hwq : ∀ d ∈ StrChars.Road.wordsLen, d.before a0 Z = true) (wi : (Jvm.Cond.instantiable "java/lang/String" 4).before a0 Z = true) (hcs : Sta Z Z.heap "java/lang/String" "COMPACT_STRINGS" "Z" (.int z0)) (hz : ¬ z0 = 0)
    (w1 : (Jvm.Cond.methodLink own index (⟨"java/lang/String", "length", "()I"⟩ : MethodName)).before a0 Z = true) (w2 : (Jvm.Cond.declares (⟨"java/lang/String", "length", "()I"⟩ : MethodName)).before a0 Z = true) (w3 : (Jvm.Cond.selects "java/lang/String" (⟨"java/lang/String", "length", "()I"⟩ : MethodName) (⟨"java/lang/String", "length", "()I"⟩ : MethodName)).before a0 Z = true) (w4 : (Jvm.Cond.instanceMethod (⟨"java/lang/String", "length", "()I"⟩ : MethodName)).before a0 Z = true)
    (hsz : Ls.size = mx) (hW : (rest.map fun v => v.category).sum = W) (hfr : 2 ≤ R.frames) (hlo : W + 25 ≤ R.locals) (hc : k ≤ R.cells) (hs : n ≤ R.slots) (hq : pc' = pc + 3)
    (K : ∀ (T' : State), OSt Z EL a0 n0 h0 ws own bytes mx p l e R s m args below meth c sv T' h k n → OGo p.tables e below P T' (mkF m pc' Ls (.int (Int32.ofNat cs.length) :: rest))) : OGo p.tables e below P T (mkF m pc Ls (.ref x :: rest)) := by
  obtain ⟨t1, k1, cd1, N1, vs1, E1, C1, V1, A1, c1, b1, l1, -, -⟩ := S1
  have O1 := X.old
  have hpd : parseMethodDescriptor "()I" = some ⟨[], some .int⟩ := by decide +kernel
  refine own_virtB X pc' (a := x) (argsL := []) (rest := rest) (Q := fun v h' L => (v = some (.int (Int32.ofNat cs.length)) ∧ L = [] ∧ h' = h)) hd E1 (fun _ hZ => notFace_of_selects (args := #[]) (mvT hZ w3)) (fun vm0 hZ => StrChars.Road.lenW (W := W) hZ hwq (kI := 4) wi E1 V1 C1 A1 c1 b1 (hcs.ext O1.2) hz l1 hfr hlo) (ws' := []) (fun v h' L q => ⟨by obtain ⟨-, rfl, -⟩ := q; exact Fr.nil _, by obtain ⟨-, -, rfl⟩ := q; exact Keep.refl _ _⟩) w1 w2 w3 w4 (by decide) (lenOf hpd rfl) rfl rfl hsz hW hc hs all0 hq ?_
  rintro T' h' v L X' K' ⟨rfl, -, rfl⟩
  exact K T' X'
theorem own_svB (X : OSt Z EL a0 n0 h0 ws own bytes mx p l e R s m args below meth c sv T h k n) {r : Addr} {kb : ClassId} {z : Int32} {vs : List Value} {dv : Value} (A : Arv Z h r kb .byte z vs dv) (hT : ∀ q ∈ EL, ∃ text : String, (Cond.stringLink q.1 q.2 text).before a0 Z = true ∧ (∀ c ∈ text.toList, c.toNat < 256) ∧ text.toList.length ≠ z.toNatClampNeg) (hn : n0 ≤ r) (hg : h0.size ≤ r) : OSt Z EL a0 n0 h0 ws own bytes mx p l e R s m args below meth c (r :: sv) T h k n := by
  obtain ⟨a1, a2, a3, a4, a5, vm0, locs, Y, b1, b2, b3, b4, b5, b6, b7, b8, b9, b10, b11⟩ := X
  refine ⟨a1, a2, a3, a4, a5, vm0, locs, Y, b1, b2, b3, b4, b5, b6, b7, b8, b9, b10, fun x hx => ?_⟩
  rcases List.mem_cons.mp hx with rfl | hx
  · refine ⟨hn, A.lt, Or.inr hg, fun B => ?_⟩
    obtain ⟨cl, A1, -, S, -⟩ := A
    obtain ⟨A1, ⟨-, kA, hkA, compA, hkindA⟩, -⟩ := A1
    obtain ⟨kA', hkA', ekA⟩ := b5.alike.2.2 _ _ hkA
    obtain ⟨pr, hp, u, a, hbk, q, -, F, e1 | e1⟩ := B
    · subst e1
      cases (show h[q.sa]? = some q.sC from F.ha).symm.trans A1
      obtain ⟨cS, ⟨-, -, e2⟩, ⟨kS, g1, g2, -⟩, -⟩ := F
      subst e2
      cases (show vm0.classes[q.sC.cls]? = some kS from g1).symm.trans hkA'
      rw [ekA] at g2
      have := hkindA.symm.trans g2
      cases this
    · subst e1
      cases (show h[q.sd]? = some q.SA from F.hd).symm.trans A1
      obtain ⟨cS, -, -, -, hbyt⟩ := F
      obtain ⟨text, wl, ht, hne⟩ := hT pr hp
      obtain ⟨c', k', cf, i, hc', hk', hcf', hpool, hu, -⟩ := hbk
      have wl' : (Cond.stringLink pr.1 pr.2 text).before a0 (Wst Z vm0 h) = true := mvS (s := { Z with heap := h }) b5 wl
      obtain ⟨k2, cf0, i0, units0, hk, hcf, hp0, hu0, -, htext, -⟩ := Cond.stringLink_spec (s := Wst Z vm0 h) hc' wl'
      cases hk'.symm.trans hk
      cases hcf'.symm.trans hcf
      cases hpool.symm.trans hp0
      cases hu.symm.trans hu0
      have hlat := Jvm.ClassFile.lat_of_text htext ht
      have e3 := congrArg List.length (Jvm.ClassFile.units_of_text htext ht)
      have hsz : q.SA.slots.size = u.size := by rw [hbyt, Jvm.Free.SBG.stringBytes_lat hlat]; simp
      refine hne ?_
      rw [← S, hsz]
      simpa using e3.symm
  · exact b11 x hx
theorem own_txc {Z : State} {a0 : Array Value} {EL : List (String × Nat)} {own text : String} {index n : Nat} (w : (Cond.stringLink own index text).before a0 Z = true) (ht : ∀ c ∈ text.toList, c.toNat < 256) (hl : text.toList.length ≠ n) (E : ∀ q ∈ EL, ∃ text : String, (Cond.stringLink q.1 q.2 text).before a0 Z = true ∧ (∀ c ∈ text.toList, c.toNat < 256) ∧ text.toList.length ≠ n) : ∀ q ∈ (own, index) :: EL, ∃ text : String, (Cond.stringLink q.1 q.2 text).before a0 Z = true ∧ (∀ c ∈ text.toList, c.toNat < 256) ∧ text.toList.length ≠ n := fun q hq => by
  rcases List.mem_cons.mp hq with rfl | hq
  · exact ⟨text, w, ht, hl⟩
  · exact E q hq
theorem own_mkStrW {Z : State} {h : Heap} {x t : Addr} {kb : ClassId} {cs : List Int32} {N : Int32} {n : Nat} (E : Exa Z h x "java/lang/String") (C : Fld Z h x "java/lang/String" "coder" "B" (.int 1)) (V : Fld Z h x "java/lang/String" "value" "[B" (.ref t)) (A : Arv Z h t kb .byte N (StrChars.Road.wideBytes cs) (.int 0)) (hw : ∃ c ∈ cs, (255 : Int32) < c) (hp : ∀ c ∈ cs, ¬ c < 0 ∧ ¬ (65535 : Int32) < c) (hn : cs.length = n) (hN : N = Int32.ofNat (2 * n)) (hl : n ≤ 4000) : OStr Z h x cs h.size := by
  subst hn hN
  exact ⟨t, kb, 1, _, _, E, C, V, A, Or.inr ⟨rfl, rfl, rfl, hw⟩, hp, hl, E.lt, A.lt⟩
theorem own_l16 {cs : List Int32} {c : Int32} (h : ¬ c < 0 ∧ ¬ (65535 : Int32) < c) (q : ∀ c ∈ cs, ¬ c < 0 ∧ ¬ (65535 : Int32) < c) : ∀ d ∈ c :: cs, ¬ d < 0 ∧ ¬ (65535 : Int32) < d := fun d hd => by
  rcases List.mem_cons.mp hd with rfl | u
  · exact h
  · exact q d u
theorem own_cut {α : Type} (X : OSt Z EL a0 n0 h0 ws own bytes mx p l e R s m args below meth c sv T h k n) (pc2 : Nat) (Ls2 : α → Array Slot) (st2 : α → List Value) (ok : α → Prop) (J : ∀ (T' : State) (h' : Heap), OSt Z EL a0 n0 h0 ws own bytes mx p l e R s m args below meth c sv T' h' k n → Keep h h' [] → ∀ w : α, ok w → OGo p.tables e below P T' (mkF m pc2 (Ls2 w) ((st2 w)))) (K : (∀ (T' : State) (h' : Heap), OSt Z EL a0 n0 h0 ws own bytes mx p l e R s m args below meth c sv T' h' k n → Keep h h' [] → ∀ w : α, ok w → OGo p.tables e below P T' (mkF m pc2 (Ls2 w) ((st2 w)))) → OGo p.tables e below P T (mkF m pc Ls st)) : OGo p.tables e below P T (mkF m pc Ls st) := K J
end OwnKit
theorem ow {Z : State} {a0 : Array Value} (hw : ∀ d ∈ tables_1, d.before a0 Z = true) (i : Nat) {d : Jvm.Cond} (h : tables_1[i]? = some d) : d.before a0 Z = true := hw d (List.mem_of_getElem? h)
theorem om {α : Type} {L : List α} {a : α} (i : Nat) (h : L[i]? = some a) : a ∈ L := List.mem_of_getElem? h
def own_EL : List (String × Nat) := consts_1
def OWorld (Z : State) (a0 : Array Value) : Prop := EW Z a0 own_EL ∧ (Sta Z Z.heap "java/lang/String" "COMPACT_STRINGS" "Z" (.int (own_sti Z "java/lang/String" "COMPACT_STRINGS" "Z")) ∧ ¬ (own_sti Z "java/lang/String" "COMPACT_STRINGS" "Z") = 0) ∧ (Sta Z Z.heap "jdk/internal/util/Preconditions" "SIOOBE_FORMATTER" "Ljava/util/function/BiFunction;" (own_stv Z "jdk/internal/util/Preconditions" "SIOOBE_FORMATTER" "Ljava/util/function/BiFunction;") ∧ (own_stv Z "jdk/internal/util/Preconditions" "SIOOBE_FORMATTER" "Ljava/util/function/BiFunction;").isRef = true) ∧ (Sta Z Z.heap "java/lang/StringUTF16" "$assertionsDisabled" "Z" (.int 1)) ∧ (Sta Z Z.heap "java/lang/StringUTF16" "HI_BYTE_SHIFT" "I" (.int 0)) ∧ (Sta Z Z.heap "java/lang/StringUTF16" "LO_BYTE_SHIFT" "I" (.int 8))
def own_eq1 (x y : Int32) : Int32 := if x = y then 1 else 0
theorem own_rem1 {y : Int32} (h : y = 0 ∨ y = 1 ∨ y = 2 ∨ y = 3) : y % 1 = 0 := by rcases h with rfl | rfl | rfl | rfl <;> decide
theorem own_rem2 {y : Int32} (h : y = 0 ∨ y = 1 ∨ y = 2 ∨ y = 3) : y % 2 = 0 ∨ y % 2 = 1 := by rcases h with rfl | rfl | rfl | rfl <;> decide
theorem own_rem3 {y : Int32} (h : y = 0 ∨ y = 1 ∨ y = 2 ∨ y = 3) : y % 3 = 0 ∨ y % 3 = 1 ∨ y % 3 = 2 := by rcases h with rfl | rfl | rfl | rfl <;> decide
theorem own_rem4 {y : Int32} (h : y = 0 ∨ y = 1 ∨ y = 2 ∨ y = 3) : y % 4 = 0 ∨ y % 4 = 1 ∨ y % 4 = 2 ∨ y % 4 = 3 := by rcases h with rfl | rfl | rfl | rfl <;> decide
theorem ef_rm_emp4 (a : Addr) (b : Addr) (y : Value) (z : Int32) (m : MethodId) : entryFrame m #[(.ref a), (.ref b), (.int 0), (.int 0), .null] 6 = mkF m 0 #[.val (.ref a), .val (.ref b), .val (.int 0), .val (.int 0), .val .null, .unset] [] := by first | (simp [entryFrame, mkF, argsToLocals, Value.category, maxLocals]; done) | rfl
theorem pn_java_lang_String__init____CIILjava_lang_Void__V : plainFor (⟨"java/lang/String", "<init>", "([CIILjava/lang/Void;)V"⟩ : MethodName) = true := by first | exact plainFor_of_name (by first | (simp [plainName, overriddenIn]; done) | decide +kernel) | decide +kernel
theorem d2_0 : decode jdk_42_method_149_code 0 = .ok (.aload_n 0, 1) := by decide +kernel
theorem d2_1 : decode jdk_42_method_149_code 1 = .ok (.invokespecial 1, 3) := by decide +kernel
theorem d2_4 : decode jdk_42_method_149_code 4 = .ok (.iload_n 3, 1) := by decide +kernel
theorem d2_5 : decode jdk_42_method_149_code 5 = .ok (.ifCond .ne 22, 3) := by decide +kernel
theorem d2_8 : decode jdk_42_method_149_code 8 = .ok (.aload_n 0, 1) := by decide +kernel
theorem d2_9 : decode jdk_42_method_149_code 9 = .ok (.ldc 7, 2) := by decide +kernel
theorem own_wS {Z : State} {a0 : Array Value} (hw : ∀ d ∈ tables_1, d.before a0 Z = true) : ∀ d ∈ Bundle.stringAtoms, d.before a0 Z = true := fun d hd => hw d ((by decide +kernel : ∀ d ∈ Bundle.stringAtoms, d ∈ tables_1) d hd)
theorem d2_11 : decode jdk_42_method_149_code 11 = .ok (.getfield 9, 3) := by decide +kernel
theorem d2_14 : decode jdk_42_method_149_code 14 = .ok (.putfield 9, 3) := by decide +kernel
theorem d2_17 : decode jdk_42_method_149_code 17 = .ok (.aload_n 0, 1) := by decide +kernel
theorem d2_18 : decode jdk_42_method_149_code 18 = .ok (.ldc 7, 2) := by decide +kernel
theorem d2_20 : decode jdk_42_method_149_code 20 = .ok (.getfield 15, 3) := by decide +kernel
theorem d2_23 : decode jdk_42_method_149_code 23 = .ok (.putfield 15, 3) := by decide +kernel
theorem d2_26 : decode jdk_42_method_149_code 26 = .ok (.return_, 1) := by decide +kernel
theorem ef_rm_emp1 (a : Addr) (b : Addr) (y : Value) (z : Int32) (kb : ClassId) (m : MethodId) : entryFrame m #[(.ref a), (.ref b)] 2 = mkF m 0 #[.val (.ref a), .val (.ref b)] [] := by first | (simp [entryFrame, mkF, argsToLocals, Value.category, maxLocals]; done) | rfl
theorem pn_java_lang_String__init____C_V : plainFor (⟨"java/lang/String", "<init>", "([C)V"⟩ : MethodName) = true := by first | exact plainFor_of_name (by first | (simp [plainName, overriddenIn]; done) | decide +kernel) | decide +kernel
theorem d1_0 : decode jdk_42_method_3_code 0 = .ok (.aload_n 0, 1) := by decide +kernel
theorem d1_1 : decode jdk_42_method_3_code 1 = .ok (.aload_n 1, 1) := by decide +kernel
theorem d1_2 : decode jdk_42_method_3_code 2 = .ok (.iconst 0, 1) := by decide +kernel
theorem d1_3 : decode jdk_42_method_3_code 3 = .ok (.aload_n 1, 1) := by decide +kernel
theorem d1_4 : decode jdk_42_method_3_code 4 = .ok (.arraylength, 1) := by decide +kernel
theorem d1_5 : decode jdk_42_method_3_code 5 = .ok (.aconst_null, 1) := by decide +kernel
theorem d1_6 : decode jdk_42_method_3_code 6 = .ok (.invokespecial 27, 3) := by decide +kernel
theorem pd__28_5bCIILjava_2flang_2fVoid_3b_29V : parseMethodDescriptor "([CIILjava/lang/Void;)V" = some ⟨[(.array .char), .int, .int, (.object "java/lang/Void")], none⟩ := by decide +kernel
theorem d1_9 : decode jdk_42_method_3_code 9 = .ok (.return_, 1) := by decide +kernel
theorem ef_ru_len1 (b : Addr) (kb : ClassId) (vs : List Value) (dv : Value) (m : MethodId) : entryFrame m #[(.ref b)] 1 = mkF m 0 #[.val (.ref b)] [] := by first | (simp [entryFrame, mkF, argsToLocals, Value.category, maxLocals]; done) | rfl
theorem pn_java_lang_StringUTF16_length___B_I : plainFor (⟨"java/lang/StringUTF16", "length", "([B)I"⟩ : MethodName) = true := by first | exact plainFor_of_name (by first | (simp [plainName, overriddenIn]; done) | decide +kernel) | decide +kernel
theorem d23_0 : decode jdk_52_method_6_code 0 = .ok (.aload_n 0, 1) := by decide +kernel
theorem d23_1 : decode jdk_52_method_6_code 1 = .ok (.arraylength, 1) := by decide +kernel
theorem d23_2 : decode jdk_52_method_6_code 2 = .ok (.iconst 1, 1) := by decide +kernel
theorem d23_3 : decode jdk_52_method_6_code 3 = .ok (.ishr, 1) := by decide +kernel
theorem d23_4 : decode jdk_52_method_6_code 4 = .ok (.ireturn, 1) := by decide +kernel
theorem ef_ru_len2 (b : Addr) (kb : ClassId) (vs : List Value) (dv : Value) (m : MethodId) : entryFrame m #[(.ref b)] 1 = mkF m 0 #[.val (.ref b)] [] := by first | (simp [entryFrame, mkF, argsToLocals, Value.category, maxLocals]; done) | rfl
theorem ef_ru_len3 (b : Addr) (kb : ClassId) (vs : List Value) (dv : Value) (m : MethodId) : entryFrame m #[(.ref b)] 1 = mkF m 0 #[.val (.ref b)] [] := by first | (simp [entryFrame, mkF, argsToLocals, Value.category, maxLocals]; done) | rfl
theorem ef_ru_get1_0 (b : Addr) (kb : ClassId) (u : Int32) (v : Int32) (dv : Value) (m : MethodId) : entryFrame m #[(.ref b), (.int 0)] 2 = mkF m 0 #[.val (.ref b), .val (.int 0)] [] := by first | (simp [entryFrame, mkF, argsToLocals, Value.category, maxLocals]; done) | rfl
theorem pn_java_lang_StringUTF16_getChar___BI_C : plainFor (⟨"java/lang/StringUTF16", "getChar", "([BI)C"⟩ : MethodName) = true := by first | exact plainFor_of_name (by first | (simp [plainName, overriddenIn]; done) | decide +kernel) | decide +kernel
theorem d16_0 : decode jdk_52_method_5_code 0 = .ok (.getstatic 44, 3) := by decide +kernel
theorem d16_3 : decode jdk_52_method_5_code 3 = .ok (.ifCond .ne 25, 3) := by decide +kernel
theorem d16_28 : decode jdk_52_method_5_code 28 = .ok (.iload_n 1, 1) := by decide +kernel
theorem d16_29 : decode jdk_52_method_5_code 29 = .ok (.iconst 1, 1) := by decide +kernel
theorem d16_30 : decode jdk_52_method_5_code 30 = .ok (.ishl, 1) := by decide +kernel
theorem d16_31 : decode jdk_52_method_5_code 31 = .ok (.istore_n 1, 1) := by decide +kernel
theorem d16_32 : decode jdk_52_method_5_code 32 = .ok (.aload_n 0, 1) := by decide +kernel
theorem d16_33 : decode jdk_52_method_5_code 33 = .ok (.iload_n 1, 1) := by decide +kernel
theorem d16_34 : decode jdk_52_method_5_code 34 = .ok (.iinc 1 1, 3) := by decide +kernel
theorem d16_37 : decode jdk_52_method_5_code 37 = .ok (.baload, 1) := by decide +kernel
theorem d16_38 : decode jdk_52_method_5_code 38 = .ok (.sipush 255, 3) := by decide +kernel
theorem d16_41 : decode jdk_52_method_5_code 41 = .ok (.iand, 1) := by decide +kernel
theorem d16_42 : decode jdk_52_method_5_code 42 = .ok (.getstatic 59, 3) := by decide +kernel
theorem d16_45 : decode jdk_52_method_5_code 45 = .ok (.ishl, 1) := by decide +kernel
theorem d16_46 : decode jdk_52_method_5_code 46 = .ok (.aload_n 0, 1) := by decide +kernel
theorem d16_47 : decode jdk_52_method_5_code 47 = .ok (.iload_n 1, 1) := by decide +kernel
theorem d16_48 : decode jdk_52_method_5_code 48 = .ok (.baload, 1) := by decide +kernel
theorem d16_49 : decode jdk_52_method_5_code 49 = .ok (.sipush 255, 3) := by decide +kernel
theorem d16_52 : decode jdk_52_method_5_code 52 = .ok (.iand, 1) := by decide +kernel
theorem d16_53 : decode jdk_52_method_5_code 53 = .ok (.getstatic 63, 3) := by decide +kernel
theorem d16_56 : decode jdk_52_method_5_code 56 = .ok (.ishl, 1) := by decide +kernel
theorem d16_57 : decode jdk_52_method_5_code 57 = .ok (.ior, 1) := by decide +kernel
theorem d16_58 : decode jdk_52_method_5_code 58 = .ok (.i2c, 1) := by decide +kernel
theorem d16_59 : decode jdk_52_method_5_code 59 = .ok (.ireturn, 1) := by decide +kernel
theorem ef_ru_get2_0 (b : Addr) (kb : ClassId) (u : Int32) (v : Int32) (dv : Value) (e2 : Value) (e3 : Value) (m : MethodId) : entryFrame m #[(.ref b), (.int 0)] 2 = mkF m 0 #[.val (.ref b), .val (.int 0)] [] := by first | (simp [entryFrame, mkF, argsToLocals, Value.category, maxLocals]; done) | rfl
theorem ef_ru_get2_1 (b : Addr) (kb : ClassId) (u : Int32) (v : Int32) (dv : Value) (e0 : Value) (e1 : Value) (m : MethodId) : entryFrame m #[(.ref b), (.int 1)] 2 = mkF m 0 #[.val (.ref b), .val (.int 1)] [] := by first | (simp [entryFrame, mkF, argsToLocals, Value.category, maxLocals]; done) | rfl
theorem ef_ru_get3_0 (b : Addr) (kb : ClassId) (u : Int32) (v : Int32) (dv : Value) (e2 : Value) (e3 : Value) (e4 : Value) (e5 : Value) (m : MethodId) : entryFrame m #[(.ref b), (.int 0)] 2 = mkF m 0 #[.val (.ref b), .val (.int 0)] [] := by first | (simp [entryFrame, mkF, argsToLocals, Value.category, maxLocals]; done) | rfl
theorem ef_ru_get3_1 (b : Addr) (kb : ClassId) (u : Int32) (v : Int32) (dv : Value) (e0 : Value) (e1 : Value) (e4 : Value) (e5 : Value) (m : MethodId) : entryFrame m #[(.ref b), (.int 1)] 2 = mkF m 0 #[.val (.ref b), .val (.int 1)] [] := by first | (simp [entryFrame, mkF, argsToLocals, Value.category, maxLocals]; done) | rfl
theorem ef_ru_get3_2 (b : Addr) (kb : ClassId) (u : Int32) (v : Int32) (dv : Value) (e0 : Value) (e1 : Value) (e2 : Value) (e3 : Value) (m : MethodId) : entryFrame m #[(.ref b), (.int 2)] 2 = mkF m 0 #[.val (.ref b), .val (.int 2)] [] := by first | (simp [entryFrame, mkF, argsToLocals, Value.category, maxLocals]; done) | rfl
theorem ef_ru_nbl1 (m : MethodId) : entryFrame m #[(.int 1)] 1 = mkF m 0 #[.val (.int 1)] [] := by first | (simp [entryFrame, mkF, argsToLocals, Value.category, maxLocals]; done) | rfl
theorem pn_java_lang_StringUTF16_newBytesLength__I_I : plainFor (⟨"java/lang/StringUTF16", "newBytesLength", "(I)I"⟩ : MethodName) = true := by first | exact plainFor_of_name (by first | (simp [plainName, overriddenIn]; done) | decide +kernel) | decide +kernel
theorem d14_0 : decode jdk_52_method_3_code 0 = .ok (.iload_n 0, 1) := by decide +kernel
theorem d14_1 : decode jdk_52_method_3_code 1 = .ok (.ifCond .ge 11, 3) := by decide +kernel
theorem d14_12 : decode jdk_52_method_3_code 12 = .ok (.iload_n 0, 1) := by decide +kernel
theorem d14_13 : decode jdk_52_method_3_code 13 = .ok (.ldc 20, 2) := by decide +kernel
theorem d14_15 : decode jdk_52_method_3_code 15 = .ok (.if_icmp .lt 40, 3) := by decide +kernel
theorem d14_55 : decode jdk_52_method_3_code 55 = .ok (.iload_n 0, 1) := by decide +kernel
theorem d14_56 : decode jdk_52_method_3_code 56 = .ok (.iconst 1, 1) := by decide +kernel
theorem d14_57 : decode jdk_52_method_3_code 57 = .ok (.ishl, 1) := by decide +kernel
theorem d14_58 : decode jdk_52_method_3_code 58 = .ok (.ireturn, 1) := by decide +kernel
theorem ef_ru_nbf1 (m : MethodId) : entryFrame m #[(.int 1)] 1 = mkF m 0 #[.val (.int 1)] [] := by first | (simp [entryFrame, mkF, argsToLocals, Value.category, maxLocals]; done) | rfl
theorem pn_java_lang_StringUTF16_newBytesFor__I__B : plainFor (⟨"java/lang/StringUTF16", "newBytesFor", "(I)[B"⟩ : MethodName) = true := by first | exact plainFor_of_name (by first | (simp [plainName, overriddenIn]; done) | decide +kernel) | decide +kernel
theorem d13_0 : decode jdk_52_method_2_code 0 = .ok (.iload_n 0, 1) := by decide +kernel
theorem d13_1 : decode jdk_52_method_2_code 1 = .ok (.invokestatic 11, 3) := by decide +kernel
theorem pd__28I_29I : parseMethodDescriptor "(I)I" = some ⟨[.int], some .int⟩ := by decide +kernel
theorem d13_4 : decode jdk_52_method_2_code 4 = .ok (.newarray .byte, 2) := by decide +kernel
theorem d13_6 : decode jdk_52_method_2_code 6 = .ok (.areturn, 1) := by decide +kernel
theorem ef_ru_put1_0 (b : Addr) (kb : ClassId) (x : Int32) (dv : Value) (e0 : Value) (e1 : Value) (m : MethodId) : entryFrame m #[(.ref b), (.int 0), (.int x)] 3 = mkF m 0 #[.val (.ref b), .val (.int 0), .val (.int x)] [] := by first | (simp [entryFrame, mkF, argsToLocals, Value.category, maxLocals]; done) | rfl
theorem pn_java_lang_StringUTF16_putChar___BII_V : plainFor (⟨"java/lang/StringUTF16", "putChar", "([BII)V"⟩ : MethodName) = true := by first | exact plainFor_of_name (by first | (simp [plainName, overriddenIn]; done) | decide +kernel) | decide +kernel
theorem d15_0 : decode jdk_52_method_4_code 0 = .ok (.getstatic 44, 3) := by decide +kernel
theorem d15_3 : decode jdk_52_method_4_code 3 = .ok (.ifCond .ne 25, 3) := by decide +kernel
theorem d15_28 : decode jdk_52_method_4_code 28 = .ok (.iload_n 1, 1) := by decide +kernel
theorem d15_29 : decode jdk_52_method_4_code 29 = .ok (.iconst 1, 1) := by decide +kernel
theorem d15_30 : decode jdk_52_method_4_code 30 = .ok (.ishl, 1) := by decide +kernel
theorem d15_31 : decode jdk_52_method_4_code 31 = .ok (.istore_n 1, 1) := by decide +kernel
theorem d15_32 : decode jdk_52_method_4_code 32 = .ok (.aload_n 0, 1) := by decide +kernel
theorem d15_33 : decode jdk_52_method_4_code 33 = .ok (.iload_n 1, 1) := by decide +kernel
theorem d15_34 : decode jdk_52_method_4_code 34 = .ok (.iinc 1 1, 3) := by decide +kernel
theorem d15_37 : decode jdk_52_method_4_code 37 = .ok (.iload_n 2, 1) := by decide +kernel
theorem d15_38 : decode jdk_52_method_4_code 38 = .ok (.getstatic 59, 3) := by decide +kernel
theorem d15_41 : decode jdk_52_method_4_code 41 = .ok (.ishr, 1) := by decide +kernel
theorem d15_42 : decode jdk_52_method_4_code 42 = .ok (.i2b, 1) := by decide +kernel
theorem d15_43 : decode jdk_52_method_4_code 43 = .ok (.bastore, 1) := by decide +kernel
theorem d15_44 : decode jdk_52_method_4_code 44 = .ok (.aload_n 0, 1) := by decide +kernel
theorem d15_45 : decode jdk_52_method_4_code 45 = .ok (.iload_n 1, 1) := by decide +kernel
theorem d15_46 : decode jdk_52_method_4_code 46 = .ok (.iload_n 2, 1) := by decide +kernel
theorem d15_47 : decode jdk_52_method_4_code 47 = .ok (.getstatic 63, 3) := by decide +kernel
theorem d15_50 : decode jdk_52_method_4_code 50 = .ok (.ishr, 1) := by decide +kernel
theorem d15_51 : decode jdk_52_method_4_code 51 = .ok (.i2b, 1) := by decide +kernel
theorem d15_52 : decode jdk_52_method_4_code 52 = .ok (.bastore, 1) := by decide +kernel
theorem d15_53 : decode jdk_52_method_4_code 53 = .ok (.return_, 1) := by decide +kernel
theorem ef_ru_tob1 (b : Addr) (kb : ClassId) (dv : Value) (x0 : Int32) (m : MethodId) : entryFrame m #[(.ref b), (.int 0), (.int 1)] 5 = mkF m 0 #[.val (.ref b), .val (.int 0), .val (.int 1), .unset, .unset] [] := by first | (simp [entryFrame, mkF, argsToLocals, Value.category, maxLocals]; done) | rfl
theorem pn_java_lang_StringUTF16_toBytes___CII__B : plainFor (⟨"java/lang/StringUTF16", "toBytes", "([CII)[B"⟩ : MethodName) = true := by first | exact plainFor_of_name (by first | (simp [plainName, overriddenIn]; done) | decide +kernel) | decide +kernel
theorem d12_0 : decode jdk_52_method_14_code 0 = .ok (.iload_n 2, 1) := by decide +kernel
theorem d12_1 : decode jdk_52_method_14_code 1 = .ok (.invokestatic 107, 3) := by decide +kernel
theorem pd__28I_29_5bB : parseMethodDescriptor "(I)[B" = some ⟨[.int], some (.array .byte)⟩ := by decide +kernel
theorem d12_4 : decode jdk_52_method_14_code 4 = .ok (.astore_n 3, 1) := by decide +kernel
theorem d12_5 : decode jdk_52_method_14_code 5 = .ok (.iconst 0, 1) := by decide +kernel
theorem d12_6 : decode jdk_52_method_14_code 6 = .ok (.istore 4, 2) := by decide +kernel
theorem d12_8 : decode jdk_52_method_14_code 8 = .ok (.iload 4, 2) := by decide +kernel
theorem d12_10 : decode jdk_52_method_14_code 10 = .ok (.iload_n 2, 1) := by decide +kernel
theorem d12_11 : decode jdk_52_method_14_code 11 = .ok (.if_icmp .ge 21, 3) := by decide +kernel
theorem d12_14 : decode jdk_52_method_14_code 14 = .ok (.aload_n 3, 1) := by decide +kernel
theorem d12_15 : decode jdk_52_method_14_code 15 = .ok (.iload 4, 2) := by decide +kernel
theorem d12_17 : decode jdk_52_method_14_code 17 = .ok (.aload_n 0, 1) := by decide +kernel
theorem d12_18 : decode jdk_52_method_14_code 18 = .ok (.iload_n 1, 1) := by decide +kernel
theorem d12_19 : decode jdk_52_method_14_code 19 = .ok (.caload, 1) := by decide +kernel
theorem d12_20 : decode jdk_52_method_14_code 20 = .ok (.invokestatic 111, 3) := by decide +kernel
theorem own_tx2 {Z : State} {a0 : Array Value} (hw : ∀ d ∈ tables_1, d.before a0 Z = true) : ∀ q ∈ own_EL, ∃ text : String, (Jvm.Cond.stringLink q.1 q.2 text).before a0 Z = true ∧ (∀ c ∈ text.toList, c.toNat < 256) ∧ text.toList.length ≠ (2 : Int32).toNatClampNeg := (own_txc (ow hw 25 rfl) (by decide) (by decide) (own_txc (ow hw 14 rfl) (by decide) (by decide) (fun _ q => nomatch q)))
theorem pd__28_5bBII_29V : parseMethodDescriptor "([BII)V" = some ⟨[(.array .byte), .int, .int], none⟩ := by decide +kernel
theorem d12_23 : decode jdk_52_method_14_code 23 = .ok (.iinc 1 1, 3) := by decide +kernel
theorem d12_26 : decode jdk_52_method_14_code 26 = .ok (.iinc 4 1, 3) := by decide +kernel
theorem d12_29 : decode jdk_52_method_14_code 29 = .ok (.goto (-21), 3) := by decide +kernel
theorem d12_32 : decode jdk_52_method_14_code 32 = .ok (.aload_n 3, 1) := by decide +kernel
theorem d12_33 : decode jdk_52_method_14_code 33 = .ok (.areturn, 1) := by decide +kernel
theorem ef_ru_cmi1_0 (b : Addr) (kb : ClassId) (dv : Value) (d : Addr) (kd : ClassId) (x0 : Int32) (m : MethodId) : entryFrame m #[(.ref b), (.int 0), (.ref d), (.int 0), (.int 1)] 7 = mkF m 0 #[.val (.ref b), .val (.int 0), .val (.ref d), .val (.int 0), .val (.int 1), .unset, .unset] [] := by first | (simp [entryFrame, mkF, argsToLocals, Value.category, maxLocals]; done) | rfl
theorem pn_java_lang_StringUTF16_compress___CI_BII_I : plainFor (⟨"java/lang/StringUTF16", "compress", "([CI[BII)I"⟩ : MethodName) = true := by first | exact plainFor_of_name (by first | (simp [plainName, overriddenIn]; done) | decide +kernel) | decide +kernel
theorem d11_0 : decode jdk_52_method_21_code 0 = .ok (.iconst 0, 1) := by decide +kernel
theorem d11_1 : decode jdk_52_method_21_code 1 = .ok (.istore 5, 2) := by decide +kernel
theorem d11_3 : decode jdk_52_method_21_code 3 = .ok (.iload 5, 2) := by decide +kernel
theorem d11_5 : decode jdk_52_method_21_code 5 = .ok (.iload 4, 2) := by decide +kernel
theorem d11_7 : decode jdk_52_method_21_code 7 = .ok (.if_icmp .ge 37, 3) := by decide +kernel
theorem d11_10 : decode jdk_52_method_21_code 10 = .ok (.aload_n 0, 1) := by decide +kernel
theorem d11_11 : decode jdk_52_method_21_code 11 = .ok (.iload_n 1, 1) := by decide +kernel
theorem d11_12 : decode jdk_52_method_21_code 12 = .ok (.caload, 1) := by decide +kernel
theorem d11_13 : decode jdk_52_method_21_code 13 = .ok (.istore 6, 2) := by decide +kernel
theorem d11_15 : decode jdk_52_method_21_code 15 = .ok (.iload 6, 2) := by decide +kernel
theorem d11_17 : decode jdk_52_method_21_code 17 = .ok (.sipush 255, 3) := by decide +kernel
theorem d11_20 : decode jdk_52_method_21_code 20 = .ok (.if_icmp .le 6, 3) := by decide +kernel
theorem d11_23 : decode jdk_52_method_21_code 23 = .ok (.iload 5, 2) := by decide +kernel
theorem d11_25 : decode jdk_52_method_21_code 25 = .ok (.ireturn, 1) := by decide +kernel
theorem ef_ru_cmp1_0 (b : Addr) (kb : ClassId) (dv : Value) (x0 : Int32) (m : MethodId) : entryFrame m #[(.ref b), (.int 0), (.int 1)] 6 = mkF m 0 #[.val (.ref b), .val (.int 0), .val (.int 1), .unset, .unset, .unset] [] := by first | (simp [entryFrame, mkF, argsToLocals, Value.category, maxLocals]; done) | rfl
theorem pn_java_lang_StringUTF16_compress___CII__B : plainFor (⟨"java/lang/StringUTF16", "compress", "([CII)[B"⟩ : MethodName) = true := by first | exact plainFor_of_name (by first | (simp [plainName, overriddenIn]; done) | decide +kernel) | decide +kernel
theorem d10_0 : decode jdk_52_method_16_code 0 = .ok (.iload_n 2, 1) := by decide +kernel
theorem d10_1 : decode jdk_52_method_16_code 1 = .ok (.newarray .byte, 2) := by decide +kernel
theorem d10_3 : decode jdk_52_method_16_code 3 = .ok (.astore_n 3, 1) := by decide +kernel
theorem d10_4 : decode jdk_52_method_16_code 4 = .ok (.aload_n 0, 1) := by decide +kernel
theorem d10_5 : decode jdk_52_method_16_code 5 = .ok (.iload_n 1, 1) := by decide +kernel
theorem d10_6 : decode jdk_52_method_16_code 6 = .ok (.aload_n 3, 1) := by decide +kernel
theorem d10_7 : decode jdk_52_method_16_code 7 = .ok (.iconst 0, 1) := by decide +kernel
theorem d10_8 : decode jdk_52_method_16_code 8 = .ok (.iload_n 2, 1) := by decide +kernel
theorem d10_9 : decode jdk_52_method_16_code 9 = .ok (.invokestatic 115, 3) := by decide +kernel
theorem pd__28_5bCI_5bBII_29I : parseMethodDescriptor "([CI[BII)I" = some ⟨[(.array .char), .int, (.array .byte), .int, .int], some .int⟩ := by decide +kernel
theorem d10_12 : decode jdk_52_method_16_code 12 = .ok (.istore 4, 2) := by decide +kernel
theorem d10_14 : decode jdk_52_method_16_code 14 = .ok (.iload 4, 2) := by decide +kernel
theorem d10_16 : decode jdk_52_method_16_code 16 = .ok (.iload_n 2, 1) := by decide +kernel
theorem d10_17 : decode jdk_52_method_16_code 17 = .ok (.if_icmp .eq 40, 3) := by decide +kernel
theorem d10_20 : decode jdk_52_method_16_code 20 = .ok (.aload_n 0, 1) := by decide +kernel
theorem d10_21 : decode jdk_52_method_16_code 21 = .ok (.iload_n 1, 1) := by decide +kernel
theorem d10_22 : decode jdk_52_method_16_code 22 = .ok (.iload_n 2, 1) := by decide +kernel
theorem d10_23 : decode jdk_52_method_16_code 23 = .ok (.invokestatic 119, 3) := by decide +kernel
theorem pd__28_5bCII_29_5bB : parseMethodDescriptor "([CII)[B" = some ⟨[(.array .char), .int, .int], some (.array .byte)⟩ := by decide +kernel
theorem d10_26 : decode jdk_52_method_16_code 26 = .ok (.astore 5, 2) := by decide +kernel
theorem d10_28 : decode jdk_52_method_16_code 28 = .ok (.aload 5, 2) := by decide +kernel
theorem d10_30 : decode jdk_52_method_16_code 30 = .ok (.iload 4, 2) := by decide +kernel
theorem d10_32 : decode jdk_52_method_16_code 32 = .ok (.invokestatic 71, 3) := by decide +kernel
theorem pd__28_5bBI_29C : parseMethodDescriptor "([BI)C" = some ⟨[(.array .byte), .int], some .char⟩ := by decide +kernel
theorem d10_35 : decode jdk_52_method_16_code 35 = .ok (.sipush 255, 3) := by decide +kernel
theorem d10_38 : decode jdk_52_method_16_code 38 = .ok (.if_icmp .gt 16, 3) := by decide +kernel
theorem d10_54 : decode jdk_52_method_16_code 54 = .ok (.aload 5, 2) := by decide +kernel
theorem d10_56 : decode jdk_52_method_16_code 56 = .ok (.areturn, 1) := by decide +kernel
theorem ef_ru_cmi1_1 (b : Addr) (kb : ClassId) (dv : Value) (d : Addr) (kd : ClassId) (x0 : Int32) (m : MethodId) : entryFrame m #[(.ref b), (.int 0), (.ref d), (.int 0), (.int 1)] 7 = mkF m 0 #[.val (.ref b), .val (.int 0), .val (.ref d), .val (.int 0), .val (.int 1), .unset, .unset] [] := by first | (simp [entryFrame, mkF, argsToLocals, Value.category, maxLocals]; done) | rfl
theorem d11_26 : decode jdk_52_method_21_code 26 = .ok (.aload_n 2, 1) := by decide +kernel
theorem d11_27 : decode jdk_52_method_21_code 27 = .ok (.iload_n 3, 1) := by decide +kernel
theorem d11_28 : decode jdk_52_method_21_code 28 = .ok (.iload 6, 2) := by decide +kernel
theorem d11_30 : decode jdk_52_method_21_code 30 = .ok (.i2b, 1) := by decide +kernel
theorem d11_31 : decode jdk_52_method_21_code 31 = .ok (.bastore, 1) := by decide +kernel
theorem d11_32 : decode jdk_52_method_21_code 32 = .ok (.iinc 1 1, 3) := by decide +kernel
theorem d11_35 : decode jdk_52_method_21_code 35 = .ok (.iinc 3 1, 3) := by decide +kernel
theorem d11_38 : decode jdk_52_method_21_code 38 = .ok (.iinc 5 1, 3) := by decide +kernel
theorem d11_41 : decode jdk_52_method_21_code 41 = .ok (.goto (-38), 3) := by decide +kernel
theorem d11_44 : decode jdk_52_method_21_code 44 = .ok (.iload 4, 2) := by decide +kernel
theorem d11_46 : decode jdk_52_method_21_code 46 = .ok (.ireturn, 1) := by decide +kernel
theorem ef_ru_cmp1_1 (b : Addr) (kb : ClassId) (dv : Value) (x0 : Int32) (m : MethodId) : entryFrame m #[(.ref b), (.int 0), (.int 1)] 6 = mkF m 0 #[.val (.ref b), .val (.int 0), .val (.int 1), .unset, .unset, .unset] [] := by first | (simp [entryFrame, mkF, argsToLocals, Value.category, maxLocals]; done) | rfl
theorem d10_57 : decode jdk_52_method_16_code 57 = .ok (.aload_n 3, 1) := by decide +kernel
theorem d10_58 : decode jdk_52_method_16_code 58 = .ok (.areturn, 1) := by decide +kernel
theorem ef_ru_cod1_1 (b : Addr) (kb : ClassId) (vs : List Value) (dv : Value) (m : MethodId) : entryFrame m #[(.ref b), (.int 1)] 2 = mkF m 0 #[.val (.ref b), .val (.int 1)] [] := by first | (simp [entryFrame, mkF, argsToLocals, Value.category, maxLocals]; done) | rfl
theorem pn_java_lang_StringUTF16_coderFromArrayLen___BI_B : plainFor (⟨"java/lang/StringUTF16", "coderFromArrayLen", "([BI)B"⟩ : MethodName) = true := by first | exact plainFor_of_name (by first | (simp [plainName, overriddenIn]; done) | decide +kernel) | decide +kernel
theorem d17_0 : decode jdk_52_method_15_code 0 = .ok (.iload_n 1, 1) := by decide +kernel
theorem d17_1 : decode jdk_52_method_15_code 1 = .ok (.aload_n 0, 1) := by decide +kernel
theorem d17_2 : decode jdk_52_method_15_code 2 = .ok (.arraylength, 1) := by decide +kernel
theorem d17_3 : decode jdk_52_method_15_code 3 = .ok (.isub, 1) := by decide +kernel
theorem d17_4 : decode jdk_52_method_15_code 4 = .ok (.bipush 31, 2) := by decide +kernel
theorem d17_6 : decode jdk_52_method_15_code 6 = .ok (.iushr, 1) := by decide +kernel
theorem d17_7 : decode jdk_52_method_15_code 7 = .ok (.i2b, 1) := by decide +kernel
theorem d17_8 : decode jdk_52_method_15_code 8 = .ok (.ireturn, 1) := by decide +kernel
theorem ef_ru_cod1_2 (b : Addr) (kb : ClassId) (vs : List Value) (dv : Value) (m : MethodId) : entryFrame m #[(.ref b), (.int 1)] 2 = mkF m 0 #[.val (.ref b), .val (.int 1)] [] := by first | (simp [entryFrame, mkF, argsToLocals, Value.category, maxLocals]; done) | rfl
theorem ef_ru_inv1 (a : Addr) (b : Addr) (y : Value) (z : Int32) (kb : ClassId) (dv : Value) (x0 : Int32) (m : MethodId) : entryFrame m #[(.ref a), (.ref b), (.int 0), (.int 1), .null] 6 = mkF m 0 #[.val (.ref a), .val (.ref b), .val (.int 0), .val (.int 1), .val .null, .unset] [] := by first | (simp [entryFrame, mkF, argsToLocals, Value.category, maxLocals]; done) | rfl
theorem d2_27 : decode jdk_42_method_149_code 27 = .ok (.getstatic 38, 3) := by decide +kernel
theorem d2_30 : decode jdk_42_method_149_code 30 = .ok (.ifCond .eq 28, 3) := by decide +kernel
theorem d2_33 : decode jdk_42_method_149_code 33 = .ok (.aload_n 1, 1) := by decide +kernel
theorem d2_34 : decode jdk_42_method_149_code 34 = .ok (.iload_n 2, 1) := by decide +kernel
theorem d2_35 : decode jdk_42_method_149_code 35 = .ok (.iload_n 3, 1) := by decide +kernel
theorem d2_36 : decode jdk_42_method_149_code 36 = .ok (.invokestatic 177, 3) := by decide +kernel
theorem d2_39 : decode jdk_42_method_149_code 39 = .ok (.astore 5, 2) := by decide +kernel
theorem d2_41 : decode jdk_42_method_149_code 41 = .ok (.aload_n 0, 1) := by decide +kernel
theorem d2_42 : decode jdk_42_method_149_code 42 = .ok (.aload 5, 2) := by decide +kernel
theorem d2_44 : decode jdk_42_method_149_code 44 = .ok (.iload_n 3, 1) := by decide +kernel
theorem d2_45 : decode jdk_42_method_149_code 45 = .ok (.invokestatic 47, 3) := by decide +kernel
theorem pd__28_5bBI_29B : parseMethodDescriptor "([BI)B" = some ⟨[(.array .byte), .int], some .byte⟩ := by decide +kernel
theorem d2_48 : decode jdk_42_method_149_code 48 = .ok (.putfield 15, 3) := by decide +kernel
theorem d2_51 : decode jdk_42_method_149_code 51 = .ok (.aload_n 0, 1) := by decide +kernel
theorem d2_52 : decode jdk_42_method_149_code 52 = .ok (.aload 5, 2) := by decide +kernel
theorem d2_54 : decode jdk_42_method_149_code 54 = .ok (.putfield 9, 3) := by decide +kernel
theorem d2_57 : decode jdk_42_method_149_code 57 = .ok (.return_, 1) := by decide +kernel
theorem ef_ru_ini1 (a : Addr) (b : Addr) (y : Value) (z : Int32) (kb : ClassId) (dv : Value) (x0 : Int32) (m : MethodId) : entryFrame m #[(.ref a), (.ref b)] 2 = mkF m 0 #[.val (.ref a), .val (.ref b)] [] := by first | (simp [entryFrame, mkF, argsToLocals, Value.category, maxLocals]; done) | rfl
theorem ef_ru_nbl2 (m : MethodId) : entryFrame m #[(.int 2)] 1 = mkF m 0 #[.val (.int 2)] [] := by first | (simp [entryFrame, mkF, argsToLocals, Value.category, maxLocals]; done) | rfl
theorem ef_ru_nbf2 (m : MethodId) : entryFrame m #[(.int 2)] 1 = mkF m 0 #[.val (.int 2)] [] := by first | (simp [entryFrame, mkF, argsToLocals, Value.category, maxLocals]; done) | rfl
theorem ef_ru_put2_0 (b : Addr) (kb : ClassId) (x : Int32) (dv : Value) (e0 : Value) (e1 : Value) (e2 : Value) (e3 : Value) (m : MethodId) : entryFrame m #[(.ref b), (.int 0), (.int x)] 3 = mkF m 0 #[.val (.ref b), .val (.int 0), .val (.int x)] [] := by first | (simp [entryFrame, mkF, argsToLocals, Value.category, maxLocals]; done) | rfl
theorem ef_ru_put2_1 (b : Addr) (kb : ClassId) (x : Int32) (dv : Value) (e0 : Value) (e1 : Value) (e2 : Value) (e3 : Value) (m : MethodId) : entryFrame m #[(.ref b), (.int 1), (.int x)] 3 = mkF m 0 #[.val (.ref b), .val (.int 1), .val (.int x)] [] := by first | (simp [entryFrame, mkF, argsToLocals, Value.category, maxLocals]; done) | rfl
theorem ef_ru_tob2 (b : Addr) (kb : ClassId) (dv : Value) (x0 : Int32) (x1 : Int32) (m : MethodId) : entryFrame m #[(.ref b), (.int 0), (.int 2)] 5 = mkF m 0 #[.val (.ref b), .val (.int 0), .val (.int 2), .unset, .unset] [] := by first | (simp [entryFrame, mkF, argsToLocals, Value.category, maxLocals]; done) | rfl
theorem own_tx4 {Z : State} {a0 : Array Value} (hw : ∀ d ∈ tables_1, d.before a0 Z = true) : ∀ q ∈ own_EL, ∃ text : String, (Jvm.Cond.stringLink q.1 q.2 text).before a0 Z = true ∧ (∀ c ∈ text.toList, c.toNat < 256) ∧ text.toList.length ≠ (4 : Int32).toNatClampNeg := (own_txc (ow hw 25 rfl) (by decide) (by decide) (own_txc (ow hw 14 rfl) (by decide) (by decide) (fun _ q => nomatch q)))
theorem ef_ru_cmi2_0 (b : Addr) (kb : ClassId) (dv : Value) (d : Addr) (kd : ClassId) (x0 : Int32) (x1 : Int32) (m : MethodId) : entryFrame m #[(.ref b), (.int 0), (.ref d), (.int 0), (.int 2)] 7 = mkF m 0 #[.val (.ref b), .val (.int 0), .val (.ref d), .val (.int 0), .val (.int 2), .unset, .unset] [] := by first | (simp [entryFrame, mkF, argsToLocals, Value.category, maxLocals]; done) | rfl
theorem ef_ru_cmp2_0 (b : Addr) (kb : ClassId) (dv : Value) (x0 : Int32) (x1 : Int32) (m : MethodId) : entryFrame m #[(.ref b), (.int 0), (.int 2)] 6 = mkF m 0 #[.val (.ref b), .val (.int 0), .val (.int 2), .unset, .unset, .unset] [] := by first | (simp [entryFrame, mkF, argsToLocals, Value.category, maxLocals]; done) | rfl
theorem ef_ru_cmi2_1 (b : Addr) (kb : ClassId) (dv : Value) (d : Addr) (kd : ClassId) (x0 : Int32) (x1 : Int32) (m : MethodId) : entryFrame m #[(.ref b), (.int 0), (.ref d), (.int 0), (.int 2)] 7 = mkF m 0 #[.val (.ref b), .val (.int 0), .val (.ref d), .val (.int 0), .val (.int 2), .unset, .unset] [] := by first | (simp [entryFrame, mkF, argsToLocals, Value.category, maxLocals]; done) | rfl
theorem ef_ru_cmp2_1 (b : Addr) (kb : ClassId) (dv : Value) (x0 : Int32) (x1 : Int32) (m : MethodId) : entryFrame m #[(.ref b), (.int 0), (.int 2)] 6 = mkF m 0 #[.val (.ref b), .val (.int 0), .val (.int 2), .unset, .unset, .unset] [] := by first | (simp [entryFrame, mkF, argsToLocals, Value.category, maxLocals]; done) | rfl
theorem ef_ru_cmi2_2 (b : Addr) (kb : ClassId) (dv : Value) (d : Addr) (kd : ClassId) (x0 : Int32) (x1 : Int32) (m : MethodId) : entryFrame m #[(.ref b), (.int 0), (.ref d), (.int 0), (.int 2)] 7 = mkF m 0 #[.val (.ref b), .val (.int 0), .val (.ref d), .val (.int 0), .val (.int 2), .unset, .unset] [] := by first | (simp [entryFrame, mkF, argsToLocals, Value.category, maxLocals]; done) | rfl
theorem ef_ru_cmp2_2 (b : Addr) (kb : ClassId) (dv : Value) (x0 : Int32) (x1 : Int32) (m : MethodId) : entryFrame m #[(.ref b), (.int 0), (.int 2)] 6 = mkF m 0 #[.val (.ref b), .val (.int 0), .val (.int 2), .unset, .unset, .unset] [] := by first | (simp [entryFrame, mkF, argsToLocals, Value.category, maxLocals]; done) | rfl
theorem ef_ru_cod2_2 (b : Addr) (kb : ClassId) (vs : List Value) (dv : Value) (m : MethodId) : entryFrame m #[(.ref b), (.int 2)] 2 = mkF m 0 #[.val (.ref b), .val (.int 2)] [] := by first | (simp [entryFrame, mkF, argsToLocals, Value.category, maxLocals]; done) | rfl
theorem ef_ru_cod2_4 (b : Addr) (kb : ClassId) (vs : List Value) (dv : Value) (m : MethodId) : entryFrame m #[(.ref b), (.int 2)] 2 = mkF m 0 #[.val (.ref b), .val (.int 2)] [] := by first | (simp [entryFrame, mkF, argsToLocals, Value.category, maxLocals]; done) | rfl
theorem ef_ru_inv2 (a : Addr) (b : Addr) (y : Value) (z : Int32) (kb : ClassId) (dv : Value) (x0 : Int32) (x1 : Int32) (m : MethodId) : entryFrame m #[(.ref a), (.ref b), (.int 0), (.int 2), .null] 6 = mkF m 0 #[.val (.ref a), .val (.ref b), .val (.int 0), .val (.int 2), .val .null, .unset] [] := by first | (simp [entryFrame, mkF, argsToLocals, Value.category, maxLocals]; done) | rfl
theorem ef_ru_ini2 (a : Addr) (b : Addr) (y : Value) (z : Int32) (kb : ClassId) (dv : Value) (x0 : Int32) (x1 : Int32) (m : MethodId) : entryFrame m #[(.ref a), (.ref b)] 2 = mkF m 0 #[.val (.ref a), .val (.ref b)] [] := by first | (simp [entryFrame, mkF, argsToLocals, Value.category, maxLocals]; done) | rfl
theorem ef_ru_nbl3 (m : MethodId) : entryFrame m #[(.int 3)] 1 = mkF m 0 #[.val (.int 3)] [] := by first | (simp [entryFrame, mkF, argsToLocals, Value.category, maxLocals]; done) | rfl
theorem ef_ru_nbf3 (m : MethodId) : entryFrame m #[(.int 3)] 1 = mkF m 0 #[.val (.int 3)] [] := by first | (simp [entryFrame, mkF, argsToLocals, Value.category, maxLocals]; done) | rfl
theorem ef_ru_put3_0 (b : Addr) (kb : ClassId) (x : Int32) (dv : Value) (e0 : Value) (e1 : Value) (e2 : Value) (e3 : Value) (e4 : Value) (e5 : Value) (m : MethodId) : entryFrame m #[(.ref b), (.int 0), (.int x)] 3 = mkF m 0 #[.val (.ref b), .val (.int 0), .val (.int x)] [] := by first | (simp [entryFrame, mkF, argsToLocals, Value.category, maxLocals]; done) | rfl
theorem ef_ru_put3_1 (b : Addr) (kb : ClassId) (x : Int32) (dv : Value) (e0 : Value) (e1 : Value) (e2 : Value) (e3 : Value) (e4 : Value) (e5 : Value) (m : MethodId) : entryFrame m #[(.ref b), (.int 1), (.int x)] 3 = mkF m 0 #[.val (.ref b), .val (.int 1), .val (.int x)] [] := by first | (simp [entryFrame, mkF, argsToLocals, Value.category, maxLocals]; done) | rfl
theorem ef_ru_put3_2 (b : Addr) (kb : ClassId) (x : Int32) (dv : Value) (e0 : Value) (e1 : Value) (e2 : Value) (e3 : Value) (e4 : Value) (e5 : Value) (m : MethodId) : entryFrame m #[(.ref b), (.int 2), (.int x)] 3 = mkF m 0 #[.val (.ref b), .val (.int 2), .val (.int x)] [] := by first | (simp [entryFrame, mkF, argsToLocals, Value.category, maxLocals]; done) | rfl
theorem ef_ru_tob3 (b : Addr) (kb : ClassId) (dv : Value) (x0 : Int32) (x1 : Int32) (x2 : Int32) (m : MethodId) : entryFrame m #[(.ref b), (.int 0), (.int 3)] 5 = mkF m 0 #[.val (.ref b), .val (.int 0), .val (.int 3), .unset, .unset] [] := by first | (simp [entryFrame, mkF, argsToLocals, Value.category, maxLocals]; done) | rfl
theorem own_tx6 {Z : State} {a0 : Array Value} (hw : ∀ d ∈ tables_1, d.before a0 Z = true) : ∀ q ∈ own_EL, ∃ text : String, (Jvm.Cond.stringLink q.1 q.2 text).before a0 Z = true ∧ (∀ c ∈ text.toList, c.toNat < 256) ∧ text.toList.length ≠ (6 : Int32).toNatClampNeg := (own_txc (ow hw 25 rfl) (by decide) (by decide) (own_txc (ow hw 14 rfl) (by decide) (by decide) (fun _ q => nomatch q)))
theorem ef_ru_cmi3_0 (b : Addr) (kb : ClassId) (dv : Value) (d : Addr) (kd : ClassId) (x0 : Int32) (x1 : Int32) (x2 : Int32) (m : MethodId) : entryFrame m #[(.ref b), (.int 0), (.ref d), (.int 0), (.int 3)] 7 = mkF m 0 #[.val (.ref b), .val (.int 0), .val (.ref d), .val (.int 0), .val (.int 3), .unset, .unset] [] := by first | (simp [entryFrame, mkF, argsToLocals, Value.category, maxLocals]; done) | rfl
theorem ef_ru_cmp3_0 (b : Addr) (kb : ClassId) (dv : Value) (x0 : Int32) (x1 : Int32) (x2 : Int32) (m : MethodId) : entryFrame m #[(.ref b), (.int 0), (.int 3)] 6 = mkF m 0 #[.val (.ref b), .val (.int 0), .val (.int 3), .unset, .unset, .unset] [] := by first | (simp [entryFrame, mkF, argsToLocals, Value.category, maxLocals]; done) | rfl
theorem ef_ru_cmi3_1 (b : Addr) (kb : ClassId) (dv : Value) (d : Addr) (kd : ClassId) (x0 : Int32) (x1 : Int32) (x2 : Int32) (m : MethodId) : entryFrame m #[(.ref b), (.int 0), (.ref d), (.int 0), (.int 3)] 7 = mkF m 0 #[.val (.ref b), .val (.int 0), .val (.ref d), .val (.int 0), .val (.int 3), .unset, .unset] [] := by first | (simp [entryFrame, mkF, argsToLocals, Value.category, maxLocals]; done) | rfl
theorem ef_ru_cmp3_1 (b : Addr) (kb : ClassId) (dv : Value) (x0 : Int32) (x1 : Int32) (x2 : Int32) (m : MethodId) : entryFrame m #[(.ref b), (.int 0), (.int 3)] 6 = mkF m 0 #[.val (.ref b), .val (.int 0), .val (.int 3), .unset, .unset, .unset] [] := by first | (simp [entryFrame, mkF, argsToLocals, Value.category, maxLocals]; done) | rfl
theorem ef_ru_cmi3_2 (b : Addr) (kb : ClassId) (dv : Value) (d : Addr) (kd : ClassId) (x0 : Int32) (x1 : Int32) (x2 : Int32) (m : MethodId) : entryFrame m #[(.ref b), (.int 0), (.ref d), (.int 0), (.int 3)] 7 = mkF m 0 #[.val (.ref b), .val (.int 0), .val (.ref d), .val (.int 0), .val (.int 3), .unset, .unset] [] := by first | (simp [entryFrame, mkF, argsToLocals, Value.category, maxLocals]; done) | rfl
theorem ef_ru_cmp3_2 (b : Addr) (kb : ClassId) (dv : Value) (x0 : Int32) (x1 : Int32) (x2 : Int32) (m : MethodId) : entryFrame m #[(.ref b), (.int 0), (.int 3)] 6 = mkF m 0 #[.val (.ref b), .val (.int 0), .val (.int 3), .unset, .unset, .unset] [] := by first | (simp [entryFrame, mkF, argsToLocals, Value.category, maxLocals]; done) | rfl
theorem ef_ru_cmi3_3 (b : Addr) (kb : ClassId) (dv : Value) (d : Addr) (kd : ClassId) (x0 : Int32) (x1 : Int32) (x2 : Int32) (m : MethodId) : entryFrame m #[(.ref b), (.int 0), (.ref d), (.int 0), (.int 3)] 7 = mkF m 0 #[.val (.ref b), .val (.int 0), .val (.ref d), .val (.int 0), .val (.int 3), .unset, .unset] [] := by first | (simp [entryFrame, mkF, argsToLocals, Value.category, maxLocals]; done) | rfl
theorem ef_ru_cmp3_3 (b : Addr) (kb : ClassId) (dv : Value) (x0 : Int32) (x1 : Int32) (x2 : Int32) (m : MethodId) : entryFrame m #[(.ref b), (.int 0), (.int 3)] 6 = mkF m 0 #[.val (.ref b), .val (.int 0), .val (.int 3), .unset, .unset, .unset] [] := by first | (simp [entryFrame, mkF, argsToLocals, Value.category, maxLocals]; done) | rfl
theorem ef_ru_cod3_3 (b : Addr) (kb : ClassId) (vs : List Value) (dv : Value) (m : MethodId) : entryFrame m #[(.ref b), (.int 3)] 2 = mkF m 0 #[.val (.ref b), .val (.int 3)] [] := by first | (simp [entryFrame, mkF, argsToLocals, Value.category, maxLocals]; done) | rfl
theorem ef_ru_cod3_6 (b : Addr) (kb : ClassId) (vs : List Value) (dv : Value) (m : MethodId) : entryFrame m #[(.ref b), (.int 3)] 2 = mkF m 0 #[.val (.ref b), .val (.int 3)] [] := by first | (simp [entryFrame, mkF, argsToLocals, Value.category, maxLocals]; done) | rfl
theorem ef_ru_inv3 (a : Addr) (b : Addr) (y : Value) (z : Int32) (kb : ClassId) (dv : Value) (x0 : Int32) (x1 : Int32) (x2 : Int32) (m : MethodId) : entryFrame m #[(.ref a), (.ref b), (.int 0), (.int 3), .null] 6 = mkF m 0 #[.val (.ref a), .val (.ref b), .val (.int 0), .val (.int 3), .val .null, .unset] [] := by first | (simp [entryFrame, mkF, argsToLocals, Value.category, maxLocals]; done) | rfl
theorem ef_ru_ini3 (a : Addr) (b : Addr) (y : Value) (z : Int32) (kb : ClassId) (dv : Value) (x0 : Int32) (x1 : Int32) (x2 : Int32) (m : MethodId) : entryFrame m #[(.ref a), (.ref b)] 2 = mkF m 0 #[.val (.ref a), .val (.ref b)] [] := by first | (simp [entryFrame, mkF, argsToLocals, Value.category, maxLocals]; done) | rfl
theorem ef_ru_pci (x : Int32) (y : Int32) (fm : Value) (h_fm : fm.isRef = true) (m : MethodId) : entryFrame m #[(.int x), (.int y), fm] 3 = mkF m 0 #[.val (.int x), .val (.int y), .val fm] [] := by simp [entryFrame, mkF, argsToLocals, XT.cat1 h_fm, show (Value.int x).category = 1 from rfl, show (Value.int y).category = 1 from rfl]
theorem pn_jdk_internal_util_Preconditions_checkIndex__IILjava_util_function_BiFunction__I : plainFor (⟨"jdk/internal/util/Preconditions", "checkIndex", "(IILjava/util/function/BiFunction;)I"⟩ : MethodName) = true := by first | exact plainFor_of_name (by first | (simp [plainName, overriddenIn]; done) | decide +kernel) | decide +kernel
theorem d25_0 : decode jdk_41_method_11_code 0 = .ok (.iload_n 0, 1) := by decide +kernel
theorem d25_1 : decode jdk_41_method_11_code 1 = .ok (.ifCond .lt 8, 3) := by decide +kernel
theorem d25_4 : decode jdk_41_method_11_code 4 = .ok (.iload_n 0, 1) := by decide +kernel
theorem d25_5 : decode jdk_41_method_11_code 5 = .ok (.iload_n 1, 1) := by decide +kernel
theorem d25_6 : decode jdk_41_method_11_code 6 = .ok (.if_icmp .lt 10, 3) := by decide +kernel
theorem d25_16 : decode jdk_41_method_11_code 16 = .ok (.iload_n 0, 1) := by decide +kernel
theorem d25_17 : decode jdk_41_method_11_code 17 = .ok (.ireturn, 1) := by decide +kernel
theorem ef_ru_sci (x : Int32) (y : Int32) (m : MethodId) : entryFrame m #[(.int x), (.int y)] 2 = mkF m 0 #[.val (.int x), .val (.int y)] [] := by first | (simp [entryFrame, mkF, argsToLocals, Value.category, maxLocals]; done) | rfl
theorem pn_java_lang_String_checkIndex__II_V : plainFor (⟨"java/lang/String", "checkIndex", "(II)V"⟩ : MethodName) = true := by first | exact plainFor_of_name (by first | (simp [plainName, overriddenIn]; done) | decide +kernel) | decide +kernel
theorem d24_0 : decode jdk_42_method_155_code 0 = .ok (.iload_n 0, 1) := by decide +kernel
theorem d24_1 : decode jdk_42_method_155_code 1 = .ok (.iload_n 1, 1) := by decide +kernel
theorem d24_2 : decode jdk_42_method_155_code 2 = .ok (.getstatic 1053, 3) := by decide +kernel
theorem d24_5 : decode jdk_42_method_155_code 5 = .ok (.invokestatic 1059, 3) := by decide +kernel
theorem pd__28IILjava_2futil_2ffunction_2fBiFunction_3b_29I : parseMethodDescriptor "(IILjava/util/function/BiFunction;)I" = some ⟨[.int, .int, (.object "java/util/function/BiFunction")], some .int⟩ := by decide +kernel
theorem d24_8 : decode jdk_42_method_155_code 8 = .ok (.pop, 1) := by decide +kernel
theorem d24_9 : decode jdk_42_method_155_code 9 = .ok (.return_, 1) := by decide +kernel
theorem ef_ru_isl0 (a : Addr) (m : MethodId) : entryFrame m #[(.ref a)] 1 = mkF m 0 #[.val (.ref a)] [] := by first | (simp [entryFrame, mkF, argsToLocals, Value.category, maxLocals]; done) | rfl
theorem pn_java_lang_String_isLatin1___Z : plainFor (⟨"java/lang/String", "isLatin1", "()Z"⟩ : MethodName) = true := by first | exact plainFor_of_name (by first | (simp [plainName, overriddenIn]; done) | decide +kernel) | decide +kernel
theorem d20_0 : decode jdk_42_method_154_code 0 = .ok (.getstatic 38, 3) := by decide +kernel
theorem d20_3 : decode jdk_42_method_154_code 3 = .ok (.ifCond .eq 14, 3) := by decide +kernel
theorem d20_6 : decode jdk_42_method_154_code 6 = .ok (.aload_n 0, 1) := by decide +kernel
theorem d20_7 : decode jdk_42_method_154_code 7 = .ok (.getfield 15, 3) := by decide +kernel
theorem d20_10 : decode jdk_42_method_154_code 10 = .ok (.ifCond .ne 7, 3) := by decide +kernel
theorem d20_13 : decode jdk_42_method_154_code 13 = .ok (.iconst 1, 1) := by decide +kernel
theorem d20_14 : decode jdk_42_method_154_code 14 = .ok (.goto 4, 3) := by decide +kernel
theorem d20_18 : decode jdk_42_method_154_code 18 = .ok (.ireturn, 1) := by decide +kernel
theorem ef_ru_isl1 (a : Addr) (m : MethodId) : entryFrame m #[(.ref a)] 1 = mkF m 0 #[.val (.ref a)] [] := by first | (simp [entryFrame, mkF, argsToLocals, Value.category, maxLocals]; done) | rfl
theorem d20_17 : decode jdk_42_method_154_code 17 = .ok (.iconst 0, 1) := by decide +kernel
theorem ef_ru_uci1 (b : Addr) (kb : ClassId) (vs : List Value) (dv : Value) (x : Int32) (m : MethodId) : entryFrame m #[(.int x), (.ref b)] 2 = mkF m 0 #[.val (.int x), .val (.ref b)] [] := by first | (simp [entryFrame, mkF, argsToLocals, Value.category, maxLocals]; done) | rfl
theorem pn_java_lang_StringUTF16_checkIndex__I_B_V : plainFor (⟨"java/lang/StringUTF16", "checkIndex", "(I[B)V"⟩ : MethodName) = true := by first | exact plainFor_of_name (by first | (simp [plainName, overriddenIn]; done) | decide +kernel) | decide +kernel
theorem d22_0 : decode jdk_52_method_91_code 0 = .ok (.iload_n 0, 1) := by decide +kernel
theorem d22_1 : decode jdk_52_method_91_code 1 = .ok (.aload_n 1, 1) := by decide +kernel
theorem d22_2 : decode jdk_52_method_91_code 2 = .ok (.invokestatic 48, 3) := by decide +kernel
theorem pd__28_5bB_29I : parseMethodDescriptor "([B)I" = some ⟨[(.array .byte)], some .int⟩ := by decide +kernel
theorem d22_5 : decode jdk_52_method_91_code 5 = .ok (.invokestatic 414, 3) := by decide +kernel
theorem pd__28II_29V : parseMethodDescriptor "(II)V" = some ⟨[.int, .int], none⟩ := by decide +kernel
theorem d22_8 : decode jdk_52_method_91_code 8 = .ok (.return_, 1) := by decide +kernel
theorem ef_ru_lca1_0 (b : Addr) (kb : ClassId) (u : Int32) (dv : Value) (m : MethodId) : entryFrame m #[(.ref b), (.int 0)] 2 = mkF m 0 #[.val (.ref b), .val (.int 0)] [] := by first | (simp [entryFrame, mkF, argsToLocals, Value.category, maxLocals]; done) | rfl
theorem pn_java_lang_StringLatin1_charAt___BI_C : plainFor (⟨"java/lang/StringLatin1", "charAt", "([BI)C"⟩ : MethodName) = true := by first | exact plainFor_of_name (by first | (simp [plainName, overriddenIn]; done) | decide +kernel) | decide +kernel
theorem d26_0 : decode jdk_43_method_2_code 0 = .ok (.iload_n 1, 1) := by decide +kernel
theorem d26_1 : decode jdk_43_method_2_code 1 = .ok (.aload_n 0, 1) := by decide +kernel
theorem d26_2 : decode jdk_43_method_2_code 2 = .ok (.arraylength, 1) := by decide +kernel
theorem d26_3 : decode jdk_43_method_2_code 3 = .ok (.invokestatic 9, 3) := by decide +kernel
theorem d26_6 : decode jdk_43_method_2_code 6 = .ok (.aload_n 0, 1) := by decide +kernel
theorem d26_7 : decode jdk_43_method_2_code 7 = .ok (.iload_n 1, 1) := by decide +kernel
theorem d26_8 : decode jdk_43_method_2_code 8 = .ok (.baload, 1) := by decide +kernel
theorem d26_9 : decode jdk_43_method_2_code 9 = .ok (.sipush 255, 3) := by decide +kernel
theorem d26_12 : decode jdk_43_method_2_code 12 = .ok (.iand, 1) := by decide +kernel
theorem d26_13 : decode jdk_43_method_2_code 13 = .ok (.i2c, 1) := by decide +kernel
theorem d26_14 : decode jdk_43_method_2_code 14 = .ok (.ireturn, 1) := by decide +kernel
theorem ef_ru_uca1_0 (b : Addr) (kb : ClassId) (u : Int32) (v : Int32) (dv : Value) (m : MethodId) : entryFrame m #[(.ref b), (.int 0)] 2 = mkF m 0 #[.val (.ref b), .val (.int 0)] [] := by first | (simp [entryFrame, mkF, argsToLocals, Value.category, maxLocals]; done) | rfl
theorem pn_java_lang_StringUTF16_charAt___BI_C : plainFor (⟨"java/lang/StringUTF16", "charAt", "([BI)C"⟩ : MethodName) = true := by first | exact plainFor_of_name (by first | (simp [plainName, overriddenIn]; done) | decide +kernel) | decide +kernel
theorem d21_0 : decode jdk_52_method_83_code 0 = .ok (.iload_n 1, 1) := by decide +kernel
theorem d21_1 : decode jdk_52_method_83_code 1 = .ok (.aload_n 0, 1) := by decide +kernel
theorem d21_2 : decode jdk_52_method_83_code 2 = .ok (.invokestatic 67, 3) := by decide +kernel
theorem pd__28I_5bB_29V : parseMethodDescriptor "(I[B)V" = some ⟨[.int, (.array .byte)], none⟩ := by decide +kernel
theorem d21_5 : decode jdk_52_method_83_code 5 = .ok (.aload_n 0, 1) := by decide +kernel
theorem d21_6 : decode jdk_52_method_83_code 6 = .ok (.iload_n 1, 1) := by decide +kernel
theorem d21_7 : decode jdk_52_method_83_code 7 = .ok (.invokestatic 71, 3) := by decide +kernel
theorem d21_10 : decode jdk_52_method_83_code 10 = .ok (.ireturn, 1) := by decide +kernel
theorem ef_ru_ch1_0 (a : Addr) (x0 : Int32) (m : MethodId) : entryFrame m #[(.ref a), (.int 0)] 2 = mkF m 0 #[.val (.ref a), .val (.int 0)] [] := by first | (simp [entryFrame, mkF, argsToLocals, Value.category, maxLocals]; done) | rfl
theorem pn_java_lang_String_charAt__I_C : plainFor (⟨"java/lang/String", "charAt", "(I)C"⟩ : MethodName) = true := by first | exact plainFor_of_name (by first | (simp [plainName, overriddenIn]; done) | decide +kernel) | decide +kernel
theorem d19_0 : decode jdk_42_method_56_code 0 = .ok (.aload_n 0, 1) := by decide +kernel
theorem d19_1 : decode jdk_42_method_56_code 1 = .ok (.invokevirtual 492, 3) := by decide +kernel
theorem pd__28_29Z : parseMethodDescriptor "()Z" = some ⟨[], some .boolean⟩ := by decide +kernel
theorem d19_4 : decode jdk_42_method_56_code 4 = .ok (.ifCond .eq 12, 3) := by decide +kernel
theorem d19_7 : decode jdk_42_method_56_code 7 = .ok (.aload_n 0, 1) := by decide +kernel
theorem d19_8 : decode jdk_42_method_56_code 8 = .ok (.getfield 9, 3) := by decide +kernel
theorem d19_11 : decode jdk_42_method_56_code 11 = .ok (.iload_n 1, 1) := by decide +kernel
theorem d19_12 : decode jdk_42_method_56_code 12 = .ok (.invokestatic 495, 3) := by decide +kernel
theorem d19_15 : decode jdk_42_method_56_code 15 = .ok (.ireturn, 1) := by decide +kernel
theorem d19_16 : decode jdk_42_method_56_code 16 = .ok (.aload_n 0, 1) := by decide +kernel
theorem d19_17 : decode jdk_42_method_56_code 17 = .ok (.getfield 9, 3) := by decide +kernel
theorem d19_20 : decode jdk_42_method_56_code 20 = .ok (.iload_n 1, 1) := by decide +kernel
theorem d19_21 : decode jdk_42_method_56_code 21 = .ok (.invokestatic 498, 3) := by decide +kernel
theorem d19_24 : decode jdk_42_method_56_code 24 = .ok (.ireturn, 1) := by decide +kernel
theorem ef_ru_uci2 (b : Addr) (kb : ClassId) (vs : List Value) (dv : Value) (x : Int32) (m : MethodId) : entryFrame m #[(.int x), (.ref b)] 2 = mkF m 0 #[.val (.int x), .val (.ref b)] [] := by first | (simp [entryFrame, mkF, argsToLocals, Value.category, maxLocals]; done) | rfl
theorem ef_ru_lca2_0 (b : Addr) (kb : ClassId) (u : Int32) (dv : Value) (e1 : Value) (m : MethodId) : entryFrame m #[(.ref b), (.int 0)] 2 = mkF m 0 #[.val (.ref b), .val (.int 0)] [] := by first | (simp [entryFrame, mkF, argsToLocals, Value.category, maxLocals]; done) | rfl
theorem ef_ru_uca2_0 (b : Addr) (kb : ClassId) (u : Int32) (v : Int32) (dv : Value) (e2 : Value) (e3 : Value) (m : MethodId) : entryFrame m #[(.ref b), (.int 0)] 2 = mkF m 0 #[.val (.ref b), .val (.int 0)] [] := by first | (simp [entryFrame, mkF, argsToLocals, Value.category, maxLocals]; done) | rfl
theorem ef_ru_ch2_0 (a : Addr) (x0 : Int32) (x1 : Int32) (m : MethodId) : entryFrame m #[(.ref a), (.int 0)] 2 = mkF m 0 #[.val (.ref a), .val (.int 0)] [] := by first | (simp [entryFrame, mkF, argsToLocals, Value.category, maxLocals]; done) | rfl
theorem ef_ru_lca2_1 (b : Addr) (kb : ClassId) (u : Int32) (dv : Value) (e0 : Value) (m : MethodId) : entryFrame m #[(.ref b), (.int 1)] 2 = mkF m 0 #[.val (.ref b), .val (.int 1)] [] := by first | (simp [entryFrame, mkF, argsToLocals, Value.category, maxLocals]; done) | rfl
theorem ef_ru_uca2_1 (b : Addr) (kb : ClassId) (u : Int32) (v : Int32) (dv : Value) (e0 : Value) (e1 : Value) (m : MethodId) : entryFrame m #[(.ref b), (.int 1)] 2 = mkF m 0 #[.val (.ref b), .val (.int 1)] [] := by first | (simp [entryFrame, mkF, argsToLocals, Value.category, maxLocals]; done) | rfl
theorem ef_ru_ch2_1 (a : Addr) (x0 : Int32) (x1 : Int32) (m : MethodId) : entryFrame m #[(.ref a), (.int 1)] 2 = mkF m 0 #[.val (.ref a), .val (.int 1)] [] := by first | (simp [entryFrame, mkF, argsToLocals, Value.category, maxLocals]; done) | rfl
theorem ef_ru_uci3 (b : Addr) (kb : ClassId) (vs : List Value) (dv : Value) (x : Int32) (m : MethodId) : entryFrame m #[(.int x), (.ref b)] 2 = mkF m 0 #[.val (.int x), .val (.ref b)] [] := by first | (simp [entryFrame, mkF, argsToLocals, Value.category, maxLocals]; done) | rfl
theorem ef_ru_lca3_0 (b : Addr) (kb : ClassId) (u : Int32) (dv : Value) (e1 : Value) (e2 : Value) (m : MethodId) : entryFrame m #[(.ref b), (.int 0)] 2 = mkF m 0 #[.val (.ref b), .val (.int 0)] [] := by first | (simp [entryFrame, mkF, argsToLocals, Value.category, maxLocals]; done) | rfl
theorem ef_ru_uca3_0 (b : Addr) (kb : ClassId) (u : Int32) (v : Int32) (dv : Value) (e2 : Value) (e3 : Value) (e4 : Value) (e5 : Value) (m : MethodId) : entryFrame m #[(.ref b), (.int 0)] 2 = mkF m 0 #[.val (.ref b), .val (.int 0)] [] := by first | (simp [entryFrame, mkF, argsToLocals, Value.category, maxLocals]; done) | rfl
theorem ef_ru_ch3_0 (a : Addr) (x0 : Int32) (x1 : Int32) (x2 : Int32) (m : MethodId) : entryFrame m #[(.ref a), (.int 0)] 2 = mkF m 0 #[.val (.ref a), .val (.int 0)] [] := by first | (simp [entryFrame, mkF, argsToLocals, Value.category, maxLocals]; done) | rfl
theorem ef_ru_lca3_1 (b : Addr) (kb : ClassId) (u : Int32) (dv : Value) (e0 : Value) (e2 : Value) (m : MethodId) : entryFrame m #[(.ref b), (.int 1)] 2 = mkF m 0 #[.val (.ref b), .val (.int 1)] [] := by first | (simp [entryFrame, mkF, argsToLocals, Value.category, maxLocals]; done) | rfl
theorem ef_ru_uca3_1 (b : Addr) (kb : ClassId) (u : Int32) (v : Int32) (dv : Value) (e0 : Value) (e1 : Value) (e4 : Value) (e5 : Value) (m : MethodId) : entryFrame m #[(.ref b), (.int 1)] 2 = mkF m 0 #[.val (.ref b), .val (.int 1)] [] := by first | (simp [entryFrame, mkF, argsToLocals, Value.category, maxLocals]; done) | rfl
theorem ef_ru_ch3_1 (a : Addr) (x0 : Int32) (x1 : Int32) (x2 : Int32) (m : MethodId) : entryFrame m #[(.ref a), (.int 1)] 2 = mkF m 0 #[.val (.ref a), .val (.int 1)] [] := by first | (simp [entryFrame, mkF, argsToLocals, Value.category, maxLocals]; done) | rfl
theorem ef_ru_lca3_2 (b : Addr) (kb : ClassId) (u : Int32) (dv : Value) (e0 : Value) (e1 : Value) (m : MethodId) : entryFrame m #[(.ref b), (.int 2)] 2 = mkF m 0 #[.val (.ref b), .val (.int 2)] [] := by first | (simp [entryFrame, mkF, argsToLocals, Value.category, maxLocals]; done) | rfl
theorem ef_ru_uca3_2 (b : Addr) (kb : ClassId) (u : Int32) (v : Int32) (dv : Value) (e0 : Value) (e1 : Value) (e2 : Value) (e3 : Value) (m : MethodId) : entryFrame m #[(.ref b), (.int 2)] 2 = mkF m 0 #[.val (.ref b), .val (.int 2)] [] := by first | (simp [entryFrame, mkF, argsToLocals, Value.category, maxLocals]; done) | rfl
theorem ef_ru_ch3_2 (a : Addr) (x0 : Int32) (x1 : Int32) (x2 : Int32) (m : MethodId) : entryFrame m #[(.ref a), (.int 2)] 2 = mkF m 0 #[.val (.ref a), .val (.int 2)] [] := by first | (simp [entryFrame, mkF, argsToLocals, Value.category, maxLocals]; done) | rfl
theorem ef_rm4 (a : Addr) (u : Addr) (v : Addr) (m : MethodId) : entryFrame m #[(.ref a), (.ref u), (.ref v)] 3 = mkF m 0 #[.val (.ref a), .val (.ref u), .val (.ref v)] [] := by first | (simp [entryFrame, mkF, argsToLocals, Value.category, maxLocals]; done) | rfl
theorem pn_com_example_bote_bote_fields_FieldCursor__init___Ljava_lang_String_Ljava_lang_String__V : plainFor (⟨"com/example/bote/bote/fields/FieldCursor", "<init>", "(Ljava/lang/String;Ljava/lang/String;)V"⟩ : MethodName) = true := by first | exact plainFor_of_name (by first | (simp [plainName, overriddenIn]; done) | decide +kernel) | decide +kernel
theorem d4_0 : decode prog_2_method_1_code 0 = .ok (.aload_n 0, 1) := by decide +kernel
theorem d4_1 : decode prog_2_method_1_code 1 = .ok (.invokespecial 1, 3) := by decide +kernel
theorem d4_4 : decode prog_2_method_1_code 4 = .ok (.aload_n 0, 1) := by decide +kernel
theorem d4_5 : decode prog_2_method_1_code 5 = .ok (.aload_n 1, 1) := by decide +kernel
theorem d4_6 : decode prog_2_method_1_code 6 = .ok (.putfield 7, 3) := by decide +kernel
theorem d4_9 : decode prog_2_method_1_code 9 = .ok (.aload_n 0, 1) := by decide +kernel
theorem d4_10 : decode prog_2_method_1_code 10 = .ok (.aload_n 2, 1) := by decide +kernel
theorem d4_11 : decode prog_2_method_1_code 11 = .ok (.putfield 13, 3) := by decide +kernel
theorem d4_14 : decode prog_2_method_1_code 14 = .ok (.return_, 1) := by decide +kernel
theorem ef_rm_nx0_0 (a : Addr) (u : Addr) (y : Int32) (m : MethodId) : entryFrame m #[(.ref a), (.int y)] 2 = mkF m 0 #[.val (.ref a), .val (.int y)] [] := by first | (simp [entryFrame, mkF, argsToLocals, Value.category, maxLocals]; done) | rfl
theorem pn_com_example_bote_bote_fields_FieldCursor_isNext__C_Z : plainFor (⟨"com/example/bote/bote/fields/FieldCursor", "isNext", "(C)Z"⟩ : MethodName) = true := by first | exact plainFor_of_name (by first | (simp [plainName, overriddenIn]; done) | decide +kernel) | decide +kernel
theorem d6_0 : decode prog_2_method_5_code 0 = .ok (.aload_n 0, 1) := by decide +kernel
theorem d6_1 : decode prog_2_method_5_code 1 = .ok (.getfield 16, 3) := by decide +kernel
theorem d6_4 : decode prog_2_method_5_code 4 = .ok (.aload_n 0, 1) := by decide +kernel
theorem d6_5 : decode prog_2_method_5_code 5 = .ok (.getfield 7, 3) := by decide +kernel
theorem d6_8 : decode prog_2_method_5_code 8 = .ok (.invokevirtual 20, 3) := by decide +kernel
theorem own_wL {Z : State} {a0 : Array Value} (hw : ∀ d ∈ tables_1, d.before a0 Z = true) : ∀ d ∈ StrChars.Road.wordsLen, d.before a0 Z = true := fun d hd => hw d ((by decide +kernel : ∀ d ∈ StrChars.Road.wordsLen, d ∈ tables_1) d hd)
theorem d6_11 : decode prog_2_method_5_code 11 = .ok (.if_icmp .ge 22, 3) := by decide +kernel
theorem d6_33 : decode prog_2_method_5_code 33 = .ok (.iconst 0, 1) := by decide +kernel
theorem d6_34 : decode prog_2_method_5_code 34 = .ok (.ireturn, 1) := by decide +kernel
theorem ef_rm_nx1_0 (a : Addr) (u : Addr) (x0 : Int32) (y : Int32) (m : MethodId) : entryFrame m #[(.ref a), (.int y)] 2 = mkF m 0 #[.val (.ref a), .val (.int y)] [] := by first | (simp [entryFrame, mkF, argsToLocals, Value.category, maxLocals]; done) | rfl
theorem d6_14 : decode prog_2_method_5_code 14 = .ok (.aload_n 0, 1) := by decide +kernel
theorem d6_15 : decode prog_2_method_5_code 15 = .ok (.getfield 7, 3) := by decide +kernel
theorem d6_18 : decode prog_2_method_5_code 18 = .ok (.aload_n 0, 1) := by decide +kernel
theorem d6_19 : decode prog_2_method_5_code 19 = .ok (.getfield 16, 3) := by decide +kernel
theorem d6_22 : decode prog_2_method_5_code 22 = .ok (.invokevirtual 26, 3) := by decide +kernel
theorem pd__28I_29C : parseMethodDescriptor "(I)C" = some ⟨[.int], some .char⟩ := by decide +kernel
theorem d6_25 : decode prog_2_method_5_code 25 = .ok (.iload_n 1, 1) := by decide +kernel
theorem d6_26 : decode prog_2_method_5_code 26 = .ok (.if_icmp .ne 7, 3) := by decide +kernel
theorem d6_29 : decode prog_2_method_5_code 29 = .ok (.iconst 1, 1) := by decide +kernel
theorem d6_30 : decode prog_2_method_5_code 30 = .ok (.goto 4, 3) := by decide +kernel
theorem ef_rm_tk1_0 (a : Addr) (u : Addr) (x0 : Int32) (m : MethodId) : entryFrame m #[(.ref a), (.int x0)] 3 = mkF m 0 #[.val (.ref a), .val (.int x0), .unset] [] := by first | (simp [entryFrame, mkF, argsToLocals, Value.category, maxLocals]; done) | rfl
theorem pn_com_example_bote_bote_fields_FieldCursor_take__C_Z : plainFor (⟨"com/example/bote/bote/fields/FieldCursor", "take", "(C)Z"⟩ : MethodName) = true := by first | exact plainFor_of_name (by first | (simp [plainName, overriddenIn]; done) | decide +kernel) | decide +kernel
theorem d18_0 : decode prog_2_method_6_code 0 = .ok (.aload_n 0, 1) := by decide +kernel
theorem d18_1 : decode prog_2_method_6_code 1 = .ok (.iload_n 1, 1) := by decide +kernel
theorem d18_2 : decode prog_2_method_6_code 2 = .ok (.invokevirtual 38, 3) := by decide +kernel
theorem pd__28C_29Z : parseMethodDescriptor "(C)Z" = some ⟨[.char], some .boolean⟩ := by decide +kernel
theorem d18_5 : decode prog_2_method_6_code 5 = .ok (.istore_n 2, 1) := by decide +kernel
theorem d18_6 : decode prog_2_method_6_code 6 = .ok (.iload_n 2, 1) := by decide +kernel
theorem d18_7 : decode prog_2_method_6_code 7 = .ok (.ifCond .eq 13, 3) := by decide +kernel
theorem d18_10 : decode prog_2_method_6_code 10 = .ok (.aload_n 0, 1) := by decide +kernel
theorem d18_11 : decode prog_2_method_6_code 11 = .ok (.dup, 1) := by decide +kernel
theorem d18_12 : decode prog_2_method_6_code 12 = .ok (.getfield 16, 3) := by decide +kernel
theorem d18_15 : decode prog_2_method_6_code 15 = .ok (.iconst 1, 1) := by decide +kernel
theorem d18_16 : decode prog_2_method_6_code 16 = .ok (.iadd, 1) := by decide +kernel
theorem d18_17 : decode prog_2_method_6_code 17 = .ok (.putfield 16, 3) := by decide +kernel
theorem d18_20 : decode prog_2_method_6_code 20 = .ok (.iload_n 2, 1) := by decide +kernel
theorem d18_21 : decode prog_2_method_6_code 21 = .ok (.ireturn, 1) := by decide +kernel
theorem ef_rm_nx1_1 (a : Addr) (u : Addr) (x0 : Int32) (y : Int32) (m : MethodId) : entryFrame m #[(.ref a), (.int y)] 2 = mkF m 0 #[.val (.ref a), .val (.int y)] [] := by first | (simp [entryFrame, mkF, argsToLocals, Value.category, maxLocals]; done) | rfl
theorem ef_rm_nx2_0 (a : Addr) (u : Addr) (x0 : Int32) (x1 : Int32) (y : Int32) (m : MethodId) : entryFrame m #[(.ref a), (.int y)] 2 = mkF m 0 #[.val (.ref a), .val (.int y)] [] := by first | (simp [entryFrame, mkF, argsToLocals, Value.category, maxLocals]; done) | rfl
theorem ef_rm_tk2_0 (a : Addr) (u : Addr) (x0 : Int32) (x1 : Int32) (m : MethodId) : entryFrame m #[(.ref a), (.int x0)] 3 = mkF m 0 #[.val (.ref a), .val (.int x0), .unset] [] := by first | (simp [entryFrame, mkF, argsToLocals, Value.category, maxLocals]; done) | rfl
theorem ef_rm_nx2_1 (a : Addr) (u : Addr) (x0 : Int32) (x1 : Int32) (y : Int32) (m : MethodId) : entryFrame m #[(.ref a), (.int y)] 2 = mkF m 0 #[.val (.ref a), .val (.int y)] [] := by first | (simp [entryFrame, mkF, argsToLocals, Value.category, maxLocals]; done) | rfl
theorem ef_rm_tk2_1 (a : Addr) (u : Addr) (x0 : Int32) (x1 : Int32) (m : MethodId) : entryFrame m #[(.ref a), (.int x1)] 3 = mkF m 0 #[.val (.ref a), .val (.int x1), .unset] [] := by first | (simp [entryFrame, mkF, argsToLocals, Value.category, maxLocals]; done) | rfl
theorem ef_rm_nx2_2 (a : Addr) (u : Addr) (x0 : Int32) (x1 : Int32) (y : Int32) (m : MethodId) : entryFrame m #[(.ref a), (.int y)] 2 = mkF m 0 #[.val (.ref a), .val (.int y)] [] := by first | (simp [entryFrame, mkF, argsToLocals, Value.category, maxLocals]; done) | rfl
theorem ef_rm_nx3_0 (a : Addr) (u : Addr) (x0 : Int32) (x1 : Int32) (x2 : Int32) (y : Int32) (m : MethodId) : entryFrame m #[(.ref a), (.int y)] 2 = mkF m 0 #[.val (.ref a), .val (.int y)] [] := by first | (simp [entryFrame, mkF, argsToLocals, Value.category, maxLocals]; done) | rfl
theorem ef_rm_tk3_0 (a : Addr) (u : Addr) (x0 : Int32) (x1 : Int32) (x2 : Int32) (m : MethodId) : entryFrame m #[(.ref a), (.int x0)] 3 = mkF m 0 #[.val (.ref a), .val (.int x0), .unset] [] := by first | (simp [entryFrame, mkF, argsToLocals, Value.category, maxLocals]; done) | rfl
theorem ef_rm_nx3_1 (a : Addr) (u : Addr) (x0 : Int32) (x1 : Int32) (x2 : Int32) (y : Int32) (m : MethodId) : entryFrame m #[(.ref a), (.int y)] 2 = mkF m 0 #[.val (.ref a), .val (.int y)] [] := by first | (simp [entryFrame, mkF, argsToLocals, Value.category, maxLocals]; done) | rfl
theorem ef_rm_tk3_1 (a : Addr) (u : Addr) (x0 : Int32) (x1 : Int32) (x2 : Int32) (m : MethodId) : entryFrame m #[(.ref a), (.int x1)] 3 = mkF m 0 #[.val (.ref a), .val (.int x1), .unset] [] := by first | (simp [entryFrame, mkF, argsToLocals, Value.category, maxLocals]; done) | rfl
theorem ef_rm_nx3_2 (a : Addr) (u : Addr) (x0 : Int32) (x1 : Int32) (x2 : Int32) (y : Int32) (m : MethodId) : entryFrame m #[(.ref a), (.int y)] 2 = mkF m 0 #[.val (.ref a), .val (.int y)] [] := by first | (simp [entryFrame, mkF, argsToLocals, Value.category, maxLocals]; done) | rfl
theorem ef_rm_tk3_2 (a : Addr) (u : Addr) (x0 : Int32) (x1 : Int32) (x2 : Int32) (m : MethodId) : entryFrame m #[(.ref a), (.int x2)] 3 = mkF m 0 #[.val (.ref a), .val (.int x2), .unset] [] := by first | (simp [entryFrame, mkF, argsToLocals, Value.category, maxLocals]; done) | rfl
theorem ef_rm_nx3_3 (a : Addr) (u : Addr) (x0 : Int32) (x1 : Int32) (x2 : Int32) (y : Int32) (m : MethodId) : entryFrame m #[(.ref a), (.int y)] 2 = mkF m 0 #[.val (.ref a), .val (.int y)] [] := by first | (simp [entryFrame, mkF, argsToLocals, Value.category, maxLocals]; done) | rfl
theorem ef_rm_min0 (x : Int32) (y : Int32) (m : MethodId) : entryFrame m #[(.int x), (.int y)] 2 = mkF m 0 #[.val (.int x), .val (.int y)] [] := by first | (simp [entryFrame, mkF, argsToLocals, Value.category, maxLocals]; done) | rfl
theorem pn_java_lang_Math_min__II_I : plainFor (⟨"java/lang/Math", "min", "(II)I"⟩ : MethodName) = true := by first | exact plainFor_of_name (by first | (simp [plainName, overriddenIn]; done) | decide +kernel) | decide +kernel
theorem d5_0 : decode jdk_29_method_69_code 0 = .ok (.iload_n 0, 1) := by decide +kernel
theorem d5_1 : decode jdk_29_method_69_code 1 = .ok (.iload_n 1, 1) := by decide +kernel
theorem d5_2 : decode jdk_29_method_69_code 2 = .ok (.if_icmp .gt 7, 3) := by decide +kernel
theorem d5_5 : decode jdk_29_method_69_code 5 = .ok (.iload_n 0, 1) := by decide +kernel
theorem d5_6 : decode jdk_29_method_69_code 6 = .ok (.goto 4, 3) := by decide +kernel
theorem d5_10 : decode jdk_29_method_69_code 10 = .ok (.ireturn, 1) := by decide +kernel
theorem ef_rm_min1 (x : Int32) (y : Int32) (m : MethodId) : entryFrame m #[(.int x), (.int y)] 2 = mkF m 0 #[.val (.int x), .val (.int y)] [] := by first | (simp [entryFrame, mkF, argsToLocals, Value.category, maxLocals]; done) | rfl
theorem d5_9 : decode jdk_29_method_69_code 9 = .ok (.iload_n 1, 1) := by decide +kernel
theorem ef_rm_max0 (x : Int32) (y : Int32) (m : MethodId) : entryFrame m #[(.int x), (.int y)] 2 = mkF m 0 #[.val (.int x), .val (.int y)] [] := by first | (simp [entryFrame, mkF, argsToLocals, Value.category, maxLocals]; done) | rfl
theorem pn_java_lang_Math_max__II_I : plainFor (⟨"java/lang/Math", "max", "(II)I"⟩ : MethodName) = true := by first | exact plainFor_of_name (by first | (simp [plainName, overriddenIn]; done) | decide +kernel) | decide +kernel
theorem d9_0 : decode jdk_29_method_65_code 0 = .ok (.iload_n 0, 1) := by decide +kernel
theorem d9_1 : decode jdk_29_method_65_code 1 = .ok (.iload_n 1, 1) := by decide +kernel
theorem d9_2 : decode jdk_29_method_65_code 2 = .ok (.if_icmp .lt 7, 3) := by decide +kernel
theorem d9_5 : decode jdk_29_method_65_code 5 = .ok (.iload_n 0, 1) := by decide +kernel
theorem d9_6 : decode jdk_29_method_65_code 6 = .ok (.goto 4, 3) := by decide +kernel
theorem d9_10 : decode jdk_29_method_65_code 10 = .ok (.ireturn, 1) := by decide +kernel
theorem ef_rm_max1 (x : Int32) (y : Int32) (m : MethodId) : entryFrame m #[(.int x), (.int y)] 2 = mkF m 0 #[.val (.int x), .val (.int y)] [] := by first | (simp [entryFrame, mkF, argsToLocals, Value.category, maxLocals]; done) | rfl
theorem d9_9 : decode jdk_29_method_65_code 9 = .ok (.iload_n 1, 1) := by decide +kernel
theorem ef_rm0 (pa : Int32) (pb : Int32) (pp : Int32) (m : MethodId) : entryFrame m #[(.int pa), (.int pb), (.int pp)] maxLocals = mkF m 0 #[.val (.int pa), .val (.int pb), .val (.int pp), .unset, .unset, .unset, .unset, .unset, .unset, .unset, .unset, .unset, .unset, .unset, .unset, .unset, .unset] [] := by first | (simp [entryFrame, mkF, argsToLocals, Value.category, maxLocals]; done) | rfl
theorem pn_com_example_bote_bote_fields_FieldCursorIsNextPinLaw_law__III_Z : plainFor (⟨"com/example/bote/bote/fields/FieldCursorIsNextPinLaw", "law", "(III)Z"⟩ : MethodName) = true := by first | exact plainFor_of_name (by first | (simp [plainName, overriddenIn]; done) | decide +kernel) | decide +kernel
theorem pd__28_5bC_29V : parseMethodDescriptor "([C)V" = some ⟨[(.array .char)], none⟩ := by decide +kernel
theorem own_ELne : own_EL ≠ [] := by unfold own_EL consts_1; exact List.cons_ne_nil _ _
theorem pd__28Ljava_2flang_2fString_3bLjava_2flang_2fString_3b_29V : parseMethodDescriptor "(Ljava/lang/String;Ljava/lang/String;)V" = some ⟨[(.object "java/lang/String"), (.object "java/lang/String")], none⟩ := by decide +kernel
theorem pd__28II_29I : parseMethodDescriptor "(II)I" = some ⟨[.int, .int], some .int⟩ := by decide +kernel
set_option maxRecDepth 65536 in
set_option maxHeartbeats 40000000 in
theorem rm_emp4 (l : Launch) (Z : State) (a0 : Array Value) (hw : ∀ d ∈ tables_1, d.before a0 Z = true) (n0 : Nat) (h0 : Heap) (hWd : OWorld Z a0) (wc : List Jvm.Cond) (O0 : Old Z n0 h0) (a : Addr) (b : Addr) (y : Value) (z : Int32) (q0 : Exa Z h0 a "java/lang/String") (q1 : Fld Z h0 a "java/lang/String" "value" "[B" y) (q2 : Fld Z h0 a "java/lang/String" "coder" "B" (.int z)) (g0 : n0 ≤ a ∧ a < h0.size) :
    OMet l Z own_EL n0 (⟨"java/lang/String", "<init>", "([CIILjava/lang/Void;)V"⟩ : MethodName) (Jvm.Cond.code (⟨"java/lang/String", "<init>", "([CIILjava/lang/Void;)V"⟩ : MethodName) jdk_42_method_149_code 6 none :: wc) ({ frames := 1, cells := 4, slots := 8, locals := 12 } : Room) #[(.ref a), (.ref b), (.int 0), (.int 0), .null] h0 [a] (fun vq hq => vq = none ∧ OStr Z hq a [] hq.size) := by
  refine own_enter #[.val (.ref a), .val (.ref b), .val (.int 0), .val (.int 0), .val .null, .unset] pn_java_lang_String__init____CIILjava_lang_Void__V (ef_rm_emp4 a b y z) hWd.1 O0 (allS g0 all0) ?_
  intro p e s m below meth c T0 X0 hnm hret
  refine og_aloadN X0 1 d2_0 rfl rfl rfl ?_
  refine own_obj0 X0 4 (a := a) d2_1 (ow hw 11 rfl) (ow hw 12 rfl) (ow hw 13 rfl) rfl (W := 0) rfl (by decide) (by decide) rfl ?_
  intro T1 X2
  refine og_iloadN X2 5 d2_4 rfl rfl ?_
  refine og_ifN X2 8 d2_5 (XT.i0_ne_f (by decide)) rfl ?_
  refine og_aloadN X2 9 d2_8 rfl rfl rfl ?_
  refine own_ldcR X2 11 (cap := 0) (vs := []) (z := (0 : Int32)) d2_9 (om 1 rfl) (ow hw 14 rfl) (own_wS hw) ⟨by decide, rfl⟩ (by decide) rfl (by decide) (by decide) (by decide) (by decide) rfl ?_
  intro T3 h3 a3 b3 kb3 X3 K3 E3 C3 V3 A3 far3
  have f4 := own_mkStr (cs := []) (bs := []) (n := 0) E3 C3 V3 A3 rfl own_l0 rfl rfl (by decide)
  refine own_get X3 14 d2_11 (host := "") (Or.inl (ow hw 20 rfl)) Via.refl V3 rfl ?_
  intro T5 X6
  have f7 := q1.keep K3 nin0
  have f8 := q0.keep K3
  have f9 := q2.keep K3 nin0
  refine own_put X6 17 d2_14 (host := "") (Or.inl (ow hw 20 rfl)) Via.refl f7 f8 (Or.inr ⟨(ow hw 16 rfl), rfl, hnm⟩) (ow hw 2 rfl) (ty := (.array .byte)) (by decide) rfl rfl (om 0 rfl) rfl ?_
  intro T10 h10 X10 W10 K10 F10
  have f11 := Fld.other W10 f9 (Or.inr (slot_ne (Or.inr (ow hw 17 rfl)) (Or.inr (ow hw 16 rfl)) (by decide) (t := .byte) (t' := (.array .byte)) (by decide) (by decide)))
  refine og_aloadN X10 18 d2_17 rfl rfl rfl ?_
  refine own_ldcR X10 20 (cap := 0) (vs := []) (z := (0 : Int32)) d2_18 (om 1 rfl) (ow hw 14 rfl) (own_wS hw) ⟨by decide, rfl⟩ (by decide) rfl (by decide) (by decide) (by decide) (by decide) rfl ?_
  intro T12 h12 a12 b12 kb12 X12 K12 E12 C12 V12 A12 far12
  have f13 := own_mkStr (cs := []) (bs := []) (n := 0) E12 C12 V12 A12 rfl own_l0 rfl rfl (by decide)
  refine own_get X12 23 d2_20 (host := "") (Or.inl (ow hw 21 rfl)) Via.refl C12 rfl ?_
  intro T14 X15
  have f16 := f11.keep K12 nin0
  have f17 := f8.keep K10
  have f18 := f17.keep K12
  have f19 := F10.keep K12 nin0
  refine own_put X15 26 d2_23 (host := "") (Or.inl (ow hw 21 rfl)) Via.refl f16 f18 (Or.inr ⟨(ow hw 17 rfl), rfl, hnm⟩) (ow hw 2 rfl) (ty := .byte) (by decide) rfl rfl (om 0 rfl) rfl ?_
  intro T20 h20 X20 W20 K20 F20
  have f21 := Fld.other W20 f19 (Or.inr (slot_ne (Or.inr (ow hw 16 rfl)) (Or.inr (ow hw 17 rfl)) (by decide) (t := (.array .byte)) (t' := .byte) (by decide) (by decide)))
  have f22 := f18.keep K20
  have f23 := A3.keep K10 (ninS (Ne.symm (far3 _ (om 0 rfl)).2) nin0)
  have f24 := f23.keep K12 nin0
  have f25 := f24.keep K20 (ninS (Ne.symm (far3 _ (om 0 rfl)).2) nin0)
  refine own_retV X20 d2_26 hret (by decide) (by decide) ?_
  exact ⟨rfl, own_mkStr (cs := []) (bs := []) (n := 0) f22 F20 f21 f25 rfl own_l0 rfl rfl (by decide)⟩
set_option maxRecDepth 65536 in
set_option maxHeartbeats 40000000 in
theorem rm_emp1 (l : Launch) (Z : State) (a0 : Array Value) (hw : ∀ d ∈ tables_1, d.before a0 Z = true) (n0 : Nat) (h0 : Heap) (hWd : OWorld Z a0) (wc : List Jvm.Cond) (O0 : Old Z n0 h0) (a : Addr) (b : Addr) (y : Value) (z : Int32) (kb : ClassId) (q0 : Exa Z h0 a "java/lang/String") (q1 : Fld Z h0 a "java/lang/String" "value" "[B" y) (q2 : Fld Z h0 a "java/lang/String" "coder" "B" (.int z)) (q3 : Arv Z h0 b kb .char (0 : Int32) [] (.int 0)) (g0 : n0 ≤ a ∧ a < h0.size) :
    OMet l Z own_EL n0 (⟨"java/lang/String", "<init>", "([C)V"⟩ : MethodName) (Jvm.Cond.code (⟨"java/lang/String", "<init>", "([C)V"⟩ : MethodName) jdk_42_method_3_code 2 none :: wc) ({ frames := 2, cells := 4, slots := 8, locals := 29 } : Room) #[(.ref a), (.ref b)] h0 [a] (fun vq hq => vq = none ∧ OStr Z hq a [] hq.size) := by
  refine own_enter #[.val (.ref a), .val (.ref b)] pn_java_lang_String__init____C_V (ef_rm_emp1 a b y z kb) hWd.1 O0 (allS g0 all0) ?_
  intro p e s m below meth c T0 X0 hnm hret
  refine og_aloadN X0 1 d1_0 rfl rfl rfl ?_
  refine og_aloadN X0 2 d1_1 rfl rfl rfl ?_
  refine og_iconst X0 3 (0 : Int32) d1_2 rfl rfl ?_
  refine og_aloadN X0 4 d1_3 rfl rfl rfl ?_
  refine own_len X0 5 d1_4 q3 rfl ?_
  refine og_aconstNull X0 6 d1_5 rfl ?_
  refine own_spec X0 9 (a := a) (argsL := [(.ref b), (.int 0), (.int 0), .null]) (rest := []) d1_6 rfl (rm_emp4 l Z a0 hw n0 h0 hWd [] X0.old a b y z q0 q1 q2 (own_svb X0 (om 0 rfl))) (ow hw 7 rfl) (ow hw 8 rfl) (ow hw 3 rfl) (ow hw 10 rfl) (by decide) (lenOf pd__28_5bCIILjava_2flang_2fVoid_3b_29V rfl) rfl rfl rfl (W := 0) rfl (by decide) (by decide) (by decide) (by decide) (allS (om 0 rfl) all0) rfl ?_
  intro T1 h1 v1 X1 K1 hQ1
  obtain ⟨rfl, f2⟩ := hQ1
  show OGo _ _ _ _ T1 (mkF m 9 #[.val (.ref a), .val (.ref b)] [])
  refine own_retV X1 d1_9 hret (by decide) (by decide) ?_
  exact ⟨rfl, f2.top⟩
set_option maxRecDepth 65536 in
set_option maxHeartbeats 40000000 in
theorem ru_len1 (l : Launch) (Z : State) (a0 : Array Value) (hw : ∀ d ∈ tables_1, d.before a0 Z = true) (n0 : Nat) (h0 : Heap) (hWd : OWorld Z a0) (wc : List Jvm.Cond) (O0 : Old Z n0 h0) (b : Addr) (kb : ClassId) (vs : List Value) (dv : Value) (q0 : Arv Z h0 b kb .byte (2 : Int32) vs dv) :
    OMet l Z own_EL n0 (⟨"java/lang/StringUTF16", "length", "([B)I"⟩ : MethodName) (Jvm.Cond.code (⟨"java/lang/StringUTF16", "length", "([B)I"⟩ : MethodName) jdk_52_method_6_code 1 (some .int) :: wc) ({ frames := 0, cells := 0, slots := 0, locals := 0 } : Room) #[(.ref b)] h0 [] (fun vq hq => vq = some (.int 1)) := by
  refine own_enter #[.val (.ref b)] pn_java_lang_StringUTF16_length___B_I (ef_ru_len1 b kb vs dv) hWd.1 O0 all0 ?_
  intro p e s m below meth c T0 X0 hnm hret
  refine og_aloadN X0 1 d23_0 rfl rfl rfl ?_
  refine own_len X0 2 d23_1 q0 rfl ?_
  refine og_iconst X0 3 (1 : Int32) d23_2 rfl rfl ?_
  refine og_ishr X0 4 d23_3 rfl ?_
  show OGo _ _ _ _ T0 (mkF m 4 #[.val (.ref b)] [(.int 1)])
  refine own_retI X0 d23_4 hret (by decide) (by decide) ?_
  exact rfl
set_option maxRecDepth 65536 in
set_option maxHeartbeats 40000000 in
theorem ru_len2 (l : Launch) (Z : State) (a0 : Array Value) (hw : ∀ d ∈ tables_1, d.before a0 Z = true) (n0 : Nat) (h0 : Heap) (hWd : OWorld Z a0) (wc : List Jvm.Cond) (O0 : Old Z n0 h0) (b : Addr) (kb : ClassId) (vs : List Value) (dv : Value) (q0 : Arv Z h0 b kb .byte (4 : Int32) vs dv) :
    OMet l Z own_EL n0 (⟨"java/lang/StringUTF16", "length", "([B)I"⟩ : MethodName) (Jvm.Cond.code (⟨"java/lang/StringUTF16", "length", "([B)I"⟩ : MethodName) jdk_52_method_6_code 1 (some .int) :: wc) ({ frames := 0, cells := 0, slots := 0, locals := 0 } : Room) #[(.ref b)] h0 [] (fun vq hq => vq = some (.int 2)) := by
  refine own_enter #[.val (.ref b)] pn_java_lang_StringUTF16_length___B_I (ef_ru_len2 b kb vs dv) hWd.1 O0 all0 ?_
  intro p e s m below meth c T0 X0 hnm hret
  refine og_aloadN X0 1 d23_0 rfl rfl rfl ?_
  refine own_len X0 2 d23_1 q0 rfl ?_
  refine og_iconst X0 3 (1 : Int32) d23_2 rfl rfl ?_
  refine og_ishr X0 4 d23_3 rfl ?_
  show OGo _ _ _ _ T0 (mkF m 4 #[.val (.ref b)] [(.int 2)])
  refine own_retI X0 d23_4 hret (by decide) (by decide) ?_
  exact rfl
set_option maxRecDepth 65536 in
set_option maxHeartbeats 40000000 in
theorem ru_len3 (l : Launch) (Z : State) (a0 : Array Value) (hw : ∀ d ∈ tables_1, d.before a0 Z = true) (n0 : Nat) (h0 : Heap) (hWd : OWorld Z a0) (wc : List Jvm.Cond) (O0 : Old Z n0 h0) (b : Addr) (kb : ClassId) (vs : List Value) (dv : Value) (q0 : Arv Z h0 b kb .byte (6 : Int32) vs dv) :
    OMet l Z own_EL n0 (⟨"java/lang/StringUTF16", "length", "([B)I"⟩ : MethodName) (Jvm.Cond.code (⟨"java/lang/StringUTF16", "length", "([B)I"⟩ : MethodName) jdk_52_method_6_code 1 (some .int) :: wc) ({ frames := 0, cells := 0, slots := 0, locals := 0 } : Room) #[(.ref b)] h0 [] (fun vq hq => vq = some (.int 3)) := by
  refine own_enter #[.val (.ref b)] pn_java_lang_StringUTF16_length___B_I (ef_ru_len3 b kb vs dv) hWd.1 O0 all0 ?_
  intro p e s m below meth c T0 X0 hnm hret
  refine og_aloadN X0 1 d23_0 rfl rfl rfl ?_
  refine own_len X0 2 d23_1 q0 rfl ?_
  refine og_iconst X0 3 (1 : Int32) d23_2 rfl rfl ?_
  refine og_ishr X0 4 d23_3 rfl ?_
  show OGo _ _ _ _ T0 (mkF m 4 #[.val (.ref b)] [(.int 3)])
  refine own_retI X0 d23_4 hret (by decide) (by decide) ?_
  exact rfl
set_option maxRecDepth 65536 in
set_option maxHeartbeats 40000000 in
theorem ru_get1_0 (l : Launch) (Z : State) (a0 : Array Value) (hw : ∀ d ∈ tables_1, d.before a0 Z = true) (n0 : Nat) (h0 : Heap) (hWd : OWorld Z a0) (wc : List Jvm.Cond) (O0 : Old Z n0 h0) (b : Addr) (kb : ClassId) (u : Int32) (v : Int32) (dv : Value) (q0 : Arv Z h0 b kb .byte (2 : Int32) [(.int u), (.int v)] dv) :
    OMet l Z own_EL n0 (⟨"java/lang/StringUTF16", "getChar", "([BI)C"⟩ : MethodName) (Jvm.Cond.code (⟨"java/lang/StringUTF16", "getChar", "([BI)C"⟩ : MethodName) jdk_52_method_5_code 2 (some .char) :: wc) ({ frames := 0, cells := 0, slots := 0, locals := 0 } : Room) #[(.ref b), (.int 0)] h0 [] (fun vq hq => vq = some (.int (StrChars.pairCh u v))) := by
  refine own_enter #[.val (.ref b), .val (.int 0)] pn_java_lang_StringUTF16_getChar___BI_C (ef_ru_get1_0 b kb u v dv) hWd.1 O0 all0 ?_
  intro p e s m below meth c T0 X0 hnm hret
  refine own_getS X0 3 d16_0 (host := "") (Or.inl (ow hw 79 rfl)) Via.refl hWd.2.2.2.1 rfl ?_
  intro T1 X2
  refine og_ifY X2 28 d16_3 (XT.i0_ne_t (by decide)) (by decide) (by decide) ?_
  refine og_iloadN X2 29 d16_28 rfl rfl ?_
  refine og_iconst X2 30 (1 : Int32) d16_29 rfl rfl ?_
  refine og_ishl X2 31 d16_30 rfl ?_
  show OGo _ _ _ _ T1 (mkF m 31 #[.val (.ref b), .val (.int 0)] [(.int 0)])
  refine og_istoreN X2 32 #[.val (.ref b), .val (.int 0)] d16_31 rfl rfl ?_
  refine og_aloadN X2 33 d16_32 rfl rfl rfl ?_
  refine og_iloadN X2 34 d16_33 rfl rfl ?_
  refine og_iinc X2 37 #[.val (.ref b), .val (.int 1)] d16_34 rfl rfl rfl ?_
  refine own_ldB X2 38 d16_37 q0 (by decide) (by decide) rfl rfl ?_
  refine og_sipush X2 41 (255 : Int32) d16_38 rfl rfl ?_
  refine og_iand X2 42 d16_41 rfl ?_
  refine own_getS X2 45 d16_42 (host := "") (Or.inl (ow hw 80 rfl)) Via.refl hWd.2.2.2.2.1 rfl ?_
  intro T3 X4
  refine og_ishl X4 46 d16_45 rfl ?_
  refine og_aloadN X4 47 d16_46 rfl rfl rfl ?_
  refine og_iloadN X4 48 d16_47 rfl rfl ?_
  refine own_ldB X4 49 d16_48 q0 (by decide) (by decide) rfl rfl ?_
  refine og_sipush X4 52 (255 : Int32) d16_49 rfl rfl ?_
  refine og_iand X4 53 d16_52 rfl ?_
  refine own_getS X4 56 d16_53 (host := "") (Or.inl (ow hw 81 rfl)) Via.refl hWd.2.2.2.2.2 rfl ?_
  intro T5 X6
  refine og_ishl X6 57 d16_56 rfl ?_
  refine og_ior X6 58 d16_57 rfl ?_
  refine og_i2c X6 59 d16_58 rfl ?_
  refine own_retC X6 d16_59 hret (own_fitC (own_lat16 _).1 (own_lat16 _).2) (by decide) (by decide) ?_
  exact rfl
set_option maxRecDepth 65536 in
set_option maxHeartbeats 40000000 in
theorem ru_get2_0 (l : Launch) (Z : State) (a0 : Array Value) (hw : ∀ d ∈ tables_1, d.before a0 Z = true) (n0 : Nat) (h0 : Heap) (hWd : OWorld Z a0) (wc : List Jvm.Cond) (O0 : Old Z n0 h0) (b : Addr) (kb : ClassId) (u : Int32) (v : Int32) (dv : Value) (e2 : Value) (e3 : Value) (q0 : Arv Z h0 b kb .byte (4 : Int32) [(.int u), (.int v), e2, e3] dv) :
    OMet l Z own_EL n0 (⟨"java/lang/StringUTF16", "getChar", "([BI)C"⟩ : MethodName) (Jvm.Cond.code (⟨"java/lang/StringUTF16", "getChar", "([BI)C"⟩ : MethodName) jdk_52_method_5_code 2 (some .char) :: wc) ({ frames := 0, cells := 0, slots := 0, locals := 0 } : Room) #[(.ref b), (.int 0)] h0 [] (fun vq hq => vq = some (.int (StrChars.pairCh u v))) := by
  refine own_enter #[.val (.ref b), .val (.int 0)] pn_java_lang_StringUTF16_getChar___BI_C (ef_ru_get2_0 b kb u v dv e2 e3) hWd.1 O0 all0 ?_
  intro p e s m below meth c T0 X0 hnm hret
  refine own_getS X0 3 d16_0 (host := "") (Or.inl (ow hw 79 rfl)) Via.refl hWd.2.2.2.1 rfl ?_
  intro T1 X2
  refine og_ifY X2 28 d16_3 (XT.i0_ne_t (by decide)) (by decide) (by decide) ?_
  refine og_iloadN X2 29 d16_28 rfl rfl ?_
  refine og_iconst X2 30 (1 : Int32) d16_29 rfl rfl ?_
  refine og_ishl X2 31 d16_30 rfl ?_
  show OGo _ _ _ _ T1 (mkF m 31 #[.val (.ref b), .val (.int 0)] [(.int 0)])
  refine og_istoreN X2 32 #[.val (.ref b), .val (.int 0)] d16_31 rfl rfl ?_
  refine og_aloadN X2 33 d16_32 rfl rfl rfl ?_
  refine og_iloadN X2 34 d16_33 rfl rfl ?_
  refine og_iinc X2 37 #[.val (.ref b), .val (.int 1)] d16_34 rfl rfl rfl ?_
  refine own_ldB X2 38 d16_37 q0 (by decide) (by decide) rfl rfl ?_
  refine og_sipush X2 41 (255 : Int32) d16_38 rfl rfl ?_
  refine og_iand X2 42 d16_41 rfl ?_
  refine own_getS X2 45 d16_42 (host := "") (Or.inl (ow hw 80 rfl)) Via.refl hWd.2.2.2.2.1 rfl ?_
  intro T3 X4
  refine og_ishl X4 46 d16_45 rfl ?_
  refine og_aloadN X4 47 d16_46 rfl rfl rfl ?_
  refine og_iloadN X4 48 d16_47 rfl rfl ?_
  refine own_ldB X4 49 d16_48 q0 (by decide) (by decide) rfl rfl ?_
  refine og_sipush X4 52 (255 : Int32) d16_49 rfl rfl ?_
  refine og_iand X4 53 d16_52 rfl ?_
  refine own_getS X4 56 d16_53 (host := "") (Or.inl (ow hw 81 rfl)) Via.refl hWd.2.2.2.2.2 rfl ?_
  intro T5 X6
  refine og_ishl X6 57 d16_56 rfl ?_
  refine og_ior X6 58 d16_57 rfl ?_
  refine og_i2c X6 59 d16_58 rfl ?_
  refine own_retC X6 d16_59 hret (own_fitC (own_lat16 _).1 (own_lat16 _).2) (by decide) (by decide) ?_
  exact rfl
set_option maxRecDepth 65536 in
set_option maxHeartbeats 40000000 in
theorem ru_get2_1 (l : Launch) (Z : State) (a0 : Array Value) (hw : ∀ d ∈ tables_1, d.before a0 Z = true) (n0 : Nat) (h0 : Heap) (hWd : OWorld Z a0) (wc : List Jvm.Cond) (O0 : Old Z n0 h0) (b : Addr) (kb : ClassId) (u : Int32) (v : Int32) (dv : Value) (e0 : Value) (e1 : Value) (q0 : Arv Z h0 b kb .byte (4 : Int32) [e0, e1, (.int u), (.int v)] dv) :
    OMet l Z own_EL n0 (⟨"java/lang/StringUTF16", "getChar", "([BI)C"⟩ : MethodName) (Jvm.Cond.code (⟨"java/lang/StringUTF16", "getChar", "([BI)C"⟩ : MethodName) jdk_52_method_5_code 2 (some .char) :: wc) ({ frames := 0, cells := 0, slots := 0, locals := 0 } : Room) #[(.ref b), (.int 1)] h0 [] (fun vq hq => vq = some (.int (StrChars.pairCh u v))) := by
  refine own_enter #[.val (.ref b), .val (.int 1)] pn_java_lang_StringUTF16_getChar___BI_C (ef_ru_get2_1 b kb u v dv e0 e1) hWd.1 O0 all0 ?_
  intro p e s m below meth c T0 X0 hnm hret
  refine own_getS X0 3 d16_0 (host := "") (Or.inl (ow hw 79 rfl)) Via.refl hWd.2.2.2.1 rfl ?_
  intro T1 X2
  refine og_ifY X2 28 d16_3 (XT.i0_ne_t (by decide)) (by decide) (by decide) ?_
  refine og_iloadN X2 29 d16_28 rfl rfl ?_
  refine og_iconst X2 30 (1 : Int32) d16_29 rfl rfl ?_
  refine og_ishl X2 31 d16_30 rfl ?_
  show OGo _ _ _ _ T1 (mkF m 31 #[.val (.ref b), .val (.int 1)] [(.int 2)])
  refine og_istoreN X2 32 #[.val (.ref b), .val (.int 2)] d16_31 rfl rfl ?_
  refine og_aloadN X2 33 d16_32 rfl rfl rfl ?_
  refine og_iloadN X2 34 d16_33 rfl rfl ?_
  refine og_iinc X2 37 #[.val (.ref b), .val (.int 3)] d16_34 rfl rfl rfl ?_
  refine own_ldB X2 38 d16_37 q0 (by decide) (by decide) rfl rfl ?_
  refine og_sipush X2 41 (255 : Int32) d16_38 rfl rfl ?_
  refine og_iand X2 42 d16_41 rfl ?_
  refine own_getS X2 45 d16_42 (host := "") (Or.inl (ow hw 80 rfl)) Via.refl hWd.2.2.2.2.1 rfl ?_
  intro T3 X4
  refine og_ishl X4 46 d16_45 rfl ?_
  refine og_aloadN X4 47 d16_46 rfl rfl rfl ?_
  refine og_iloadN X4 48 d16_47 rfl rfl ?_
  refine own_ldB X4 49 d16_48 q0 (by decide) (by decide) rfl rfl ?_
  refine og_sipush X4 52 (255 : Int32) d16_49 rfl rfl ?_
  refine og_iand X4 53 d16_52 rfl ?_
  refine own_getS X4 56 d16_53 (host := "") (Or.inl (ow hw 81 rfl)) Via.refl hWd.2.2.2.2.2 rfl ?_
  intro T5 X6
  refine og_ishl X6 57 d16_56 rfl ?_
  refine og_ior X6 58 d16_57 rfl ?_
  refine og_i2c X6 59 d16_58 rfl ?_
  refine own_retC X6 d16_59 hret (own_fitC (own_lat16 _).1 (own_lat16 _).2) (by decide) (by decide) ?_
  exact rfl
set_option maxRecDepth 65536 in
set_option maxHeartbeats 40000000 in
theorem ru_get3_0 (l : Launch) (Z : State) (a0 : Array Value) (hw : ∀ d ∈ tables_1, d.before a0 Z = true) (n0 : Nat) (h0 : Heap) (hWd : OWorld Z a0) (wc : List Jvm.Cond) (O0 : Old Z n0 h0) (b : Addr) (kb : ClassId) (u : Int32) (v : Int32) (dv : Value) (e2 : Value) (e3 : Value) (e4 : Value) (e5 : Value) (q0 : Arv Z h0 b kb .byte (6 : Int32) [(.int u), (.int v), e2, e3, e4, e5] dv) :
    OMet l Z own_EL n0 (⟨"java/lang/StringUTF16", "getChar", "([BI)C"⟩ : MethodName) (Jvm.Cond.code (⟨"java/lang/StringUTF16", "getChar", "([BI)C"⟩ : MethodName) jdk_52_method_5_code 2 (some .char) :: wc) ({ frames := 0, cells := 0, slots := 0, locals := 0 } : Room) #[(.ref b), (.int 0)] h0 [] (fun vq hq => vq = some (.int (StrChars.pairCh u v))) := by
  refine own_enter #[.val (.ref b), .val (.int 0)] pn_java_lang_StringUTF16_getChar___BI_C (ef_ru_get3_0 b kb u v dv e2 e3 e4 e5) hWd.1 O0 all0 ?_
  intro p e s m below meth c T0 X0 hnm hret
  refine own_getS X0 3 d16_0 (host := "") (Or.inl (ow hw 79 rfl)) Via.refl hWd.2.2.2.1 rfl ?_
  intro T1 X2
  refine og_ifY X2 28 d16_3 (XT.i0_ne_t (by decide)) (by decide) (by decide) ?_
  refine og_iloadN X2 29 d16_28 rfl rfl ?_
  refine og_iconst X2 30 (1 : Int32) d16_29 rfl rfl ?_
  refine og_ishl X2 31 d16_30 rfl ?_
  show OGo _ _ _ _ T1 (mkF m 31 #[.val (.ref b), .val (.int 0)] [(.int 0)])
  refine og_istoreN X2 32 #[.val (.ref b), .val (.int 0)] d16_31 rfl rfl ?_
  refine og_aloadN X2 33 d16_32 rfl rfl rfl ?_
  refine og_iloadN X2 34 d16_33 rfl rfl ?_
  refine og_iinc X2 37 #[.val (.ref b), .val (.int 1)] d16_34 rfl rfl rfl ?_
  refine own_ldB X2 38 d16_37 q0 (by decide) (by decide) rfl rfl ?_
  refine og_sipush X2 41 (255 : Int32) d16_38 rfl rfl ?_
  refine og_iand X2 42 d16_41 rfl ?_
  refine own_getS X2 45 d16_42 (host := "") (Or.inl (ow hw 80 rfl)) Via.refl hWd.2.2.2.2.1 rfl ?_
  intro T3 X4
  refine og_ishl X4 46 d16_45 rfl ?_
  refine og_aloadN X4 47 d16_46 rfl rfl rfl ?_
  refine og_iloadN X4 48 d16_47 rfl rfl ?_
  refine own_ldB X4 49 d16_48 q0 (by decide) (by decide) rfl rfl ?_
  refine og_sipush X4 52 (255 : Int32) d16_49 rfl rfl ?_
  refine og_iand X4 53 d16_52 rfl ?_
  refine own_getS X4 56 d16_53 (host := "") (Or.inl (ow hw 81 rfl)) Via.refl hWd.2.2.2.2.2 rfl ?_
  intro T5 X6
  refine og_ishl X6 57 d16_56 rfl ?_
  refine og_ior X6 58 d16_57 rfl ?_
  refine og_i2c X6 59 d16_58 rfl ?_
  refine own_retC X6 d16_59 hret (own_fitC (own_lat16 _).1 (own_lat16 _).2) (by decide) (by decide) ?_
  exact rfl
set_option maxRecDepth 65536 in
set_option maxHeartbeats 40000000 in
theorem ru_get3_1 (l : Launch) (Z : State) (a0 : Array Value) (hw : ∀ d ∈ tables_1, d.before a0 Z = true) (n0 : Nat) (h0 : Heap) (hWd : OWorld Z a0) (wc : List Jvm.Cond) (O0 : Old Z n0 h0) (b : Addr) (kb : ClassId) (u : Int32) (v : Int32) (dv : Value) (e0 : Value) (e1 : Value) (e4 : Value) (e5 : Value) (q0 : Arv Z h0 b kb .byte (6 : Int32) [e0, e1, (.int u), (.int v), e4, e5] dv) :
    OMet l Z own_EL n0 (⟨"java/lang/StringUTF16", "getChar", "([BI)C"⟩ : MethodName) (Jvm.Cond.code (⟨"java/lang/StringUTF16", "getChar", "([BI)C"⟩ : MethodName) jdk_52_method_5_code 2 (some .char) :: wc) ({ frames := 0, cells := 0, slots := 0, locals := 0 } : Room) #[(.ref b), (.int 1)] h0 [] (fun vq hq => vq = some (.int (StrChars.pairCh u v))) := by
  refine own_enter #[.val (.ref b), .val (.int 1)] pn_java_lang_StringUTF16_getChar___BI_C (ef_ru_get3_1 b kb u v dv e0 e1 e4 e5) hWd.1 O0 all0 ?_
  intro p e s m below meth c T0 X0 hnm hret
  refine own_getS X0 3 d16_0 (host := "") (Or.inl (ow hw 79 rfl)) Via.refl hWd.2.2.2.1 rfl ?_
  intro T1 X2
  refine og_ifY X2 28 d16_3 (XT.i0_ne_t (by decide)) (by decide) (by decide) ?_
  refine og_iloadN X2 29 d16_28 rfl rfl ?_
  refine og_iconst X2 30 (1 : Int32) d16_29 rfl rfl ?_
  refine og_ishl X2 31 d16_30 rfl ?_
  show OGo _ _ _ _ T1 (mkF m 31 #[.val (.ref b), .val (.int 1)] [(.int 2)])
  refine og_istoreN X2 32 #[.val (.ref b), .val (.int 2)] d16_31 rfl rfl ?_
  refine og_aloadN X2 33 d16_32 rfl rfl rfl ?_
  refine og_iloadN X2 34 d16_33 rfl rfl ?_
  refine og_iinc X2 37 #[.val (.ref b), .val (.int 3)] d16_34 rfl rfl rfl ?_
  refine own_ldB X2 38 d16_37 q0 (by decide) (by decide) rfl rfl ?_
  refine og_sipush X2 41 (255 : Int32) d16_38 rfl rfl ?_
  refine og_iand X2 42 d16_41 rfl ?_
  refine own_getS X2 45 d16_42 (host := "") (Or.inl (ow hw 80 rfl)) Via.refl hWd.2.2.2.2.1 rfl ?_
  intro T3 X4
  refine og_ishl X4 46 d16_45 rfl ?_
  refine og_aloadN X4 47 d16_46 rfl rfl rfl ?_
  refine og_iloadN X4 48 d16_47 rfl rfl ?_
  refine own_ldB X4 49 d16_48 q0 (by decide) (by decide) rfl rfl ?_
  refine og_sipush X4 52 (255 : Int32) d16_49 rfl rfl ?_
  refine og_iand X4 53 d16_52 rfl ?_
  refine own_getS X4 56 d16_53 (host := "") (Or.inl (ow hw 81 rfl)) Via.refl hWd.2.2.2.2.2 rfl ?_
  intro T5 X6
  refine og_ishl X6 57 d16_56 rfl ?_
  refine og_ior X6 58 d16_57 rfl ?_
  refine og_i2c X6 59 d16_58 rfl ?_
  refine own_retC X6 d16_59 hret (own_fitC (own_lat16 _).1 (own_lat16 _).2) (by decide) (by decide) ?_
  exact rfl
set_option maxRecDepth 65536 in
set_option maxHeartbeats 40000000 in
theorem ru_get3_2 (l : Launch) (Z : State) (a0 : Array Value) (hw : ∀ d ∈ tables_1, d.before a0 Z = true) (n0 : Nat) (h0 : Heap) (hWd : OWorld Z a0) (wc : List Jvm.Cond) (O0 : Old Z n0 h0) (b : Addr) (kb : ClassId) (u : Int32) (v : Int32) (dv : Value) (e0 : Value) (e1 : Value) (e2 : Value) (e3 : Value) (q0 : Arv Z h0 b kb .byte (6 : Int32) [e0, e1, e2, e3, (.int u), (.int v)] dv) :
    OMet l Z own_EL n0 (⟨"java/lang/StringUTF16", "getChar", "([BI)C"⟩ : MethodName) (Jvm.Cond.code (⟨"java/lang/StringUTF16", "getChar", "([BI)C"⟩ : MethodName) jdk_52_method_5_code 2 (some .char) :: wc) ({ frames := 0, cells := 0, slots := 0, locals := 0 } : Room) #[(.ref b), (.int 2)] h0 [] (fun vq hq => vq = some (.int (StrChars.pairCh u v))) := by
  refine own_enter #[.val (.ref b), .val (.int 2)] pn_java_lang_StringUTF16_getChar___BI_C (ef_ru_get3_2 b kb u v dv e0 e1 e2 e3) hWd.1 O0 all0 ?_
  intro p e s m below meth c T0 X0 hnm hret
  refine own_getS X0 3 d16_0 (host := "") (Or.inl (ow hw 79 rfl)) Via.refl hWd.2.2.2.1 rfl ?_
  intro T1 X2
  refine og_ifY X2 28 d16_3 (XT.i0_ne_t (by decide)) (by decide) (by decide) ?_
  refine og_iloadN X2 29 d16_28 rfl rfl ?_
  refine og_iconst X2 30 (1 : Int32) d16_29 rfl rfl ?_
  refine og_ishl X2 31 d16_30 rfl ?_
  show OGo _ _ _ _ T1 (mkF m 31 #[.val (.ref b), .val (.int 2)] [(.int 4)])
  refine og_istoreN X2 32 #[.val (.ref b), .val (.int 4)] d16_31 rfl rfl ?_
  refine og_aloadN X2 33 d16_32 rfl rfl rfl ?_
  refine og_iloadN X2 34 d16_33 rfl rfl ?_
  refine og_iinc X2 37 #[.val (.ref b), .val (.int 5)] d16_34 rfl rfl rfl ?_
  refine own_ldB X2 38 d16_37 q0 (by decide) (by decide) rfl rfl ?_
  refine og_sipush X2 41 (255 : Int32) d16_38 rfl rfl ?_
  refine og_iand X2 42 d16_41 rfl ?_
  refine own_getS X2 45 d16_42 (host := "") (Or.inl (ow hw 80 rfl)) Via.refl hWd.2.2.2.2.1 rfl ?_
  intro T3 X4
  refine og_ishl X4 46 d16_45 rfl ?_
  refine og_aloadN X4 47 d16_46 rfl rfl rfl ?_
  refine og_iloadN X4 48 d16_47 rfl rfl ?_
  refine own_ldB X4 49 d16_48 q0 (by decide) (by decide) rfl rfl ?_
  refine og_sipush X4 52 (255 : Int32) d16_49 rfl rfl ?_
  refine og_iand X4 53 d16_52 rfl ?_
  refine own_getS X4 56 d16_53 (host := "") (Or.inl (ow hw 81 rfl)) Via.refl hWd.2.2.2.2.2 rfl ?_
  intro T5 X6
  refine og_ishl X6 57 d16_56 rfl ?_
  refine og_ior X6 58 d16_57 rfl ?_
  refine og_i2c X6 59 d16_58 rfl ?_
  refine own_retC X6 d16_59 hret (own_fitC (own_lat16 _).1 (own_lat16 _).2) (by decide) (by decide) ?_
  exact rfl
set_option maxRecDepth 65536 in
set_option maxHeartbeats 40000000 in
theorem ru_nbl1 (l : Launch) (Z : State) (a0 : Array Value) (hw : ∀ d ∈ tables_1, d.before a0 Z = true) (n0 : Nat) (h0 : Heap) (hWd : OWorld Z a0) (wc : List Jvm.Cond) (O0 : Old Z n0 h0)   :
    OMet l Z own_EL n0 (⟨"java/lang/StringUTF16", "newBytesLength", "(I)I"⟩ : MethodName) (Jvm.Cond.code (⟨"java/lang/StringUTF16", "newBytesLength", "(I)I"⟩ : MethodName) jdk_52_method_3_code 1 (some .int) :: wc) ({ frames := 0, cells := 0, slots := 0, locals := 0 } : Room) #[(.int 1)] h0 [] (fun vq hq => vq = some (.int 2)) := by
  refine own_enter #[.val (.int 1)] pn_java_lang_StringUTF16_newBytesLength__I_I (ef_ru_nbl1) hWd.1 O0 all0 ?_
  intro p e s m below meth c T0 X0 hnm hret
  refine og_iloadN X0 1 d14_0 rfl rfl ?_
  refine og_ifY X0 12 d14_1 (XT.i0_ge_t (by decide)) (by decide) (by decide) ?_
  refine og_iloadN X0 13 d14_12 rfl rfl ?_
  refine own_ldcI X0 15 (v := (1073741823 : Int32)) d14_13 (ow hw 75 rfl) rfl ?_
  refine og_icmpY X0 55 d14_15 (XT.ii_lt_t (by decide)) (by decide) (by decide) ?_
  refine og_iloadN X0 56 d14_55 rfl rfl ?_
  refine og_iconst X0 57 (1 : Int32) d14_56 rfl rfl ?_
  refine og_ishl X0 58 d14_57 rfl ?_
  show OGo _ _ _ _ T0 (mkF m 58 #[.val (.int 1)] [(.int 2)])
  refine own_retI X0 d14_58 hret (by decide) (by decide) ?_
  exact rfl
set_option maxRecDepth 65536 in
set_option maxHeartbeats 40000000 in
theorem ru_nbf1 (l : Launch) (Z : State) (a0 : Array Value) (hw : ∀ d ∈ tables_1, d.before a0 Z = true) (n0 : Nat) (h0 : Heap) (hWd : OWorld Z a0) (wc : List Jvm.Cond) (O0 : Old Z n0 h0)   :
    OMet l Z own_EL n0 (⟨"java/lang/StringUTF16", "newBytesFor", "(I)[B"⟩ : MethodName) (Jvm.Cond.code (⟨"java/lang/StringUTF16", "newBytesFor", "(I)[B"⟩ : MethodName) jdk_52_method_2_code 1 (some (.array .byte)) :: wc) ({ frames := 1, cells := 1, slots := 2, locals := 12 } : Room) #[(.int 1)] h0 [] (fun vq hq => ∃ (r : Addr) (kb : ClassId), vq = some (.ref r) ∧ h0.size ≤ r ∧ Arv Z hq r kb .byte (2 : Int32) [(.int 0), (.int 0)] (.int 0)) := by
  refine own_enter #[.val (.int 1)] pn_java_lang_StringUTF16_newBytesFor__I__B (ef_ru_nbf1) hWd.1 O0 all0 ?_
  intro p e s m below meth c T0 X0 hnm hret
  refine og_iloadN X0 1 d13_0 rfl rfl ?_
  refine own_stat X0 4 (argsL := [(.int 1)]) (rest := []) d13_1 (ru_nbl1 l Z a0 hw n0 h0 hWd [] X0.old   ) (ow hw 72 rfl) (ow hw 73 rfl) (ow hw 61 rfl) (ow hw 74 rfl) (by decide) (lenOf pd__28I_29I rfl) rfl rfl rfl (W := 0) rfl (by decide) (by decide) (by decide) (by decide) all0 rfl ?_
  intro T1 h1 v1 X1 K1 hQ1
  obtain rfl := hQ1
  show OGo _ _ _ _ T1 (mkF m 4 #[.val (.int 1)] [(.int 2)])
  refine own_arr X1 6 d13_4 (ow hw 15 rfl) (by decide) (cap := 2) (by decide) (by decide) (by decide) (by decide) rfl ?_
  intro T2 h2 b2 kb2 X2 K2 G2 U2 A2
  have f3 : Arv Z h2 b2 kb2 .byte (2 : Int32) [(.int 0), (.int 0)] (.int 0) := A2
  refine own_retA X2 d13_6 hret rfl rfl (by decide) (by decide) ?_
  exact ⟨b2, kb2, rfl, (Nat.le_trans K1.1 G2), f3⟩
set_option maxRecDepth 65536 in
set_option maxHeartbeats 40000000 in
theorem ru_put1_0 (l : Launch) (Z : State) (a0 : Array Value) (hw : ∀ d ∈ tables_1, d.before a0 Z = true) (n0 : Nat) (h0 : Heap) (hWd : OWorld Z a0) (wc : List Jvm.Cond) (O0 : Old Z n0 h0) (b : Addr) (kb : ClassId) (x : Int32) (dv : Value) (e0 : Value) (e1 : Value) (q0 : Arv Z h0 b kb .byte (2 : Int32) [e0, e1] dv) (g0 : n0 ≤ b ∧ b < h0.size) :
    OMet l Z own_EL n0 (⟨"java/lang/StringUTF16", "putChar", "([BII)V"⟩ : MethodName) (Jvm.Cond.code (⟨"java/lang/StringUTF16", "putChar", "([BII)V"⟩ : MethodName) jdk_52_method_4_code 3 none :: wc) ({ frames := 0, cells := 0, slots := 0, locals := 0 } : Room) #[(.ref b), (.int 0), (.int x)] h0 [b] (fun vq hq => vq = none ∧ Arv Z hq b kb .byte (2 : Int32) [(.int (StrChars.lo8 x)), (.int (StrChars.hi8 x))] dv) := by
  refine own_enter #[.val (.ref b), .val (.int 0), .val (.int x)] pn_java_lang_StringUTF16_putChar___BII_V (ef_ru_put1_0 b kb x dv e0 e1) hWd.1 O0 (allS g0 all0) ?_
  intro p e s m below meth c T0 X0 hnm hret
  refine own_getS X0 3 d15_0 (host := "") (Or.inl (ow hw 79 rfl)) Via.refl hWd.2.2.2.1 rfl ?_
  intro T1 X2
  refine og_ifY X2 28 d15_3 (XT.i0_ne_t (by decide)) (by decide) (by decide) ?_
  refine og_iloadN X2 29 d15_28 rfl rfl ?_
  refine og_iconst X2 30 (1 : Int32) d15_29 rfl rfl ?_
  refine og_ishl X2 31 d15_30 rfl ?_
  show OGo _ _ _ _ T1 (mkF m 31 #[.val (.ref b), .val (.int 0), .val (.int x)] [(.int 0)])
  refine og_istoreN X2 32 #[.val (.ref b), .val (.int 0), .val (.int x)] d15_31 rfl rfl ?_
  refine og_aloadN X2 33 d15_32 rfl rfl rfl ?_
  refine og_iloadN X2 34 d15_33 rfl rfl ?_
  refine og_iinc X2 37 #[.val (.ref b), .val (.int 1), .val (.int x)] d15_34 rfl rfl rfl ?_
  refine og_iloadN X2 38 d15_37 rfl rfl ?_
  refine own_getS X2 41 d15_38 (host := "") (Or.inl (ow hw 80 rfl)) Via.refl hWd.2.2.2.2.1 rfl ?_
  intro T3 X4
  refine og_ishr X4 42 d15_41 rfl ?_
  refine og_i2b X4 43 d15_42 rfl ?_
  refine own_stB X4 44 d15_43 q0 (own_nbb _) (by decide) (by decide) (i := 0) (by decide) (Nat.le_of_ble_eq_true rfl) (om 0 rfl) rfl ?_
  intro T5 h5 X5 W5 K5 A5
  have f6 : Arv Z h5 b kb .byte (2 : Int32) [(.int (((x >>> ((0 : Int32) &&& 31))).toInt8.toInt32)), e1] dv := A5
  refine og_aloadN X5 45 d15_44 rfl rfl rfl ?_
  refine og_iloadN X5 46 d15_45 rfl rfl ?_
  refine og_iloadN X5 47 d15_46 rfl rfl ?_
  refine own_getS X5 50 d15_47 (host := "") (Or.inl (ow hw 81 rfl)) Via.refl hWd.2.2.2.2.2 rfl ?_
  intro T7 X8
  refine og_ishr X8 51 d15_50 rfl ?_
  refine og_i2b X8 52 d15_51 rfl ?_
  refine own_stB X8 53 d15_52 f6 (own_nbb _) (by decide) (by decide) (i := 1) (by decide) (Nat.le_of_ble_eq_true rfl) (om 0 rfl) rfl ?_
  intro T9 h9 X9 W9 K9 A9
  have f10 : Arv Z h9 b kb .byte (2 : Int32) [(.int (((x >>> ((0 : Int32) &&& 31))).toInt8.toInt32)), (.int (((x >>> ((8 : Int32) &&& 31))).toInt8.toInt32))] dv := A9
  refine own_retV X9 d15_53 hret (by decide) (by decide) ?_
  exact ⟨rfl, by have q := f10; rw [StrChars.shr0] at q; exact q⟩
set_option maxRecDepth 65536 in
set_option maxHeartbeats 40000000 in
theorem ru_tob1 (l : Launch) (Z : State) (a0 : Array Value) (hw : ∀ d ∈ tables_1, d.before a0 Z = true) (n0 : Nat) (h0 : Heap) (hWd : OWorld Z a0) (wc : List Jvm.Cond) (O0 : Old Z n0 h0) (b : Addr) (kb : ClassId) (dv : Value) (x0 : Int32) (q0 : Arv Z h0 b kb .char (1 : Int32) [(.int x0)] dv) :
    OMet l Z own_EL n0 (⟨"java/lang/StringUTF16", "toBytes", "([CII)[B"⟩ : MethodName) (Jvm.Cond.code (⟨"java/lang/StringUTF16", "toBytes", "([CII)[B"⟩ : MethodName) jdk_52_method_14_code 5 (some (.array .byte)) :: wc) ({ frames := 2, cells := 1, slots := 2, locals := 24 } : Room) #[(.ref b), (.int 0), (.int 1)] h0 [] (fun vq hq => ∃ (r : Addr) (kr : ClassId), vq = some (.ref r) ∧ h0.size ≤ r ∧ Arv Z hq r kr .byte (2 : Int32) [(.int (StrChars.lo8 x0)), (.int (StrChars.hi8 x0))] (.int 0)) := by
  refine own_enter #[.val (.ref b), .val (.int 0), .val (.int 1), .unset, .unset] pn_java_lang_StringUTF16_toBytes___CII__B (ef_ru_tob1 b kb dv x0) hWd.1 O0 all0 ?_
  intro p e s m below meth c T0 X0 hnm hret
  refine og_iloadN X0 1 d12_0 rfl rfl ?_
  refine own_stat X0 4 (argsL := [(.int 1)]) (rest := []) d12_1 (ru_nbf1 l Z a0 hw n0 h0 hWd [] X0.old   ) (ow hw 69 rfl) (ow hw 70 rfl) (ow hw 61 rfl) (ow hw 71 rfl) (by decide) (lenOf pd__28I_29_5bB rfl) rfl rfl rfl (W := 0) rfl (by decide) (by decide) (by decide) (by decide) all0 rfl ?_
  intro T1 h1 v1 X1 K1 hQ1
  obtain ⟨r1, kb1, rfl, ge_r1, f2⟩ := hQ1
  show OGo _ _ _ _ T1 (mkF m 4 #[.val (.ref b), .val (.int 0), .val (.int 1), .unset, .unset] [(.ref r1)])
  refine og_astoreN X1 5 #[.val (.ref b), .val (.int 0), .val (.int 1), .val (.ref r1), .unset] d12_4 rfl rfl rfl ?_
  refine og_iconst X1 6 (0 : Int32) d12_5 rfl rfl ?_
  refine og_istore X1 8 #[.val (.ref b), .val (.int 0), .val (.int 1), .val (.ref r1), .val (.int 0)] d12_6 rfl rfl ?_
  refine og_iload X1 10 d12_8 rfl rfl ?_
  refine og_iloadN X1 11 d12_10 rfl rfl ?_
  refine og_icmpN X1 14 d12_11 (XT.ii_ge_f (by decide)) rfl ?_
  refine og_aloadN X1 15 d12_14 rfl rfl rfl ?_
  refine og_iload X1 17 d12_15 rfl rfl ?_
  refine og_aloadN X1 18 d12_17 rfl rfl rfl ?_
  refine og_iloadN X1 19 d12_18 rfl rfl ?_
  have f3 := q0.keep K1 nin0
  refine own_ldC X1 20 d12_19 f3 (by decide) (by decide) rfl rfl ?_
  have X4 := own_svB X1 f2 (own_tx2 hw) (Nat.le_trans (own_n0 X0) ge_r1) ge_r1
  refine own_stat X4 23 (argsL := [(.ref r1), (.int 0), (.int x0)]) (rest := []) d12_20 (ru_put1_0 l Z a0 hw n0 h1 hWd [] X4.old r1 kb1 x0 (.int 0) (.int 0) (.int 0) f2 (own_svb X4 (om 0 rfl))) (ow hw 76 rfl) (ow hw 77 rfl) (ow hw 61 rfl) (ow hw 78 rfl) (by decide) (lenOf pd__28_5bBII_29V rfl) rfl rfl rfl (W := 0) rfl (by decide) (by decide) (by decide) (by decide) (allS (om 0 rfl) all0) rfl ?_
  intro T5 h5 v5 X5 K5 hQ5
  obtain ⟨rfl, f6⟩ := hQ5
  show OGo _ _ _ _ T5 (mkF m 23 #[.val (.ref b), .val (.int 0), .val (.int 1), .val (.ref r1), .val (.int 0)] [])
  refine og_iinc X5 26 #[.val (.ref b), .val (.int 1), .val (.int 1), .val (.ref r1), .val (.int 0)] d12_23 rfl rfl rfl ?_
  refine og_iinc X5 29 #[.val (.ref b), .val (.int 1), .val (.int 1), .val (.ref r1), .val (.int 1)] d12_26 rfl rfl rfl ?_
  refine og_goto X5 8 d12_29 (by decide) (by decide) ?_
  refine og_iload X5 10 d12_8 rfl rfl ?_
  refine og_iloadN X5 11 d12_10 rfl rfl ?_
  refine og_icmpY X5 32 d12_11 (XT.ii_ge_t (by decide)) (by decide) (by decide) ?_
  refine og_aloadN X5 33 d12_32 rfl rfl rfl ?_
  refine own_retA X5 d12_33 hret rfl rfl (by decide) (by decide) ?_
  exact ⟨r1, kb1, rfl, ge_r1, f6⟩
set_option maxRecDepth 65536 in
set_option maxHeartbeats 40000000 in
theorem ru_cmi1_0 (l : Launch) (Z : State) (a0 : Array Value) (hw : ∀ d ∈ tables_1, d.before a0 Z = true) (n0 : Nat) (h0 : Heap) (hWd : OWorld Z a0) (wc : List Jvm.Cond) (O0 : Old Z n0 h0) (b : Addr) (kb : ClassId) (dv : Value) (d : Addr) (kd : ClassId) (x0 : Int32) (q0 : Arv Z h0 b kb .char (1 : Int32) [(.int x0)] dv) (q1 : Arv Z h0 d kd .byte (1 : Int32) [(.int 0)] (.int 0)) (q2 : (255 : Int32) < x0) (q3 : b ≠ d) (g0 : n0 ≤ d ∧ d < h0.size) :
    OMet l Z own_EL n0 (⟨"java/lang/StringUTF16", "compress", "([CI[BII)I"⟩ : MethodName) (Jvm.Cond.code (⟨"java/lang/StringUTF16", "compress", "([CI[BII)I"⟩ : MethodName) jdk_52_method_21_code 7 (some .int) :: wc) ({ frames := 0, cells := 0, slots := 0, locals := 0 } : Room) #[(.ref b), (.int 0), (.ref d), (.int 0), (.int 1)] h0 [d] (fun vq hq => vq = some (.int 0)) := by
  refine own_enter #[.val (.ref b), .val (.int 0), .val (.ref d), .val (.int 0), .val (.int 1), .unset, .unset] pn_java_lang_StringUTF16_compress___CI_BII_I (ef_ru_cmi1_0 b kb dv d kd x0) hWd.1 O0 (allS g0 all0) ?_
  intro p e s m below meth c T0 X0 hnm hret
  refine og_iconst X0 1 (0 : Int32) d11_0 rfl rfl ?_
  refine og_istore X0 3 #[.val (.ref b), .val (.int 0), .val (.ref d), .val (.int 0), .val (.int 1), .val (.int 0), .unset] d11_1 rfl rfl ?_
  refine og_iload X0 5 d11_3 rfl rfl ?_
  refine og_iload X0 7 d11_5 rfl rfl ?_
  refine og_icmpN X0 10 d11_7 (XT.ii_ge_f (by decide)) rfl ?_
  refine og_aloadN X0 11 d11_10 rfl rfl rfl ?_
  refine og_iloadN X0 12 d11_11 rfl rfl ?_
  refine own_ldC X0 13 d11_12 q0 (by decide) (by decide) rfl rfl ?_
  refine og_istore X0 15 #[.val (.ref b), .val (.int 0), .val (.ref d), .val (.int 0), .val (.int 1), .val (.int 0), .val (.int x0)] d11_13 rfl rfl ?_
  refine og_iload X0 17 d11_15 rfl rfl ?_
  refine og_sipush X0 20 (255 : Int32) d11_17 rfl rfl ?_
  refine og_icmpN X0 23 d11_20 (XT.ii_le_f q2) rfl ?_
  refine og_iload X0 25 d11_23 rfl rfl ?_
  refine own_retI X0 d11_25 hret (by decide) (by decide) ?_
  exact rfl
set_option maxRecDepth 65536 in
set_option maxHeartbeats 40000000 in
theorem ru_cmp1_0 (l : Launch) (Z : State) (a0 : Array Value) (hw : ∀ d ∈ tables_1, d.before a0 Z = true) (n0 : Nat) (h0 : Heap) (hWd : OWorld Z a0) (wc : List Jvm.Cond) (O0 : Old Z n0 h0) (b : Addr) (kb : ClassId) (dv : Value) (x0 : Int32) (q0 : Arv Z h0 b kb .char (1 : Int32) [(.int x0)] dv) (q1 : (255 : Int32) < x0) (q2 : ¬ x0 < 0) (q3 : ¬ (65535 : Int32) < x0) :
    OMet l Z own_EL n0 (⟨"java/lang/StringUTF16", "compress", "([CII)[B"⟩ : MethodName) (Jvm.Cond.code (⟨"java/lang/StringUTF16", "compress", "([CII)[B"⟩ : MethodName) jdk_52_method_16_code 6 (some (.array .byte)) :: wc) ({ frames := 3, cells := 2, slots := 3, locals := 40 } : Room) #[(.ref b), (.int 0), (.int 1)] h0 [] (fun vq hq => ∃ (r : Addr) (kr : ClassId), vq = some (.ref r) ∧ h0.size ≤ r ∧ Arv Z hq r kr .byte (2 : Int32) [(.int (StrChars.lo8 x0)), (.int (StrChars.hi8 x0))] (.int 0)) := by
  refine own_enter #[.val (.ref b), .val (.int 0), .val (.int 1), .unset, .unset, .unset] pn_java_lang_StringUTF16_compress___CII__B (ef_ru_cmp1_0 b kb dv x0) hWd.1 O0 all0 ?_
  intro p e s m below meth c T0 X0 hnm hret
  refine og_iloadN X0 1 d10_0 rfl rfl ?_
  refine own_arr X0 3 d10_1 (ow hw 15 rfl) (by decide) (cap := 1) (by decide) (by decide) (by decide) (by decide) rfl ?_
  intro T1 h1 b1 kb1 X1 K1 G1 U1 A1
  have f2 : Arv Z h1 b1 kb1 .byte (1 : Int32) [(.int 0)] (.int 0) := A1
  refine og_astoreN X1 4 #[.val (.ref b), .val (.int 0), .val (.int 1), .val (.ref b1), .unset, .unset] d10_3 rfl rfl rfl ?_
  refine og_aloadN X1 5 d10_4 rfl rfl rfl ?_
  refine og_iloadN X1 6 d10_5 rfl rfl ?_
  refine og_aloadN X1 7 d10_6 rfl rfl rfl ?_
  refine og_iconst X1 8 (0 : Int32) d10_7 rfl rfl ?_
  refine og_iloadN X1 9 d10_8 rfl rfl ?_
  have f3 := q0.keep K1 nin0
  refine own_stat X1 12 (argsL := [(.ref b), (.int 0), (.ref b1), (.int 0), (.int 1)]) (rest := []) d10_9 (ru_cmi1_0 l Z a0 hw n0 h1 hWd [] X1.old b kb dv b1 kb1 x0 f3 f2 q1 (Nat.ne_of_lt (Nat.lt_of_lt_of_le q0.lt G1)) (own_svb X1 (om 0 rfl))) (ow hw 63 rfl) (ow hw 64 rfl) (ow hw 61 rfl) (ow hw 65 rfl) (by decide) (lenOf pd__28_5bCI_5bBII_29I rfl) rfl rfl rfl (W := 0) rfl (by decide) (by decide) (by decide) (by decide) (allS (om 0 rfl) all0) rfl ?_
  intro T4 h4 v4 X4 K4 hQ4
  obtain rfl := hQ4
  show OGo _ _ _ _ T4 (mkF m 12 #[.val (.ref b), .val (.int 0), .val (.int 1), .val (.ref b1), .unset, .unset] [(.int 0)])
  refine og_istore X4 14 #[.val (.ref b), .val (.int 0), .val (.int 1), .val (.ref b1), .val (.int 0), .unset] d10_12 rfl rfl ?_
  refine og_iload X4 16 d10_14 rfl rfl ?_
  refine og_iloadN X4 17 d10_16 rfl rfl ?_
  refine og_icmpN X4 20 d10_17 (XT.ii_eq_f (by decide)) rfl ?_
  refine og_aloadN X4 21 d10_20 rfl rfl rfl ?_
  refine og_iloadN X4 22 d10_21 rfl rfl ?_
  refine og_iloadN X4 23 d10_22 rfl rfl ?_
  have f5 := f3.keep K4 (ninS (Nat.ne_of_lt (Nat.lt_of_lt_of_le q0.lt G1)) nin0)
  refine own_stat X4 26 (argsL := [(.ref b), (.int 0), (.int 1)]) (rest := []) d10_23 (ru_tob1 l Z a0 hw n0 h4 hWd [] X4.old b kb dv x0 f5 ) (ow hw 66 rfl) (ow hw 67 rfl) (ow hw 61 rfl) (ow hw 68 rfl) (by decide) (lenOf pd__28_5bCII_29_5bB rfl) rfl rfl rfl (W := 0) rfl (by decide) (by decide) (by decide) (by decide) all0 rfl ?_
  intro T6 h6 v6 X6 K6 hQ6
  obtain ⟨r6, kr6, rfl, ge_r6, f7⟩ := hQ6
  show OGo _ _ _ _ T6 (mkF m 26 #[.val (.ref b), .val (.int 0), .val (.int 1), .val (.ref b1), .val (.int 0), .unset] [(.ref r6)])
  refine og_astore X6 28 #[.val (.ref b), .val (.int 0), .val (.int 1), .val (.ref b1), .val (.int 0), .val (.ref r6)] d10_26 rfl rfl rfl ?_
  refine og_aload X6 30 d10_28 rfl rfl rfl ?_
  refine og_iload X6 32 d10_30 rfl rfl ?_
  refine own_stat X6 35 (argsL := [(.ref r6), (.int 0)]) (rest := []) d10_32 (ru_get1_0 l Z a0 hw n0 h6 hWd [] X6.old r6 kr6 (StrChars.lo8 x0) (StrChars.hi8 x0) (.int 0) f7 ) (ow hw 82 rfl) (ow hw 83 rfl) (ow hw 61 rfl) (ow hw 84 rfl) (by decide) (lenOf pd__28_5bBI_29C rfl) rfl rfl rfl (W := 0) rfl (by decide) (by decide) (by decide) (by decide) all0 rfl ?_
  intro T8 h8 v8 X8 K8 hQ8
  obtain rfl := hQ8
  show OGo _ _ _ _ T8 (mkF m 35 #[.val (.ref b), .val (.int 0), .val (.int 1), .val (.ref b1), .val (.int 0), .val (.ref r6)] [(.int (StrChars.pairCh (StrChars.lo8 x0) (StrChars.hi8 x0)))])
  refine og_sipush X8 38 (255 : Int32) d10_35 rfl rfl ?_
  refine og_icmpY X8 54 d10_38 (XT.ii_gt_t (by rw [StrChars.pair_says q2 q3]; exact q1)) (by decide) (by decide) ?_
  refine og_aload X8 56 d10_54 rfl rfl rfl ?_
  have f9 := f7.keep K8 nin0
  refine own_retA X8 d10_56 hret rfl rfl (by decide) (by decide) ?_
  exact ⟨r6, kr6, rfl, (Nat.le_trans (Nat.le_trans K1.1 K4.1) ge_r6), f9⟩
set_option maxRecDepth 65536 in
set_option maxHeartbeats 40000000 in
theorem ru_cmi1_1 (l : Launch) (Z : State) (a0 : Array Value) (hw : ∀ d ∈ tables_1, d.before a0 Z = true) (n0 : Nat) (h0 : Heap) (hWd : OWorld Z a0) (wc : List Jvm.Cond) (O0 : Old Z n0 h0) (b : Addr) (kb : ClassId) (dv : Value) (d : Addr) (kd : ClassId) (x0 : Int32) (q0 : Arv Z h0 b kb .char (1 : Int32) [(.int x0)] dv) (q1 : Arv Z h0 d kd .byte (1 : Int32) [(.int 0)] (.int 0)) (q2 : ¬ (255 : Int32) < x0) (q3 : b ≠ d) (g0 : n0 ≤ d ∧ d < h0.size) :
    OMet l Z own_EL n0 (⟨"java/lang/StringUTF16", "compress", "([CI[BII)I"⟩ : MethodName) (Jvm.Cond.code (⟨"java/lang/StringUTF16", "compress", "([CI[BII)I"⟩ : MethodName) jdk_52_method_21_code 7 (some .int) :: wc) ({ frames := 0, cells := 0, slots := 0, locals := 0 } : Room) #[(.ref b), (.int 0), (.ref d), (.int 0), (.int 1)] h0 [d] (fun vq hq => vq = some (.int 1) ∧ Arv Z hq d kd .byte (1 : Int32) [(.int ((x0).toInt8.toInt32))] (.int 0)) := by
  refine own_enter #[.val (.ref b), .val (.int 0), .val (.ref d), .val (.int 0), .val (.int 1), .unset, .unset] pn_java_lang_StringUTF16_compress___CI_BII_I (ef_ru_cmi1_1 b kb dv d kd x0) hWd.1 O0 (allS g0 all0) ?_
  intro p e s m below meth c T0 X0 hnm hret
  refine og_iconst X0 1 (0 : Int32) d11_0 rfl rfl ?_
  refine og_istore X0 3 #[.val (.ref b), .val (.int 0), .val (.ref d), .val (.int 0), .val (.int 1), .val (.int 0), .unset] d11_1 rfl rfl ?_
  refine og_iload X0 5 d11_3 rfl rfl ?_
  refine og_iload X0 7 d11_5 rfl rfl ?_
  refine og_icmpN X0 10 d11_7 (XT.ii_ge_f (by decide)) rfl ?_
  refine og_aloadN X0 11 d11_10 rfl rfl rfl ?_
  refine og_iloadN X0 12 d11_11 rfl rfl ?_
  refine own_ldC X0 13 d11_12 q0 (by decide) (by decide) rfl rfl ?_
  refine og_istore X0 15 #[.val (.ref b), .val (.int 0), .val (.ref d), .val (.int 0), .val (.int 1), .val (.int 0), .val (.int x0)] d11_13 rfl rfl ?_
  refine og_iload X0 17 d11_15 rfl rfl ?_
  refine og_sipush X0 20 (255 : Int32) d11_17 rfl rfl ?_
  refine og_icmpY X0 26 d11_20 (XT.ii_le_t q2) (by decide) (by decide) ?_
  refine og_aloadN X0 27 d11_26 rfl rfl rfl ?_
  refine og_iloadN X0 28 d11_27 rfl rfl ?_
  refine og_iload X0 30 d11_28 rfl rfl ?_
  refine og_i2b X0 31 d11_30 rfl ?_
  refine own_stB X0 32 d11_31 q1 (own_nbb _) (by decide) (by decide) (i := 0) (by decide) (Nat.le_of_ble_eq_true rfl) (om 0 rfl) rfl ?_
  intro T1 h1 X1 W1 K1 A1
  have f2 : Arv Z h1 d kd .byte (1 : Int32) [(.int ((x0).toInt8.toInt32))] (.int 0) := A1
  refine og_iinc X1 35 #[.val (.ref b), .val (.int 1), .val (.ref d), .val (.int 0), .val (.int 1), .val (.int 0), .val (.int x0)] d11_32 rfl rfl rfl ?_
  refine og_iinc X1 38 #[.val (.ref b), .val (.int 1), .val (.ref d), .val (.int 1), .val (.int 1), .val (.int 0), .val (.int x0)] d11_35 rfl rfl rfl ?_
  refine og_iinc X1 41 #[.val (.ref b), .val (.int 1), .val (.ref d), .val (.int 1), .val (.int 1), .val (.int 1), .val (.int x0)] d11_38 rfl rfl rfl ?_
  refine og_goto X1 3 d11_41 (by decide) (by decide) ?_
  refine og_iload X1 5 d11_3 rfl rfl ?_
  refine og_iload X1 7 d11_5 rfl rfl ?_
  refine og_icmpY X1 44 d11_7 (XT.ii_ge_t (by decide)) (by decide) (by decide) ?_
  refine og_iload X1 46 d11_44 rfl rfl ?_
  refine own_retI X1 d11_46 hret (by decide) (by decide) ?_
  exact ⟨rfl, f2⟩
set_option maxRecDepth 65536 in
set_option maxHeartbeats 40000000 in
theorem ru_cmp1_1 (l : Launch) (Z : State) (a0 : Array Value) (hw : ∀ d ∈ tables_1, d.before a0 Z = true) (n0 : Nat) (h0 : Heap) (hWd : OWorld Z a0) (wc : List Jvm.Cond) (O0 : Old Z n0 h0) (b : Addr) (kb : ClassId) (dv : Value) (x0 : Int32) (q0 : Arv Z h0 b kb .char (1 : Int32) [(.int x0)] dv) (q1 : ¬ (255 : Int32) < x0) (q2 : ¬ x0 < 0) (q3 : ¬ (65535 : Int32) < x0) :
    OMet l Z own_EL n0 (⟨"java/lang/StringUTF16", "compress", "([CII)[B"⟩ : MethodName) (Jvm.Cond.code (⟨"java/lang/StringUTF16", "compress", "([CII)[B"⟩ : MethodName) jdk_52_method_16_code 6 (some (.array .byte)) :: wc) ({ frames := 1, cells := 1, slots := 1, locals := 18 } : Room) #[(.ref b), (.int 0), (.int 1)] h0 [] (fun vq hq => ∃ (r : Addr) (kr : ClassId), vq = some (.ref r) ∧ h0.size ≤ r ∧ Arv Z hq r kr .byte (1 : Int32) [(.int ((x0).toInt8.toInt32))] (.int 0)) := by
  refine own_enter #[.val (.ref b), .val (.int 0), .val (.int 1), .unset, .unset, .unset] pn_java_lang_StringUTF16_compress___CII__B (ef_ru_cmp1_1 b kb dv x0) hWd.1 O0 all0 ?_
  intro p e s m below meth c T0 X0 hnm hret
  refine og_iloadN X0 1 d10_0 rfl rfl ?_
  refine own_arr X0 3 d10_1 (ow hw 15 rfl) (by decide) (cap := 1) (by decide) (by decide) (by decide) (by decide) rfl ?_
  intro T1 h1 b1 kb1 X1 K1 G1 U1 A1
  have f2 : Arv Z h1 b1 kb1 .byte (1 : Int32) [(.int 0)] (.int 0) := A1
  refine og_astoreN X1 4 #[.val (.ref b), .val (.int 0), .val (.int 1), .val (.ref b1), .unset, .unset] d10_3 rfl rfl rfl ?_
  refine og_aloadN X1 5 d10_4 rfl rfl rfl ?_
  refine og_iloadN X1 6 d10_5 rfl rfl ?_
  refine og_aloadN X1 7 d10_6 rfl rfl rfl ?_
  refine og_iconst X1 8 (0 : Int32) d10_7 rfl rfl ?_
  refine og_iloadN X1 9 d10_8 rfl rfl ?_
  have f3 := q0.keep K1 nin0
  refine own_stat X1 12 (argsL := [(.ref b), (.int 0), (.ref b1), (.int 0), (.int 1)]) (rest := []) d10_9 (ru_cmi1_1 l Z a0 hw n0 h1 hWd [] X1.old b kb dv b1 kb1 x0 f3 f2 q1 (Nat.ne_of_lt (Nat.lt_of_lt_of_le q0.lt G1)) (own_svb X1 (om 0 rfl))) (ow hw 63 rfl) (ow hw 64 rfl) (ow hw 61 rfl) (ow hw 65 rfl) (by decide) (lenOf pd__28_5bCI_5bBII_29I rfl) rfl rfl rfl (W := 0) rfl (by decide) (by decide) (by decide) (by decide) (allS (om 0 rfl) all0) rfl ?_
  intro T4 h4 v4 X4 K4 hQ4
  obtain ⟨rfl, f5⟩ := hQ4
  show OGo _ _ _ _ T4 (mkF m 12 #[.val (.ref b), .val (.int 0), .val (.int 1), .val (.ref b1), .unset, .unset] [(.int 1)])
  refine og_istore X4 14 #[.val (.ref b), .val (.int 0), .val (.int 1), .val (.ref b1), .val (.int 1), .unset] d10_12 rfl rfl ?_
  refine og_iload X4 16 d10_14 rfl rfl ?_
  refine og_iloadN X4 17 d10_16 rfl rfl ?_
  refine og_icmpY X4 57 d10_17 (XT.ii_eq_t (by decide)) (by decide) (by decide) ?_
  refine og_aloadN X4 58 d10_57 rfl rfl rfl ?_
  refine own_retA X4 d10_58 hret rfl rfl (by decide) (by decide) ?_
  exact ⟨b1, kb1, rfl, G1, f5⟩
set_option maxRecDepth 65536 in
set_option maxHeartbeats 40000000 in
theorem ru_cod1_1 (l : Launch) (Z : State) (a0 : Array Value) (hw : ∀ d ∈ tables_1, d.before a0 Z = true) (n0 : Nat) (h0 : Heap) (hWd : OWorld Z a0) (wc : List Jvm.Cond) (O0 : Old Z n0 h0) (b : Addr) (kb : ClassId) (vs : List Value) (dv : Value) (q0 : Arv Z h0 b kb .byte (1 : Int32) vs dv) :
    OMet l Z own_EL n0 (⟨"java/lang/StringUTF16", "coderFromArrayLen", "([BI)B"⟩ : MethodName) (Jvm.Cond.code (⟨"java/lang/StringUTF16", "coderFromArrayLen", "([BI)B"⟩ : MethodName) jdk_52_method_15_code 2 (some .byte) :: wc) ({ frames := 0, cells := 0, slots := 0, locals := 0 } : Room) #[(.ref b), (.int 1)] h0 [] (fun vq hq => vq = some (.int 0)) := by
  refine own_enter #[.val (.ref b), .val (.int 1)] pn_java_lang_StringUTF16_coderFromArrayLen___BI_B (ef_ru_cod1_1 b kb vs dv) hWd.1 O0 all0 ?_
  intro p e s m below meth c T0 X0 hnm hret
  refine og_iloadN X0 1 d17_0 rfl rfl ?_
  refine og_aloadN X0 2 d17_1 rfl rfl rfl ?_
  refine own_len X0 3 d17_2 q0 rfl ?_
  refine og_isub X0 4 d17_3 rfl ?_
  show OGo _ _ _ _ T0 (mkF m 4 #[.val (.ref b), .val (.int 1)] [(.int 0)])
  refine og_bipush X0 6 (31 : Int32) d17_4 rfl rfl ?_
  refine og_iushr X0 7 d17_6 rfl ?_
  show OGo _ _ _ _ T0 (mkF m 7 #[.val (.ref b), .val (.int 1)] [(.int 0)])
  refine og_i2b X0 8 d17_7 rfl ?_
  show OGo _ _ _ _ T0 (mkF m 8 #[.val (.ref b), .val (.int 1)] [(.int 0)])
  refine own_retY X0 d17_8 hret rfl (by decide) (by decide) ?_
  exact rfl
set_option maxRecDepth 65536 in
set_option maxHeartbeats 40000000 in
theorem ru_cod1_2 (l : Launch) (Z : State) (a0 : Array Value) (hw : ∀ d ∈ tables_1, d.before a0 Z = true) (n0 : Nat) (h0 : Heap) (hWd : OWorld Z a0) (wc : List Jvm.Cond) (O0 : Old Z n0 h0) (b : Addr) (kb : ClassId) (vs : List Value) (dv : Value) (q0 : Arv Z h0 b kb .byte (2 : Int32) vs dv) :
    OMet l Z own_EL n0 (⟨"java/lang/StringUTF16", "coderFromArrayLen", "([BI)B"⟩ : MethodName) (Jvm.Cond.code (⟨"java/lang/StringUTF16", "coderFromArrayLen", "([BI)B"⟩ : MethodName) jdk_52_method_15_code 2 (some .byte) :: wc) ({ frames := 0, cells := 0, slots := 0, locals := 0 } : Room) #[(.ref b), (.int 1)] h0 [] (fun vq hq => vq = some (.int 1)) := by
  refine own_enter #[.val (.ref b), .val (.int 1)] pn_java_lang_StringUTF16_coderFromArrayLen___BI_B (ef_ru_cod1_2 b kb vs dv) hWd.1 O0 all0 ?_
  intro p e s m below meth c T0 X0 hnm hret
  refine og_iloadN X0 1 d17_0 rfl rfl ?_
  refine og_aloadN X0 2 d17_1 rfl rfl rfl ?_
  refine own_len X0 3 d17_2 q0 rfl ?_
  refine og_isub X0 4 d17_3 rfl ?_
  show OGo _ _ _ _ T0 (mkF m 4 #[.val (.ref b), .val (.int 1)] [(.int (-1 : Int32))])
  refine og_bipush X0 6 (31 : Int32) d17_4 rfl rfl ?_
  refine og_iushr X0 7 d17_6 rfl ?_
  show OGo _ _ _ _ T0 (mkF m 7 #[.val (.ref b), .val (.int 1)] [(.int 1)])
  refine og_i2b X0 8 d17_7 rfl ?_
  show OGo _ _ _ _ T0 (mkF m 8 #[.val (.ref b), .val (.int 1)] [(.int 1)])
  refine own_retY X0 d17_8 hret rfl (by decide) (by decide) ?_
  exact rfl
set_option maxRecDepth 65536 in
set_option maxHeartbeats 40000000 in
theorem ru_inv1 (l : Launch) (Z : State) (a0 : Array Value) (hw : ∀ d ∈ tables_1, d.before a0 Z = true) (n0 : Nat) (h0 : Heap) (hWd : OWorld Z a0) (wc : List Jvm.Cond) (O0 : Old Z n0 h0) (a : Addr) (b : Addr) (y : Value) (z : Int32) (kb : ClassId) (dv : Value) (x0 : Int32) (q0 : Exa Z h0 a "java/lang/String") (q1 : Fld Z h0 a "java/lang/String" "value" "[B" y) (q2 : Fld Z h0 a "java/lang/String" "coder" "B" (.int z)) (q3 : Arv Z h0 b kb .char (1 : Int32) [(.int x0)] dv) (q4 : ¬ x0 < 0) (q5 : ¬ (65535 : Int32) < x0) (g0 : n0 ≤ a ∧ a < h0.size) :
    OMet l Z own_EL n0 (⟨"java/lang/String", "<init>", "([CIILjava/lang/Void;)V"⟩ : MethodName) (Jvm.Cond.code (⟨"java/lang/String", "<init>", "([CIILjava/lang/Void;)V"⟩ : MethodName) jdk_42_method_149_code 6 none :: wc) ({ frames := 4, cells := 2, slots := 3, locals := 57 } : Room) #[(.ref a), (.ref b), (.int 0), (.int 1), .null] h0 [a] (fun vq hq => vq = none ∧ OStr Z hq a [x0] hq.size) := by
  refine own_enter #[.val (.ref a), .val (.ref b), .val (.int 0), .val (.int 1), .val .null, .unset] pn_java_lang_String__init____CIILjava_lang_Void__V (ef_ru_inv1 a b y z kb dv x0) hWd.1 O0 (allS g0 all0) ?_
  intro p e s m below meth c T0 X0 hnm hret
  refine og_aloadN X0 1 d2_0 rfl rfl rfl ?_
  refine own_obj0 X0 4 (a := a) d2_1 (ow hw 11 rfl) (ow hw 12 rfl) (ow hw 13 rfl) rfl (W := 0) rfl (by decide) (by decide) rfl ?_
  intro T1 X2
  refine og_iloadN X2 5 d2_4 rfl rfl ?_
  refine og_ifY X2 27 d2_5 (XT.i0_ne_t (by decide)) (by decide) (by decide) ?_
  refine own_getS X2 30 d2_27 (host := "") (Or.inl (ow hw 55 rfl)) Via.refl hWd.2.1.1 rfl ?_
  intro T3 X4
  refine og_ifN X4 33 d2_30 (XT.i0_eq_f hWd.2.1.2) rfl ?_
  refine og_aloadN X4 34 d2_33 rfl rfl rfl ?_
  refine og_iloadN X4 35 d2_34 rfl rfl ?_
  refine og_iloadN X4 36 d2_35 rfl rfl ?_
  by_cases hc5 : (255 : Int32) < x0
  · -- (255 : Int32) < x0
    refine own_stat X4 39 (argsL := [(.ref b), (.int 0), (.int 1)]) (rest := []) d2_36 (ru_cmp1_0 l Z a0 hw n0 h0 hWd [] X4.old b kb dv x0 q3 hc5 q4 q5 ) (ow hw 59 rfl) (ow hw 60 rfl) (ow hw 61 rfl) (ow hw 62 rfl) (by decide) (lenOf pd__28_5bCII_29_5bB rfl) rfl rfl rfl (W := 0) rfl (by decide) (by decide) (by decide) (by decide) all0 rfl ?_
    intro T6 h6 v6 X6 K6 hQ6
    obtain ⟨r6, kr6, rfl, ge_r6, f7⟩ := hQ6
    show OGo _ _ _ _ T6 (mkF m 39 #[.val (.ref a), .val (.ref b), .val (.int 0), .val (.int 1), .val .null, .unset] [(.ref r6)])
    refine og_astore X6 41 #[.val (.ref a), .val (.ref b), .val (.int 0), .val (.int 1), .val .null, .val (.ref r6)] d2_39 rfl rfl rfl ?_
    refine og_aloadN X6 42 d2_41 rfl rfl rfl ?_
    refine og_aload X6 44 d2_42 rfl rfl rfl ?_
    refine og_iloadN X6 45 d2_44 rfl rfl ?_
    refine own_stat X6 48 (argsL := [(.ref r6), (.int 1)]) (rest := [(.ref a)]) d2_45 (ru_cod1_2 l Z a0 hw n0 h6 hWd [] X6.old r6 kr6 [(.int (StrChars.lo8 x0)), (.int (StrChars.hi8 x0))] (.int 0) f7 ) (ow hw 85 rfl) (ow hw 86 rfl) (ow hw 61 rfl) (ow hw 87 rfl) (by decide) (lenOf pd__28_5bBI_29B rfl) rfl rfl rfl (W := 1) rfl (by decide) (by decide) (by decide) (by decide) all0 rfl ?_
    intro T8 h8 v8 X8 K8 hQ8
    obtain rfl := hQ8
    show OGo _ _ _ _ T8 (mkF m 48 #[.val (.ref a), .val (.ref b), .val (.int 0), .val (.int 1), .val .null, .val (.ref r6)] [(.int 1), (.ref a)])
    have f9 := q2.keep K6 nin0
    have f10 := f9.keep K8 nin0
    have f11 := q0.keep K6
    have f12 := f11.keep K8
    have f13 := q1.keep K6 nin0
    have f14 := f13.keep K8 nin0
    refine own_put X8 51 d2_48 (host := "") (Or.inl (ow hw 21 rfl)) Via.refl f10 f12 (Or.inr ⟨(ow hw 17 rfl), rfl, hnm⟩) (ow hw 2 rfl) (ty := .byte) (by decide) rfl rfl (om 0 rfl) rfl ?_
    intro T15 h15 X15 W15 K15 F15
    have f16 := Fld.other W15 f14 (Or.inr (slot_ne (Or.inr (ow hw 16 rfl)) (Or.inr (ow hw 17 rfl)) (by decide) (t := (.array .byte)) (t' := .byte) (by decide) (by decide)))
    refine og_aloadN X15 52 d2_51 rfl rfl rfl ?_
    refine og_aload X15 54 d2_52 rfl rfl rfl ?_
    have f17 := f12.keep K15
    refine own_put X15 57 d2_54 (host := "") (Or.inl (ow hw 20 rfl)) Via.refl f16 f17 (Or.inr ⟨(ow hw 16 rfl), rfl, hnm⟩) (ow hw 2 rfl) (ty := (.array .byte)) (by decide) rfl rfl (om 0 rfl) rfl ?_
    intro T18 h18 X18 W18 K18 F18
    have f19 := Fld.other W18 F15 (Or.inr (slot_ne (Or.inr (ow hw 17 rfl)) (Or.inr (ow hw 16 rfl)) (by decide) (t := .byte) (t' := (.array .byte)) (by decide) (by decide)))
    have f20 := f17.keep K18
    have f21 := f7.keep K8 nin0
    have f22 := f21.keep K15 (ninS (Nat.ne_of_gt (Nat.lt_of_lt_of_le q0.lt ge_r6)) nin0)
    have f23 := f22.keep K18 (ninS (Nat.ne_of_gt (Nat.lt_of_lt_of_le q0.lt ge_r6)) nin0)
    refine own_retV X18 d2_57 hret (by decide) (by decide) ?_
    exact ⟨rfl, own_mkStrW (cs := [x0]) (n := 1) f20 f19 F18 f23 ⟨x0, List.mem_of_getElem? (i := 0) rfl, hc5⟩ (own_l16 ⟨q4, q5⟩ (fun _ q => nomatch q)) rfl rfl (Nat.le_of_ble_eq_true rfl)⟩
  · -- not
    refine own_stat X4 39 (argsL := [(.ref b), (.int 0), (.int 1)]) (rest := []) d2_36 (ru_cmp1_1 l Z a0 hw n0 h0 hWd [] X4.old b kb dv x0 q3 hc5 q4 q5 ) (ow hw 59 rfl) (ow hw 60 rfl) (ow hw 61 rfl) (ow hw 62 rfl) (by decide) (lenOf pd__28_5bCII_29_5bB rfl) rfl rfl rfl (W := 0) rfl (by decide) (by decide) (by decide) (by decide) all0 rfl ?_
    intro T24 h24 v24 X24 K24 hQ24
    obtain ⟨r24, kr24, rfl, ge_r24, f25⟩ := hQ24
    show OGo _ _ _ _ T24 (mkF m 39 #[.val (.ref a), .val (.ref b), .val (.int 0), .val (.int 1), .val .null, .unset] [(.ref r24)])
    refine og_astore X24 41 #[.val (.ref a), .val (.ref b), .val (.int 0), .val (.int 1), .val .null, .val (.ref r24)] d2_39 rfl rfl rfl ?_
    refine og_aloadN X24 42 d2_41 rfl rfl rfl ?_
    refine og_aload X24 44 d2_42 rfl rfl rfl ?_
    refine og_iloadN X24 45 d2_44 rfl rfl ?_
    refine own_stat X24 48 (argsL := [(.ref r24), (.int 1)]) (rest := [(.ref a)]) d2_45 (ru_cod1_1 l Z a0 hw n0 h24 hWd [] X24.old r24 kr24 [(.int ((x0).toInt8.toInt32))] (.int 0) f25 ) (ow hw 85 rfl) (ow hw 86 rfl) (ow hw 61 rfl) (ow hw 87 rfl) (by decide) (lenOf pd__28_5bBI_29B rfl) rfl rfl rfl (W := 1) rfl (by decide) (by decide) (by decide) (by decide) all0 rfl ?_
    intro T26 h26 v26 X26 K26 hQ26
    obtain rfl := hQ26
    show OGo _ _ _ _ T26 (mkF m 48 #[.val (.ref a), .val (.ref b), .val (.int 0), .val (.int 1), .val .null, .val (.ref r24)] [(.int 0), (.ref a)])
    have f27 := q2.keep K24 nin0
    have f28 := f27.keep K26 nin0
    have f29 := q0.keep K24
    have f30 := f29.keep K26
    have f31 := q1.keep K24 nin0
    have f32 := f31.keep K26 nin0
    refine own_put X26 51 d2_48 (host := "") (Or.inl (ow hw 21 rfl)) Via.refl f28 f30 (Or.inr ⟨(ow hw 17 rfl), rfl, hnm⟩) (ow hw 2 rfl) (ty := .byte) (by decide) rfl rfl (om 0 rfl) rfl ?_
    intro T33 h33 X33 W33 K33 F33
    have f34 := Fld.other W33 f32 (Or.inr (slot_ne (Or.inr (ow hw 16 rfl)) (Or.inr (ow hw 17 rfl)) (by decide) (t := (.array .byte)) (t' := .byte) (by decide) (by decide)))
    refine og_aloadN X33 52 d2_51 rfl rfl rfl ?_
    refine og_aload X33 54 d2_52 rfl rfl rfl ?_
    have f35 := f30.keep K33
    refine own_put X33 57 d2_54 (host := "") (Or.inl (ow hw 20 rfl)) Via.refl f34 f35 (Or.inr ⟨(ow hw 16 rfl), rfl, hnm⟩) (ow hw 2 rfl) (ty := (.array .byte)) (by decide) rfl rfl (om 0 rfl) rfl ?_
    intro T36 h36 X36 W36 K36 F36
    have f37 := Fld.other W36 F33 (Or.inr (slot_ne (Or.inr (ow hw 17 rfl)) (Or.inr (ow hw 16 rfl)) (by decide) (t := .byte) (t' := (.array .byte)) (by decide) (by decide)))
    have f38 := f35.keep K36
    have f39 := f25.keep K26 nin0
    have f40 := f39.keep K33 (ninS (Nat.ne_of_gt (Nat.lt_of_lt_of_le q0.lt ge_r24)) nin0)
    have f41 := f40.keep K36 (ninS (Nat.ne_of_gt (Nat.lt_of_lt_of_le q0.lt ge_r24)) nin0)
    refine own_retV X36 d2_57 hret (by decide) (by decide) ?_
    exact ⟨rfl, own_mkStr (cs := [x0]) (bs := [x0.toInt8.toInt32]) (n := 1) f38 f37 F36 f41 rfl (own_lS ⟨q4, hc5⟩ own_l0) rfl rfl (Nat.le_of_ble_eq_true rfl)⟩
set_option maxRecDepth 65536 in
set_option maxHeartbeats 40000000 in
theorem ru_ini1 (l : Launch) (Z : State) (a0 : Array Value) (hw : ∀ d ∈ tables_1, d.before a0 Z = true) (n0 : Nat) (h0 : Heap) (hWd : OWorld Z a0) (wc : List Jvm.Cond) (O0 : Old Z n0 h0) (a : Addr) (b : Addr) (y : Value) (z : Int32) (kb : ClassId) (dv : Value) (x0 : Int32) (q0 : Exa Z h0 a "java/lang/String") (q1 : Fld Z h0 a "java/lang/String" "value" "[B" y) (q2 : Fld Z h0 a "java/lang/String" "coder" "B" (.int z)) (q3 : Arv Z h0 b kb .char (1 : Int32) [(.int x0)] dv) (q4 : ¬ x0 < 0) (q5 : ¬ (65535 : Int32) < x0) (g0 : n0 ≤ a ∧ a < h0.size) :
    OMet l Z own_EL n0 (⟨"java/lang/String", "<init>", "([C)V"⟩ : MethodName) (Jvm.Cond.code (⟨"java/lang/String", "<init>", "([C)V"⟩ : MethodName) jdk_42_method_3_code 2 none :: wc) ({ frames := 5, cells := 2, slots := 3, locals := 74 } : Room) #[(.ref a), (.ref b)] h0 [a] (fun vq hq => vq = none ∧ OStr Z hq a [x0] hq.size) := by
  refine own_enter #[.val (.ref a), .val (.ref b)] pn_java_lang_String__init____C_V (ef_ru_ini1 a b y z kb dv x0) hWd.1 O0 (allS g0 all0) ?_
  intro p e s m below meth c T0 X0 hnm hret
  refine og_aloadN X0 1 d1_0 rfl rfl rfl ?_
  refine og_aloadN X0 2 d1_1 rfl rfl rfl ?_
  refine og_iconst X0 3 (0 : Int32) d1_2 rfl rfl ?_
  refine og_aloadN X0 4 d1_3 rfl rfl rfl ?_
  refine own_len X0 5 d1_4 q3 rfl ?_
  refine og_aconstNull X0 6 d1_5 rfl ?_
  refine own_spec X0 9 (a := a) (argsL := [(.ref b), (.int 0), (.int 1), .null]) (rest := []) d1_6 rfl (ru_inv1 l Z a0 hw n0 h0 hWd [] X0.old a b y z kb dv x0 q0 q1 q2 q3 q4 q5 (own_svb X0 (om 0 rfl))) (ow hw 7 rfl) (ow hw 8 rfl) (ow hw 3 rfl) (ow hw 10 rfl) (by decide) (lenOf pd__28_5bCIILjava_2flang_2fVoid_3b_29V rfl) rfl rfl rfl (W := 0) rfl (by decide) (by decide) (by decide) (by decide) (allS (om 0 rfl) all0) rfl ?_
  intro T1 h1 v1 X1 K1 hQ1
  obtain ⟨rfl, f2⟩ := hQ1
  show OGo _ _ _ _ T1 (mkF m 9 #[.val (.ref a), .val (.ref b)] [])
  refine own_retV X1 d1_9 hret (by decide) (by decide) ?_
  exact ⟨rfl, f2.top⟩
set_option maxRecDepth 65536 in
set_option maxHeartbeats 40000000 in
theorem ru_nbl2 (l : Launch) (Z : State) (a0 : Array Value) (hw : ∀ d ∈ tables_1, d.before a0 Z = true) (n0 : Nat) (h0 : Heap) (hWd : OWorld Z a0) (wc : List Jvm.Cond) (O0 : Old Z n0 h0)   :
    OMet l Z own_EL n0 (⟨"java/lang/StringUTF16", "newBytesLength", "(I)I"⟩ : MethodName) (Jvm.Cond.code (⟨"java/lang/StringUTF16", "newBytesLength", "(I)I"⟩ : MethodName) jdk_52_method_3_code 1 (some .int) :: wc) ({ frames := 0, cells := 0, slots := 0, locals := 0 } : Room) #[(.int 2)] h0 [] (fun vq hq => vq = some (.int 4)) := by
  refine own_enter #[.val (.int 2)] pn_java_lang_StringUTF16_newBytesLength__I_I (ef_ru_nbl2) hWd.1 O0 all0 ?_
  intro p e s m below meth c T0 X0 hnm hret
  refine og_iloadN X0 1 d14_0 rfl rfl ?_
  refine og_ifY X0 12 d14_1 (XT.i0_ge_t (by decide)) (by decide) (by decide) ?_
  refine og_iloadN X0 13 d14_12 rfl rfl ?_
  refine own_ldcI X0 15 (v := (1073741823 : Int32)) d14_13 (ow hw 75 rfl) rfl ?_
  refine og_icmpY X0 55 d14_15 (XT.ii_lt_t (by decide)) (by decide) (by decide) ?_
  refine og_iloadN X0 56 d14_55 rfl rfl ?_
  refine og_iconst X0 57 (1 : Int32) d14_56 rfl rfl ?_
  refine og_ishl X0 58 d14_57 rfl ?_
  show OGo _ _ _ _ T0 (mkF m 58 #[.val (.int 2)] [(.int 4)])
  refine own_retI X0 d14_58 hret (by decide) (by decide) ?_
  exact rfl
set_option maxRecDepth 65536 in
set_option maxHeartbeats 40000000 in
theorem ru_nbf2 (l : Launch) (Z : State) (a0 : Array Value) (hw : ∀ d ∈ tables_1, d.before a0 Z = true) (n0 : Nat) (h0 : Heap) (hWd : OWorld Z a0) (wc : List Jvm.Cond) (O0 : Old Z n0 h0)   :
    OMet l Z own_EL n0 (⟨"java/lang/StringUTF16", "newBytesFor", "(I)[B"⟩ : MethodName) (Jvm.Cond.code (⟨"java/lang/StringUTF16", "newBytesFor", "(I)[B"⟩ : MethodName) jdk_52_method_2_code 1 (some (.array .byte)) :: wc) ({ frames := 1, cells := 1, slots := 4, locals := 12 } : Room) #[(.int 2)] h0 [] (fun vq hq => ∃ (r : Addr) (kb : ClassId), vq = some (.ref r) ∧ h0.size ≤ r ∧ Arv Z hq r kb .byte (4 : Int32) [(.int 0), (.int 0), (.int 0), (.int 0)] (.int 0)) := by
  refine own_enter #[.val (.int 2)] pn_java_lang_StringUTF16_newBytesFor__I__B (ef_ru_nbf2) hWd.1 O0 all0 ?_
  intro p e s m below meth c T0 X0 hnm hret
  refine og_iloadN X0 1 d13_0 rfl rfl ?_
  refine own_stat X0 4 (argsL := [(.int 2)]) (rest := []) d13_1 (ru_nbl2 l Z a0 hw n0 h0 hWd [] X0.old   ) (ow hw 72 rfl) (ow hw 73 rfl) (ow hw 61 rfl) (ow hw 74 rfl) (by decide) (lenOf pd__28I_29I rfl) rfl rfl rfl (W := 0) rfl (by decide) (by decide) (by decide) (by decide) all0 rfl ?_
  intro T1 h1 v1 X1 K1 hQ1
  obtain rfl := hQ1
  show OGo _ _ _ _ T1 (mkF m 4 #[.val (.int 2)] [(.int 4)])
  refine own_arr X1 6 d13_4 (ow hw 15 rfl) (by decide) (cap := 4) (by decide) (by decide) (by decide) (by decide) rfl ?_
  intro T2 h2 b2 kb2 X2 K2 G2 U2 A2
  have f3 : Arv Z h2 b2 kb2 .byte (4 : Int32) [(.int 0), (.int 0), (.int 0), (.int 0)] (.int 0) := A2
  refine own_retA X2 d13_6 hret rfl rfl (by decide) (by decide) ?_
  exact ⟨b2, kb2, rfl, (Nat.le_trans K1.1 G2), f3⟩
set_option maxRecDepth 65536 in
set_option maxHeartbeats 40000000 in
theorem ru_put2_0 (l : Launch) (Z : State) (a0 : Array Value) (hw : ∀ d ∈ tables_1, d.before a0 Z = true) (n0 : Nat) (h0 : Heap) (hWd : OWorld Z a0) (wc : List Jvm.Cond) (O0 : Old Z n0 h0) (b : Addr) (kb : ClassId) (x : Int32) (dv : Value) (e0 : Value) (e1 : Value) (e2 : Value) (e3 : Value) (q0 : Arv Z h0 b kb .byte (4 : Int32) [e0, e1, e2, e3] dv) (g0 : n0 ≤ b ∧ b < h0.size) :
    OMet l Z own_EL n0 (⟨"java/lang/StringUTF16", "putChar", "([BII)V"⟩ : MethodName) (Jvm.Cond.code (⟨"java/lang/StringUTF16", "putChar", "([BII)V"⟩ : MethodName) jdk_52_method_4_code 3 none :: wc) ({ frames := 0, cells := 0, slots := 0, locals := 0 } : Room) #[(.ref b), (.int 0), (.int x)] h0 [b] (fun vq hq => vq = none ∧ Arv Z hq b kb .byte (4 : Int32) [(.int (StrChars.lo8 x)), (.int (StrChars.hi8 x)), e2, e3] dv) := by
  refine own_enter #[.val (.ref b), .val (.int 0), .val (.int x)] pn_java_lang_StringUTF16_putChar___BII_V (ef_ru_put2_0 b kb x dv e0 e1 e2 e3) hWd.1 O0 (allS g0 all0) ?_
  intro p e s m below meth c T0 X0 hnm hret
  refine own_getS X0 3 d15_0 (host := "") (Or.inl (ow hw 79 rfl)) Via.refl hWd.2.2.2.1 rfl ?_
  intro T1 X2
  refine og_ifY X2 28 d15_3 (XT.i0_ne_t (by decide)) (by decide) (by decide) ?_
  refine og_iloadN X2 29 d15_28 rfl rfl ?_
  refine og_iconst X2 30 (1 : Int32) d15_29 rfl rfl ?_
  refine og_ishl X2 31 d15_30 rfl ?_
  show OGo _ _ _ _ T1 (mkF m 31 #[.val (.ref b), .val (.int 0), .val (.int x)] [(.int 0)])
  refine og_istoreN X2 32 #[.val (.ref b), .val (.int 0), .val (.int x)] d15_31 rfl rfl ?_
  refine og_aloadN X2 33 d15_32 rfl rfl rfl ?_
  refine og_iloadN X2 34 d15_33 rfl rfl ?_
  refine og_iinc X2 37 #[.val (.ref b), .val (.int 1), .val (.int x)] d15_34 rfl rfl rfl ?_
  refine og_iloadN X2 38 d15_37 rfl rfl ?_
  refine own_getS X2 41 d15_38 (host := "") (Or.inl (ow hw 80 rfl)) Via.refl hWd.2.2.2.2.1 rfl ?_
  intro T3 X4
  refine og_ishr X4 42 d15_41 rfl ?_
  refine og_i2b X4 43 d15_42 rfl ?_
  refine own_stB X4 44 d15_43 q0 (own_nbb _) (by decide) (by decide) (i := 0) (by decide) (Nat.le_of_ble_eq_true rfl) (om 0 rfl) rfl ?_
  intro T5 h5 X5 W5 K5 A5
  have f6 : Arv Z h5 b kb .byte (4 : Int32) [(.int (((x >>> ((0 : Int32) &&& 31))).toInt8.toInt32)), e1, e2, e3] dv := A5
  refine og_aloadN X5 45 d15_44 rfl rfl rfl ?_
  refine og_iloadN X5 46 d15_45 rfl rfl ?_
  refine og_iloadN X5 47 d15_46 rfl rfl ?_
  refine own_getS X5 50 d15_47 (host := "") (Or.inl (ow hw 81 rfl)) Via.refl hWd.2.2.2.2.2 rfl ?_
  intro T7 X8
  refine og_ishr X8 51 d15_50 rfl ?_
  refine og_i2b X8 52 d15_51 rfl ?_
  refine own_stB X8 53 d15_52 f6 (own_nbb _) (by decide) (by decide) (i := 1) (by decide) (Nat.le_of_ble_eq_true rfl) (om 0 rfl) rfl ?_
  intro T9 h9 X9 W9 K9 A9
  have f10 : Arv Z h9 b kb .byte (4 : Int32) [(.int (((x >>> ((0 : Int32) &&& 31))).toInt8.toInt32)), (.int (((x >>> ((8 : Int32) &&& 31))).toInt8.toInt32)), e2, e3] dv := A9
  refine own_retV X9 d15_53 hret (by decide) (by decide) ?_
  exact ⟨rfl, by have q := f10; rw [StrChars.shr0] at q; exact q⟩
set_option maxRecDepth 65536 in
set_option maxHeartbeats 40000000 in
theorem ru_put2_1 (l : Launch) (Z : State) (a0 : Array Value) (hw : ∀ d ∈ tables_1, d.before a0 Z = true) (n0 : Nat) (h0 : Heap) (hWd : OWorld Z a0) (wc : List Jvm.Cond) (O0 : Old Z n0 h0) (b : Addr) (kb : ClassId) (x : Int32) (dv : Value) (e0 : Value) (e1 : Value) (e2 : Value) (e3 : Value) (q0 : Arv Z h0 b kb .byte (4 : Int32) [e0, e1, e2, e3] dv) (g0 : n0 ≤ b ∧ b < h0.size) :
    OMet l Z own_EL n0 (⟨"java/lang/StringUTF16", "putChar", "([BII)V"⟩ : MethodName) (Jvm.Cond.code (⟨"java/lang/StringUTF16", "putChar", "([BII)V"⟩ : MethodName) jdk_52_method_4_code 3 none :: wc) ({ frames := 0, cells := 0, slots := 0, locals := 0 } : Room) #[(.ref b), (.int 1), (.int x)] h0 [b] (fun vq hq => vq = none ∧ Arv Z hq b kb .byte (4 : Int32) [e0, e1, (.int (StrChars.lo8 x)), (.int (StrChars.hi8 x))] dv) := by
  refine own_enter #[.val (.ref b), .val (.int 1), .val (.int x)] pn_java_lang_StringUTF16_putChar___BII_V (ef_ru_put2_1 b kb x dv e0 e1 e2 e3) hWd.1 O0 (allS g0 all0) ?_
  intro p e s m below meth c T0 X0 hnm hret
  refine own_getS X0 3 d15_0 (host := "") (Or.inl (ow hw 79 rfl)) Via.refl hWd.2.2.2.1 rfl ?_
  intro T1 X2
  refine og_ifY X2 28 d15_3 (XT.i0_ne_t (by decide)) (by decide) (by decide) ?_
  refine og_iloadN X2 29 d15_28 rfl rfl ?_
  refine og_iconst X2 30 (1 : Int32) d15_29 rfl rfl ?_
  refine og_ishl X2 31 d15_30 rfl ?_
  show OGo _ _ _ _ T1 (mkF m 31 #[.val (.ref b), .val (.int 1), .val (.int x)] [(.int 2)])
  refine og_istoreN X2 32 #[.val (.ref b), .val (.int 2), .val (.int x)] d15_31 rfl rfl ?_
  refine og_aloadN X2 33 d15_32 rfl rfl rfl ?_
  refine og_iloadN X2 34 d15_33 rfl rfl ?_
  refine og_iinc X2 37 #[.val (.ref b), .val (.int 3), .val (.int x)] d15_34 rfl rfl rfl ?_
  refine og_iloadN X2 38 d15_37 rfl rfl ?_
  refine own_getS X2 41 d15_38 (host := "") (Or.inl (ow hw 80 rfl)) Via.refl hWd.2.2.2.2.1 rfl ?_
  intro T3 X4
  refine og_ishr X4 42 d15_41 rfl ?_
  refine og_i2b X4 43 d15_42 rfl ?_
  refine own_stB X4 44 d15_43 q0 (own_nbb _) (by decide) (by decide) (i := 2) (by decide) (Nat.le_of_ble_eq_true rfl) (om 0 rfl) rfl ?_
  intro T5 h5 X5 W5 K5 A5
  have f6 : Arv Z h5 b kb .byte (4 : Int32) [e0, e1, (.int (((x >>> ((0 : Int32) &&& 31))).toInt8.toInt32)), e3] dv := A5
  refine og_aloadN X5 45 d15_44 rfl rfl rfl ?_
  refine og_iloadN X5 46 d15_45 rfl rfl ?_
  refine og_iloadN X5 47 d15_46 rfl rfl ?_
  refine own_getS X5 50 d15_47 (host := "") (Or.inl (ow hw 81 rfl)) Via.refl hWd.2.2.2.2.2 rfl ?_
  intro T7 X8
  refine og_ishr X8 51 d15_50 rfl ?_
  refine og_i2b X8 52 d15_51 rfl ?_
  refine own_stB X8 53 d15_52 f6 (own_nbb _) (by decide) (by decide) (i := 3) (by decide) (Nat.le_of_ble_eq_true rfl) (om 0 rfl) rfl ?_
  intro T9 h9 X9 W9 K9 A9
  have f10 : Arv Z h9 b kb .byte (4 : Int32) [e0, e1, (.int (((x >>> ((0 : Int32) &&& 31))).toInt8.toInt32)), (.int (((x >>> ((8 : Int32) &&& 31))).toInt8.toInt32))] dv := A9
  refine own_retV X9 d15_53 hret (by decide) (by decide) ?_
  exact ⟨rfl, by have q := f10; rw [StrChars.shr0] at q; exact q⟩
set_option maxRecDepth 65536 in
set_option maxHeartbeats 40000000 in
theorem ru_tob2 (l : Launch) (Z : State) (a0 : Array Value) (hw : ∀ d ∈ tables_1, d.before a0 Z = true) (n0 : Nat) (h0 : Heap) (hWd : OWorld Z a0) (wc : List Jvm.Cond) (O0 : Old Z n0 h0) (b : Addr) (kb : ClassId) (dv : Value) (x0 : Int32) (x1 : Int32) (q0 : Arv Z h0 b kb .char (2 : Int32) [(.int x0), (.int x1)] dv) :
    OMet l Z own_EL n0 (⟨"java/lang/StringUTF16", "toBytes", "([CII)[B"⟩ : MethodName) (Jvm.Cond.code (⟨"java/lang/StringUTF16", "toBytes", "([CII)[B"⟩ : MethodName) jdk_52_method_14_code 5 (some (.array .byte)) :: wc) ({ frames := 2, cells := 1, slots := 4, locals := 24 } : Room) #[(.ref b), (.int 0), (.int 2)] h0 [] (fun vq hq => ∃ (r : Addr) (kr : ClassId), vq = some (.ref r) ∧ h0.size ≤ r ∧ Arv Z hq r kr .byte (4 : Int32) [(.int (StrChars.lo8 x0)), (.int (StrChars.hi8 x0)), (.int (StrChars.lo8 x1)), (.int (StrChars.hi8 x1))] (.int 0)) := by
  refine own_enter #[.val (.ref b), .val (.int 0), .val (.int 2), .unset, .unset] pn_java_lang_StringUTF16_toBytes___CII__B (ef_ru_tob2 b kb dv x0 x1) hWd.1 O0 all0 ?_
  intro p e s m below meth c T0 X0 hnm hret
  refine og_iloadN X0 1 d12_0 rfl rfl ?_
  refine own_stat X0 4 (argsL := [(.int 2)]) (rest := []) d12_1 (ru_nbf2 l Z a0 hw n0 h0 hWd [] X0.old   ) (ow hw 69 rfl) (ow hw 70 rfl) (ow hw 61 rfl) (ow hw 71 rfl) (by decide) (lenOf pd__28I_29_5bB rfl) rfl rfl rfl (W := 0) rfl (by decide) (by decide) (by decide) (by decide) all0 rfl ?_
  intro T1 h1 v1 X1 K1 hQ1
  obtain ⟨r1, kb1, rfl, ge_r1, f2⟩ := hQ1
  show OGo _ _ _ _ T1 (mkF m 4 #[.val (.ref b), .val (.int 0), .val (.int 2), .unset, .unset] [(.ref r1)])
  refine og_astoreN X1 5 #[.val (.ref b), .val (.int 0), .val (.int 2), .val (.ref r1), .unset] d12_4 rfl rfl rfl ?_
  refine og_iconst X1 6 (0 : Int32) d12_5 rfl rfl ?_
  refine og_istore X1 8 #[.val (.ref b), .val (.int 0), .val (.int 2), .val (.ref r1), .val (.int 0)] d12_6 rfl rfl ?_
  refine og_iload X1 10 d12_8 rfl rfl ?_
  refine og_iloadN X1 11 d12_10 rfl rfl ?_
  refine og_icmpN X1 14 d12_11 (XT.ii_ge_f (by decide)) rfl ?_
  refine og_aloadN X1 15 d12_14 rfl rfl rfl ?_
  refine og_iload X1 17 d12_15 rfl rfl ?_
  refine og_aloadN X1 18 d12_17 rfl rfl rfl ?_
  refine og_iloadN X1 19 d12_18 rfl rfl ?_
  have f3 := q0.keep K1 nin0
  refine own_ldC X1 20 d12_19 f3 (by decide) (by decide) rfl rfl ?_
  have X4 := own_svB X1 f2 (own_tx4 hw) (Nat.le_trans (own_n0 X0) ge_r1) ge_r1
  refine own_stat X4 23 (argsL := [(.ref r1), (.int 0), (.int x0)]) (rest := []) d12_20 (ru_put2_0 l Z a0 hw n0 h1 hWd [] X4.old r1 kb1 x0 (.int 0) (.int 0) (.int 0) (.int 0) (.int 0) f2 (own_svb X4 (om 0 rfl))) (ow hw 76 rfl) (ow hw 77 rfl) (ow hw 61 rfl) (ow hw 78 rfl) (by decide) (lenOf pd__28_5bBII_29V rfl) rfl rfl rfl (W := 0) rfl (by decide) (by decide) (by decide) (by decide) (allS (om 0 rfl) all0) rfl ?_
  intro T5 h5 v5 X5 K5 hQ5
  obtain ⟨rfl, f6⟩ := hQ5
  show OGo _ _ _ _ T5 (mkF m 23 #[.val (.ref b), .val (.int 0), .val (.int 2), .val (.ref r1), .val (.int 0)] [])
  refine og_iinc X5 26 #[.val (.ref b), .val (.int 1), .val (.int 2), .val (.ref r1), .val (.int 0)] d12_23 rfl rfl rfl ?_
  refine og_iinc X5 29 #[.val (.ref b), .val (.int 1), .val (.int 2), .val (.ref r1), .val (.int 1)] d12_26 rfl rfl rfl ?_
  refine og_goto X5 8 d12_29 (by decide) (by decide) ?_
  refine og_iload X5 10 d12_8 rfl rfl ?_
  refine og_iloadN X5 11 d12_10 rfl rfl ?_
  refine og_icmpN X5 14 d12_11 (XT.ii_ge_f (by decide)) rfl ?_
  refine og_aloadN X5 15 d12_14 rfl rfl rfl ?_
  refine og_iload X5 17 d12_15 rfl rfl ?_
  refine og_aloadN X5 18 d12_17 rfl rfl rfl ?_
  refine og_iloadN X5 19 d12_18 rfl rfl ?_
  have f7 := f3.keep K5 (ninS (Nat.ne_of_lt (Nat.lt_of_lt_of_le q0.lt ge_r1)) nin0)
  refine own_ldC X5 20 d12_19 f7 (by decide) (by decide) rfl rfl ?_
  refine own_stat X5 23 (argsL := [(.ref r1), (.int 1), (.int x1)]) (rest := []) d12_20 (ru_put2_1 l Z a0 hw n0 h5 hWd [] X5.old r1 kb1 x1 (.int 0) (.int (StrChars.lo8 x0)) (.int (StrChars.hi8 x0)) (.int 0) (.int 0) f6 (own_svb X5 (om 0 rfl))) (ow hw 76 rfl) (ow hw 77 rfl) (ow hw 61 rfl) (ow hw 78 rfl) (by decide) (lenOf pd__28_5bBII_29V rfl) rfl rfl rfl (W := 0) rfl (by decide) (by decide) (by decide) (by decide) (allS (om 0 rfl) all0) rfl ?_
  intro T8 h8 v8 X8 K8 hQ8
  obtain ⟨rfl, f9⟩ := hQ8
  show OGo _ _ _ _ T8 (mkF m 23 #[.val (.ref b), .val (.int 1), .val (.int 2), .val (.ref r1), .val (.int 1)] [])
  refine og_iinc X8 26 #[.val (.ref b), .val (.int 2), .val (.int 2), .val (.ref r1), .val (.int 1)] d12_23 rfl rfl rfl ?_
  refine og_iinc X8 29 #[.val (.ref b), .val (.int 2), .val (.int 2), .val (.ref r1), .val (.int 2)] d12_26 rfl rfl rfl ?_
  refine og_goto X8 8 d12_29 (by decide) (by decide) ?_
  refine og_iload X8 10 d12_8 rfl rfl ?_
  refine og_iloadN X8 11 d12_10 rfl rfl ?_
  refine og_icmpY X8 32 d12_11 (XT.ii_ge_t (by decide)) (by decide) (by decide) ?_
  refine og_aloadN X8 33 d12_32 rfl rfl rfl ?_
  refine own_retA X8 d12_33 hret rfl rfl (by decide) (by decide) ?_
  exact ⟨r1, kb1, rfl, ge_r1, f9⟩
set_option maxRecDepth 65536 in
set_option maxHeartbeats 40000000 in
theorem ru_cmi2_0 (l : Launch) (Z : State) (a0 : Array Value) (hw : ∀ d ∈ tables_1, d.before a0 Z = true) (n0 : Nat) (h0 : Heap) (hWd : OWorld Z a0) (wc : List Jvm.Cond) (O0 : Old Z n0 h0) (b : Addr) (kb : ClassId) (dv : Value) (d : Addr) (kd : ClassId) (x0 : Int32) (x1 : Int32) (q0 : Arv Z h0 b kb .char (2 : Int32) [(.int x0), (.int x1)] dv) (q1 : Arv Z h0 d kd .byte (2 : Int32) [(.int 0), (.int 0)] (.int 0)) (q2 : (255 : Int32) < x0) (q3 : b ≠ d) (g0 : n0 ≤ d ∧ d < h0.size) :
    OMet l Z own_EL n0 (⟨"java/lang/StringUTF16", "compress", "([CI[BII)I"⟩ : MethodName) (Jvm.Cond.code (⟨"java/lang/StringUTF16", "compress", "([CI[BII)I"⟩ : MethodName) jdk_52_method_21_code 7 (some .int) :: wc) ({ frames := 0, cells := 0, slots := 0, locals := 0 } : Room) #[(.ref b), (.int 0), (.ref d), (.int 0), (.int 2)] h0 [d] (fun vq hq => vq = some (.int 0)) := by
  refine own_enter #[.val (.ref b), .val (.int 0), .val (.ref d), .val (.int 0), .val (.int 2), .unset, .unset] pn_java_lang_StringUTF16_compress___CI_BII_I (ef_ru_cmi2_0 b kb dv d kd x0 x1) hWd.1 O0 (allS g0 all0) ?_
  intro p e s m below meth c T0 X0 hnm hret
  refine og_iconst X0 1 (0 : Int32) d11_0 rfl rfl ?_
  refine og_istore X0 3 #[.val (.ref b), .val (.int 0), .val (.ref d), .val (.int 0), .val (.int 2), .val (.int 0), .unset] d11_1 rfl rfl ?_
  refine og_iload X0 5 d11_3 rfl rfl ?_
  refine og_iload X0 7 d11_5 rfl rfl ?_
  refine og_icmpN X0 10 d11_7 (XT.ii_ge_f (by decide)) rfl ?_
  refine og_aloadN X0 11 d11_10 rfl rfl rfl ?_
  refine og_iloadN X0 12 d11_11 rfl rfl ?_
  refine own_ldC X0 13 d11_12 q0 (by decide) (by decide) rfl rfl ?_
  refine og_istore X0 15 #[.val (.ref b), .val (.int 0), .val (.ref d), .val (.int 0), .val (.int 2), .val (.int 0), .val (.int x0)] d11_13 rfl rfl ?_
  refine og_iload X0 17 d11_15 rfl rfl ?_
  refine og_sipush X0 20 (255 : Int32) d11_17 rfl rfl ?_
  refine og_icmpN X0 23 d11_20 (XT.ii_le_f q2) rfl ?_
  refine og_iload X0 25 d11_23 rfl rfl ?_
  refine own_retI X0 d11_25 hret (by decide) (by decide) ?_
  exact rfl
set_option maxRecDepth 65536 in
set_option maxHeartbeats 40000000 in
theorem ru_cmp2_0 (l : Launch) (Z : State) (a0 : Array Value) (hw : ∀ d ∈ tables_1, d.before a0 Z = true) (n0 : Nat) (h0 : Heap) (hWd : OWorld Z a0) (wc : List Jvm.Cond) (O0 : Old Z n0 h0) (b : Addr) (kb : ClassId) (dv : Value) (x0 : Int32) (x1 : Int32) (q0 : Arv Z h0 b kb .char (2 : Int32) [(.int x0), (.int x1)] dv) (q1 : (255 : Int32) < x0) (q2 : ¬ x0 < 0) (q3 : ¬ (65535 : Int32) < x0) (q4 : ¬ x1 < 0) (q5 : ¬ (65535 : Int32) < x1) :
    OMet l Z own_EL n0 (⟨"java/lang/StringUTF16", "compress", "([CII)[B"⟩ : MethodName) (Jvm.Cond.code (⟨"java/lang/StringUTF16", "compress", "([CII)[B"⟩ : MethodName) jdk_52_method_16_code 6 (some (.array .byte)) :: wc) ({ frames := 3, cells := 2, slots := 6, locals := 40 } : Room) #[(.ref b), (.int 0), (.int 2)] h0 [] (fun vq hq => ∃ (r : Addr) (kr : ClassId), vq = some (.ref r) ∧ h0.size ≤ r ∧ Arv Z hq r kr .byte (4 : Int32) [(.int (StrChars.lo8 x0)), (.int (StrChars.hi8 x0)), (.int (StrChars.lo8 x1)), (.int (StrChars.hi8 x1))] (.int 0)) := by
  refine own_enter #[.val (.ref b), .val (.int 0), .val (.int 2), .unset, .unset, .unset] pn_java_lang_StringUTF16_compress___CII__B (ef_ru_cmp2_0 b kb dv x0 x1) hWd.1 O0 all0 ?_
  intro p e s m below meth c T0 X0 hnm hret
  refine og_iloadN X0 1 d10_0 rfl rfl ?_
  refine own_arr X0 3 d10_1 (ow hw 15 rfl) (by decide) (cap := 2) (by decide) (by decide) (by decide) (by decide) rfl ?_
  intro T1 h1 b1 kb1 X1 K1 G1 U1 A1
  have f2 : Arv Z h1 b1 kb1 .byte (2 : Int32) [(.int 0), (.int 0)] (.int 0) := A1
  refine og_astoreN X1 4 #[.val (.ref b), .val (.int 0), .val (.int 2), .val (.ref b1), .unset, .unset] d10_3 rfl rfl rfl ?_
  refine og_aloadN X1 5 d10_4 rfl rfl rfl ?_
  refine og_iloadN X1 6 d10_5 rfl rfl ?_
  refine og_aloadN X1 7 d10_6 rfl rfl rfl ?_
  refine og_iconst X1 8 (0 : Int32) d10_7 rfl rfl ?_
  refine og_iloadN X1 9 d10_8 rfl rfl ?_
  have f3 := q0.keep K1 nin0
  refine own_stat X1 12 (argsL := [(.ref b), (.int 0), (.ref b1), (.int 0), (.int 2)]) (rest := []) d10_9 (ru_cmi2_0 l Z a0 hw n0 h1 hWd [] X1.old b kb dv b1 kb1 x0 x1 f3 f2 q1 (Nat.ne_of_lt (Nat.lt_of_lt_of_le q0.lt G1)) (own_svb X1 (om 0 rfl))) (ow hw 63 rfl) (ow hw 64 rfl) (ow hw 61 rfl) (ow hw 65 rfl) (by decide) (lenOf pd__28_5bCI_5bBII_29I rfl) rfl rfl rfl (W := 0) rfl (by decide) (by decide) (by decide) (by decide) (allS (om 0 rfl) all0) rfl ?_
  intro T4 h4 v4 X4 K4 hQ4
  obtain rfl := hQ4
  show OGo _ _ _ _ T4 (mkF m 12 #[.val (.ref b), .val (.int 0), .val (.int 2), .val (.ref b1), .unset, .unset] [(.int 0)])
  refine og_istore X4 14 #[.val (.ref b), .val (.int 0), .val (.int 2), .val (.ref b1), .val (.int 0), .unset] d10_12 rfl rfl ?_
  refine og_iload X4 16 d10_14 rfl rfl ?_
  refine og_iloadN X4 17 d10_16 rfl rfl ?_
  refine og_icmpN X4 20 d10_17 (XT.ii_eq_f (by decide)) rfl ?_
  refine og_aloadN X4 21 d10_20 rfl rfl rfl ?_
  refine og_iloadN X4 22 d10_21 rfl rfl ?_
  refine og_iloadN X4 23 d10_22 rfl rfl ?_
  have f5 := f3.keep K4 (ninS (Nat.ne_of_lt (Nat.lt_of_lt_of_le q0.lt G1)) nin0)
  refine own_stat X4 26 (argsL := [(.ref b), (.int 0), (.int 2)]) (rest := []) d10_23 (ru_tob2 l Z a0 hw n0 h4 hWd [] X4.old b kb dv x0 x1 f5 ) (ow hw 66 rfl) (ow hw 67 rfl) (ow hw 61 rfl) (ow hw 68 rfl) (by decide) (lenOf pd__28_5bCII_29_5bB rfl) rfl rfl rfl (W := 0) rfl (by decide) (by decide) (by decide) (by decide) all0 rfl ?_
  intro T6 h6 v6 X6 K6 hQ6
  obtain ⟨r6, kr6, rfl, ge_r6, f7⟩ := hQ6
  show OGo _ _ _ _ T6 (mkF m 26 #[.val (.ref b), .val (.int 0), .val (.int 2), .val (.ref b1), .val (.int 0), .unset] [(.ref r6)])
  refine og_astore X6 28 #[.val (.ref b), .val (.int 0), .val (.int 2), .val (.ref b1), .val (.int 0), .val (.ref r6)] d10_26 rfl rfl rfl ?_
  refine og_aload X6 30 d10_28 rfl rfl rfl ?_
  refine og_iload X6 32 d10_30 rfl rfl ?_
  refine own_stat X6 35 (argsL := [(.ref r6), (.int 0)]) (rest := []) d10_32 (ru_get2_0 l Z a0 hw n0 h6 hWd [] X6.old r6 kr6 (StrChars.lo8 x0) (StrChars.hi8 x0) (.int 0) (.int (StrChars.lo8 x1)) (.int (StrChars.hi8 x1)) f7 ) (ow hw 82 rfl) (ow hw 83 rfl) (ow hw 61 rfl) (ow hw 84 rfl) (by decide) (lenOf pd__28_5bBI_29C rfl) rfl rfl rfl (W := 0) rfl (by decide) (by decide) (by decide) (by decide) all0 rfl ?_
  intro T8 h8 v8 X8 K8 hQ8
  obtain rfl := hQ8
  show OGo _ _ _ _ T8 (mkF m 35 #[.val (.ref b), .val (.int 0), .val (.int 2), .val (.ref b1), .val (.int 0), .val (.ref r6)] [(.int (StrChars.pairCh (StrChars.lo8 x0) (StrChars.hi8 x0)))])
  refine og_sipush X8 38 (255 : Int32) d10_35 rfl rfl ?_
  refine og_icmpY X8 54 d10_38 (XT.ii_gt_t (by rw [StrChars.pair_says q2 q3]; exact q1)) (by decide) (by decide) ?_
  refine og_aload X8 56 d10_54 rfl rfl rfl ?_
  have f9 := f7.keep K8 nin0
  refine own_retA X8 d10_56 hret rfl rfl (by decide) (by decide) ?_
  exact ⟨r6, kr6, rfl, (Nat.le_trans (Nat.le_trans K1.1 K4.1) ge_r6), f9⟩
set_option maxRecDepth 65536 in
set_option maxHeartbeats 40000000 in
theorem ru_cmi2_1 (l : Launch) (Z : State) (a0 : Array Value) (hw : ∀ d ∈ tables_1, d.before a0 Z = true) (n0 : Nat) (h0 : Heap) (hWd : OWorld Z a0) (wc : List Jvm.Cond) (O0 : Old Z n0 h0) (b : Addr) (kb : ClassId) (dv : Value) (d : Addr) (kd : ClassId) (x0 : Int32) (x1 : Int32) (q0 : Arv Z h0 b kb .char (2 : Int32) [(.int x0), (.int x1)] dv) (q1 : Arv Z h0 d kd .byte (2 : Int32) [(.int 0), (.int 0)] (.int 0)) (q2 : ¬ (255 : Int32) < x0) (q3 : (255 : Int32) < x1) (q4 : b ≠ d) (g0 : n0 ≤ d ∧ d < h0.size) :
    OMet l Z own_EL n0 (⟨"java/lang/StringUTF16", "compress", "([CI[BII)I"⟩ : MethodName) (Jvm.Cond.code (⟨"java/lang/StringUTF16", "compress", "([CI[BII)I"⟩ : MethodName) jdk_52_method_21_code 7 (some .int) :: wc) ({ frames := 0, cells := 0, slots := 0, locals := 0 } : Room) #[(.ref b), (.int 0), (.ref d), (.int 0), (.int 2)] h0 [d] (fun vq hq => vq = some (.int 1)) := by
  refine own_enter #[.val (.ref b), .val (.int 0), .val (.ref d), .val (.int 0), .val (.int 2), .unset, .unset] pn_java_lang_StringUTF16_compress___CI_BII_I (ef_ru_cmi2_1 b kb dv d kd x0 x1) hWd.1 O0 (allS g0 all0) ?_
  intro p e s m below meth c T0 X0 hnm hret
  refine og_iconst X0 1 (0 : Int32) d11_0 rfl rfl ?_
  refine og_istore X0 3 #[.val (.ref b), .val (.int 0), .val (.ref d), .val (.int 0), .val (.int 2), .val (.int 0), .unset] d11_1 rfl rfl ?_
  refine og_iload X0 5 d11_3 rfl rfl ?_
  refine og_iload X0 7 d11_5 rfl rfl ?_
  refine og_icmpN X0 10 d11_7 (XT.ii_ge_f (by decide)) rfl ?_
  refine og_aloadN X0 11 d11_10 rfl rfl rfl ?_
  refine og_iloadN X0 12 d11_11 rfl rfl ?_
  refine own_ldC X0 13 d11_12 q0 (by decide) (by decide) rfl rfl ?_
  refine og_istore X0 15 #[.val (.ref b), .val (.int 0), .val (.ref d), .val (.int 0), .val (.int 2), .val (.int 0), .val (.int x0)] d11_13 rfl rfl ?_
  refine og_iload X0 17 d11_15 rfl rfl ?_
  refine og_sipush X0 20 (255 : Int32) d11_17 rfl rfl ?_
  refine og_icmpY X0 26 d11_20 (XT.ii_le_t q2) (by decide) (by decide) ?_
  refine og_aloadN X0 27 d11_26 rfl rfl rfl ?_
  refine og_iloadN X0 28 d11_27 rfl rfl ?_
  refine og_iload X0 30 d11_28 rfl rfl ?_
  refine og_i2b X0 31 d11_30 rfl ?_
  refine own_stB X0 32 d11_31 q1 (own_nbb _) (by decide) (by decide) (i := 0) (by decide) (Nat.le_of_ble_eq_true rfl) (om 0 rfl) rfl ?_
  intro T1 h1 X1 W1 K1 A1
  have f2 : Arv Z h1 d kd .byte (2 : Int32) [(.int ((x0).toInt8.toInt32)), (.int 0)] (.int 0) := A1
  refine og_iinc X1 35 #[.val (.ref b), .val (.int 1), .val (.ref d), .val (.int 0), .val (.int 2), .val (.int 0), .val (.int x0)] d11_32 rfl rfl rfl ?_
  refine og_iinc X1 38 #[.val (.ref b), .val (.int 1), .val (.ref d), .val (.int 1), .val (.int 2), .val (.int 0), .val (.int x0)] d11_35 rfl rfl rfl ?_
  refine og_iinc X1 41 #[.val (.ref b), .val (.int 1), .val (.ref d), .val (.int 1), .val (.int 2), .val (.int 1), .val (.int x0)] d11_38 rfl rfl rfl ?_
  refine og_goto X1 3 d11_41 (by decide) (by decide) ?_
  refine og_iload X1 5 d11_3 rfl rfl ?_
  refine og_iload X1 7 d11_5 rfl rfl ?_
  refine og_icmpN X1 10 d11_7 (XT.ii_ge_f (by decide)) rfl ?_
  refine og_aloadN X1 11 d11_10 rfl rfl rfl ?_
  refine og_iloadN X1 12 d11_11 rfl rfl ?_
  have f3 := q0.keep K1 (ninS q4 nin0)
  refine own_ldC X1 13 d11_12 f3 (by decide) (by decide) rfl rfl ?_
  refine og_istore X1 15 #[.val (.ref b), .val (.int 1), .val (.ref d), .val (.int 1), .val (.int 2), .val (.int 1), .val (.int x1)] d11_13 rfl rfl ?_
  refine og_iload X1 17 d11_15 rfl rfl ?_
  refine og_sipush X1 20 (255 : Int32) d11_17 rfl rfl ?_
  refine og_icmpN X1 23 d11_20 (XT.ii_le_f q3) rfl ?_
  refine og_iload X1 25 d11_23 rfl rfl ?_
  refine own_retI X1 d11_25 hret (by decide) (by decide) ?_
  exact rfl
set_option maxRecDepth 65536 in
set_option maxHeartbeats 40000000 in
theorem ru_cmp2_1 (l : Launch) (Z : State) (a0 : Array Value) (hw : ∀ d ∈ tables_1, d.before a0 Z = true) (n0 : Nat) (h0 : Heap) (hWd : OWorld Z a0) (wc : List Jvm.Cond) (O0 : Old Z n0 h0) (b : Addr) (kb : ClassId) (dv : Value) (x0 : Int32) (x1 : Int32) (q0 : Arv Z h0 b kb .char (2 : Int32) [(.int x0), (.int x1)] dv) (q1 : ¬ (255 : Int32) < x0) (q2 : (255 : Int32) < x1) (q3 : ¬ x0 < 0) (q4 : ¬ (65535 : Int32) < x0) (q5 : ¬ x1 < 0) (q6 : ¬ (65535 : Int32) < x1) :
    OMet l Z own_EL n0 (⟨"java/lang/StringUTF16", "compress", "([CII)[B"⟩ : MethodName) (Jvm.Cond.code (⟨"java/lang/StringUTF16", "compress", "([CII)[B"⟩ : MethodName) jdk_52_method_16_code 6 (some (.array .byte)) :: wc) ({ frames := 3, cells := 2, slots := 6, locals := 40 } : Room) #[(.ref b), (.int 0), (.int 2)] h0 [] (fun vq hq => ∃ (r : Addr) (kr : ClassId), vq = some (.ref r) ∧ h0.size ≤ r ∧ Arv Z hq r kr .byte (4 : Int32) [(.int (StrChars.lo8 x0)), (.int (StrChars.hi8 x0)), (.int (StrChars.lo8 x1)), (.int (StrChars.hi8 x1))] (.int 0)) := by
  refine own_enter #[.val (.ref b), .val (.int 0), .val (.int 2), .unset, .unset, .unset] pn_java_lang_StringUTF16_compress___CII__B (ef_ru_cmp2_1 b kb dv x0 x1) hWd.1 O0 all0 ?_
  intro p e s m below meth c T0 X0 hnm hret
  refine og_iloadN X0 1 d10_0 rfl rfl ?_
  refine own_arr X0 3 d10_1 (ow hw 15 rfl) (by decide) (cap := 2) (by decide) (by decide) (by decide) (by decide) rfl ?_
  intro T1 h1 b1 kb1 X1 K1 G1 U1 A1
  have f2 : Arv Z h1 b1 kb1 .byte (2 : Int32) [(.int 0), (.int 0)] (.int 0) := A1
  refine og_astoreN X1 4 #[.val (.ref b), .val (.int 0), .val (.int 2), .val (.ref b1), .unset, .unset] d10_3 rfl rfl rfl ?_
  refine og_aloadN X1 5 d10_4 rfl rfl rfl ?_
  refine og_iloadN X1 6 d10_5 rfl rfl ?_
  refine og_aloadN X1 7 d10_6 rfl rfl rfl ?_
  refine og_iconst X1 8 (0 : Int32) d10_7 rfl rfl ?_
  refine og_iloadN X1 9 d10_8 rfl rfl ?_
  have f3 := q0.keep K1 nin0
  refine own_stat X1 12 (argsL := [(.ref b), (.int 0), (.ref b1), (.int 0), (.int 2)]) (rest := []) d10_9 (ru_cmi2_1 l Z a0 hw n0 h1 hWd [] X1.old b kb dv b1 kb1 x0 x1 f3 f2 q1 q2 (Nat.ne_of_lt (Nat.lt_of_lt_of_le q0.lt G1)) (own_svb X1 (om 0 rfl))) (ow hw 63 rfl) (ow hw 64 rfl) (ow hw 61 rfl) (ow hw 65 rfl) (by decide) (lenOf pd__28_5bCI_5bBII_29I rfl) rfl rfl rfl (W := 0) rfl (by decide) (by decide) (by decide) (by decide) (allS (om 0 rfl) all0) rfl ?_
  intro T4 h4 v4 X4 K4 hQ4
  obtain rfl := hQ4
  show OGo _ _ _ _ T4 (mkF m 12 #[.val (.ref b), .val (.int 0), .val (.int 2), .val (.ref b1), .unset, .unset] [(.int 1)])
  refine og_istore X4 14 #[.val (.ref b), .val (.int 0), .val (.int 2), .val (.ref b1), .val (.int 1), .unset] d10_12 rfl rfl ?_
  refine og_iload X4 16 d10_14 rfl rfl ?_
  refine og_iloadN X4 17 d10_16 rfl rfl ?_
  refine og_icmpN X4 20 d10_17 (XT.ii_eq_f (by decide)) rfl ?_
  refine og_aloadN X4 21 d10_20 rfl rfl rfl ?_
  refine og_iloadN X4 22 d10_21 rfl rfl ?_
  refine og_iloadN X4 23 d10_22 rfl rfl ?_
  have f5 := f3.keep K4 (ninS (Nat.ne_of_lt (Nat.lt_of_lt_of_le q0.lt G1)) nin0)
  refine own_stat X4 26 (argsL := [(.ref b), (.int 0), (.int 2)]) (rest := []) d10_23 (ru_tob2 l Z a0 hw n0 h4 hWd [] X4.old b kb dv x0 x1 f5 ) (ow hw 66 rfl) (ow hw 67 rfl) (ow hw 61 rfl) (ow hw 68 rfl) (by decide) (lenOf pd__28_5bCII_29_5bB rfl) rfl rfl rfl (W := 0) rfl (by decide) (by decide) (by decide) (by decide) all0 rfl ?_
  intro T6 h6 v6 X6 K6 hQ6
  obtain ⟨r6, kr6, rfl, ge_r6, f7⟩ := hQ6
  show OGo _ _ _ _ T6 (mkF m 26 #[.val (.ref b), .val (.int 0), .val (.int 2), .val (.ref b1), .val (.int 1), .unset] [(.ref r6)])
  refine og_astore X6 28 #[.val (.ref b), .val (.int 0), .val (.int 2), .val (.ref b1), .val (.int 1), .val (.ref r6)] d10_26 rfl rfl rfl ?_
  refine og_aload X6 30 d10_28 rfl rfl rfl ?_
  refine og_iload X6 32 d10_30 rfl rfl ?_
  refine own_stat X6 35 (argsL := [(.ref r6), (.int 1)]) (rest := []) d10_32 (ru_get2_1 l Z a0 hw n0 h6 hWd [] X6.old r6 kr6 (StrChars.lo8 x1) (StrChars.hi8 x1) (.int 0) (.int (StrChars.lo8 x0)) (.int (StrChars.hi8 x0)) f7 ) (ow hw 82 rfl) (ow hw 83 rfl) (ow hw 61 rfl) (ow hw 84 rfl) (by decide) (lenOf pd__28_5bBI_29C rfl) rfl rfl rfl (W := 0) rfl (by decide) (by decide) (by decide) (by decide) all0 rfl ?_
  intro T8 h8 v8 X8 K8 hQ8
  obtain rfl := hQ8
  show OGo _ _ _ _ T8 (mkF m 35 #[.val (.ref b), .val (.int 0), .val (.int 2), .val (.ref b1), .val (.int 1), .val (.ref r6)] [(.int (StrChars.pairCh (StrChars.lo8 x1) (StrChars.hi8 x1)))])
  refine og_sipush X8 38 (255 : Int32) d10_35 rfl rfl ?_
  refine og_icmpY X8 54 d10_38 (XT.ii_gt_t (by rw [StrChars.pair_says q5 q6]; exact q2)) (by decide) (by decide) ?_
  refine og_aload X8 56 d10_54 rfl rfl rfl ?_
  have f9 := f7.keep K8 nin0
  refine own_retA X8 d10_56 hret rfl rfl (by decide) (by decide) ?_
  exact ⟨r6, kr6, rfl, (Nat.le_trans (Nat.le_trans K1.1 K4.1) ge_r6), f9⟩
set_option maxRecDepth 65536 in
set_option maxHeartbeats 40000000 in
theorem ru_cmi2_2 (l : Launch) (Z : State) (a0 : Array Value) (hw : ∀ d ∈ tables_1, d.before a0 Z = true) (n0 : Nat) (h0 : Heap) (hWd : OWorld Z a0) (wc : List Jvm.Cond) (O0 : Old Z n0 h0) (b : Addr) (kb : ClassId) (dv : Value) (d : Addr) (kd : ClassId) (x0 : Int32) (x1 : Int32) (q0 : Arv Z h0 b kb .char (2 : Int32) [(.int x0), (.int x1)] dv) (q1 : Arv Z h0 d kd .byte (2 : Int32) [(.int 0), (.int 0)] (.int 0)) (q2 : ¬ (255 : Int32) < x0) (q3 : ¬ (255 : Int32) < x1) (q4 : b ≠ d) (g0 : n0 ≤ d ∧ d < h0.size) :
    OMet l Z own_EL n0 (⟨"java/lang/StringUTF16", "compress", "([CI[BII)I"⟩ : MethodName) (Jvm.Cond.code (⟨"java/lang/StringUTF16", "compress", "([CI[BII)I"⟩ : MethodName) jdk_52_method_21_code 7 (some .int) :: wc) ({ frames := 0, cells := 0, slots := 0, locals := 0 } : Room) #[(.ref b), (.int 0), (.ref d), (.int 0), (.int 2)] h0 [d] (fun vq hq => vq = some (.int 2) ∧ Arv Z hq d kd .byte (2 : Int32) [(.int ((x0).toInt8.toInt32)), (.int ((x1).toInt8.toInt32))] (.int 0)) := by
  refine own_enter #[.val (.ref b), .val (.int 0), .val (.ref d), .val (.int 0), .val (.int 2), .unset, .unset] pn_java_lang_StringUTF16_compress___CI_BII_I (ef_ru_cmi2_2 b kb dv d kd x0 x1) hWd.1 O0 (allS g0 all0) ?_
  intro p e s m below meth c T0 X0 hnm hret
  refine og_iconst X0 1 (0 : Int32) d11_0 rfl rfl ?_
  refine og_istore X0 3 #[.val (.ref b), .val (.int 0), .val (.ref d), .val (.int 0), .val (.int 2), .val (.int 0), .unset] d11_1 rfl rfl ?_
  refine og_iload X0 5 d11_3 rfl rfl ?_
  refine og_iload X0 7 d11_5 rfl rfl ?_
  refine og_icmpN X0 10 d11_7 (XT.ii_ge_f (by decide)) rfl ?_
  refine og_aloadN X0 11 d11_10 rfl rfl rfl ?_
  refine og_iloadN X0 12 d11_11 rfl rfl ?_
  refine own_ldC X0 13 d11_12 q0 (by decide) (by decide) rfl rfl ?_
  refine og_istore X0 15 #[.val (.ref b), .val (.int 0), .val (.ref d), .val (.int 0), .val (.int 2), .val (.int 0), .val (.int x0)] d11_13 rfl rfl ?_
  refine og_iload X0 17 d11_15 rfl rfl ?_
  refine og_sipush X0 20 (255 : Int32) d11_17 rfl rfl ?_
  refine og_icmpY X0 26 d11_20 (XT.ii_le_t q2) (by decide) (by decide) ?_
  refine og_aloadN X0 27 d11_26 rfl rfl rfl ?_
  refine og_iloadN X0 28 d11_27 rfl rfl ?_
  refine og_iload X0 30 d11_28 rfl rfl ?_
  refine og_i2b X0 31 d11_30 rfl ?_
  refine own_stB X0 32 d11_31 q1 (own_nbb _) (by decide) (by decide) (i := 0) (by decide) (Nat.le_of_ble_eq_true rfl) (om 0 rfl) rfl ?_
  intro T1 h1 X1 W1 K1 A1
  have f2 : Arv Z h1 d kd .byte (2 : Int32) [(.int ((x0).toInt8.toInt32)), (.int 0)] (.int 0) := A1
  refine og_iinc X1 35 #[.val (.ref b), .val (.int 1), .val (.ref d), .val (.int 0), .val (.int 2), .val (.int 0), .val (.int x0)] d11_32 rfl rfl rfl ?_
  refine og_iinc X1 38 #[.val (.ref b), .val (.int 1), .val (.ref d), .val (.int 1), .val (.int 2), .val (.int 0), .val (.int x0)] d11_35 rfl rfl rfl ?_
  refine og_iinc X1 41 #[.val (.ref b), .val (.int 1), .val (.ref d), .val (.int 1), .val (.int 2), .val (.int 1), .val (.int x0)] d11_38 rfl rfl rfl ?_
  refine og_goto X1 3 d11_41 (by decide) (by decide) ?_
  refine og_iload X1 5 d11_3 rfl rfl ?_
  refine og_iload X1 7 d11_5 rfl rfl ?_
  refine og_icmpN X1 10 d11_7 (XT.ii_ge_f (by decide)) rfl ?_
  refine og_aloadN X1 11 d11_10 rfl rfl rfl ?_
  refine og_iloadN X1 12 d11_11 rfl rfl ?_
  have f3 := q0.keep K1 (ninS q4 nin0)
  refine own_ldC X1 13 d11_12 f3 (by decide) (by decide) rfl rfl ?_
  refine og_istore X1 15 #[.val (.ref b), .val (.int 1), .val (.ref d), .val (.int 1), .val (.int 2), .val (.int 1), .val (.int x1)] d11_13 rfl rfl ?_
  refine og_iload X1 17 d11_15 rfl rfl ?_
  refine og_sipush X1 20 (255 : Int32) d11_17 rfl rfl ?_
  refine og_icmpY X1 26 d11_20 (XT.ii_le_t q3) (by decide) (by decide) ?_
  refine og_aloadN X1 27 d11_26 rfl rfl rfl ?_
  refine og_iloadN X1 28 d11_27 rfl rfl ?_
  refine og_iload X1 30 d11_28 rfl rfl ?_
  refine og_i2b X1 31 d11_30 rfl ?_
  refine own_stB X1 32 d11_31 f2 (own_nbb _) (by decide) (by decide) (i := 1) (by decide) (Nat.le_of_ble_eq_true rfl) (om 0 rfl) rfl ?_
  intro T4 h4 X4 W4 K4 A4
  have f5 : Arv Z h4 d kd .byte (2 : Int32) [(.int ((x0).toInt8.toInt32)), (.int ((x1).toInt8.toInt32))] (.int 0) := A4
  refine og_iinc X4 35 #[.val (.ref b), .val (.int 2), .val (.ref d), .val (.int 1), .val (.int 2), .val (.int 1), .val (.int x1)] d11_32 rfl rfl rfl ?_
  refine og_iinc X4 38 #[.val (.ref b), .val (.int 2), .val (.ref d), .val (.int 2), .val (.int 2), .val (.int 1), .val (.int x1)] d11_35 rfl rfl rfl ?_
  refine og_iinc X4 41 #[.val (.ref b), .val (.int 2), .val (.ref d), .val (.int 2), .val (.int 2), .val (.int 2), .val (.int x1)] d11_38 rfl rfl rfl ?_
  refine og_goto X4 3 d11_41 (by decide) (by decide) ?_
  refine og_iload X4 5 d11_3 rfl rfl ?_
  refine og_iload X4 7 d11_5 rfl rfl ?_
  refine og_icmpY X4 44 d11_7 (XT.ii_ge_t (by decide)) (by decide) (by decide) ?_
  refine og_iload X4 46 d11_44 rfl rfl ?_
  refine own_retI X4 d11_46 hret (by decide) (by decide) ?_
  exact ⟨rfl, f5⟩
set_option maxRecDepth 65536 in
set_option maxHeartbeats 40000000 in
theorem ru_cmp2_2 (l : Launch) (Z : State) (a0 : Array Value) (hw : ∀ d ∈ tables_1, d.before a0 Z = true) (n0 : Nat) (h0 : Heap) (hWd : OWorld Z a0) (wc : List Jvm.Cond) (O0 : Old Z n0 h0) (b : Addr) (kb : ClassId) (dv : Value) (x0 : Int32) (x1 : Int32) (q0 : Arv Z h0 b kb .char (2 : Int32) [(.int x0), (.int x1)] dv) (q1 : ¬ (255 : Int32) < x0) (q2 : ¬ (255 : Int32) < x1) (q3 : ¬ x0 < 0) (q4 : ¬ (65535 : Int32) < x0) (q5 : ¬ x1 < 0) (q6 : ¬ (65535 : Int32) < x1) :
    OMet l Z own_EL n0 (⟨"java/lang/StringUTF16", "compress", "([CII)[B"⟩ : MethodName) (Jvm.Cond.code (⟨"java/lang/StringUTF16", "compress", "([CII)[B"⟩ : MethodName) jdk_52_method_16_code 6 (some (.array .byte)) :: wc) ({ frames := 1, cells := 1, slots := 2, locals := 18 } : Room) #[(.ref b), (.int 0), (.int 2)] h0 [] (fun vq hq => ∃ (r : Addr) (kr : ClassId), vq = some (.ref r) ∧ h0.size ≤ r ∧ Arv Z hq r kr .byte (2 : Int32) [(.int ((x0).toInt8.toInt32)), (.int ((x1).toInt8.toInt32))] (.int 0)) := by
  refine own_enter #[.val (.ref b), .val (.int 0), .val (.int 2), .unset, .unset, .unset] pn_java_lang_StringUTF16_compress___CII__B (ef_ru_cmp2_2 b kb dv x0 x1) hWd.1 O0 all0 ?_
  intro p e s m below meth c T0 X0 hnm hret
  refine og_iloadN X0 1 d10_0 rfl rfl ?_
  refine own_arr X0 3 d10_1 (ow hw 15 rfl) (by decide) (cap := 2) (by decide) (by decide) (by decide) (by decide) rfl ?_
  intro T1 h1 b1 kb1 X1 K1 G1 U1 A1
  have f2 : Arv Z h1 b1 kb1 .byte (2 : Int32) [(.int 0), (.int 0)] (.int 0) := A1
  refine og_astoreN X1 4 #[.val (.ref b), .val (.int 0), .val (.int 2), .val (.ref b1), .unset, .unset] d10_3 rfl rfl rfl ?_
  refine og_aloadN X1 5 d10_4 rfl rfl rfl ?_
  refine og_iloadN X1 6 d10_5 rfl rfl ?_
  refine og_aloadN X1 7 d10_6 rfl rfl rfl ?_
  refine og_iconst X1 8 (0 : Int32) d10_7 rfl rfl ?_
  refine og_iloadN X1 9 d10_8 rfl rfl ?_
  have f3 := q0.keep K1 nin0
  refine own_stat X1 12 (argsL := [(.ref b), (.int 0), (.ref b1), (.int 0), (.int 2)]) (rest := []) d10_9 (ru_cmi2_2 l Z a0 hw n0 h1 hWd [] X1.old b kb dv b1 kb1 x0 x1 f3 f2 q1 q2 (Nat.ne_of_lt (Nat.lt_of_lt_of_le q0.lt G1)) (own_svb X1 (om 0 rfl))) (ow hw 63 rfl) (ow hw 64 rfl) (ow hw 61 rfl) (ow hw 65 rfl) (by decide) (lenOf pd__28_5bCI_5bBII_29I rfl) rfl rfl rfl (W := 0) rfl (by decide) (by decide) (by decide) (by decide) (allS (om 0 rfl) all0) rfl ?_
  intro T4 h4 v4 X4 K4 hQ4
  obtain ⟨rfl, f5⟩ := hQ4
  show OGo _ _ _ _ T4 (mkF m 12 #[.val (.ref b), .val (.int 0), .val (.int 2), .val (.ref b1), .unset, .unset] [(.int 2)])
  refine og_istore X4 14 #[.val (.ref b), .val (.int 0), .val (.int 2), .val (.ref b1), .val (.int 2), .unset] d10_12 rfl rfl ?_
  refine og_iload X4 16 d10_14 rfl rfl ?_
  refine og_iloadN X4 17 d10_16 rfl rfl ?_
  refine og_icmpY X4 57 d10_17 (XT.ii_eq_t (by decide)) (by decide) (by decide) ?_
  refine og_aloadN X4 58 d10_57 rfl rfl rfl ?_
  refine own_retA X4 d10_58 hret rfl rfl (by decide) (by decide) ?_
  exact ⟨b1, kb1, rfl, G1, f5⟩
set_option maxRecDepth 65536 in
set_option maxHeartbeats 40000000 in
theorem ru_cod2_2 (l : Launch) (Z : State) (a0 : Array Value) (hw : ∀ d ∈ tables_1, d.before a0 Z = true) (n0 : Nat) (h0 : Heap) (hWd : OWorld Z a0) (wc : List Jvm.Cond) (O0 : Old Z n0 h0) (b : Addr) (kb : ClassId) (vs : List Value) (dv : Value) (q0 : Arv Z h0 b kb .byte (2 : Int32) vs dv) :
    OMet l Z own_EL n0 (⟨"java/lang/StringUTF16", "coderFromArrayLen", "([BI)B"⟩ : MethodName) (Jvm.Cond.code (⟨"java/lang/StringUTF16", "coderFromArrayLen", "([BI)B"⟩ : MethodName) jdk_52_method_15_code 2 (some .byte) :: wc) ({ frames := 0, cells := 0, slots := 0, locals := 0 } : Room) #[(.ref b), (.int 2)] h0 [] (fun vq hq => vq = some (.int 0)) := by
  refine own_enter #[.val (.ref b), .val (.int 2)] pn_java_lang_StringUTF16_coderFromArrayLen___BI_B (ef_ru_cod2_2 b kb vs dv) hWd.1 O0 all0 ?_
  intro p e s m below meth c T0 X0 hnm hret
  refine og_iloadN X0 1 d17_0 rfl rfl ?_
  refine og_aloadN X0 2 d17_1 rfl rfl rfl ?_
  refine own_len X0 3 d17_2 q0 rfl ?_
  refine og_isub X0 4 d17_3 rfl ?_
  show OGo _ _ _ _ T0 (mkF m 4 #[.val (.ref b), .val (.int 2)] [(.int 0)])
  refine og_bipush X0 6 (31 : Int32) d17_4 rfl rfl ?_
  refine og_iushr X0 7 d17_6 rfl ?_
  show OGo _ _ _ _ T0 (mkF m 7 #[.val (.ref b), .val (.int 2)] [(.int 0)])
  refine og_i2b X0 8 d17_7 rfl ?_
  show OGo _ _ _ _ T0 (mkF m 8 #[.val (.ref b), .val (.int 2)] [(.int 0)])
  refine own_retY X0 d17_8 hret rfl (by decide) (by decide) ?_
  exact rfl
set_option maxRecDepth 65536 in
set_option maxHeartbeats 40000000 in
theorem ru_cod2_4 (l : Launch) (Z : State) (a0 : Array Value) (hw : ∀ d ∈ tables_1, d.before a0 Z = true) (n0 : Nat) (h0 : Heap) (hWd : OWorld Z a0) (wc : List Jvm.Cond) (O0 : Old Z n0 h0) (b : Addr) (kb : ClassId) (vs : List Value) (dv : Value) (q0 : Arv Z h0 b kb .byte (4 : Int32) vs dv) :
    OMet l Z own_EL n0 (⟨"java/lang/StringUTF16", "coderFromArrayLen", "([BI)B"⟩ : MethodName) (Jvm.Cond.code (⟨"java/lang/StringUTF16", "coderFromArrayLen", "([BI)B"⟩ : MethodName) jdk_52_method_15_code 2 (some .byte) :: wc) ({ frames := 0, cells := 0, slots := 0, locals := 0 } : Room) #[(.ref b), (.int 2)] h0 [] (fun vq hq => vq = some (.int 1)) := by
  refine own_enter #[.val (.ref b), .val (.int 2)] pn_java_lang_StringUTF16_coderFromArrayLen___BI_B (ef_ru_cod2_4 b kb vs dv) hWd.1 O0 all0 ?_
  intro p e s m below meth c T0 X0 hnm hret
  refine og_iloadN X0 1 d17_0 rfl rfl ?_
  refine og_aloadN X0 2 d17_1 rfl rfl rfl ?_
  refine own_len X0 3 d17_2 q0 rfl ?_
  refine og_isub X0 4 d17_3 rfl ?_
  show OGo _ _ _ _ T0 (mkF m 4 #[.val (.ref b), .val (.int 2)] [(.int (-2 : Int32))])
  refine og_bipush X0 6 (31 : Int32) d17_4 rfl rfl ?_
  refine og_iushr X0 7 d17_6 rfl ?_
  show OGo _ _ _ _ T0 (mkF m 7 #[.val (.ref b), .val (.int 2)] [(.int 1)])
  refine og_i2b X0 8 d17_7 rfl ?_
  show OGo _ _ _ _ T0 (mkF m 8 #[.val (.ref b), .val (.int 2)] [(.int 1)])
  refine own_retY X0 d17_8 hret rfl (by decide) (by decide) ?_
  exact rfl
set_option maxRecDepth 65536 in
set_option maxHeartbeats 40000000 in
theorem ru_inv2 (l : Launch) (Z : State) (a0 : Array Value) (hw : ∀ d ∈ tables_1, d.before a0 Z = true) (n0 : Nat) (h0 : Heap) (hWd : OWorld Z a0) (wc : List Jvm.Cond) (O0 : Old Z n0 h0) (a : Addr) (b : Addr) (y : Value) (z : Int32) (kb : ClassId) (dv : Value) (x0 : Int32) (x1 : Int32) (q0 : Exa Z h0 a "java/lang/String") (q1 : Fld Z h0 a "java/lang/String" "value" "[B" y) (q2 : Fld Z h0 a "java/lang/String" "coder" "B" (.int z)) (q3 : Arv Z h0 b kb .char (2 : Int32) [(.int x0), (.int x1)] dv) (q4 : ¬ x0 < 0) (q5 : ¬ (65535 : Int32) < x0) (q6 : ¬ x1 < 0) (q7 : ¬ (65535 : Int32) < x1) (g0 : n0 ≤ a ∧ a < h0.size) :
    OMet l Z own_EL n0 (⟨"java/lang/String", "<init>", "([CIILjava/lang/Void;)V"⟩ : MethodName) (Jvm.Cond.code (⟨"java/lang/String", "<init>", "([CIILjava/lang/Void;)V"⟩ : MethodName) jdk_42_method_149_code 6 none :: wc) ({ frames := 4, cells := 2, slots := 6, locals := 57 } : Room) #[(.ref a), (.ref b), (.int 0), (.int 2), .null] h0 [a] (fun vq hq => vq = none ∧ OStr Z hq a [x0, x1] hq.size) := by
  refine own_enter #[.val (.ref a), .val (.ref b), .val (.int 0), .val (.int 2), .val .null, .unset] pn_java_lang_String__init____CIILjava_lang_Void__V (ef_ru_inv2 a b y z kb dv x0 x1) hWd.1 O0 (allS g0 all0) ?_
  intro p e s m below meth c T0 X0 hnm hret
  refine og_aloadN X0 1 d2_0 rfl rfl rfl ?_
  refine own_obj0 X0 4 (a := a) d2_1 (ow hw 11 rfl) (ow hw 12 rfl) (ow hw 13 rfl) rfl (W := 0) rfl (by decide) (by decide) rfl ?_
  intro T1 X2
  refine og_iloadN X2 5 d2_4 rfl rfl ?_
  refine og_ifY X2 27 d2_5 (XT.i0_ne_t (by decide)) (by decide) (by decide) ?_
  refine own_getS X2 30 d2_27 (host := "") (Or.inl (ow hw 55 rfl)) Via.refl hWd.2.1.1 rfl ?_
  intro T3 X4
  refine og_ifN X4 33 d2_30 (XT.i0_eq_f hWd.2.1.2) rfl ?_
  refine og_aloadN X4 34 d2_33 rfl rfl rfl ?_
  refine og_iloadN X4 35 d2_34 rfl rfl ?_
  refine og_iloadN X4 36 d2_35 rfl rfl ?_
  by_cases hc5 : (255 : Int32) < x0
  · -- (255 : Int32) < x0
    refine own_stat X4 39 (argsL := [(.ref b), (.int 0), (.int 2)]) (rest := []) d2_36 (ru_cmp2_0 l Z a0 hw n0 h0 hWd [] X4.old b kb dv x0 x1 q3 hc5 q4 q5 q6 q7 ) (ow hw 59 rfl) (ow hw 60 rfl) (ow hw 61 rfl) (ow hw 62 rfl) (by decide) (lenOf pd__28_5bCII_29_5bB rfl) rfl rfl rfl (W := 0) rfl (by decide) (by decide) (by decide) (by decide) all0 rfl ?_
    intro T6 h6 v6 X6 K6 hQ6
    obtain ⟨r6, kr6, rfl, ge_r6, f7⟩ := hQ6
    show OGo _ _ _ _ T6 (mkF m 39 #[.val (.ref a), .val (.ref b), .val (.int 0), .val (.int 2), .val .null, .unset] [(.ref r6)])
    refine og_astore X6 41 #[.val (.ref a), .val (.ref b), .val (.int 0), .val (.int 2), .val .null, .val (.ref r6)] d2_39 rfl rfl rfl ?_
    refine og_aloadN X6 42 d2_41 rfl rfl rfl ?_
    refine og_aload X6 44 d2_42 rfl rfl rfl ?_
    refine og_iloadN X6 45 d2_44 rfl rfl ?_
    refine own_stat X6 48 (argsL := [(.ref r6), (.int 2)]) (rest := [(.ref a)]) d2_45 (ru_cod2_4 l Z a0 hw n0 h6 hWd [] X6.old r6 kr6 [(.int (StrChars.lo8 x0)), (.int (StrChars.hi8 x0)), (.int (StrChars.lo8 x1)), (.int (StrChars.hi8 x1))] (.int 0) f7 ) (ow hw 85 rfl) (ow hw 86 rfl) (ow hw 61 rfl) (ow hw 87 rfl) (by decide) (lenOf pd__28_5bBI_29B rfl) rfl rfl rfl (W := 1) rfl (by decide) (by decide) (by decide) (by decide) all0 rfl ?_
    intro T8 h8 v8 X8 K8 hQ8
    obtain rfl := hQ8
    show OGo _ _ _ _ T8 (mkF m 48 #[.val (.ref a), .val (.ref b), .val (.int 0), .val (.int 2), .val .null, .val (.ref r6)] [(.int 1), (.ref a)])
    have f9 := q2.keep K6 nin0
    have f10 := f9.keep K8 nin0
    have f11 := q0.keep K6
    have f12 := f11.keep K8
    have f13 := q1.keep K6 nin0
    have f14 := f13.keep K8 nin0
    refine own_put X8 51 d2_48 (host := "") (Or.inl (ow hw 21 rfl)) Via.refl f10 f12 (Or.inr ⟨(ow hw 17 rfl), rfl, hnm⟩) (ow hw 2 rfl) (ty := .byte) (by decide) rfl rfl (om 0 rfl) rfl ?_
    intro T15 h15 X15 W15 K15 F15
    have f16 := Fld.other W15 f14 (Or.inr (slot_ne (Or.inr (ow hw 16 rfl)) (Or.inr (ow hw 17 rfl)) (by decide) (t := (.array .byte)) (t' := .byte) (by decide) (by decide)))
    refine og_aloadN X15 52 d2_51 rfl rfl rfl ?_
    refine og_aload X15 54 d2_52 rfl rfl rfl ?_
    have f17 := f12.keep K15
    refine own_put X15 57 d2_54 (host := "") (Or.inl (ow hw 20 rfl)) Via.refl f16 f17 (Or.inr ⟨(ow hw 16 rfl), rfl, hnm⟩) (ow hw 2 rfl) (ty := (.array .byte)) (by decide) rfl rfl (om 0 rfl) rfl ?_
    intro T18 h18 X18 W18 K18 F18
    have f19 := Fld.other W18 F15 (Or.inr (slot_ne (Or.inr (ow hw 17 rfl)) (Or.inr (ow hw 16 rfl)) (by decide) (t := .byte) (t' := (.array .byte)) (by decide) (by decide)))
    have f20 := f17.keep K18
    have f21 := f7.keep K8 nin0
    have f22 := f21.keep K15 (ninS (Nat.ne_of_gt (Nat.lt_of_lt_of_le q0.lt ge_r6)) nin0)
    have f23 := f22.keep K18 (ninS (Nat.ne_of_gt (Nat.lt_of_lt_of_le q0.lt ge_r6)) nin0)
    refine own_retV X18 d2_57 hret (by decide) (by decide) ?_
    exact ⟨rfl, own_mkStrW (cs := [x0, x1]) (n := 2) f20 f19 F18 f23 ⟨x0, List.mem_of_getElem? (i := 0) rfl, hc5⟩ (own_l16 ⟨q4, q5⟩ (own_l16 ⟨q6, q7⟩ (fun _ q => nomatch q))) rfl rfl (Nat.le_of_ble_eq_true rfl)⟩
  · -- not
    by_cases hc24 : (255 : Int32) < x1
    · -- (255 : Int32) < x1
      refine own_stat X4 39 (argsL := [(.ref b), (.int 0), (.int 2)]) (rest := []) d2_36 (ru_cmp2_1 l Z a0 hw n0 h0 hWd [] X4.old b kb dv x0 x1 q3 hc5 hc24 q4 q5 q6 q7 ) (ow hw 59 rfl) (ow hw 60 rfl) (ow hw 61 rfl) (ow hw 62 rfl) (by decide) (lenOf pd__28_5bCII_29_5bB rfl) rfl rfl rfl (W := 0) rfl (by decide) (by decide) (by decide) (by decide) all0 rfl ?_
      intro T25 h25 v25 X25 K25 hQ25
      obtain ⟨r25, kr25, rfl, ge_r25, f26⟩ := hQ25
      show OGo _ _ _ _ T25 (mkF m 39 #[.val (.ref a), .val (.ref b), .val (.int 0), .val (.int 2), .val .null, .unset] [(.ref r25)])
      refine og_astore X25 41 #[.val (.ref a), .val (.ref b), .val (.int 0), .val (.int 2), .val .null, .val (.ref r25)] d2_39 rfl rfl rfl ?_
      refine og_aloadN X25 42 d2_41 rfl rfl rfl ?_
      refine og_aload X25 44 d2_42 rfl rfl rfl ?_
      refine og_iloadN X25 45 d2_44 rfl rfl ?_
      refine own_stat X25 48 (argsL := [(.ref r25), (.int 2)]) (rest := [(.ref a)]) d2_45 (ru_cod2_4 l Z a0 hw n0 h25 hWd [] X25.old r25 kr25 [(.int (StrChars.lo8 x0)), (.int (StrChars.hi8 x0)), (.int (StrChars.lo8 x1)), (.int (StrChars.hi8 x1))] (.int 0) f26 ) (ow hw 85 rfl) (ow hw 86 rfl) (ow hw 61 rfl) (ow hw 87 rfl) (by decide) (lenOf pd__28_5bBI_29B rfl) rfl rfl rfl (W := 1) rfl (by decide) (by decide) (by decide) (by decide) all0 rfl ?_
      intro T27 h27 v27 X27 K27 hQ27
      obtain rfl := hQ27
      show OGo _ _ _ _ T27 (mkF m 48 #[.val (.ref a), .val (.ref b), .val (.int 0), .val (.int 2), .val .null, .val (.ref r25)] [(.int 1), (.ref a)])
      have f28 := q2.keep K25 nin0
      have f29 := f28.keep K27 nin0
      have f30 := q0.keep K25
      have f31 := f30.keep K27
      have f32 := q1.keep K25 nin0
      have f33 := f32.keep K27 nin0
      refine own_put X27 51 d2_48 (host := "") (Or.inl (ow hw 21 rfl)) Via.refl f29 f31 (Or.inr ⟨(ow hw 17 rfl), rfl, hnm⟩) (ow hw 2 rfl) (ty := .byte) (by decide) rfl rfl (om 0 rfl) rfl ?_
      intro T34 h34 X34 W34 K34 F34
      have f35 := Fld.other W34 f33 (Or.inr (slot_ne (Or.inr (ow hw 16 rfl)) (Or.inr (ow hw 17 rfl)) (by decide) (t := (.array .byte)) (t' := .byte) (by decide) (by decide)))
      refine og_aloadN X34 52 d2_51 rfl rfl rfl ?_
      refine og_aload X34 54 d2_52 rfl rfl rfl ?_
      have f36 := f31.keep K34
      refine own_put X34 57 d2_54 (host := "") (Or.inl (ow hw 20 rfl)) Via.refl f35 f36 (Or.inr ⟨(ow hw 16 rfl), rfl, hnm⟩) (ow hw 2 rfl) (ty := (.array .byte)) (by decide) rfl rfl (om 0 rfl) rfl ?_
      intro T37 h37 X37 W37 K37 F37
      have f38 := Fld.other W37 F34 (Or.inr (slot_ne (Or.inr (ow hw 17 rfl)) (Or.inr (ow hw 16 rfl)) (by decide) (t := .byte) (t' := (.array .byte)) (by decide) (by decide)))
      have f39 := f36.keep K37
      have f40 := f26.keep K27 nin0
      have f41 := f40.keep K34 (ninS (Nat.ne_of_gt (Nat.lt_of_lt_of_le q0.lt ge_r25)) nin0)
      have f42 := f41.keep K37 (ninS (Nat.ne_of_gt (Nat.lt_of_lt_of_le q0.lt ge_r25)) nin0)
      refine own_retV X37 d2_57 hret (by decide) (by decide) ?_
      exact ⟨rfl, own_mkStrW (cs := [x0, x1]) (n := 2) f39 f38 F37 f42 ⟨x1, List.mem_of_getElem? (i := 1) rfl, hc24⟩ (own_l16 ⟨q4, q5⟩ (own_l16 ⟨q6, q7⟩ (fun _ q => nomatch q))) rfl rfl (Nat.le_of_ble_eq_true rfl)⟩
    · -- not
      refine own_stat X4 39 (argsL := [(.ref b), (.int 0), (.int 2)]) (rest := []) d2_36 (ru_cmp2_2 l Z a0 hw n0 h0 hWd [] X4.old b kb dv x0 x1 q3 hc5 hc24 q4 q5 q6 q7 ) (ow hw 59 rfl) (ow hw 60 rfl) (ow hw 61 rfl) (ow hw 62 rfl) (by decide) (lenOf pd__28_5bCII_29_5bB rfl) rfl rfl rfl (W := 0) rfl (by decide) (by decide) (by decide) (by decide) all0 rfl ?_
      intro T43 h43 v43 X43 K43 hQ43
      obtain ⟨r43, kr43, rfl, ge_r43, f44⟩ := hQ43
      show OGo _ _ _ _ T43 (mkF m 39 #[.val (.ref a), .val (.ref b), .val (.int 0), .val (.int 2), .val .null, .unset] [(.ref r43)])
      refine og_astore X43 41 #[.val (.ref a), .val (.ref b), .val (.int 0), .val (.int 2), .val .null, .val (.ref r43)] d2_39 rfl rfl rfl ?_
      refine og_aloadN X43 42 d2_41 rfl rfl rfl ?_
      refine og_aload X43 44 d2_42 rfl rfl rfl ?_
      refine og_iloadN X43 45 d2_44 rfl rfl ?_
      refine own_stat X43 48 (argsL := [(.ref r43), (.int 2)]) (rest := [(.ref a)]) d2_45 (ru_cod2_2 l Z a0 hw n0 h43 hWd [] X43.old r43 kr43 [(.int ((x0).toInt8.toInt32)), (.int ((x1).toInt8.toInt32))] (.int 0) f44 ) (ow hw 85 rfl) (ow hw 86 rfl) (ow hw 61 rfl) (ow hw 87 rfl) (by decide) (lenOf pd__28_5bBI_29B rfl) rfl rfl rfl (W := 1) rfl (by decide) (by decide) (by decide) (by decide) all0 rfl ?_
      intro T45 h45 v45 X45 K45 hQ45
      obtain rfl := hQ45
      show OGo _ _ _ _ T45 (mkF m 48 #[.val (.ref a), .val (.ref b), .val (.int 0), .val (.int 2), .val .null, .val (.ref r43)] [(.int 0), (.ref a)])
      have f46 := q2.keep K43 nin0
      have f47 := f46.keep K45 nin0
      have f48 := q0.keep K43
      have f49 := f48.keep K45
      have f50 := q1.keep K43 nin0
      have f51 := f50.keep K45 nin0
      refine own_put X45 51 d2_48 (host := "") (Or.inl (ow hw 21 rfl)) Via.refl f47 f49 (Or.inr ⟨(ow hw 17 rfl), rfl, hnm⟩) (ow hw 2 rfl) (ty := .byte) (by decide) rfl rfl (om 0 rfl) rfl ?_
      intro T52 h52 X52 W52 K52 F52
      have f53 := Fld.other W52 f51 (Or.inr (slot_ne (Or.inr (ow hw 16 rfl)) (Or.inr (ow hw 17 rfl)) (by decide) (t := (.array .byte)) (t' := .byte) (by decide) (by decide)))
      refine og_aloadN X52 52 d2_51 rfl rfl rfl ?_
      refine og_aload X52 54 d2_52 rfl rfl rfl ?_
      have f54 := f49.keep K52
      refine own_put X52 57 d2_54 (host := "") (Or.inl (ow hw 20 rfl)) Via.refl f53 f54 (Or.inr ⟨(ow hw 16 rfl), rfl, hnm⟩) (ow hw 2 rfl) (ty := (.array .byte)) (by decide) rfl rfl (om 0 rfl) rfl ?_
      intro T55 h55 X55 W55 K55 F55
      have f56 := Fld.other W55 F52 (Or.inr (slot_ne (Or.inr (ow hw 17 rfl)) (Or.inr (ow hw 16 rfl)) (by decide) (t := .byte) (t' := (.array .byte)) (by decide) (by decide)))
      have f57 := f54.keep K55
      have f58 := f44.keep K45 nin0
      have f59 := f58.keep K52 (ninS (Nat.ne_of_gt (Nat.lt_of_lt_of_le q0.lt ge_r43)) nin0)
      have f60 := f59.keep K55 (ninS (Nat.ne_of_gt (Nat.lt_of_lt_of_le q0.lt ge_r43)) nin0)
      refine own_retV X55 d2_57 hret (by decide) (by decide) ?_
      exact ⟨rfl, own_mkStr (cs := [x0, x1]) (bs := [x0.toInt8.toInt32, x1.toInt8.toInt32]) (n := 2) f57 f56 F55 f60 rfl (own_lS ⟨q4, hc5⟩ (own_lS ⟨q6, hc24⟩ own_l0)) rfl rfl (Nat.le_of_ble_eq_true rfl)⟩
set_option maxRecDepth 65536 in
set_option maxHeartbeats 40000000 in
theorem ru_ini2 (l : Launch) (Z : State) (a0 : Array Value) (hw : ∀ d ∈ tables_1, d.before a0 Z = true) (n0 : Nat) (h0 : Heap) (hWd : OWorld Z a0) (wc : List Jvm.Cond) (O0 : Old Z n0 h0) (a : Addr) (b : Addr) (y : Value) (z : Int32) (kb : ClassId) (dv : Value) (x0 : Int32) (x1 : Int32) (q0 : Exa Z h0 a "java/lang/String") (q1 : Fld Z h0 a "java/lang/String" "value" "[B" y) (q2 : Fld Z h0 a "java/lang/String" "coder" "B" (.int z)) (q3 : Arv Z h0 b kb .char (2 : Int32) [(.int x0), (.int x1)] dv) (q4 : ¬ x0 < 0) (q5 : ¬ (65535 : Int32) < x0) (q6 : ¬ x1 < 0) (q7 : ¬ (65535 : Int32) < x1) (g0 : n0 ≤ a ∧ a < h0.size) :
    OMet l Z own_EL n0 (⟨"java/lang/String", "<init>", "([C)V"⟩ : MethodName) (Jvm.Cond.code (⟨"java/lang/String", "<init>", "([C)V"⟩ : MethodName) jdk_42_method_3_code 2 none :: wc) ({ frames := 5, cells := 2, slots := 6, locals := 74 } : Room) #[(.ref a), (.ref b)] h0 [a] (fun vq hq => vq = none ∧ OStr Z hq a [x0, x1] hq.size) := by
  refine own_enter #[.val (.ref a), .val (.ref b)] pn_java_lang_String__init____C_V (ef_ru_ini2 a b y z kb dv x0 x1) hWd.1 O0 (allS g0 all0) ?_
  intro p e s m below meth c T0 X0 hnm hret
  refine og_aloadN X0 1 d1_0 rfl rfl rfl ?_
  refine og_aloadN X0 2 d1_1 rfl rfl rfl ?_
  refine og_iconst X0 3 (0 : Int32) d1_2 rfl rfl ?_
  refine og_aloadN X0 4 d1_3 rfl rfl rfl ?_
  refine own_len X0 5 d1_4 q3 rfl ?_
  refine og_aconstNull X0 6 d1_5 rfl ?_
  refine own_spec X0 9 (a := a) (argsL := [(.ref b), (.int 0), (.int 2), .null]) (rest := []) d1_6 rfl (ru_inv2 l Z a0 hw n0 h0 hWd [] X0.old a b y z kb dv x0 x1 q0 q1 q2 q3 q4 q5 q6 q7 (own_svb X0 (om 0 rfl))) (ow hw 7 rfl) (ow hw 8 rfl) (ow hw 3 rfl) (ow hw 10 rfl) (by decide) (lenOf pd__28_5bCIILjava_2flang_2fVoid_3b_29V rfl) rfl rfl rfl (W := 0) rfl (by decide) (by decide) (by decide) (by decide) (allS (om 0 rfl) all0) rfl ?_
  intro T1 h1 v1 X1 K1 hQ1
  obtain ⟨rfl, f2⟩ := hQ1
  show OGo _ _ _ _ T1 (mkF m 9 #[.val (.ref a), .val (.ref b)] [])
  refine own_retV X1 d1_9 hret (by decide) (by decide) ?_
  exact ⟨rfl, f2.top⟩
set_option maxRecDepth 65536 in
set_option maxHeartbeats 40000000 in
theorem ru_nbl3 (l : Launch) (Z : State) (a0 : Array Value) (hw : ∀ d ∈ tables_1, d.before a0 Z = true) (n0 : Nat) (h0 : Heap) (hWd : OWorld Z a0) (wc : List Jvm.Cond) (O0 : Old Z n0 h0)   :
    OMet l Z own_EL n0 (⟨"java/lang/StringUTF16", "newBytesLength", "(I)I"⟩ : MethodName) (Jvm.Cond.code (⟨"java/lang/StringUTF16", "newBytesLength", "(I)I"⟩ : MethodName) jdk_52_method_3_code 1 (some .int) :: wc) ({ frames := 0, cells := 0, slots := 0, locals := 0 } : Room) #[(.int 3)] h0 [] (fun vq hq => vq = some (.int 6)) := by
  refine own_enter #[.val (.int 3)] pn_java_lang_StringUTF16_newBytesLength__I_I (ef_ru_nbl3) hWd.1 O0 all0 ?_
  intro p e s m below meth c T0 X0 hnm hret
  refine og_iloadN X0 1 d14_0 rfl rfl ?_
  refine og_ifY X0 12 d14_1 (XT.i0_ge_t (by decide)) (by decide) (by decide) ?_
  refine og_iloadN X0 13 d14_12 rfl rfl ?_
  refine own_ldcI X0 15 (v := (1073741823 : Int32)) d14_13 (ow hw 75 rfl) rfl ?_
  refine og_icmpY X0 55 d14_15 (XT.ii_lt_t (by decide)) (by decide) (by decide) ?_
  refine og_iloadN X0 56 d14_55 rfl rfl ?_
  refine og_iconst X0 57 (1 : Int32) d14_56 rfl rfl ?_
  refine og_ishl X0 58 d14_57 rfl ?_
  show OGo _ _ _ _ T0 (mkF m 58 #[.val (.int 3)] [(.int 6)])
  refine own_retI X0 d14_58 hret (by decide) (by decide) ?_
  exact rfl
set_option maxRecDepth 65536 in
set_option maxHeartbeats 40000000 in
theorem ru_nbf3 (l : Launch) (Z : State) (a0 : Array Value) (hw : ∀ d ∈ tables_1, d.before a0 Z = true) (n0 : Nat) (h0 : Heap) (hWd : OWorld Z a0) (wc : List Jvm.Cond) (O0 : Old Z n0 h0)   :
    OMet l Z own_EL n0 (⟨"java/lang/StringUTF16", "newBytesFor", "(I)[B"⟩ : MethodName) (Jvm.Cond.code (⟨"java/lang/StringUTF16", "newBytesFor", "(I)[B"⟩ : MethodName) jdk_52_method_2_code 1 (some (.array .byte)) :: wc) ({ frames := 1, cells := 1, slots := 6, locals := 12 } : Room) #[(.int 3)] h0 [] (fun vq hq => ∃ (r : Addr) (kb : ClassId), vq = some (.ref r) ∧ h0.size ≤ r ∧ Arv Z hq r kb .byte (6 : Int32) [(.int 0), (.int 0), (.int 0), (.int 0), (.int 0), (.int 0)] (.int 0)) := by
  refine own_enter #[.val (.int 3)] pn_java_lang_StringUTF16_newBytesFor__I__B (ef_ru_nbf3) hWd.1 O0 all0 ?_
  intro p e s m below meth c T0 X0 hnm hret
  refine og_iloadN X0 1 d13_0 rfl rfl ?_
  refine own_stat X0 4 (argsL := [(.int 3)]) (rest := []) d13_1 (ru_nbl3 l Z a0 hw n0 h0 hWd [] X0.old   ) (ow hw 72 rfl) (ow hw 73 rfl) (ow hw 61 rfl) (ow hw 74 rfl) (by decide) (lenOf pd__28I_29I rfl) rfl rfl rfl (W := 0) rfl (by decide) (by decide) (by decide) (by decide) all0 rfl ?_
  intro T1 h1 v1 X1 K1 hQ1
  obtain rfl := hQ1
  show OGo _ _ _ _ T1 (mkF m 4 #[.val (.int 3)] [(.int 6)])
  refine own_arr X1 6 d13_4 (ow hw 15 rfl) (by decide) (cap := 6) (by decide) (by decide) (by decide) (by decide) rfl ?_
  intro T2 h2 b2 kb2 X2 K2 G2 U2 A2
  have f3 : Arv Z h2 b2 kb2 .byte (6 : Int32) [(.int 0), (.int 0), (.int 0), (.int 0), (.int 0), (.int 0)] (.int 0) := A2
  refine own_retA X2 d13_6 hret rfl rfl (by decide) (by decide) ?_
  exact ⟨b2, kb2, rfl, (Nat.le_trans K1.1 G2), f3⟩
set_option maxRecDepth 65536 in
set_option maxHeartbeats 40000000 in
theorem ru_put3_0 (l : Launch) (Z : State) (a0 : Array Value) (hw : ∀ d ∈ tables_1, d.before a0 Z = true) (n0 : Nat) (h0 : Heap) (hWd : OWorld Z a0) (wc : List Jvm.Cond) (O0 : Old Z n0 h0) (b : Addr) (kb : ClassId) (x : Int32) (dv : Value) (e0 : Value) (e1 : Value) (e2 : Value) (e3 : Value) (e4 : Value) (e5 : Value) (q0 : Arv Z h0 b kb .byte (6 : Int32) [e0, e1, e2, e3, e4, e5] dv) (g0 : n0 ≤ b ∧ b < h0.size) :
    OMet l Z own_EL n0 (⟨"java/lang/StringUTF16", "putChar", "([BII)V"⟩ : MethodName) (Jvm.Cond.code (⟨"java/lang/StringUTF16", "putChar", "([BII)V"⟩ : MethodName) jdk_52_method_4_code 3 none :: wc) ({ frames := 0, cells := 0, slots := 0, locals := 0 } : Room) #[(.ref b), (.int 0), (.int x)] h0 [b] (fun vq hq => vq = none ∧ Arv Z hq b kb .byte (6 : Int32) [(.int (StrChars.lo8 x)), (.int (StrChars.hi8 x)), e2, e3, e4, e5] dv) := by
  refine own_enter #[.val (.ref b), .val (.int 0), .val (.int x)] pn_java_lang_StringUTF16_putChar___BII_V (ef_ru_put3_0 b kb x dv e0 e1 e2 e3 e4 e5) hWd.1 O0 (allS g0 all0) ?_
  intro p e s m below meth c T0 X0 hnm hret
  refine own_getS X0 3 d15_0 (host := "") (Or.inl (ow hw 79 rfl)) Via.refl hWd.2.2.2.1 rfl ?_
  intro T1 X2
  refine og_ifY X2 28 d15_3 (XT.i0_ne_t (by decide)) (by decide) (by decide) ?_
  refine og_iloadN X2 29 d15_28 rfl rfl ?_
  refine og_iconst X2 30 (1 : Int32) d15_29 rfl rfl ?_
  refine og_ishl X2 31 d15_30 rfl ?_
  show OGo _ _ _ _ T1 (mkF m 31 #[.val (.ref b), .val (.int 0), .val (.int x)] [(.int 0)])
  refine og_istoreN X2 32 #[.val (.ref b), .val (.int 0), .val (.int x)] d15_31 rfl rfl ?_
  refine og_aloadN X2 33 d15_32 rfl rfl rfl ?_
  refine og_iloadN X2 34 d15_33 rfl rfl ?_
  refine og_iinc X2 37 #[.val (.ref b), .val (.int 1), .val (.int x)] d15_34 rfl rfl rfl ?_
  refine og_iloadN X2 38 d15_37 rfl rfl ?_
  refine own_getS X2 41 d15_38 (host := "") (Or.inl (ow hw 80 rfl)) Via.refl hWd.2.2.2.2.1 rfl ?_
  intro T3 X4
  refine og_ishr X4 42 d15_41 rfl ?_
  refine og_i2b X4 43 d15_42 rfl ?_
  refine own_stB X4 44 d15_43 q0 (own_nbb _) (by decide) (by decide) (i := 0) (by decide) (Nat.le_of_ble_eq_true rfl) (om 0 rfl) rfl ?_
  intro T5 h5 X5 W5 K5 A5
  have f6 : Arv Z h5 b kb .byte (6 : Int32) [(.int (((x >>> ((0 : Int32) &&& 31))).toInt8.toInt32)), e1, e2, e3, e4, e5] dv := A5
  refine og_aloadN X5 45 d15_44 rfl rfl rfl ?_
  refine og_iloadN X5 46 d15_45 rfl rfl ?_
  refine og_iloadN X5 47 d15_46 rfl rfl ?_
  refine own_getS X5 50 d15_47 (host := "") (Or.inl (ow hw 81 rfl)) Via.refl hWd.2.2.2.2.2 rfl ?_
  intro T7 X8
  refine og_ishr X8 51 d15_50 rfl ?_
  refine og_i2b X8 52 d15_51 rfl ?_
  refine own_stB X8 53 d15_52 f6 (own_nbb _) (by decide) (by decide) (i := 1) (by decide) (Nat.le_of_ble_eq_true rfl) (om 0 rfl) rfl ?_
  intro T9 h9 X9 W9 K9 A9
  have f10 : Arv Z h9 b kb .byte (6 : Int32) [(.int (((x >>> ((0 : Int32) &&& 31))).toInt8.toInt32)), (.int (((x >>> ((8 : Int32) &&& 31))).toInt8.toInt32)), e2, e3, e4, e5] dv := A9
  refine own_retV X9 d15_53 hret (by decide) (by decide) ?_
  exact ⟨rfl, by have q := f10; rw [StrChars.shr0] at q; exact q⟩
set_option maxRecDepth 65536 in
set_option maxHeartbeats 40000000 in
theorem ru_put3_1 (l : Launch) (Z : State) (a0 : Array Value) (hw : ∀ d ∈ tables_1, d.before a0 Z = true) (n0 : Nat) (h0 : Heap) (hWd : OWorld Z a0) (wc : List Jvm.Cond) (O0 : Old Z n0 h0) (b : Addr) (kb : ClassId) (x : Int32) (dv : Value) (e0 : Value) (e1 : Value) (e2 : Value) (e3 : Value) (e4 : Value) (e5 : Value) (q0 : Arv Z h0 b kb .byte (6 : Int32) [e0, e1, e2, e3, e4, e5] dv) (g0 : n0 ≤ b ∧ b < h0.size) :
    OMet l Z own_EL n0 (⟨"java/lang/StringUTF16", "putChar", "([BII)V"⟩ : MethodName) (Jvm.Cond.code (⟨"java/lang/StringUTF16", "putChar", "([BII)V"⟩ : MethodName) jdk_52_method_4_code 3 none :: wc) ({ frames := 0, cells := 0, slots := 0, locals := 0 } : Room) #[(.ref b), (.int 1), (.int x)] h0 [b] (fun vq hq => vq = none ∧ Arv Z hq b kb .byte (6 : Int32) [e0, e1, (.int (StrChars.lo8 x)), (.int (StrChars.hi8 x)), e4, e5] dv) := by
  refine own_enter #[.val (.ref b), .val (.int 1), .val (.int x)] pn_java_lang_StringUTF16_putChar___BII_V (ef_ru_put3_1 b kb x dv e0 e1 e2 e3 e4 e5) hWd.1 O0 (allS g0 all0) ?_
  intro p e s m below meth c T0 X0 hnm hret
  refine own_getS X0 3 d15_0 (host := "") (Or.inl (ow hw 79 rfl)) Via.refl hWd.2.2.2.1 rfl ?_
  intro T1 X2
  refine og_ifY X2 28 d15_3 (XT.i0_ne_t (by decide)) (by decide) (by decide) ?_
  refine og_iloadN X2 29 d15_28 rfl rfl ?_
  refine og_iconst X2 30 (1 : Int32) d15_29 rfl rfl ?_
  refine og_ishl X2 31 d15_30 rfl ?_
  show OGo _ _ _ _ T1 (mkF m 31 #[.val (.ref b), .val (.int 1), .val (.int x)] [(.int 2)])
  refine og_istoreN X2 32 #[.val (.ref b), .val (.int 2), .val (.int x)] d15_31 rfl rfl ?_
  refine og_aloadN X2 33 d15_32 rfl rfl rfl ?_
  refine og_iloadN X2 34 d15_33 rfl rfl ?_
  refine og_iinc X2 37 #[.val (.ref b), .val (.int 3), .val (.int x)] d15_34 rfl rfl rfl ?_
  refine og_iloadN X2 38 d15_37 rfl rfl ?_
  refine own_getS X2 41 d15_38 (host := "") (Or.inl (ow hw 80 rfl)) Via.refl hWd.2.2.2.2.1 rfl ?_
  intro T3 X4
  refine og_ishr X4 42 d15_41 rfl ?_
  refine og_i2b X4 43 d15_42 rfl ?_
  refine own_stB X4 44 d15_43 q0 (own_nbb _) (by decide) (by decide) (i := 2) (by decide) (Nat.le_of_ble_eq_true rfl) (om 0 rfl) rfl ?_
  intro T5 h5 X5 W5 K5 A5
  have f6 : Arv Z h5 b kb .byte (6 : Int32) [e0, e1, (.int (((x >>> ((0 : Int32) &&& 31))).toInt8.toInt32)), e3, e4, e5] dv := A5
  refine og_aloadN X5 45 d15_44 rfl rfl rfl ?_
  refine og_iloadN X5 46 d15_45 rfl rfl ?_
  refine og_iloadN X5 47 d15_46 rfl rfl ?_
  refine own_getS X5 50 d15_47 (host := "") (Or.inl (ow hw 81 rfl)) Via.refl hWd.2.2.2.2.2 rfl ?_
  intro T7 X8
  refine og_ishr X8 51 d15_50 rfl ?_
  refine og_i2b X8 52 d15_51 rfl ?_
  refine own_stB X8 53 d15_52 f6 (own_nbb _) (by decide) (by decide) (i := 3) (by decide) (Nat.le_of_ble_eq_true rfl) (om 0 rfl) rfl ?_
  intro T9 h9 X9 W9 K9 A9
  have f10 : Arv Z h9 b kb .byte (6 : Int32) [e0, e1, (.int (((x >>> ((0 : Int32) &&& 31))).toInt8.toInt32)), (.int (((x >>> ((8 : Int32) &&& 31))).toInt8.toInt32)), e4, e5] dv := A9
  refine own_retV X9 d15_53 hret (by decide) (by decide) ?_
  exact ⟨rfl, by have q := f10; rw [StrChars.shr0] at q; exact q⟩
set_option maxRecDepth 65536 in
set_option maxHeartbeats 40000000 in
theorem ru_put3_2 (l : Launch) (Z : State) (a0 : Array Value) (hw : ∀ d ∈ tables_1, d.before a0 Z = true) (n0 : Nat) (h0 : Heap) (hWd : OWorld Z a0) (wc : List Jvm.Cond) (O0 : Old Z n0 h0) (b : Addr) (kb : ClassId) (x : Int32) (dv : Value) (e0 : Value) (e1 : Value) (e2 : Value) (e3 : Value) (e4 : Value) (e5 : Value) (q0 : Arv Z h0 b kb .byte (6 : Int32) [e0, e1, e2, e3, e4, e5] dv) (g0 : n0 ≤ b ∧ b < h0.size) :
    OMet l Z own_EL n0 (⟨"java/lang/StringUTF16", "putChar", "([BII)V"⟩ : MethodName) (Jvm.Cond.code (⟨"java/lang/StringUTF16", "putChar", "([BII)V"⟩ : MethodName) jdk_52_method_4_code 3 none :: wc) ({ frames := 0, cells := 0, slots := 0, locals := 0 } : Room) #[(.ref b), (.int 2), (.int x)] h0 [b] (fun vq hq => vq = none ∧ Arv Z hq b kb .byte (6 : Int32) [e0, e1, e2, e3, (.int (StrChars.lo8 x)), (.int (StrChars.hi8 x))] dv) := by
  refine own_enter #[.val (.ref b), .val (.int 2), .val (.int x)] pn_java_lang_StringUTF16_putChar___BII_V (ef_ru_put3_2 b kb x dv e0 e1 e2 e3 e4 e5) hWd.1 O0 (allS g0 all0) ?_
  intro p e s m below meth c T0 X0 hnm hret
  refine own_getS X0 3 d15_0 (host := "") (Or.inl (ow hw 79 rfl)) Via.refl hWd.2.2.2.1 rfl ?_
  intro T1 X2
  refine og_ifY X2 28 d15_3 (XT.i0_ne_t (by decide)) (by decide) (by decide) ?_
  refine og_iloadN X2 29 d15_28 rfl rfl ?_
  refine og_iconst X2 30 (1 : Int32) d15_29 rfl rfl ?_
  refine og_ishl X2 31 d15_30 rfl ?_
  show OGo _ _ _ _ T1 (mkF m 31 #[.val (.ref b), .val (.int 2), .val (.int x)] [(.int 4)])
  refine og_istoreN X2 32 #[.val (.ref b), .val (.int 4), .val (.int x)] d15_31 rfl rfl ?_
  refine og_aloadN X2 33 d15_32 rfl rfl rfl ?_
  refine og_iloadN X2 34 d15_33 rfl rfl ?_
  refine og_iinc X2 37 #[.val (.ref b), .val (.int 5), .val (.int x)] d15_34 rfl rfl rfl ?_
  refine og_iloadN X2 38 d15_37 rfl rfl ?_
  refine own_getS X2 41 d15_38 (host := "") (Or.inl (ow hw 80 rfl)) Via.refl hWd.2.2.2.2.1 rfl ?_
  intro T3 X4
  refine og_ishr X4 42 d15_41 rfl ?_
  refine og_i2b X4 43 d15_42 rfl ?_
  refine own_stB X4 44 d15_43 q0 (own_nbb _) (by decide) (by decide) (i := 4) (by decide) (Nat.le_of_ble_eq_true rfl) (om 0 rfl) rfl ?_
  intro T5 h5 X5 W5 K5 A5
  have f6 : Arv Z h5 b kb .byte (6 : Int32) [e0, e1, e2, e3, (.int (((x >>> ((0 : Int32) &&& 31))).toInt8.toInt32)), e5] dv := A5
  refine og_aloadN X5 45 d15_44 rfl rfl rfl ?_
  refine og_iloadN X5 46 d15_45 rfl rfl ?_
  refine og_iloadN X5 47 d15_46 rfl rfl ?_
  refine own_getS X5 50 d15_47 (host := "") (Or.inl (ow hw 81 rfl)) Via.refl hWd.2.2.2.2.2 rfl ?_
  intro T7 X8
  refine og_ishr X8 51 d15_50 rfl ?_
  refine og_i2b X8 52 d15_51 rfl ?_
  refine own_stB X8 53 d15_52 f6 (own_nbb _) (by decide) (by decide) (i := 5) (by decide) (Nat.le_of_ble_eq_true rfl) (om 0 rfl) rfl ?_
  intro T9 h9 X9 W9 K9 A9
  have f10 : Arv Z h9 b kb .byte (6 : Int32) [e0, e1, e2, e3, (.int (((x >>> ((0 : Int32) &&& 31))).toInt8.toInt32)), (.int (((x >>> ((8 : Int32) &&& 31))).toInt8.toInt32))] dv := A9
  refine own_retV X9 d15_53 hret (by decide) (by decide) ?_
  exact ⟨rfl, by have q := f10; rw [StrChars.shr0] at q; exact q⟩
set_option maxRecDepth 65536 in
set_option maxHeartbeats 40000000 in
theorem ru_tob3 (l : Launch) (Z : State) (a0 : Array Value) (hw : ∀ d ∈ tables_1, d.before a0 Z = true) (n0 : Nat) (h0 : Heap) (hWd : OWorld Z a0) (wc : List Jvm.Cond) (O0 : Old Z n0 h0) (b : Addr) (kb : ClassId) (dv : Value) (x0 : Int32) (x1 : Int32) (x2 : Int32) (q0 : Arv Z h0 b kb .char (3 : Int32) [(.int x0), (.int x1), (.int x2)] dv) :
    OMet l Z own_EL n0 (⟨"java/lang/StringUTF16", "toBytes", "([CII)[B"⟩ : MethodName) (Jvm.Cond.code (⟨"java/lang/StringUTF16", "toBytes", "([CII)[B"⟩ : MethodName) jdk_52_method_14_code 5 (some (.array .byte)) :: wc) ({ frames := 2, cells := 1, slots := 6, locals := 24 } : Room) #[(.ref b), (.int 0), (.int 3)] h0 [] (fun vq hq => ∃ (r : Addr) (kr : ClassId), vq = some (.ref r) ∧ h0.size ≤ r ∧ Arv Z hq r kr .byte (6 : Int32) [(.int (StrChars.lo8 x0)), (.int (StrChars.hi8 x0)), (.int (StrChars.lo8 x1)), (.int (StrChars.hi8 x1)), (.int (StrChars.lo8 x2)), (.int (StrChars.hi8 x2))] (.int 0)) := by
  refine own_enter #[.val (.ref b), .val (.int 0), .val (.int 3), .unset, .unset] pn_java_lang_StringUTF16_toBytes___CII__B (ef_ru_tob3 b kb dv x0 x1 x2) hWd.1 O0 all0 ?_
  intro p e s m below meth c T0 X0 hnm hret
  refine og_iloadN X0 1 d12_0 rfl rfl ?_
  refine own_stat X0 4 (argsL := [(.int 3)]) (rest := []) d12_1 (ru_nbf3 l Z a0 hw n0 h0 hWd [] X0.old   ) (ow hw 69 rfl) (ow hw 70 rfl) (ow hw 61 rfl) (ow hw 71 rfl) (by decide) (lenOf pd__28I_29_5bB rfl) rfl rfl rfl (W := 0) rfl (by decide) (by decide) (by decide) (by decide) all0 rfl ?_
  intro T1 h1 v1 X1 K1 hQ1
  obtain ⟨r1, kb1, rfl, ge_r1, f2⟩ := hQ1
  show OGo _ _ _ _ T1 (mkF m 4 #[.val (.ref b), .val (.int 0), .val (.int 3), .unset, .unset] [(.ref r1)])
  refine og_astoreN X1 5 #[.val (.ref b), .val (.int 0), .val (.int 3), .val (.ref r1), .unset] d12_4 rfl rfl rfl ?_
  refine og_iconst X1 6 (0 : Int32) d12_5 rfl rfl ?_
  refine og_istore X1 8 #[.val (.ref b), .val (.int 0), .val (.int 3), .val (.ref r1), .val (.int 0)] d12_6 rfl rfl ?_
  refine og_iload X1 10 d12_8 rfl rfl ?_
  refine og_iloadN X1 11 d12_10 rfl rfl ?_
  refine og_icmpN X1 14 d12_11 (XT.ii_ge_f (by decide)) rfl ?_
  refine og_aloadN X1 15 d12_14 rfl rfl rfl ?_
  refine og_iload X1 17 d12_15 rfl rfl ?_
  refine og_aloadN X1 18 d12_17 rfl rfl rfl ?_
  refine og_iloadN X1 19 d12_18 rfl rfl ?_
  have f3 := q0.keep K1 nin0
  refine own_ldC X1 20 d12_19 f3 (by decide) (by decide) rfl rfl ?_
  have X4 := own_svB X1 f2 (own_tx6 hw) (Nat.le_trans (own_n0 X0) ge_r1) ge_r1
  refine own_stat X4 23 (argsL := [(.ref r1), (.int 0), (.int x0)]) (rest := []) d12_20 (ru_put3_0 l Z a0 hw n0 h1 hWd [] X4.old r1 kb1 x0 (.int 0) (.int 0) (.int 0) (.int 0) (.int 0) (.int 0) (.int 0) f2 (own_svb X4 (om 0 rfl))) (ow hw 76 rfl) (ow hw 77 rfl) (ow hw 61 rfl) (ow hw 78 rfl) (by decide) (lenOf pd__28_5bBII_29V rfl) rfl rfl rfl (W := 0) rfl (by decide) (by decide) (by decide) (by decide) (allS (om 0 rfl) all0) rfl ?_
  intro T5 h5 v5 X5 K5 hQ5
  obtain ⟨rfl, f6⟩ := hQ5
  show OGo _ _ _ _ T5 (mkF m 23 #[.val (.ref b), .val (.int 0), .val (.int 3), .val (.ref r1), .val (.int 0)] [])
  refine og_iinc X5 26 #[.val (.ref b), .val (.int 1), .val (.int 3), .val (.ref r1), .val (.int 0)] d12_23 rfl rfl rfl ?_
  refine og_iinc X5 29 #[.val (.ref b), .val (.int 1), .val (.int 3), .val (.ref r1), .val (.int 1)] d12_26 rfl rfl rfl ?_
  refine og_goto X5 8 d12_29 (by decide) (by decide) ?_
  refine og_iload X5 10 d12_8 rfl rfl ?_
  refine og_iloadN X5 11 d12_10 rfl rfl ?_
  refine og_icmpN X5 14 d12_11 (XT.ii_ge_f (by decide)) rfl ?_
  refine og_aloadN X5 15 d12_14 rfl rfl rfl ?_
  refine og_iload X5 17 d12_15 rfl rfl ?_
  refine og_aloadN X5 18 d12_17 rfl rfl rfl ?_
  refine og_iloadN X5 19 d12_18 rfl rfl ?_
  have f7 := f3.keep K5 (ninS (Nat.ne_of_lt (Nat.lt_of_lt_of_le q0.lt ge_r1)) nin0)
  refine own_ldC X5 20 d12_19 f7 (by decide) (by decide) rfl rfl ?_
  refine own_stat X5 23 (argsL := [(.ref r1), (.int 1), (.int x1)]) (rest := []) d12_20 (ru_put3_1 l Z a0 hw n0 h5 hWd [] X5.old r1 kb1 x1 (.int 0) (.int (StrChars.lo8 x0)) (.int (StrChars.hi8 x0)) (.int 0) (.int 0) (.int 0) (.int 0) f6 (own_svb X5 (om 0 rfl))) (ow hw 76 rfl) (ow hw 77 rfl) (ow hw 61 rfl) (ow hw 78 rfl) (by decide) (lenOf pd__28_5bBII_29V rfl) rfl rfl rfl (W := 0) rfl (by decide) (by decide) (by decide) (by decide) (allS (om 0 rfl) all0) rfl ?_
  intro T8 h8 v8 X8 K8 hQ8
  obtain ⟨rfl, f9⟩ := hQ8
  show OGo _ _ _ _ T8 (mkF m 23 #[.val (.ref b), .val (.int 1), .val (.int 3), .val (.ref r1), .val (.int 1)] [])
  refine og_iinc X8 26 #[.val (.ref b), .val (.int 2), .val (.int 3), .val (.ref r1), .val (.int 1)] d12_23 rfl rfl rfl ?_
  refine og_iinc X8 29 #[.val (.ref b), .val (.int 2), .val (.int 3), .val (.ref r1), .val (.int 2)] d12_26 rfl rfl rfl ?_
  refine og_goto X8 8 d12_29 (by decide) (by decide) ?_
  refine og_iload X8 10 d12_8 rfl rfl ?_
  refine og_iloadN X8 11 d12_10 rfl rfl ?_
  refine og_icmpN X8 14 d12_11 (XT.ii_ge_f (by decide)) rfl ?_
  refine og_aloadN X8 15 d12_14 rfl rfl rfl ?_
  refine og_iload X8 17 d12_15 rfl rfl ?_
  refine og_aloadN X8 18 d12_17 rfl rfl rfl ?_
  refine og_iloadN X8 19 d12_18 rfl rfl ?_
  have f10 := f7.keep K8 (ninS (Nat.ne_of_lt (Nat.lt_of_lt_of_le q0.lt ge_r1)) nin0)
  refine own_ldC X8 20 d12_19 f10 (by decide) (by decide) rfl rfl ?_
  refine own_stat X8 23 (argsL := [(.ref r1), (.int 2), (.int x2)]) (rest := []) d12_20 (ru_put3_2 l Z a0 hw n0 h8 hWd [] X8.old r1 kb1 x2 (.int 0) (.int (StrChars.lo8 x0)) (.int (StrChars.hi8 x0)) (.int (StrChars.lo8 x1)) (.int (StrChars.hi8 x1)) (.int 0) (.int 0) f9 (own_svb X8 (om 0 rfl))) (ow hw 76 rfl) (ow hw 77 rfl) (ow hw 61 rfl) (ow hw 78 rfl) (by decide) (lenOf pd__28_5bBII_29V rfl) rfl rfl rfl (W := 0) rfl (by decide) (by decide) (by decide) (by decide) (allS (om 0 rfl) all0) rfl ?_
  intro T11 h11 v11 X11 K11 hQ11
  obtain ⟨rfl, f12⟩ := hQ11
  show OGo _ _ _ _ T11 (mkF m 23 #[.val (.ref b), .val (.int 2), .val (.int 3), .val (.ref r1), .val (.int 2)] [])
  refine og_iinc X11 26 #[.val (.ref b), .val (.int 3), .val (.int 3), .val (.ref r1), .val (.int 2)] d12_23 rfl rfl rfl ?_
  refine og_iinc X11 29 #[.val (.ref b), .val (.int 3), .val (.int 3), .val (.ref r1), .val (.int 3)] d12_26 rfl rfl rfl ?_
  refine og_goto X11 8 d12_29 (by decide) (by decide) ?_
  refine og_iload X11 10 d12_8 rfl rfl ?_
  refine og_iloadN X11 11 d12_10 rfl rfl ?_
  refine og_icmpY X11 32 d12_11 (XT.ii_ge_t (by decide)) (by decide) (by decide) ?_
  refine og_aloadN X11 33 d12_32 rfl rfl rfl ?_
  refine own_retA X11 d12_33 hret rfl rfl (by decide) (by decide) ?_
  exact ⟨r1, kb1, rfl, ge_r1, f12⟩
set_option maxRecDepth 65536 in
set_option maxHeartbeats 40000000 in
theorem ru_cmi3_0 (l : Launch) (Z : State) (a0 : Array Value) (hw : ∀ d ∈ tables_1, d.before a0 Z = true) (n0 : Nat) (h0 : Heap) (hWd : OWorld Z a0) (wc : List Jvm.Cond) (O0 : Old Z n0 h0) (b : Addr) (kb : ClassId) (dv : Value) (d : Addr) (kd : ClassId) (x0 : Int32) (x1 : Int32) (x2 : Int32) (q0 : Arv Z h0 b kb .char (3 : Int32) [(.int x0), (.int x1), (.int x2)] dv) (q1 : Arv Z h0 d kd .byte (3 : Int32) [(.int 0), (.int 0), (.int 0)] (.int 0)) (q2 : (255 : Int32) < x0) (q3 : b ≠ d) (g0 : n0 ≤ d ∧ d < h0.size) :
    OMet l Z own_EL n0 (⟨"java/lang/StringUTF16", "compress", "([CI[BII)I"⟩ : MethodName) (Jvm.Cond.code (⟨"java/lang/StringUTF16", "compress", "([CI[BII)I"⟩ : MethodName) jdk_52_method_21_code 7 (some .int) :: wc) ({ frames := 0, cells := 0, slots := 0, locals := 0 } : Room) #[(.ref b), (.int 0), (.ref d), (.int 0), (.int 3)] h0 [d] (fun vq hq => vq = some (.int 0)) := by
  refine own_enter #[.val (.ref b), .val (.int 0), .val (.ref d), .val (.int 0), .val (.int 3), .unset, .unset] pn_java_lang_StringUTF16_compress___CI_BII_I (ef_ru_cmi3_0 b kb dv d kd x0 x1 x2) hWd.1 O0 (allS g0 all0) ?_
  intro p e s m below meth c T0 X0 hnm hret
  refine og_iconst X0 1 (0 : Int32) d11_0 rfl rfl ?_
  refine og_istore X0 3 #[.val (.ref b), .val (.int 0), .val (.ref d), .val (.int 0), .val (.int 3), .val (.int 0), .unset] d11_1 rfl rfl ?_
  refine og_iload X0 5 d11_3 rfl rfl ?_
  refine og_iload X0 7 d11_5 rfl rfl ?_
  refine og_icmpN X0 10 d11_7 (XT.ii_ge_f (by decide)) rfl ?_
  refine og_aloadN X0 11 d11_10 rfl rfl rfl ?_
  refine og_iloadN X0 12 d11_11 rfl rfl ?_
  refine own_ldC X0 13 d11_12 q0 (by decide) (by decide) rfl rfl ?_
  refine og_istore X0 15 #[.val (.ref b), .val (.int 0), .val (.ref d), .val (.int 0), .val (.int 3), .val (.int 0), .val (.int x0)] d11_13 rfl rfl ?_
  refine og_iload X0 17 d11_15 rfl rfl ?_
  refine og_sipush X0 20 (255 : Int32) d11_17 rfl rfl ?_
  refine og_icmpN X0 23 d11_20 (XT.ii_le_f q2) rfl ?_
  refine og_iload X0 25 d11_23 rfl rfl ?_
  refine own_retI X0 d11_25 hret (by decide) (by decide) ?_
  exact rfl
set_option maxRecDepth 65536 in
set_option maxHeartbeats 40000000 in
theorem ru_cmp3_0 (l : Launch) (Z : State) (a0 : Array Value) (hw : ∀ d ∈ tables_1, d.before a0 Z = true) (n0 : Nat) (h0 : Heap) (hWd : OWorld Z a0) (wc : List Jvm.Cond) (O0 : Old Z n0 h0) (b : Addr) (kb : ClassId) (dv : Value) (x0 : Int32) (x1 : Int32) (x2 : Int32) (q0 : Arv Z h0 b kb .char (3 : Int32) [(.int x0), (.int x1), (.int x2)] dv) (q1 : (255 : Int32) < x0) (q2 : ¬ x0 < 0) (q3 : ¬ (65535 : Int32) < x0) (q4 : ¬ x1 < 0) (q5 : ¬ (65535 : Int32) < x1) (q6 : ¬ x2 < 0) (q7 : ¬ (65535 : Int32) < x2) :
    OMet l Z own_EL n0 (⟨"java/lang/StringUTF16", "compress", "([CII)[B"⟩ : MethodName) (Jvm.Cond.code (⟨"java/lang/StringUTF16", "compress", "([CII)[B"⟩ : MethodName) jdk_52_method_16_code 6 (some (.array .byte)) :: wc) ({ frames := 3, cells := 2, slots := 9, locals := 40 } : Room) #[(.ref b), (.int 0), (.int 3)] h0 [] (fun vq hq => ∃ (r : Addr) (kr : ClassId), vq = some (.ref r) ∧ h0.size ≤ r ∧ Arv Z hq r kr .byte (6 : Int32) [(.int (StrChars.lo8 x0)), (.int (StrChars.hi8 x0)), (.int (StrChars.lo8 x1)), (.int (StrChars.hi8 x1)), (.int (StrChars.lo8 x2)), (.int (StrChars.hi8 x2))] (.int 0)) := by
  refine own_enter #[.val (.ref b), .val (.int 0), .val (.int 3), .unset, .unset, .unset] pn_java_lang_StringUTF16_compress___CII__B (ef_ru_cmp3_0 b kb dv x0 x1 x2) hWd.1 O0 all0 ?_
  intro p e s m below meth c T0 X0 hnm hret
  refine og_iloadN X0 1 d10_0 rfl rfl ?_
  refine own_arr X0 3 d10_1 (ow hw 15 rfl) (by decide) (cap := 3) (by decide) (by decide) (by decide) (by decide) rfl ?_
  intro T1 h1 b1 kb1 X1 K1 G1 U1 A1
  have f2 : Arv Z h1 b1 kb1 .byte (3 : Int32) [(.int 0), (.int 0), (.int 0)] (.int 0) := A1
  refine og_astoreN X1 4 #[.val (.ref b), .val (.int 0), .val (.int 3), .val (.ref b1), .unset, .unset] d10_3 rfl rfl rfl ?_
  refine og_aloadN X1 5 d10_4 rfl rfl rfl ?_
  refine og_iloadN X1 6 d10_5 rfl rfl ?_
  refine og_aloadN X1 7 d10_6 rfl rfl rfl ?_
  refine og_iconst X1 8 (0 : Int32) d10_7 rfl rfl ?_
  refine og_iloadN X1 9 d10_8 rfl rfl ?_
  have f3 := q0.keep K1 nin0
  refine own_stat X1 12 (argsL := [(.ref b), (.int 0), (.ref b1), (.int 0), (.int 3)]) (rest := []) d10_9 (ru_cmi3_0 l Z a0 hw n0 h1 hWd [] X1.old b kb dv b1 kb1 x0 x1 x2 f3 f2 q1 (Nat.ne_of_lt (Nat.lt_of_lt_of_le q0.lt G1)) (own_svb X1 (om 0 rfl))) (ow hw 63 rfl) (ow hw 64 rfl) (ow hw 61 rfl) (ow hw 65 rfl) (by decide) (lenOf pd__28_5bCI_5bBII_29I rfl) rfl rfl rfl (W := 0) rfl (by decide) (by decide) (by decide) (by decide) (allS (om 0 rfl) all0) rfl ?_
  intro T4 h4 v4 X4 K4 hQ4
  obtain rfl := hQ4
  show OGo _ _ _ _ T4 (mkF m 12 #[.val (.ref b), .val (.int 0), .val (.int 3), .val (.ref b1), .unset, .unset] [(.int 0)])
  refine og_istore X4 14 #[.val (.ref b), .val (.int 0), .val (.int 3), .val (.ref b1), .val (.int 0), .unset] d10_12 rfl rfl ?_
  refine og_iload X4 16 d10_14 rfl rfl ?_
  refine og_iloadN X4 17 d10_16 rfl rfl ?_
  refine og_icmpN X4 20 d10_17 (XT.ii_eq_f (by decide)) rfl ?_
  refine og_aloadN X4 21 d10_20 rfl rfl rfl ?_
  refine og_iloadN X4 22 d10_21 rfl rfl ?_
  refine og_iloadN X4 23 d10_22 rfl rfl ?_
  have f5 := f3.keep K4 (ninS (Nat.ne_of_lt (Nat.lt_of_lt_of_le q0.lt G1)) nin0)
  refine own_stat X4 26 (argsL := [(.ref b), (.int 0), (.int 3)]) (rest := []) d10_23 (ru_tob3 l Z a0 hw n0 h4 hWd [] X4.old b kb dv x0 x1 x2 f5 ) (ow hw 66 rfl) (ow hw 67 rfl) (ow hw 61 rfl) (ow hw 68 rfl) (by decide) (lenOf pd__28_5bCII_29_5bB rfl) rfl rfl rfl (W := 0) rfl (by decide) (by decide) (by decide) (by decide) all0 rfl ?_
  intro T6 h6 v6 X6 K6 hQ6
  obtain ⟨r6, kr6, rfl, ge_r6, f7⟩ := hQ6
  show OGo _ _ _ _ T6 (mkF m 26 #[.val (.ref b), .val (.int 0), .val (.int 3), .val (.ref b1), .val (.int 0), .unset] [(.ref r6)])
  refine og_astore X6 28 #[.val (.ref b), .val (.int 0), .val (.int 3), .val (.ref b1), .val (.int 0), .val (.ref r6)] d10_26 rfl rfl rfl ?_
  refine og_aload X6 30 d10_28 rfl rfl rfl ?_
  refine og_iload X6 32 d10_30 rfl rfl ?_
  refine own_stat X6 35 (argsL := [(.ref r6), (.int 0)]) (rest := []) d10_32 (ru_get3_0 l Z a0 hw n0 h6 hWd [] X6.old r6 kr6 (StrChars.lo8 x0) (StrChars.hi8 x0) (.int 0) (.int (StrChars.lo8 x1)) (.int (StrChars.hi8 x1)) (.int (StrChars.lo8 x2)) (.int (StrChars.hi8 x2)) f7 ) (ow hw 82 rfl) (ow hw 83 rfl) (ow hw 61 rfl) (ow hw 84 rfl) (by decide) (lenOf pd__28_5bBI_29C rfl) rfl rfl rfl (W := 0) rfl (by decide) (by decide) (by decide) (by decide) all0 rfl ?_
  intro T8 h8 v8 X8 K8 hQ8
  obtain rfl := hQ8
  show OGo _ _ _ _ T8 (mkF m 35 #[.val (.ref b), .val (.int 0), .val (.int 3), .val (.ref b1), .val (.int 0), .val (.ref r6)] [(.int (StrChars.pairCh (StrChars.lo8 x0) (StrChars.hi8 x0)))])
  refine og_sipush X8 38 (255 : Int32) d10_35 rfl rfl ?_
  refine og_icmpY X8 54 d10_38 (XT.ii_gt_t (by rw [StrChars.pair_says q2 q3]; exact q1)) (by decide) (by decide) ?_
  refine og_aload X8 56 d10_54 rfl rfl rfl ?_
  have f9 := f7.keep K8 nin0
  refine own_retA X8 d10_56 hret rfl rfl (by decide) (by decide) ?_
  exact ⟨r6, kr6, rfl, (Nat.le_trans (Nat.le_trans K1.1 K4.1) ge_r6), f9⟩
set_option maxRecDepth 65536 in
set_option maxHeartbeats 40000000 in
theorem ru_cmi3_1 (l : Launch) (Z : State) (a0 : Array Value) (hw : ∀ d ∈ tables_1, d.before a0 Z = true) (n0 : Nat) (h0 : Heap) (hWd : OWorld Z a0) (wc : List Jvm.Cond) (O0 : Old Z n0 h0) (b : Addr) (kb : ClassId) (dv : Value) (d : Addr) (kd : ClassId) (x0 : Int32) (x1 : Int32) (x2 : Int32) (q0 : Arv Z h0 b kb .char (3 : Int32) [(.int x0), (.int x1), (.int x2)] dv) (q1 : Arv Z h0 d kd .byte (3 : Int32) [(.int 0), (.int 0), (.int 0)] (.int 0)) (q2 : ¬ (255 : Int32) < x0) (q3 : (255 : Int32) < x1) (q4 : b ≠ d) (g0 : n0 ≤ d ∧ d < h0.size) :
    OMet l Z own_EL n0 (⟨"java/lang/StringUTF16", "compress", "([CI[BII)I"⟩ : MethodName) (Jvm.Cond.code (⟨"java/lang/StringUTF16", "compress", "([CI[BII)I"⟩ : MethodName) jdk_52_method_21_code 7 (some .int) :: wc) ({ frames := 0, cells := 0, slots := 0, locals := 0 } : Room) #[(.ref b), (.int 0), (.ref d), (.int 0), (.int 3)] h0 [d] (fun vq hq => vq = some (.int 1)) := by
  refine own_enter #[.val (.ref b), .val (.int 0), .val (.ref d), .val (.int 0), .val (.int 3), .unset, .unset] pn_java_lang_StringUTF16_compress___CI_BII_I (ef_ru_cmi3_1 b kb dv d kd x0 x1 x2) hWd.1 O0 (allS g0 all0) ?_
  intro p e s m below meth c T0 X0 hnm hret
  refine og_iconst X0 1 (0 : Int32) d11_0 rfl rfl ?_
  refine og_istore X0 3 #[.val (.ref b), .val (.int 0), .val (.ref d), .val (.int 0), .val (.int 3), .val (.int 0), .unset] d11_1 rfl rfl ?_
  refine og_iload X0 5 d11_3 rfl rfl ?_
  refine og_iload X0 7 d11_5 rfl rfl ?_
  refine og_icmpN X0 10 d11_7 (XT.ii_ge_f (by decide)) rfl ?_
  refine og_aloadN X0 11 d11_10 rfl rfl rfl ?_
  refine og_iloadN X0 12 d11_11 rfl rfl ?_
  refine own_ldC X0 13 d11_12 q0 (by decide) (by decide) rfl rfl ?_
  refine og_istore X0 15 #[.val (.ref b), .val (.int 0), .val (.ref d), .val (.int 0), .val (.int 3), .val (.int 0), .val (.int x0)] d11_13 rfl rfl ?_
  refine og_iload X0 17 d11_15 rfl rfl ?_
  refine og_sipush X0 20 (255 : Int32) d11_17 rfl rfl ?_
  refine og_icmpY X0 26 d11_20 (XT.ii_le_t q2) (by decide) (by decide) ?_
  refine og_aloadN X0 27 d11_26 rfl rfl rfl ?_
  refine og_iloadN X0 28 d11_27 rfl rfl ?_
  refine og_iload X0 30 d11_28 rfl rfl ?_
  refine og_i2b X0 31 d11_30 rfl ?_
  refine own_stB X0 32 d11_31 q1 (own_nbb _) (by decide) (by decide) (i := 0) (by decide) (Nat.le_of_ble_eq_true rfl) (om 0 rfl) rfl ?_
  intro T1 h1 X1 W1 K1 A1
  have f2 : Arv Z h1 d kd .byte (3 : Int32) [(.int ((x0).toInt8.toInt32)), (.int 0), (.int 0)] (.int 0) := A1
  refine og_iinc X1 35 #[.val (.ref b), .val (.int 1), .val (.ref d), .val (.int 0), .val (.int 3), .val (.int 0), .val (.int x0)] d11_32 rfl rfl rfl ?_
  refine og_iinc X1 38 #[.val (.ref b), .val (.int 1), .val (.ref d), .val (.int 1), .val (.int 3), .val (.int 0), .val (.int x0)] d11_35 rfl rfl rfl ?_
  refine og_iinc X1 41 #[.val (.ref b), .val (.int 1), .val (.ref d), .val (.int 1), .val (.int 3), .val (.int 1), .val (.int x0)] d11_38 rfl rfl rfl ?_
  refine og_goto X1 3 d11_41 (by decide) (by decide) ?_
  refine og_iload X1 5 d11_3 rfl rfl ?_
  refine og_iload X1 7 d11_5 rfl rfl ?_
  refine og_icmpN X1 10 d11_7 (XT.ii_ge_f (by decide)) rfl ?_
  refine og_aloadN X1 11 d11_10 rfl rfl rfl ?_
  refine og_iloadN X1 12 d11_11 rfl rfl ?_
  have f3 := q0.keep K1 (ninS q4 nin0)
  refine own_ldC X1 13 d11_12 f3 (by decide) (by decide) rfl rfl ?_
  refine og_istore X1 15 #[.val (.ref b), .val (.int 1), .val (.ref d), .val (.int 1), .val (.int 3), .val (.int 1), .val (.int x1)] d11_13 rfl rfl ?_
  refine og_iload X1 17 d11_15 rfl rfl ?_
  refine og_sipush X1 20 (255 : Int32) d11_17 rfl rfl ?_
  refine og_icmpN X1 23 d11_20 (XT.ii_le_f q3) rfl ?_
  refine og_iload X1 25 d11_23 rfl rfl ?_
  refine own_retI X1 d11_25 hret (by decide) (by decide) ?_
  exact rfl
set_option maxRecDepth 65536 in
set_option maxHeartbeats 40000000 in
theorem ru_cmp3_1 (l : Launch) (Z : State) (a0 : Array Value) (hw : ∀ d ∈ tables_1, d.before a0 Z = true) (n0 : Nat) (h0 : Heap) (hWd : OWorld Z a0) (wc : List Jvm.Cond) (O0 : Old Z n0 h0) (b : Addr) (kb : ClassId) (dv : Value) (x0 : Int32) (x1 : Int32) (x2 : Int32) (q0 : Arv Z h0 b kb .char (3 : Int32) [(.int x0), (.int x1), (.int x2)] dv) (q1 : ¬ (255 : Int32) < x0) (q2 : (255 : Int32) < x1) (q3 : ¬ x0 < 0) (q4 : ¬ (65535 : Int32) < x0) (q5 : ¬ x1 < 0) (q6 : ¬ (65535 : Int32) < x1) (q7 : ¬ x2 < 0) (q8 : ¬ (65535 : Int32) < x2) :
    OMet l Z own_EL n0 (⟨"java/lang/StringUTF16", "compress", "([CII)[B"⟩ : MethodName) (Jvm.Cond.code (⟨"java/lang/StringUTF16", "compress", "([CII)[B"⟩ : MethodName) jdk_52_method_16_code 6 (some (.array .byte)) :: wc) ({ frames := 3, cells := 2, slots := 9, locals := 40 } : Room) #[(.ref b), (.int 0), (.int 3)] h0 [] (fun vq hq => ∃ (r : Addr) (kr : ClassId), vq = some (.ref r) ∧ h0.size ≤ r ∧ Arv Z hq r kr .byte (6 : Int32) [(.int (StrChars.lo8 x0)), (.int (StrChars.hi8 x0)), (.int (StrChars.lo8 x1)), (.int (StrChars.hi8 x1)), (.int (StrChars.lo8 x2)), (.int (StrChars.hi8 x2))] (.int 0)) := by
  refine own_enter #[.val (.ref b), .val (.int 0), .val (.int 3), .unset, .unset, .unset] pn_java_lang_StringUTF16_compress___CII__B (ef_ru_cmp3_1 b kb dv x0 x1 x2) hWd.1 O0 all0 ?_
  intro p e s m below meth c T0 X0 hnm hret
  refine og_iloadN X0 1 d10_0 rfl rfl ?_
  refine own_arr X0 3 d10_1 (ow hw 15 rfl) (by decide) (cap := 3) (by decide) (by decide) (by decide) (by decide) rfl ?_
  intro T1 h1 b1 kb1 X1 K1 G1 U1 A1
  have f2 : Arv Z h1 b1 kb1 .byte (3 : Int32) [(.int 0), (.int 0), (.int 0)] (.int 0) := A1
  refine og_astoreN X1 4 #[.val (.ref b), .val (.int 0), .val (.int 3), .val (.ref b1), .unset, .unset] d10_3 rfl rfl rfl ?_
  refine og_aloadN X1 5 d10_4 rfl rfl rfl ?_
  refine og_iloadN X1 6 d10_5 rfl rfl ?_
  refine og_aloadN X1 7 d10_6 rfl rfl rfl ?_
  refine og_iconst X1 8 (0 : Int32) d10_7 rfl rfl ?_
  refine og_iloadN X1 9 d10_8 rfl rfl ?_
  have f3 := q0.keep K1 nin0
  refine own_stat X1 12 (argsL := [(.ref b), (.int 0), (.ref b1), (.int 0), (.int 3)]) (rest := []) d10_9 (ru_cmi3_1 l Z a0 hw n0 h1 hWd [] X1.old b kb dv b1 kb1 x0 x1 x2 f3 f2 q1 q2 (Nat.ne_of_lt (Nat.lt_of_lt_of_le q0.lt G1)) (own_svb X1 (om 0 rfl))) (ow hw 63 rfl) (ow hw 64 rfl) (ow hw 61 rfl) (ow hw 65 rfl) (by decide) (lenOf pd__28_5bCI_5bBII_29I rfl) rfl rfl rfl (W := 0) rfl (by decide) (by decide) (by decide) (by decide) (allS (om 0 rfl) all0) rfl ?_
  intro T4 h4 v4 X4 K4 hQ4
  obtain rfl := hQ4
  show OGo _ _ _ _ T4 (mkF m 12 #[.val (.ref b), .val (.int 0), .val (.int 3), .val (.ref b1), .unset, .unset] [(.int 1)])
  refine og_istore X4 14 #[.val (.ref b), .val (.int 0), .val (.int 3), .val (.ref b1), .val (.int 1), .unset] d10_12 rfl rfl ?_
  refine og_iload X4 16 d10_14 rfl rfl ?_
  refine og_iloadN X4 17 d10_16 rfl rfl ?_
  refine og_icmpN X4 20 d10_17 (XT.ii_eq_f (by decide)) rfl ?_
  refine og_aloadN X4 21 d10_20 rfl rfl rfl ?_
  refine og_iloadN X4 22 d10_21 rfl rfl ?_
  refine og_iloadN X4 23 d10_22 rfl rfl ?_
  have f5 := f3.keep K4 (ninS (Nat.ne_of_lt (Nat.lt_of_lt_of_le q0.lt G1)) nin0)
  refine own_stat X4 26 (argsL := [(.ref b), (.int 0), (.int 3)]) (rest := []) d10_23 (ru_tob3 l Z a0 hw n0 h4 hWd [] X4.old b kb dv x0 x1 x2 f5 ) (ow hw 66 rfl) (ow hw 67 rfl) (ow hw 61 rfl) (ow hw 68 rfl) (by decide) (lenOf pd__28_5bCII_29_5bB rfl) rfl rfl rfl (W := 0) rfl (by decide) (by decide) (by decide) (by decide) all0 rfl ?_
  intro T6 h6 v6 X6 K6 hQ6
  obtain ⟨r6, kr6, rfl, ge_r6, f7⟩ := hQ6
  show OGo _ _ _ _ T6 (mkF m 26 #[.val (.ref b), .val (.int 0), .val (.int 3), .val (.ref b1), .val (.int 1), .unset] [(.ref r6)])
  refine og_astore X6 28 #[.val (.ref b), .val (.int 0), .val (.int 3), .val (.ref b1), .val (.int 1), .val (.ref r6)] d10_26 rfl rfl rfl ?_
  refine og_aload X6 30 d10_28 rfl rfl rfl ?_
  refine og_iload X6 32 d10_30 rfl rfl ?_
  refine own_stat X6 35 (argsL := [(.ref r6), (.int 1)]) (rest := []) d10_32 (ru_get3_1 l Z a0 hw n0 h6 hWd [] X6.old r6 kr6 (StrChars.lo8 x1) (StrChars.hi8 x1) (.int 0) (.int (StrChars.lo8 x0)) (.int (StrChars.hi8 x0)) (.int (StrChars.lo8 x2)) (.int (StrChars.hi8 x2)) f7 ) (ow hw 82 rfl) (ow hw 83 rfl) (ow hw 61 rfl) (ow hw 84 rfl) (by decide) (lenOf pd__28_5bBI_29C rfl) rfl rfl rfl (W := 0) rfl (by decide) (by decide) (by decide) (by decide) all0 rfl ?_
  intro T8 h8 v8 X8 K8 hQ8
  obtain rfl := hQ8
  show OGo _ _ _ _ T8 (mkF m 35 #[.val (.ref b), .val (.int 0), .val (.int 3), .val (.ref b1), .val (.int 1), .val (.ref r6)] [(.int (StrChars.pairCh (StrChars.lo8 x1) (StrChars.hi8 x1)))])
  refine og_sipush X8 38 (255 : Int32) d10_35 rfl rfl ?_
  refine og_icmpY X8 54 d10_38 (XT.ii_gt_t (by rw [StrChars.pair_says q5 q6]; exact q2)) (by decide) (by decide) ?_
  refine og_aload X8 56 d10_54 rfl rfl rfl ?_
  have f9 := f7.keep K8 nin0
  refine own_retA X8 d10_56 hret rfl rfl (by decide) (by decide) ?_
  exact ⟨r6, kr6, rfl, (Nat.le_trans (Nat.le_trans K1.1 K4.1) ge_r6), f9⟩
set_option maxRecDepth 65536 in
set_option maxHeartbeats 40000000 in
theorem ru_cmi3_2 (l : Launch) (Z : State) (a0 : Array Value) (hw : ∀ d ∈ tables_1, d.before a0 Z = true) (n0 : Nat) (h0 : Heap) (hWd : OWorld Z a0) (wc : List Jvm.Cond) (O0 : Old Z n0 h0) (b : Addr) (kb : ClassId) (dv : Value) (d : Addr) (kd : ClassId) (x0 : Int32) (x1 : Int32) (x2 : Int32) (q0 : Arv Z h0 b kb .char (3 : Int32) [(.int x0), (.int x1), (.int x2)] dv) (q1 : Arv Z h0 d kd .byte (3 : Int32) [(.int 0), (.int 0), (.int 0)] (.int 0)) (q2 : ¬ (255 : Int32) < x0) (q3 : ¬ (255 : Int32) < x1) (q4 : (255 : Int32) < x2) (q5 : b ≠ d) (g0 : n0 ≤ d ∧ d < h0.size) :
    OMet l Z own_EL n0 (⟨"java/lang/StringUTF16", "compress", "([CI[BII)I"⟩ : MethodName) (Jvm.Cond.code (⟨"java/lang/StringUTF16", "compress", "([CI[BII)I"⟩ : MethodName) jdk_52_method_21_code 7 (some .int) :: wc) ({ frames := 0, cells := 0, slots := 0, locals := 0 } : Room) #[(.ref b), (.int 0), (.ref d), (.int 0), (.int 3)] h0 [d] (fun vq hq => vq = some (.int 2)) := by
  refine own_enter #[.val (.ref b), .val (.int 0), .val (.ref d), .val (.int 0), .val (.int 3), .unset, .unset] pn_java_lang_StringUTF16_compress___CI_BII_I (ef_ru_cmi3_2 b kb dv d kd x0 x1 x2) hWd.1 O0 (allS g0 all0) ?_
  intro p e s m below meth c T0 X0 hnm hret
  refine og_iconst X0 1 (0 : Int32) d11_0 rfl rfl ?_
  refine og_istore X0 3 #[.val (.ref b), .val (.int 0), .val (.ref d), .val (.int 0), .val (.int 3), .val (.int 0), .unset] d11_1 rfl rfl ?_
  refine og_iload X0 5 d11_3 rfl rfl ?_
  refine og_iload X0 7 d11_5 rfl rfl ?_
  refine og_icmpN X0 10 d11_7 (XT.ii_ge_f (by decide)) rfl ?_
  refine og_aloadN X0 11 d11_10 rfl rfl rfl ?_
  refine og_iloadN X0 12 d11_11 rfl rfl ?_
  refine own_ldC X0 13 d11_12 q0 (by decide) (by decide) rfl rfl ?_
  refine og_istore X0 15 #[.val (.ref b), .val (.int 0), .val (.ref d), .val (.int 0), .val (.int 3), .val (.int 0), .val (.int x0)] d11_13 rfl rfl ?_
  refine og_iload X0 17 d11_15 rfl rfl ?_
  refine og_sipush X0 20 (255 : Int32) d11_17 rfl rfl ?_
  refine og_icmpY X0 26 d11_20 (XT.ii_le_t q2) (by decide) (by decide) ?_
  refine og_aloadN X0 27 d11_26 rfl rfl rfl ?_
  refine og_iloadN X0 28 d11_27 rfl rfl ?_
  refine og_iload X0 30 d11_28 rfl rfl ?_
  refine og_i2b X0 31 d11_30 rfl ?_
  refine own_stB X0 32 d11_31 q1 (own_nbb _) (by decide) (by decide) (i := 0) (by decide) (Nat.le_of_ble_eq_true rfl) (om 0 rfl) rfl ?_
  intro T1 h1 X1 W1 K1 A1
  have f2 : Arv Z h1 d kd .byte (3 : Int32) [(.int ((x0).toInt8.toInt32)), (.int 0), (.int 0)] (.int 0) := A1
  refine og_iinc X1 35 #[.val (.ref b), .val (.int 1), .val (.ref d), .val (.int 0), .val (.int 3), .val (.int 0), .val (.int x0)] d11_32 rfl rfl rfl ?_
  refine og_iinc X1 38 #[.val (.ref b), .val (.int 1), .val (.ref d), .val (.int 1), .val (.int 3), .val (.int 0), .val (.int x0)] d11_35 rfl rfl rfl ?_
  refine og_iinc X1 41 #[.val (.ref b), .val (.int 1), .val (.ref d), .val (.int 1), .val (.int 3), .val (.int 1), .val (.int x0)] d11_38 rfl rfl rfl ?_
  refine og_goto X1 3 d11_41 (by decide) (by decide) ?_
  refine og_iload X1 5 d11_3 rfl rfl ?_
  refine og_iload X1 7 d11_5 rfl rfl ?_
  refine og_icmpN X1 10 d11_7 (XT.ii_ge_f (by decide)) rfl ?_
  refine og_aloadN X1 11 d11_10 rfl rfl rfl ?_
  refine og_iloadN X1 12 d11_11 rfl rfl ?_
  have f3 := q0.keep K1 (ninS q5 nin0)
  refine own_ldC X1 13 d11_12 f3 (by decide) (by decide) rfl rfl ?_
  refine og_istore X1 15 #[.val (.ref b), .val (.int 1), .val (.ref d), .val (.int 1), .val (.int 3), .val (.int 1), .val (.int x1)] d11_13 rfl rfl ?_
  refine og_iload X1 17 d11_15 rfl rfl ?_
  refine og_sipush X1 20 (255 : Int32) d11_17 rfl rfl ?_
  refine og_icmpY X1 26 d11_20 (XT.ii_le_t q3) (by decide) (by decide) ?_
  refine og_aloadN X1 27 d11_26 rfl rfl rfl ?_
  refine og_iloadN X1 28 d11_27 rfl rfl ?_
  refine og_iload X1 30 d11_28 rfl rfl ?_
  refine og_i2b X1 31 d11_30 rfl ?_
  refine own_stB X1 32 d11_31 f2 (own_nbb _) (by decide) (by decide) (i := 1) (by decide) (Nat.le_of_ble_eq_true rfl) (om 0 rfl) rfl ?_
  intro T4 h4 X4 W4 K4 A4
  have f5 : Arv Z h4 d kd .byte (3 : Int32) [(.int ((x0).toInt8.toInt32)), (.int ((x1).toInt8.toInt32)), (.int 0)] (.int 0) := A4
  refine og_iinc X4 35 #[.val (.ref b), .val (.int 2), .val (.ref d), .val (.int 1), .val (.int 3), .val (.int 1), .val (.int x1)] d11_32 rfl rfl rfl ?_
  refine og_iinc X4 38 #[.val (.ref b), .val (.int 2), .val (.ref d), .val (.int 2), .val (.int 3), .val (.int 1), .val (.int x1)] d11_35 rfl rfl rfl ?_
  refine og_iinc X4 41 #[.val (.ref b), .val (.int 2), .val (.ref d), .val (.int 2), .val (.int 3), .val (.int 2), .val (.int x1)] d11_38 rfl rfl rfl ?_
  refine og_goto X4 3 d11_41 (by decide) (by decide) ?_
  refine og_iload X4 5 d11_3 rfl rfl ?_
  refine og_iload X4 7 d11_5 rfl rfl ?_
  refine og_icmpN X4 10 d11_7 (XT.ii_ge_f (by decide)) rfl ?_
  refine og_aloadN X4 11 d11_10 rfl rfl rfl ?_
  refine og_iloadN X4 12 d11_11 rfl rfl ?_
  have f6 := f3.keep K4 (ninS q5 nin0)
  refine own_ldC X4 13 d11_12 f6 (by decide) (by decide) rfl rfl ?_
  refine og_istore X4 15 #[.val (.ref b), .val (.int 2), .val (.ref d), .val (.int 2), .val (.int 3), .val (.int 2), .val (.int x2)] d11_13 rfl rfl ?_
  refine og_iload X4 17 d11_15 rfl rfl ?_
  refine og_sipush X4 20 (255 : Int32) d11_17 rfl rfl ?_
  refine og_icmpN X4 23 d11_20 (XT.ii_le_f q4) rfl ?_
  refine og_iload X4 25 d11_23 rfl rfl ?_
  refine own_retI X4 d11_25 hret (by decide) (by decide) ?_
  exact rfl
set_option maxRecDepth 65536 in
set_option maxHeartbeats 40000000 in
theorem ru_cmp3_2 (l : Launch) (Z : State) (a0 : Array Value) (hw : ∀ d ∈ tables_1, d.before a0 Z = true) (n0 : Nat) (h0 : Heap) (hWd : OWorld Z a0) (wc : List Jvm.Cond) (O0 : Old Z n0 h0) (b : Addr) (kb : ClassId) (dv : Value) (x0 : Int32) (x1 : Int32) (x2 : Int32) (q0 : Arv Z h0 b kb .char (3 : Int32) [(.int x0), (.int x1), (.int x2)] dv) (q1 : ¬ (255 : Int32) < x0) (q2 : ¬ (255 : Int32) < x1) (q3 : (255 : Int32) < x2) (q4 : ¬ x0 < 0) (q5 : ¬ (65535 : Int32) < x0) (q6 : ¬ x1 < 0) (q7 : ¬ (65535 : Int32) < x1) (q8 : ¬ x2 < 0) (q9 : ¬ (65535 : Int32) < x2) :
    OMet l Z own_EL n0 (⟨"java/lang/StringUTF16", "compress", "([CII)[B"⟩ : MethodName) (Jvm.Cond.code (⟨"java/lang/StringUTF16", "compress", "([CII)[B"⟩ : MethodName) jdk_52_method_16_code 6 (some (.array .byte)) :: wc) ({ frames := 3, cells := 2, slots := 9, locals := 40 } : Room) #[(.ref b), (.int 0), (.int 3)] h0 [] (fun vq hq => ∃ (r : Addr) (kr : ClassId), vq = some (.ref r) ∧ h0.size ≤ r ∧ Arv Z hq r kr .byte (6 : Int32) [(.int (StrChars.lo8 x0)), (.int (StrChars.hi8 x0)), (.int (StrChars.lo8 x1)), (.int (StrChars.hi8 x1)), (.int (StrChars.lo8 x2)), (.int (StrChars.hi8 x2))] (.int 0)) := by
  refine own_enter #[.val (.ref b), .val (.int 0), .val (.int 3), .unset, .unset, .unset] pn_java_lang_StringUTF16_compress___CII__B (ef_ru_cmp3_2 b kb dv x0 x1 x2) hWd.1 O0 all0 ?_
  intro p e s m below meth c T0 X0 hnm hret
  refine og_iloadN X0 1 d10_0 rfl rfl ?_
  refine own_arr X0 3 d10_1 (ow hw 15 rfl) (by decide) (cap := 3) (by decide) (by decide) (by decide) (by decide) rfl ?_
  intro T1 h1 b1 kb1 X1 K1 G1 U1 A1
  have f2 : Arv Z h1 b1 kb1 .byte (3 : Int32) [(.int 0), (.int 0), (.int 0)] (.int 0) := A1
  refine og_astoreN X1 4 #[.val (.ref b), .val (.int 0), .val (.int 3), .val (.ref b1), .unset, .unset] d10_3 rfl rfl rfl ?_
  refine og_aloadN X1 5 d10_4 rfl rfl rfl ?_
  refine og_iloadN X1 6 d10_5 rfl rfl ?_
  refine og_aloadN X1 7 d10_6 rfl rfl rfl ?_
  refine og_iconst X1 8 (0 : Int32) d10_7 rfl rfl ?_
  refine og_iloadN X1 9 d10_8 rfl rfl ?_
  have f3 := q0.keep K1 nin0
  refine own_stat X1 12 (argsL := [(.ref b), (.int 0), (.ref b1), (.int 0), (.int 3)]) (rest := []) d10_9 (ru_cmi3_2 l Z a0 hw n0 h1 hWd [] X1.old b kb dv b1 kb1 x0 x1 x2 f3 f2 q1 q2 q3 (Nat.ne_of_lt (Nat.lt_of_lt_of_le q0.lt G1)) (own_svb X1 (om 0 rfl))) (ow hw 63 rfl) (ow hw 64 rfl) (ow hw 61 rfl) (ow hw 65 rfl) (by decide) (lenOf pd__28_5bCI_5bBII_29I rfl) rfl rfl rfl (W := 0) rfl (by decide) (by decide) (by decide) (by decide) (allS (om 0 rfl) all0) rfl ?_
  intro T4 h4 v4 X4 K4 hQ4
  obtain rfl := hQ4
  show OGo _ _ _ _ T4 (mkF m 12 #[.val (.ref b), .val (.int 0), .val (.int 3), .val (.ref b1), .unset, .unset] [(.int 2)])
  refine og_istore X4 14 #[.val (.ref b), .val (.int 0), .val (.int 3), .val (.ref b1), .val (.int 2), .unset] d10_12 rfl rfl ?_
  refine og_iload X4 16 d10_14 rfl rfl ?_
  refine og_iloadN X4 17 d10_16 rfl rfl ?_
  refine og_icmpN X4 20 d10_17 (XT.ii_eq_f (by decide)) rfl ?_
  refine og_aloadN X4 21 d10_20 rfl rfl rfl ?_
  refine og_iloadN X4 22 d10_21 rfl rfl ?_
  refine og_iloadN X4 23 d10_22 rfl rfl ?_
  have f5 := f3.keep K4 (ninS (Nat.ne_of_lt (Nat.lt_of_lt_of_le q0.lt G1)) nin0)
  refine own_stat X4 26 (argsL := [(.ref b), (.int 0), (.int 3)]) (rest := []) d10_23 (ru_tob3 l Z a0 hw n0 h4 hWd [] X4.old b kb dv x0 x1 x2 f5 ) (ow hw 66 rfl) (ow hw 67 rfl) (ow hw 61 rfl) (ow hw 68 rfl) (by decide) (lenOf pd__28_5bCII_29_5bB rfl) rfl rfl rfl (W := 0) rfl (by decide) (by decide) (by decide) (by decide) all0 rfl ?_
  intro T6 h6 v6 X6 K6 hQ6
  obtain ⟨r6, kr6, rfl, ge_r6, f7⟩ := hQ6
  show OGo _ _ _ _ T6 (mkF m 26 #[.val (.ref b), .val (.int 0), .val (.int 3), .val (.ref b1), .val (.int 2), .unset] [(.ref r6)])
  refine og_astore X6 28 #[.val (.ref b), .val (.int 0), .val (.int 3), .val (.ref b1), .val (.int 2), .val (.ref r6)] d10_26 rfl rfl rfl ?_
  refine og_aload X6 30 d10_28 rfl rfl rfl ?_
  refine og_iload X6 32 d10_30 rfl rfl ?_
  refine own_stat X6 35 (argsL := [(.ref r6), (.int 2)]) (rest := []) d10_32 (ru_get3_2 l Z a0 hw n0 h6 hWd [] X6.old r6 kr6 (StrChars.lo8 x2) (StrChars.hi8 x2) (.int 0) (.int (StrChars.lo8 x0)) (.int (StrChars.hi8 x0)) (.int (StrChars.lo8 x1)) (.int (StrChars.hi8 x1)) f7 ) (ow hw 82 rfl) (ow hw 83 rfl) (ow hw 61 rfl) (ow hw 84 rfl) (by decide) (lenOf pd__28_5bBI_29C rfl) rfl rfl rfl (W := 0) rfl (by decide) (by decide) (by decide) (by decide) all0 rfl ?_
  intro T8 h8 v8 X8 K8 hQ8
  obtain rfl := hQ8
  show OGo _ _ _ _ T8 (mkF m 35 #[.val (.ref b), .val (.int 0), .val (.int 3), .val (.ref b1), .val (.int 2), .val (.ref r6)] [(.int (StrChars.pairCh (StrChars.lo8 x2) (StrChars.hi8 x2)))])
  refine og_sipush X8 38 (255 : Int32) d10_35 rfl rfl ?_
  refine og_icmpY X8 54 d10_38 (XT.ii_gt_t (by rw [StrChars.pair_says q8 q9]; exact q3)) (by decide) (by decide) ?_
  refine og_aload X8 56 d10_54 rfl rfl rfl ?_
  have f9 := f7.keep K8 nin0
  refine own_retA X8 d10_56 hret rfl rfl (by decide) (by decide) ?_
  exact ⟨r6, kr6, rfl, (Nat.le_trans (Nat.le_trans K1.1 K4.1) ge_r6), f9⟩
set_option maxRecDepth 65536 in
set_option maxHeartbeats 40000000 in
theorem ru_cmi3_3 (l : Launch) (Z : State) (a0 : Array Value) (hw : ∀ d ∈ tables_1, d.before a0 Z = true) (n0 : Nat) (h0 : Heap) (hWd : OWorld Z a0) (wc : List Jvm.Cond) (O0 : Old Z n0 h0) (b : Addr) (kb : ClassId) (dv : Value) (d : Addr) (kd : ClassId) (x0 : Int32) (x1 : Int32) (x2 : Int32) (q0 : Arv Z h0 b kb .char (3 : Int32) [(.int x0), (.int x1), (.int x2)] dv) (q1 : Arv Z h0 d kd .byte (3 : Int32) [(.int 0), (.int 0), (.int 0)] (.int 0)) (q2 : ¬ (255 : Int32) < x0) (q3 : ¬ (255 : Int32) < x1) (q4 : ¬ (255 : Int32) < x2) (q5 : b ≠ d) (g0 : n0 ≤ d ∧ d < h0.size) :
    OMet l Z own_EL n0 (⟨"java/lang/StringUTF16", "compress", "([CI[BII)I"⟩ : MethodName) (Jvm.Cond.code (⟨"java/lang/StringUTF16", "compress", "([CI[BII)I"⟩ : MethodName) jdk_52_method_21_code 7 (some .int) :: wc) ({ frames := 0, cells := 0, slots := 0, locals := 0 } : Room) #[(.ref b), (.int 0), (.ref d), (.int 0), (.int 3)] h0 [d] (fun vq hq => vq = some (.int 3) ∧ Arv Z hq d kd .byte (3 : Int32) [(.int ((x0).toInt8.toInt32)), (.int ((x1).toInt8.toInt32)), (.int ((x2).toInt8.toInt32))] (.int 0)) := by
  refine own_enter #[.val (.ref b), .val (.int 0), .val (.ref d), .val (.int 0), .val (.int 3), .unset, .unset] pn_java_lang_StringUTF16_compress___CI_BII_I (ef_ru_cmi3_3 b kb dv d kd x0 x1 x2) hWd.1 O0 (allS g0 all0) ?_
  intro p e s m below meth c T0 X0 hnm hret
  refine og_iconst X0 1 (0 : Int32) d11_0 rfl rfl ?_
  refine og_istore X0 3 #[.val (.ref b), .val (.int 0), .val (.ref d), .val (.int 0), .val (.int 3), .val (.int 0), .unset] d11_1 rfl rfl ?_
  refine og_iload X0 5 d11_3 rfl rfl ?_
  refine og_iload X0 7 d11_5 rfl rfl ?_
  refine og_icmpN X0 10 d11_7 (XT.ii_ge_f (by decide)) rfl ?_
  refine og_aloadN X0 11 d11_10 rfl rfl rfl ?_
  refine og_iloadN X0 12 d11_11 rfl rfl ?_
  refine own_ldC X0 13 d11_12 q0 (by decide) (by decide) rfl rfl ?_
  refine og_istore X0 15 #[.val (.ref b), .val (.int 0), .val (.ref d), .val (.int 0), .val (.int 3), .val (.int 0), .val (.int x0)] d11_13 rfl rfl ?_
  refine og_iload X0 17 d11_15 rfl rfl ?_
  refine og_sipush X0 20 (255 : Int32) d11_17 rfl rfl ?_
  refine og_icmpY X0 26 d11_20 (XT.ii_le_t q2) (by decide) (by decide) ?_
  refine og_aloadN X0 27 d11_26 rfl rfl rfl ?_
  refine og_iloadN X0 28 d11_27 rfl rfl ?_
  refine og_iload X0 30 d11_28 rfl rfl ?_
  refine og_i2b X0 31 d11_30 rfl ?_
  refine own_stB X0 32 d11_31 q1 (own_nbb _) (by decide) (by decide) (i := 0) (by decide) (Nat.le_of_ble_eq_true rfl) (om 0 rfl) rfl ?_
  intro T1 h1 X1 W1 K1 A1
  have f2 : Arv Z h1 d kd .byte (3 : Int32) [(.int ((x0).toInt8.toInt32)), (.int 0), (.int 0)] (.int 0) := A1
  refine og_iinc X1 35 #[.val (.ref b), .val (.int 1), .val (.ref d), .val (.int 0), .val (.int 3), .val (.int 0), .val (.int x0)] d11_32 rfl rfl rfl ?_
  refine og_iinc X1 38 #[.val (.ref b), .val (.int 1), .val (.ref d), .val (.int 1), .val (.int 3), .val (.int 0), .val (.int x0)] d11_35 rfl rfl rfl ?_
  refine og_iinc X1 41 #[.val (.ref b), .val (.int 1), .val (.ref d), .val (.int 1), .val (.int 3), .val (.int 1), .val (.int x0)] d11_38 rfl rfl rfl ?_
  refine og_goto X1 3 d11_41 (by decide) (by decide) ?_
  refine og_iload X1 5 d11_3 rfl rfl ?_
  refine og_iload X1 7 d11_5 rfl rfl ?_
  refine og_icmpN X1 10 d11_7 (XT.ii_ge_f (by decide)) rfl ?_
  refine og_aloadN X1 11 d11_10 rfl rfl rfl ?_
  refine og_iloadN X1 12 d11_11 rfl rfl ?_
  have f3 := q0.keep K1 (ninS q5 nin0)
  refine own_ldC X1 13 d11_12 f3 (by decide) (by decide) rfl rfl ?_
  refine og_istore X1 15 #[.val (.ref b), .val (.int 1), .val (.ref d), .val (.int 1), .val (.int 3), .val (.int 1), .val (.int x1)] d11_13 rfl rfl ?_
  refine og_iload X1 17 d11_15 rfl rfl ?_
  refine og_sipush X1 20 (255 : Int32) d11_17 rfl rfl ?_
  refine og_icmpY X1 26 d11_20 (XT.ii_le_t q3) (by decide) (by decide) ?_
  refine og_aloadN X1 27 d11_26 rfl rfl rfl ?_
  refine og_iloadN X1 28 d11_27 rfl rfl ?_
  refine og_iload X1 30 d11_28 rfl rfl ?_
  refine og_i2b X1 31 d11_30 rfl ?_
  refine own_stB X1 32 d11_31 f2 (own_nbb _) (by decide) (by decide) (i := 1) (by decide) (Nat.le_of_ble_eq_true rfl) (om 0 rfl) rfl ?_
  intro T4 h4 X4 W4 K4 A4
  have f5 : Arv Z h4 d kd .byte (3 : Int32) [(.int ((x0).toInt8.toInt32)), (.int ((x1).toInt8.toInt32)), (.int 0)] (.int 0) := A4
  refine og_iinc X4 35 #[.val (.ref b), .val (.int 2), .val (.ref d), .val (.int 1), .val (.int 3), .val (.int 1), .val (.int x1)] d11_32 rfl rfl rfl ?_
  refine og_iinc X4 38 #[.val (.ref b), .val (.int 2), .val (.ref d), .val (.int 2), .val (.int 3), .val (.int 1), .val (.int x1)] d11_35 rfl rfl rfl ?_
  refine og_iinc X4 41 #[.val (.ref b), .val (.int 2), .val (.ref d), .val (.int 2), .val (.int 3), .val (.int 2), .val (.int x1)] d11_38 rfl rfl rfl ?_
  refine og_goto X4 3 d11_41 (by decide) (by decide) ?_
  refine og_iload X4 5 d11_3 rfl rfl ?_
  refine og_iload X4 7 d11_5 rfl rfl ?_
  refine og_icmpN X4 10 d11_7 (XT.ii_ge_f (by decide)) rfl ?_
  refine og_aloadN X4 11 d11_10 rfl rfl rfl ?_
  refine og_iloadN X4 12 d11_11 rfl rfl ?_
  have f6 := f3.keep K4 (ninS q5 nin0)
  refine own_ldC X4 13 d11_12 f6 (by decide) (by decide) rfl rfl ?_
  refine og_istore X4 15 #[.val (.ref b), .val (.int 2), .val (.ref d), .val (.int 2), .val (.int 3), .val (.int 2), .val (.int x2)] d11_13 rfl rfl ?_
  refine og_iload X4 17 d11_15 rfl rfl ?_
  refine og_sipush X4 20 (255 : Int32) d11_17 rfl rfl ?_
  refine og_icmpY X4 26 d11_20 (XT.ii_le_t q4) (by decide) (by decide) ?_
  refine og_aloadN X4 27 d11_26 rfl rfl rfl ?_
  refine og_iloadN X4 28 d11_27 rfl rfl ?_
  refine og_iload X4 30 d11_28 rfl rfl ?_
  refine og_i2b X4 31 d11_30 rfl ?_
  refine own_stB X4 32 d11_31 f5 (own_nbb _) (by decide) (by decide) (i := 2) (by decide) (Nat.le_of_ble_eq_true rfl) (om 0 rfl) rfl ?_
  intro T7 h7 X7 W7 K7 A7
  have f8 : Arv Z h7 d kd .byte (3 : Int32) [(.int ((x0).toInt8.toInt32)), (.int ((x1).toInt8.toInt32)), (.int ((x2).toInt8.toInt32))] (.int 0) := A7
  refine og_iinc X7 35 #[.val (.ref b), .val (.int 3), .val (.ref d), .val (.int 2), .val (.int 3), .val (.int 2), .val (.int x2)] d11_32 rfl rfl rfl ?_
  refine og_iinc X7 38 #[.val (.ref b), .val (.int 3), .val (.ref d), .val (.int 3), .val (.int 3), .val (.int 2), .val (.int x2)] d11_35 rfl rfl rfl ?_
  refine og_iinc X7 41 #[.val (.ref b), .val (.int 3), .val (.ref d), .val (.int 3), .val (.int 3), .val (.int 3), .val (.int x2)] d11_38 rfl rfl rfl ?_
  refine og_goto X7 3 d11_41 (by decide) (by decide) ?_
  refine og_iload X7 5 d11_3 rfl rfl ?_
  refine og_iload X7 7 d11_5 rfl rfl ?_
  refine og_icmpY X7 44 d11_7 (XT.ii_ge_t (by decide)) (by decide) (by decide) ?_
  refine og_iload X7 46 d11_44 rfl rfl ?_
  refine own_retI X7 d11_46 hret (by decide) (by decide) ?_
  exact ⟨rfl, f8⟩
set_option maxRecDepth 65536 in
set_option maxHeartbeats 40000000 in
theorem ru_cmp3_3 (l : Launch) (Z : State) (a0 : Array Value) (hw : ∀ d ∈ tables_1, d.before a0 Z = true) (n0 : Nat) (h0 : Heap) (hWd : OWorld Z a0) (wc : List Jvm.Cond) (O0 : Old Z n0 h0) (b : Addr) (kb : ClassId) (dv : Value) (x0 : Int32) (x1 : Int32) (x2 : Int32) (q0 : Arv Z h0 b kb .char (3 : Int32) [(.int x0), (.int x1), (.int x2)] dv) (q1 : ¬ (255 : Int32) < x0) (q2 : ¬ (255 : Int32) < x1) (q3 : ¬ (255 : Int32) < x2) (q4 : ¬ x0 < 0) (q5 : ¬ (65535 : Int32) < x0) (q6 : ¬ x1 < 0) (q7 : ¬ (65535 : Int32) < x1) (q8 : ¬ x2 < 0) (q9 : ¬ (65535 : Int32) < x2) :
    OMet l Z own_EL n0 (⟨"java/lang/StringUTF16", "compress", "([CII)[B"⟩ : MethodName) (Jvm.Cond.code (⟨"java/lang/StringUTF16", "compress", "([CII)[B"⟩ : MethodName) jdk_52_method_16_code 6 (some (.array .byte)) :: wc) ({ frames := 1, cells := 1, slots := 3, locals := 18 } : Room) #[(.ref b), (.int 0), (.int 3)] h0 [] (fun vq hq => ∃ (r : Addr) (kr : ClassId), vq = some (.ref r) ∧ h0.size ≤ r ∧ Arv Z hq r kr .byte (3 : Int32) [(.int ((x0).toInt8.toInt32)), (.int ((x1).toInt8.toInt32)), (.int ((x2).toInt8.toInt32))] (.int 0)) := by
  refine own_enter #[.val (.ref b), .val (.int 0), .val (.int 3), .unset, .unset, .unset] pn_java_lang_StringUTF16_compress___CII__B (ef_ru_cmp3_3 b kb dv x0 x1 x2) hWd.1 O0 all0 ?_
  intro p e s m below meth c T0 X0 hnm hret
  refine og_iloadN X0 1 d10_0 rfl rfl ?_
  refine own_arr X0 3 d10_1 (ow hw 15 rfl) (by decide) (cap := 3) (by decide) (by decide) (by decide) (by decide) rfl ?_
  intro T1 h1 b1 kb1 X1 K1 G1 U1 A1
  have f2 : Arv Z h1 b1 kb1 .byte (3 : Int32) [(.int 0), (.int 0), (.int 0)] (.int 0) := A1
  refine og_astoreN X1 4 #[.val (.ref b), .val (.int 0), .val (.int 3), .val (.ref b1), .unset, .unset] d10_3 rfl rfl rfl ?_
  refine og_aloadN X1 5 d10_4 rfl rfl rfl ?_
  refine og_iloadN X1 6 d10_5 rfl rfl ?_
  refine og_aloadN X1 7 d10_6 rfl rfl rfl ?_
  refine og_iconst X1 8 (0 : Int32) d10_7 rfl rfl ?_
  refine og_iloadN X1 9 d10_8 rfl rfl ?_
  have f3 := q0.keep K1 nin0
  refine own_stat X1 12 (argsL := [(.ref b), (.int 0), (.ref b1), (.int 0), (.int 3)]) (rest := []) d10_9 (ru_cmi3_3 l Z a0 hw n0 h1 hWd [] X1.old b kb dv b1 kb1 x0 x1 x2 f3 f2 q1 q2 q3 (Nat.ne_of_lt (Nat.lt_of_lt_of_le q0.lt G1)) (own_svb X1 (om 0 rfl))) (ow hw 63 rfl) (ow hw 64 rfl) (ow hw 61 rfl) (ow hw 65 rfl) (by decide) (lenOf pd__28_5bCI_5bBII_29I rfl) rfl rfl rfl (W := 0) rfl (by decide) (by decide) (by decide) (by decide) (allS (om 0 rfl) all0) rfl ?_
  intro T4 h4 v4 X4 K4 hQ4
  obtain ⟨rfl, f5⟩ := hQ4
  show OGo _ _ _ _ T4 (mkF m 12 #[.val (.ref b), .val (.int 0), .val (.int 3), .val (.ref b1), .unset, .unset] [(.int 3)])
  refine og_istore X4 14 #[.val (.ref b), .val (.int 0), .val (.int 3), .val (.ref b1), .val (.int 3), .unset] d10_12 rfl rfl ?_
  refine og_iload X4 16 d10_14 rfl rfl ?_
  refine og_iloadN X4 17 d10_16 rfl rfl ?_
  refine og_icmpY X4 57 d10_17 (XT.ii_eq_t (by decide)) (by decide) (by decide) ?_
  refine og_aloadN X4 58 d10_57 rfl rfl rfl ?_
  refine own_retA X4 d10_58 hret rfl rfl (by decide) (by decide) ?_
  exact ⟨b1, kb1, rfl, G1, f5⟩
set_option maxRecDepth 65536 in
set_option maxHeartbeats 40000000 in
theorem ru_cod3_3 (l : Launch) (Z : State) (a0 : Array Value) (hw : ∀ d ∈ tables_1, d.before a0 Z = true) (n0 : Nat) (h0 : Heap) (hWd : OWorld Z a0) (wc : List Jvm.Cond) (O0 : Old Z n0 h0) (b : Addr) (kb : ClassId) (vs : List Value) (dv : Value) (q0 : Arv Z h0 b kb .byte (3 : Int32) vs dv) :
    OMet l Z own_EL n0 (⟨"java/lang/StringUTF16", "coderFromArrayLen", "([BI)B"⟩ : MethodName) (Jvm.Cond.code (⟨"java/lang/StringUTF16", "coderFromArrayLen", "([BI)B"⟩ : MethodName) jdk_52_method_15_code 2 (some .byte) :: wc) ({ frames := 0, cells := 0, slots := 0, locals := 0 } : Room) #[(.ref b), (.int 3)] h0 [] (fun vq hq => vq = some (.int 0)) := by
  refine own_enter #[.val (.ref b), .val (.int 3)] pn_java_lang_StringUTF16_coderFromArrayLen___BI_B (ef_ru_cod3_3 b kb vs dv) hWd.1 O0 all0 ?_
  intro p e s m below meth c T0 X0 hnm hret
  refine og_iloadN X0 1 d17_0 rfl rfl ?_
  refine og_aloadN X0 2 d17_1 rfl rfl rfl ?_
  refine own_len X0 3 d17_2 q0 rfl ?_
  refine og_isub X0 4 d17_3 rfl ?_
  show OGo _ _ _ _ T0 (mkF m 4 #[.val (.ref b), .val (.int 3)] [(.int 0)])
  refine og_bipush X0 6 (31 : Int32) d17_4 rfl rfl ?_
  refine og_iushr X0 7 d17_6 rfl ?_
  show OGo _ _ _ _ T0 (mkF m 7 #[.val (.ref b), .val (.int 3)] [(.int 0)])
  refine og_i2b X0 8 d17_7 rfl ?_
  show OGo _ _ _ _ T0 (mkF m 8 #[.val (.ref b), .val (.int 3)] [(.int 0)])
  refine own_retY X0 d17_8 hret rfl (by decide) (by decide) ?_
  exact rfl
set_option maxRecDepth 65536 in
set_option maxHeartbeats 40000000 in
theorem ru_cod3_6 (l : Launch) (Z : State) (a0 : Array Value) (hw : ∀ d ∈ tables_1, d.before a0 Z = true) (n0 : Nat) (h0 : Heap) (hWd : OWorld Z a0) (wc : List Jvm.Cond) (O0 : Old Z n0 h0) (b : Addr) (kb : ClassId) (vs : List Value) (dv : Value) (q0 : Arv Z h0 b kb .byte (6 : Int32) vs dv) :
    OMet l Z own_EL n0 (⟨"java/lang/StringUTF16", "coderFromArrayLen", "([BI)B"⟩ : MethodName) (Jvm.Cond.code (⟨"java/lang/StringUTF16", "coderFromArrayLen", "([BI)B"⟩ : MethodName) jdk_52_method_15_code 2 (some .byte) :: wc) ({ frames := 0, cells := 0, slots := 0, locals := 0 } : Room) #[(.ref b), (.int 3)] h0 [] (fun vq hq => vq = some (.int 1)) := by
  refine own_enter #[.val (.ref b), .val (.int 3)] pn_java_lang_StringUTF16_coderFromArrayLen___BI_B (ef_ru_cod3_6 b kb vs dv) hWd.1 O0 all0 ?_
  intro p e s m below meth c T0 X0 hnm hret
  refine og_iloadN X0 1 d17_0 rfl rfl ?_
  refine og_aloadN X0 2 d17_1 rfl rfl rfl ?_
  refine own_len X0 3 d17_2 q0 rfl ?_
  refine og_isub X0 4 d17_3 rfl ?_
  show OGo _ _ _ _ T0 (mkF m 4 #[.val (.ref b), .val (.int 3)] [(.int (-3 : Int32))])
  refine og_bipush X0 6 (31 : Int32) d17_4 rfl rfl ?_
  refine og_iushr X0 7 d17_6 rfl ?_
  show OGo _ _ _ _ T0 (mkF m 7 #[.val (.ref b), .val (.int 3)] [(.int 1)])
  refine og_i2b X0 8 d17_7 rfl ?_
  show OGo _ _ _ _ T0 (mkF m 8 #[.val (.ref b), .val (.int 3)] [(.int 1)])
  refine own_retY X0 d17_8 hret rfl (by decide) (by decide) ?_
  exact rfl
set_option maxRecDepth 65536 in
set_option maxHeartbeats 40000000 in
theorem ru_inv3 (l : Launch) (Z : State) (a0 : Array Value) (hw : ∀ d ∈ tables_1, d.before a0 Z = true) (n0 : Nat) (h0 : Heap) (hWd : OWorld Z a0) (wc : List Jvm.Cond) (O0 : Old Z n0 h0) (a : Addr) (b : Addr) (y : Value) (z : Int32) (kb : ClassId) (dv : Value) (x0 : Int32) (x1 : Int32) (x2 : Int32) (q0 : Exa Z h0 a "java/lang/String") (q1 : Fld Z h0 a "java/lang/String" "value" "[B" y) (q2 : Fld Z h0 a "java/lang/String" "coder" "B" (.int z)) (q3 : Arv Z h0 b kb .char (3 : Int32) [(.int x0), (.int x1), (.int x2)] dv) (q4 : ¬ x0 < 0) (q5 : ¬ (65535 : Int32) < x0) (q6 : ¬ x1 < 0) (q7 : ¬ (65535 : Int32) < x1) (q8 : ¬ x2 < 0) (q9 : ¬ (65535 : Int32) < x2) (g0 : n0 ≤ a ∧ a < h0.size) :
    OMet l Z own_EL n0 (⟨"java/lang/String", "<init>", "([CIILjava/lang/Void;)V"⟩ : MethodName) (Jvm.Cond.code (⟨"java/lang/String", "<init>", "([CIILjava/lang/Void;)V"⟩ : MethodName) jdk_42_method_149_code 6 none :: wc) ({ frames := 4, cells := 2, slots := 9, locals := 57 } : Room) #[(.ref a), (.ref b), (.int 0), (.int 3), .null] h0 [a] (fun vq hq => vq = none ∧ OStr Z hq a [x0, x1, x2] hq.size) := by
  refine own_enter #[.val (.ref a), .val (.ref b), .val (.int 0), .val (.int 3), .val .null, .unset] pn_java_lang_String__init____CIILjava_lang_Void__V (ef_ru_inv3 a b y z kb dv x0 x1 x2) hWd.1 O0 (allS g0 all0) ?_
  intro p e s m below meth c T0 X0 hnm hret
  refine og_aloadN X0 1 d2_0 rfl rfl rfl ?_
  refine own_obj0 X0 4 (a := a) d2_1 (ow hw 11 rfl) (ow hw 12 rfl) (ow hw 13 rfl) rfl (W := 0) rfl (by decide) (by decide) rfl ?_
  intro T1 X2
  refine og_iloadN X2 5 d2_4 rfl rfl ?_
  refine og_ifY X2 27 d2_5 (XT.i0_ne_t (by decide)) (by decide) (by decide) ?_
  refine own_getS X2 30 d2_27 (host := "") (Or.inl (ow hw 55 rfl)) Via.refl hWd.2.1.1 rfl ?_
  intro T3 X4
  refine og_ifN X4 33 d2_30 (XT.i0_eq_f hWd.2.1.2) rfl ?_
  refine og_aloadN X4 34 d2_33 rfl rfl rfl ?_
  refine og_iloadN X4 35 d2_34 rfl rfl ?_
  refine og_iloadN X4 36 d2_35 rfl rfl ?_
  by_cases hc5 : (255 : Int32) < x0
  · -- (255 : Int32) < x0
    refine own_stat X4 39 (argsL := [(.ref b), (.int 0), (.int 3)]) (rest := []) d2_36 (ru_cmp3_0 l Z a0 hw n0 h0 hWd [] X4.old b kb dv x0 x1 x2 q3 hc5 q4 q5 q6 q7 q8 q9 ) (ow hw 59 rfl) (ow hw 60 rfl) (ow hw 61 rfl) (ow hw 62 rfl) (by decide) (lenOf pd__28_5bCII_29_5bB rfl) rfl rfl rfl (W := 0) rfl (by decide) (by decide) (by decide) (by decide) all0 rfl ?_
    intro T6 h6 v6 X6 K6 hQ6
    obtain ⟨r6, kr6, rfl, ge_r6, f7⟩ := hQ6
    show OGo _ _ _ _ T6 (mkF m 39 #[.val (.ref a), .val (.ref b), .val (.int 0), .val (.int 3), .val .null, .unset] [(.ref r6)])
    refine og_astore X6 41 #[.val (.ref a), .val (.ref b), .val (.int 0), .val (.int 3), .val .null, .val (.ref r6)] d2_39 rfl rfl rfl ?_
    refine og_aloadN X6 42 d2_41 rfl rfl rfl ?_
    refine og_aload X6 44 d2_42 rfl rfl rfl ?_
    refine og_iloadN X6 45 d2_44 rfl rfl ?_
    refine own_stat X6 48 (argsL := [(.ref r6), (.int 3)]) (rest := [(.ref a)]) d2_45 (ru_cod3_6 l Z a0 hw n0 h6 hWd [] X6.old r6 kr6 [(.int (StrChars.lo8 x0)), (.int (StrChars.hi8 x0)), (.int (StrChars.lo8 x1)), (.int (StrChars.hi8 x1)), (.int (StrChars.lo8 x2)), (.int (StrChars.hi8 x2))] (.int 0) f7 ) (ow hw 85 rfl) (ow hw 86 rfl) (ow hw 61 rfl) (ow hw 87 rfl) (by decide) (lenOf pd__28_5bBI_29B rfl) rfl rfl rfl (W := 1) rfl (by decide) (by decide) (by decide) (by decide) all0 rfl ?_
    intro T8 h8 v8 X8 K8 hQ8
    obtain rfl := hQ8
    show OGo _ _ _ _ T8 (mkF m 48 #[.val (.ref a), .val (.ref b), .val (.int 0), .val (.int 3), .val .null, .val (.ref r6)] [(.int 1), (.ref a)])
    have f9 := q2.keep K6 nin0
    have f10 := f9.keep K8 nin0
    have f11 := q0.keep K6
    have f12 := f11.keep K8
    have f13 := q1.keep K6 nin0
    have f14 := f13.keep K8 nin0
    refine own_put X8 51 d2_48 (host := "") (Or.inl (ow hw 21 rfl)) Via.refl f10 f12 (Or.inr ⟨(ow hw 17 rfl), rfl, hnm⟩) (ow hw 2 rfl) (ty := .byte) (by decide) rfl rfl (om 0 rfl) rfl ?_
    intro T15 h15 X15 W15 K15 F15
    have f16 := Fld.other W15 f14 (Or.inr (slot_ne (Or.inr (ow hw 16 rfl)) (Or.inr (ow hw 17 rfl)) (by decide) (t := (.array .byte)) (t' := .byte) (by decide) (by decide)))
    refine og_aloadN X15 52 d2_51 rfl rfl rfl ?_
    refine og_aload X15 54 d2_52 rfl rfl rfl ?_
    have f17 := f12.keep K15
    refine own_put X15 57 d2_54 (host := "") (Or.inl (ow hw 20 rfl)) Via.refl f16 f17 (Or.inr ⟨(ow hw 16 rfl), rfl, hnm⟩) (ow hw 2 rfl) (ty := (.array .byte)) (by decide) rfl rfl (om 0 rfl) rfl ?_
    intro T18 h18 X18 W18 K18 F18
    have f19 := Fld.other W18 F15 (Or.inr (slot_ne (Or.inr (ow hw 17 rfl)) (Or.inr (ow hw 16 rfl)) (by decide) (t := .byte) (t' := (.array .byte)) (by decide) (by decide)))
    have f20 := f17.keep K18
    have f21 := f7.keep K8 nin0
    have f22 := f21.keep K15 (ninS (Nat.ne_of_gt (Nat.lt_of_lt_of_le q0.lt ge_r6)) nin0)
    have f23 := f22.keep K18 (ninS (Nat.ne_of_gt (Nat.lt_of_lt_of_le q0.lt ge_r6)) nin0)
    refine own_retV X18 d2_57 hret (by decide) (by decide) ?_
    exact ⟨rfl, own_mkStrW (cs := [x0, x1, x2]) (n := 3) f20 f19 F18 f23 ⟨x0, List.mem_of_getElem? (i := 0) rfl, hc5⟩ (own_l16 ⟨q4, q5⟩ (own_l16 ⟨q6, q7⟩ (own_l16 ⟨q8, q9⟩ (fun _ q => nomatch q)))) rfl rfl (Nat.le_of_ble_eq_true rfl)⟩
  · -- not
    by_cases hc24 : (255 : Int32) < x1
    · -- (255 : Int32) < x1
      refine own_stat X4 39 (argsL := [(.ref b), (.int 0), (.int 3)]) (rest := []) d2_36 (ru_cmp3_1 l Z a0 hw n0 h0 hWd [] X4.old b kb dv x0 x1 x2 q3 hc5 hc24 q4 q5 q6 q7 q8 q9 ) (ow hw 59 rfl) (ow hw 60 rfl) (ow hw 61 rfl) (ow hw 62 rfl) (by decide) (lenOf pd__28_5bCII_29_5bB rfl) rfl rfl rfl (W := 0) rfl (by decide) (by decide) (by decide) (by decide) all0 rfl ?_
      intro T25 h25 v25 X25 K25 hQ25
      obtain ⟨r25, kr25, rfl, ge_r25, f26⟩ := hQ25
      show OGo _ _ _ _ T25 (mkF m 39 #[.val (.ref a), .val (.ref b), .val (.int 0), .val (.int 3), .val .null, .unset] [(.ref r25)])
      refine og_astore X25 41 #[.val (.ref a), .val (.ref b), .val (.int 0), .val (.int 3), .val .null, .val (.ref r25)] d2_39 rfl rfl rfl ?_
      refine og_aloadN X25 42 d2_41 rfl rfl rfl ?_
      refine og_aload X25 44 d2_42 rfl rfl rfl ?_
      refine og_iloadN X25 45 d2_44 rfl rfl ?_
      refine own_stat X25 48 (argsL := [(.ref r25), (.int 3)]) (rest := [(.ref a)]) d2_45 (ru_cod3_6 l Z a0 hw n0 h25 hWd [] X25.old r25 kr25 [(.int (StrChars.lo8 x0)), (.int (StrChars.hi8 x0)), (.int (StrChars.lo8 x1)), (.int (StrChars.hi8 x1)), (.int (StrChars.lo8 x2)), (.int (StrChars.hi8 x2))] (.int 0) f26 ) (ow hw 85 rfl) (ow hw 86 rfl) (ow hw 61 rfl) (ow hw 87 rfl) (by decide) (lenOf pd__28_5bBI_29B rfl) rfl rfl rfl (W := 1) rfl (by decide) (by decide) (by decide) (by decide) all0 rfl ?_
      intro T27 h27 v27 X27 K27 hQ27
      obtain rfl := hQ27
      show OGo _ _ _ _ T27 (mkF m 48 #[.val (.ref a), .val (.ref b), .val (.int 0), .val (.int 3), .val .null, .val (.ref r25)] [(.int 1), (.ref a)])
      have f28 := q2.keep K25 nin0
      have f29 := f28.keep K27 nin0
      have f30 := q0.keep K25
      have f31 := f30.keep K27
      have f32 := q1.keep K25 nin0
      have f33 := f32.keep K27 nin0
      refine own_put X27 51 d2_48 (host := "") (Or.inl (ow hw 21 rfl)) Via.refl f29 f31 (Or.inr ⟨(ow hw 17 rfl), rfl, hnm⟩) (ow hw 2 rfl) (ty := .byte) (by decide) rfl rfl (om 0 rfl) rfl ?_
      intro T34 h34 X34 W34 K34 F34
      have f35 := Fld.other W34 f33 (Or.inr (slot_ne (Or.inr (ow hw 16 rfl)) (Or.inr (ow hw 17 rfl)) (by decide) (t := (.array .byte)) (t' := .byte) (by decide) (by decide)))
      refine og_aloadN X34 52 d2_51 rfl rfl rfl ?_
      refine og_aload X34 54 d2_52 rfl rfl rfl ?_
      have f36 := f31.keep K34
      refine own_put X34 57 d2_54 (host := "") (Or.inl (ow hw 20 rfl)) Via.refl f35 f36 (Or.inr ⟨(ow hw 16 rfl), rfl, hnm⟩) (ow hw 2 rfl) (ty := (.array .byte)) (by decide) rfl rfl (om 0 rfl) rfl ?_
      intro T37 h37 X37 W37 K37 F37
      have f38 := Fld.other W37 F34 (Or.inr (slot_ne (Or.inr (ow hw 17 rfl)) (Or.inr (ow hw 16 rfl)) (by decide) (t := .byte) (t' := (.array .byte)) (by decide) (by decide)))
      have f39 := f36.keep K37
      have f40 := f26.keep K27 nin0
      have f41 := f40.keep K34 (ninS (Nat.ne_of_gt (Nat.lt_of_lt_of_le q0.lt ge_r25)) nin0)
      have f42 := f41.keep K37 (ninS (Nat.ne_of_gt (Nat.lt_of_lt_of_le q0.lt ge_r25)) nin0)
      refine own_retV X37 d2_57 hret (by decide) (by decide) ?_
      exact ⟨rfl, own_mkStrW (cs := [x0, x1, x2]) (n := 3) f39 f38 F37 f42 ⟨x1, List.mem_of_getElem? (i := 1) rfl, hc24⟩ (own_l16 ⟨q4, q5⟩ (own_l16 ⟨q6, q7⟩ (own_l16 ⟨q8, q9⟩ (fun _ q => nomatch q)))) rfl rfl (Nat.le_of_ble_eq_true rfl)⟩
    · -- not
      by_cases hc43 : (255 : Int32) < x2
      · -- (255 : Int32) < x2
        refine own_stat X4 39 (argsL := [(.ref b), (.int 0), (.int 3)]) (rest := []) d2_36 (ru_cmp3_2 l Z a0 hw n0 h0 hWd [] X4.old b kb dv x0 x1 x2 q3 hc5 hc24 hc43 q4 q5 q6 q7 q8 q9 ) (ow hw 59 rfl) (ow hw 60 rfl) (ow hw 61 rfl) (ow hw 62 rfl) (by decide) (lenOf pd__28_5bCII_29_5bB rfl) rfl rfl rfl (W := 0) rfl (by decide) (by decide) (by decide) (by decide) all0 rfl ?_
        intro T44 h44 v44 X44 K44 hQ44
        obtain ⟨r44, kr44, rfl, ge_r44, f45⟩ := hQ44
        show OGo _ _ _ _ T44 (mkF m 39 #[.val (.ref a), .val (.ref b), .val (.int 0), .val (.int 3), .val .null, .unset] [(.ref r44)])
        refine og_astore X44 41 #[.val (.ref a), .val (.ref b), .val (.int 0), .val (.int 3), .val .null, .val (.ref r44)] d2_39 rfl rfl rfl ?_
        refine og_aloadN X44 42 d2_41 rfl rfl rfl ?_
        refine og_aload X44 44 d2_42 rfl rfl rfl ?_
        refine og_iloadN X44 45 d2_44 rfl rfl ?_
        refine own_stat X44 48 (argsL := [(.ref r44), (.int 3)]) (rest := [(.ref a)]) d2_45 (ru_cod3_6 l Z a0 hw n0 h44 hWd [] X44.old r44 kr44 [(.int (StrChars.lo8 x0)), (.int (StrChars.hi8 x0)), (.int (StrChars.lo8 x1)), (.int (StrChars.hi8 x1)), (.int (StrChars.lo8 x2)), (.int (StrChars.hi8 x2))] (.int 0) f45 ) (ow hw 85 rfl) (ow hw 86 rfl) (ow hw 61 rfl) (ow hw 87 rfl) (by decide) (lenOf pd__28_5bBI_29B rfl) rfl rfl rfl (W := 1) rfl (by decide) (by decide) (by decide) (by decide) all0 rfl ?_
        intro T46 h46 v46 X46 K46 hQ46
        obtain rfl := hQ46
        show OGo _ _ _ _ T46 (mkF m 48 #[.val (.ref a), .val (.ref b), .val (.int 0), .val (.int 3), .val .null, .val (.ref r44)] [(.int 1), (.ref a)])
        have f47 := q2.keep K44 nin0
        have f48 := f47.keep K46 nin0
        have f49 := q0.keep K44
        have f50 := f49.keep K46
        have f51 := q1.keep K44 nin0
        have f52 := f51.keep K46 nin0
        refine own_put X46 51 d2_48 (host := "") (Or.inl (ow hw 21 rfl)) Via.refl f48 f50 (Or.inr ⟨(ow hw 17 rfl), rfl, hnm⟩) (ow hw 2 rfl) (ty := .byte) (by decide) rfl rfl (om 0 rfl) rfl ?_
        intro T53 h53 X53 W53 K53 F53
        have f54 := Fld.other W53 f52 (Or.inr (slot_ne (Or.inr (ow hw 16 rfl)) (Or.inr (ow hw 17 rfl)) (by decide) (t := (.array .byte)) (t' := .byte) (by decide) (by decide)))
        refine og_aloadN X53 52 d2_51 rfl rfl rfl ?_
        refine og_aload X53 54 d2_52 rfl rfl rfl ?_
        have f55 := f50.keep K53
        refine own_put X53 57 d2_54 (host := "") (Or.inl (ow hw 20 rfl)) Via.refl f54 f55 (Or.inr ⟨(ow hw 16 rfl), rfl, hnm⟩) (ow hw 2 rfl) (ty := (.array .byte)) (by decide) rfl rfl (om 0 rfl) rfl ?_
        intro T56 h56 X56 W56 K56 F56
        have f57 := Fld.other W56 F53 (Or.inr (slot_ne (Or.inr (ow hw 17 rfl)) (Or.inr (ow hw 16 rfl)) (by decide) (t := .byte) (t' := (.array .byte)) (by decide) (by decide)))
        have f58 := f55.keep K56
        have f59 := f45.keep K46 nin0
        have f60 := f59.keep K53 (ninS (Nat.ne_of_gt (Nat.lt_of_lt_of_le q0.lt ge_r44)) nin0)
        have f61 := f60.keep K56 (ninS (Nat.ne_of_gt (Nat.lt_of_lt_of_le q0.lt ge_r44)) nin0)
        refine own_retV X56 d2_57 hret (by decide) (by decide) ?_
        exact ⟨rfl, own_mkStrW (cs := [x0, x1, x2]) (n := 3) f58 f57 F56 f61 ⟨x2, List.mem_of_getElem? (i := 2) rfl, hc43⟩ (own_l16 ⟨q4, q5⟩ (own_l16 ⟨q6, q7⟩ (own_l16 ⟨q8, q9⟩ (fun _ q => nomatch q)))) rfl rfl (Nat.le_of_ble_eq_true rfl)⟩
      · -- not
        refine own_stat X4 39 (argsL := [(.ref b), (.int 0), (.int 3)]) (rest := []) d2_36 (ru_cmp3_3 l Z a0 hw n0 h0 hWd [] X4.old b kb dv x0 x1 x2 q3 hc5 hc24 hc43 q4 q5 q6 q7 q8 q9 ) (ow hw 59 rfl) (ow hw 60 rfl) (ow hw 61 rfl) (ow hw 62 rfl) (by decide) (lenOf pd__28_5bCII_29_5bB rfl) rfl rfl rfl (W := 0) rfl (by decide) (by decide) (by decide) (by decide) all0 rfl ?_
        intro T62 h62 v62 X62 K62 hQ62
        obtain ⟨r62, kr62, rfl, ge_r62, f63⟩ := hQ62
        show OGo _ _ _ _ T62 (mkF m 39 #[.val (.ref a), .val (.ref b), .val (.int 0), .val (.int 3), .val .null, .unset] [(.ref r62)])
        refine og_astore X62 41 #[.val (.ref a), .val (.ref b), .val (.int 0), .val (.int 3), .val .null, .val (.ref r62)] d2_39 rfl rfl rfl ?_
        refine og_aloadN X62 42 d2_41 rfl rfl rfl ?_
        refine og_aload X62 44 d2_42 rfl rfl rfl ?_
        refine og_iloadN X62 45 d2_44 rfl rfl ?_
        refine own_stat X62 48 (argsL := [(.ref r62), (.int 3)]) (rest := [(.ref a)]) d2_45 (ru_cod3_3 l Z a0 hw n0 h62 hWd [] X62.old r62 kr62 [(.int ((x0).toInt8.toInt32)), (.int ((x1).toInt8.toInt32)), (.int ((x2).toInt8.toInt32))] (.int 0) f63 ) (ow hw 85 rfl) (ow hw 86 rfl) (ow hw 61 rfl) (ow hw 87 rfl) (by decide) (lenOf pd__28_5bBI_29B rfl) rfl rfl rfl (W := 1) rfl (by decide) (by decide) (by decide) (by decide) all0 rfl ?_
        intro T64 h64 v64 X64 K64 hQ64
        obtain rfl := hQ64
        show OGo _ _ _ _ T64 (mkF m 48 #[.val (.ref a), .val (.ref b), .val (.int 0), .val (.int 3), .val .null, .val (.ref r62)] [(.int 0), (.ref a)])
        have f65 := q2.keep K62 nin0
        have f66 := f65.keep K64 nin0
        have f67 := q0.keep K62
        have f68 := f67.keep K64
        have f69 := q1.keep K62 nin0
        have f70 := f69.keep K64 nin0
        refine own_put X64 51 d2_48 (host := "") (Or.inl (ow hw 21 rfl)) Via.refl f66 f68 (Or.inr ⟨(ow hw 17 rfl), rfl, hnm⟩) (ow hw 2 rfl) (ty := .byte) (by decide) rfl rfl (om 0 rfl) rfl ?_
        intro T71 h71 X71 W71 K71 F71
        have f72 := Fld.other W71 f70 (Or.inr (slot_ne (Or.inr (ow hw 16 rfl)) (Or.inr (ow hw 17 rfl)) (by decide) (t := (.array .byte)) (t' := .byte) (by decide) (by decide)))
        refine og_aloadN X71 52 d2_51 rfl rfl rfl ?_
        refine og_aload X71 54 d2_52 rfl rfl rfl ?_
        have f73 := f68.keep K71
        refine own_put X71 57 d2_54 (host := "") (Or.inl (ow hw 20 rfl)) Via.refl f72 f73 (Or.inr ⟨(ow hw 16 rfl), rfl, hnm⟩) (ow hw 2 rfl) (ty := (.array .byte)) (by decide) rfl rfl (om 0 rfl) rfl ?_
        intro T74 h74 X74 W74 K74 F74
        have f75 := Fld.other W74 F71 (Or.inr (slot_ne (Or.inr (ow hw 17 rfl)) (Or.inr (ow hw 16 rfl)) (by decide) (t := .byte) (t' := (.array .byte)) (by decide) (by decide)))
        have f76 := f73.keep K74
        have f77 := f63.keep K64 nin0
        have f78 := f77.keep K71 (ninS (Nat.ne_of_gt (Nat.lt_of_lt_of_le q0.lt ge_r62)) nin0)
        have f79 := f78.keep K74 (ninS (Nat.ne_of_gt (Nat.lt_of_lt_of_le q0.lt ge_r62)) nin0)
        refine own_retV X74 d2_57 hret (by decide) (by decide) ?_
        exact ⟨rfl, own_mkStr (cs := [x0, x1, x2]) (bs := [x0.toInt8.toInt32, x1.toInt8.toInt32, x2.toInt8.toInt32]) (n := 3) f76 f75 F74 f79 rfl (own_lS ⟨q4, hc5⟩ (own_lS ⟨q6, hc24⟩ (own_lS ⟨q8, hc43⟩ own_l0))) rfl rfl (Nat.le_of_ble_eq_true rfl)⟩
set_option maxRecDepth 65536 in
set_option maxHeartbeats 40000000 in
theorem ru_ini3 (l : Launch) (Z : State) (a0 : Array Value) (hw : ∀ d ∈ tables_1, d.before a0 Z = true) (n0 : Nat) (h0 : Heap) (hWd : OWorld Z a0) (wc : List Jvm.Cond) (O0 : Old Z n0 h0) (a : Addr) (b : Addr) (y : Value) (z : Int32) (kb : ClassId) (dv : Value) (x0 : Int32) (x1 : Int32) (x2 : Int32) (q0 : Exa Z h0 a "java/lang/String") (q1 : Fld Z h0 a "java/lang/String" "value" "[B" y) (q2 : Fld Z h0 a "java/lang/String" "coder" "B" (.int z)) (q3 : Arv Z h0 b kb .char (3 : Int32) [(.int x0), (.int x1), (.int x2)] dv) (q4 : ¬ x0 < 0) (q5 : ¬ (65535 : Int32) < x0) (q6 : ¬ x1 < 0) (q7 : ¬ (65535 : Int32) < x1) (q8 : ¬ x2 < 0) (q9 : ¬ (65535 : Int32) < x2) (g0 : n0 ≤ a ∧ a < h0.size) :
    OMet l Z own_EL n0 (⟨"java/lang/String", "<init>", "([C)V"⟩ : MethodName) (Jvm.Cond.code (⟨"java/lang/String", "<init>", "([C)V"⟩ : MethodName) jdk_42_method_3_code 2 none :: wc) ({ frames := 5, cells := 2, slots := 9, locals := 74 } : Room) #[(.ref a), (.ref b)] h0 [a] (fun vq hq => vq = none ∧ OStr Z hq a [x0, x1, x2] hq.size) := by
  refine own_enter #[.val (.ref a), .val (.ref b)] pn_java_lang_String__init____C_V (ef_ru_ini3 a b y z kb dv x0 x1 x2) hWd.1 O0 (allS g0 all0) ?_
  intro p e s m below meth c T0 X0 hnm hret
  refine og_aloadN X0 1 d1_0 rfl rfl rfl ?_
  refine og_aloadN X0 2 d1_1 rfl rfl rfl ?_
  refine og_iconst X0 3 (0 : Int32) d1_2 rfl rfl ?_
  refine og_aloadN X0 4 d1_3 rfl rfl rfl ?_
  refine own_len X0 5 d1_4 q3 rfl ?_
  refine og_aconstNull X0 6 d1_5 rfl ?_
  refine own_spec X0 9 (a := a) (argsL := [(.ref b), (.int 0), (.int 3), .null]) (rest := []) d1_6 rfl (ru_inv3 l Z a0 hw n0 h0 hWd [] X0.old a b y z kb dv x0 x1 x2 q0 q1 q2 q3 q4 q5 q6 q7 q8 q9 (own_svb X0 (om 0 rfl))) (ow hw 7 rfl) (ow hw 8 rfl) (ow hw 3 rfl) (ow hw 10 rfl) (by decide) (lenOf pd__28_5bCIILjava_2flang_2fVoid_3b_29V rfl) rfl rfl rfl (W := 0) rfl (by decide) (by decide) (by decide) (by decide) (allS (om 0 rfl) all0) rfl ?_
  intro T1 h1 v1 X1 K1 hQ1
  obtain ⟨rfl, f2⟩ := hQ1
  show OGo _ _ _ _ T1 (mkF m 9 #[.val (.ref a), .val (.ref b)] [])
  refine own_retV X1 d1_9 hret (by decide) (by decide) ?_
  exact ⟨rfl, f2.top⟩
set_option maxRecDepth 65536 in
set_option maxHeartbeats 40000000 in
theorem ru_pci (l : Launch) (Z : State) (a0 : Array Value) (hw : ∀ d ∈ tables_1, d.before a0 Z = true) (n0 : Nat) (h0 : Heap) (hWd : OWorld Z a0) (wc : List Jvm.Cond) (O0 : Old Z n0 h0) (x : Int32) (y : Int32) (fm : Value) (q0 : (fm).isRef = true) (q1 : ¬ x < 0) (q2 : x < y) :
    OMet l Z own_EL n0 (⟨"jdk/internal/util/Preconditions", "checkIndex", "(IILjava/util/function/BiFunction;)I"⟩ : MethodName) (Jvm.Cond.code (⟨"jdk/internal/util/Preconditions", "checkIndex", "(IILjava/util/function/BiFunction;)I"⟩ : MethodName) jdk_41_method_11_code 3 (some .int) :: wc) ({ frames := 0, cells := 0, slots := 0, locals := 0 } : Room) #[(.int x), (.int y), fm] h0 [] (fun vq hq => vq = some (.int x)) := by
  refine own_enter #[.val (.int x), .val (.int y), .val fm] pn_jdk_internal_util_Preconditions_checkIndex__IILjava_util_function_BiFunction__I (ef_ru_pci x y fm q0) hWd.1 O0 all0 ?_
  intro p e s m below meth c T0 X0 hnm hret
  refine og_iloadN X0 1 d25_0 rfl rfl ?_
  refine og_ifN X0 4 d25_1 (XT.i0_lt_f q1) rfl ?_
  refine og_iloadN X0 5 d25_4 rfl rfl ?_
  refine og_iloadN X0 6 d25_5 rfl rfl ?_
  refine og_icmpY X0 16 d25_6 (XT.ii_lt_t q2) (by decide) (by decide) ?_
  refine og_iloadN X0 17 d25_16 rfl rfl ?_
  refine own_retI X0 d25_17 hret (by decide) (by decide) ?_
  exact rfl
set_option maxRecDepth 65536 in
set_option maxHeartbeats 40000000 in
theorem ru_sci (l : Launch) (Z : State) (a0 : Array Value) (hw : ∀ d ∈ tables_1, d.before a0 Z = true) (n0 : Nat) (h0 : Heap) (hWd : OWorld Z a0) (wc : List Jvm.Cond) (O0 : Old Z n0 h0) (x : Int32) (y : Int32) (q0 : ¬ x < 0) (q1 : x < y) :
    OMet l Z own_EL n0 (⟨"java/lang/String", "checkIndex", "(II)V"⟩ : MethodName) (Jvm.Cond.code (⟨"java/lang/String", "checkIndex", "(II)V"⟩ : MethodName) jdk_42_method_155_code 2 none :: wc) ({ frames := 1, cells := 0, slots := 0, locals := 14 } : Room) #[(.int x), (.int y)] h0 [] (fun vq hq => vq = none) := by
  refine own_enter #[.val (.int x), .val (.int y)] pn_java_lang_String_checkIndex__II_V (ef_ru_sci x y) hWd.1 O0 all0 ?_
  intro p e s m below meth c T0 X0 hnm hret
  refine og_iloadN X0 1 d24_0 rfl rfl ?_
  refine og_iloadN X0 2 d24_1 rfl rfl ?_
  refine own_getS X0 5 d24_2 (host := "") (Or.inl (ow hw 116 rfl)) Via.refl hWd.2.2.1.1 rfl ?_
  intro T1 X2
  refine own_stat X2 8 (argsL := [(.int x), (.int y), (own_stv Z "jdk/internal/util/Preconditions" "SIOOBE_FORMATTER" "Ljava/util/function/BiFunction;")]) (rest := []) d24_5 (ru_pci l Z a0 hw n0 h0 hWd [] X2.old x y (own_stv Z "jdk/internal/util/Preconditions" "SIOOBE_FORMATTER" "Ljava/util/function/BiFunction;") hWd.2.2.1.2 q0 q1 ) (ow hw 118 rfl) (ow hw 119 rfl) (ow hw 117 rfl) (ow hw 120 rfl) (by decide) (lenOf pd__28IILjava_2futil_2ffunction_2fBiFunction_3b_29I rfl) rfl rfl rfl (W := 0) rfl (by decide) (by decide) (by decide) (by decide) all0 rfl ?_
  intro T3 h3 v3 X3 K3 hQ3
  obtain rfl := hQ3
  show OGo _ _ _ _ T3 (mkF m 8 #[.val (.int x), .val (.int y)] [(.int x)])
  refine og_pop X3 9 d24_8 rfl rfl ?_
  refine own_retV X3 d24_9 hret (by decide) (by decide) ?_
  exact rfl
set_option maxRecDepth 65536 in
set_option maxHeartbeats 40000000 in
theorem ru_isl0 (l : Launch) (Z : State) (a0 : Array Value) (hw : ∀ d ∈ tables_1, d.before a0 Z = true) (n0 : Nat) (h0 : Heap) (hWd : OWorld Z a0) (wc : List Jvm.Cond) (O0 : Old Z n0 h0) (a : Addr) (q0 : Fld Z h0 a "java/lang/String" "coder" "B" (.int 0)) :
    OMet l Z own_EL n0 (⟨"java/lang/String", "isLatin1", "()Z"⟩ : MethodName) (Jvm.Cond.code (⟨"java/lang/String", "isLatin1", "()Z"⟩ : MethodName) jdk_42_method_154_code 1 (some .boolean) :: wc) ({ frames := 0, cells := 0, slots := 0, locals := 0 } : Room) #[(.ref a)] h0 [] (fun vq hq => vq = some (.int 1)) := by
  refine own_enter #[.val (.ref a)] pn_java_lang_String_isLatin1___Z (ef_ru_isl0 a) hWd.1 O0 all0 ?_
  intro p e s m below meth c T0 X0 hnm hret
  refine own_getS X0 3 d20_0 (host := "") (Or.inl (ow hw 55 rfl)) Via.refl hWd.2.1.1 rfl ?_
  intro T1 X2
  refine og_ifN X2 6 d20_3 (XT.i0_eq_f hWd.2.1.2) rfl ?_
  refine og_aloadN X2 7 d20_6 rfl rfl rfl ?_
  refine own_get X2 10 d20_7 (host := "") (Or.inl (ow hw 21 rfl)) Via.refl q0 rfl ?_
  intro T3 X4
  refine og_ifN X4 13 d20_10 (XT.i0_ne_f (by decide)) rfl ?_
  refine og_iconst X4 14 (1 : Int32) d20_13 rfl rfl ?_
  refine og_goto X4 18 d20_14 (by decide) (by decide) ?_
  refine own_retZ X4 d20_18 hret rfl (by decide) (by decide) ?_
  exact rfl
set_option maxRecDepth 65536 in
set_option maxHeartbeats 40000000 in
theorem ru_isl1 (l : Launch) (Z : State) (a0 : Array Value) (hw : ∀ d ∈ tables_1, d.before a0 Z = true) (n0 : Nat) (h0 : Heap) (hWd : OWorld Z a0) (wc : List Jvm.Cond) (O0 : Old Z n0 h0) (a : Addr) (q0 : Fld Z h0 a "java/lang/String" "coder" "B" (.int 1)) :
    OMet l Z own_EL n0 (⟨"java/lang/String", "isLatin1", "()Z"⟩ : MethodName) (Jvm.Cond.code (⟨"java/lang/String", "isLatin1", "()Z"⟩ : MethodName) jdk_42_method_154_code 1 (some .boolean) :: wc) ({ frames := 0, cells := 0, slots := 0, locals := 0 } : Room) #[(.ref a)] h0 [] (fun vq hq => vq = some (.int 0)) := by
  refine own_enter #[.val (.ref a)] pn_java_lang_String_isLatin1___Z (ef_ru_isl1 a) hWd.1 O0 all0 ?_
  intro p e s m below meth c T0 X0 hnm hret
  refine own_getS X0 3 d20_0 (host := "") (Or.inl (ow hw 55 rfl)) Via.refl hWd.2.1.1 rfl ?_
  intro T1 X2
  refine og_ifN X2 6 d20_3 (XT.i0_eq_f hWd.2.1.2) rfl ?_
  refine og_aloadN X2 7 d20_6 rfl rfl rfl ?_
  refine own_get X2 10 d20_7 (host := "") (Or.inl (ow hw 21 rfl)) Via.refl q0 rfl ?_
  intro T3 X4
  refine og_ifY X4 17 d20_10 (XT.i0_ne_t (by decide)) (by decide) (by decide) ?_
  refine og_iconst X4 18 (0 : Int32) d20_17 rfl rfl ?_
  refine own_retZ X4 d20_18 hret rfl (by decide) (by decide) ?_
  exact rfl
set_option maxRecDepth 65536 in
set_option maxHeartbeats 40000000 in
theorem ru_uci1 (l : Launch) (Z : State) (a0 : Array Value) (hw : ∀ d ∈ tables_1, d.before a0 Z = true) (n0 : Nat) (h0 : Heap) (hWd : OWorld Z a0) (wc : List Jvm.Cond) (O0 : Old Z n0 h0) (b : Addr) (kb : ClassId) (vs : List Value) (dv : Value) (x : Int32) (q0 : Arv Z h0 b kb .byte (2 : Int32) vs dv) (q1 : ¬ x < 0) (q2 : x < (1 : Int32)) :
    OMet l Z own_EL n0 (⟨"java/lang/StringUTF16", "checkIndex", "(I[B)V"⟩ : MethodName) (Jvm.Cond.code (⟨"java/lang/StringUTF16", "checkIndex", "(I[B)V"⟩ : MethodName) jdk_52_method_91_code 2 none :: wc) ({ frames := 2, cells := 0, slots := 0, locals := 27 } : Room) #[(.int x), (.ref b)] h0 [] (fun vq hq => vq = none) := by
  refine own_enter #[.val (.int x), .val (.ref b)] pn_java_lang_StringUTF16_checkIndex__I_B_V (ef_ru_uci1 b kb vs dv x) hWd.1 O0 all0 ?_
  intro p e s m below meth c T0 X0 hnm hret
  refine og_iloadN X0 1 d22_0 rfl rfl ?_
  refine og_aloadN X0 2 d22_1 rfl rfl rfl ?_
  refine own_stat X0 5 (argsL := [(.ref b)]) (rest := [(.int x)]) d22_2 (ru_len1 l Z a0 hw n0 h0 hWd [] X0.old b kb vs dv q0 ) (ow hw 110 rfl) (ow hw 111 rfl) (ow hw 61 rfl) (ow hw 112 rfl) (by decide) (lenOf pd__28_5bB_29I rfl) rfl rfl rfl (W := 1) rfl (by decide) (by decide) (by decide) (by decide) all0 rfl ?_
  intro T1 h1 v1 X1 K1 hQ1
  obtain rfl := hQ1
  show OGo _ _ _ _ T1 (mkF m 5 #[.val (.int x), .val (.ref b)] [(.int 1), (.int x)])
  refine own_stat X1 8 (argsL := [(.int x), (.int 1)]) (rest := []) d22_5 (ru_sci l Z a0 hw n0 h1 hWd [] X1.old x (1 : Int32) q1 q2 ) (ow hw 113 rfl) (ow hw 114 rfl) (ow hw 3 rfl) (ow hw 115 rfl) (by decide) (lenOf pd__28II_29V rfl) rfl rfl rfl (W := 0) rfl (by decide) (by decide) (by decide) (by decide) all0 rfl ?_
  intro T2 h2 v2 X2 K2 hQ2
  obtain rfl := hQ2
  show OGo _ _ _ _ T2 (mkF m 8 #[.val (.int x), .val (.ref b)] [])
  refine own_retV X2 d22_8 hret (by decide) (by decide) ?_
  exact rfl
set_option maxRecDepth 65536 in
set_option maxHeartbeats 40000000 in
theorem ru_lca1_0 (l : Launch) (Z : State) (a0 : Array Value) (hw : ∀ d ∈ tables_1, d.before a0 Z = true) (n0 : Nat) (h0 : Heap) (hWd : OWorld Z a0) (wc : List Jvm.Cond) (O0 : Old Z n0 h0) (b : Addr) (kb : ClassId) (u : Int32) (dv : Value) (q0 : Arv Z h0 b kb .byte (1 : Int32) [(.int u)] dv) :
    OMet l Z own_EL n0 (⟨"java/lang/StringLatin1", "charAt", "([BI)C"⟩ : MethodName) (Jvm.Cond.code (⟨"java/lang/StringLatin1", "charAt", "([BI)C"⟩ : MethodName) jdk_43_method_2_code 2 (some .char) :: wc) ({ frames := 2, cells := 0, slots := 0, locals := 27 } : Room) #[(.ref b), (.int 0)] h0 [] (fun vq hq => vq = some (.int (u &&& (255 : Int32)))) := by
  refine own_enter #[.val (.ref b), .val (.int 0)] pn_java_lang_StringLatin1_charAt___BI_C (ef_ru_lca1_0 b kb u dv) hWd.1 O0 all0 ?_
  intro p e s m below meth c T0 X0 hnm hret
  refine og_iloadN X0 1 d26_0 rfl rfl ?_
  refine og_aloadN X0 2 d26_1 rfl rfl rfl ?_
  refine own_len X0 3 d26_2 q0 rfl ?_
  refine own_stat X0 6 (argsL := [(.int 0), (.int 1)]) (rest := []) d26_3 (ru_sci l Z a0 hw n0 h0 hWd [] X0.old (0 : Int32) (1 : Int32) (by decide) (by decide) ) (ow hw 125 rfl) (ow hw 114 rfl) (ow hw 3 rfl) (ow hw 115 rfl) (by decide) (lenOf pd__28II_29V rfl) rfl rfl rfl (W := 0) rfl (by decide) (by decide) (by decide) (by decide) all0 rfl ?_
  intro T1 h1 v1 X1 K1 hQ1
  obtain rfl := hQ1
  show OGo _ _ _ _ T1 (mkF m 6 #[.val (.ref b), .val (.int 0)] [])
  refine og_aloadN X1 7 d26_6 rfl rfl rfl ?_
  refine og_iloadN X1 8 d26_7 rfl rfl ?_
  have f2 := q0.keep K1 nin0
  refine own_ldB X1 9 d26_8 f2 (by decide) (by decide) rfl rfl ?_
  refine og_sipush X1 12 (255 : Int32) d26_9 rfl rfl ?_
  refine og_iand X1 13 d26_12 rfl ?_
  refine og_i2c8 X1 14 d26_13 rfl ?_
  refine own_retC X1 d26_14 hret (own_fitC (own_lat8 _).1 (own_up8 (own_lat8 _).2)) (by decide) (by decide) ?_
  exact rfl
set_option maxRecDepth 65536 in
set_option maxHeartbeats 40000000 in
theorem ru_uca1_0 (l : Launch) (Z : State) (a0 : Array Value) (hw : ∀ d ∈ tables_1, d.before a0 Z = true) (n0 : Nat) (h0 : Heap) (hWd : OWorld Z a0) (wc : List Jvm.Cond) (O0 : Old Z n0 h0) (b : Addr) (kb : ClassId) (u : Int32) (v : Int32) (dv : Value) (q0 : Arv Z h0 b kb .byte (2 : Int32) [(.int u), (.int v)] dv) :
    OMet l Z own_EL n0 (⟨"java/lang/StringUTF16", "charAt", "([BI)C"⟩ : MethodName) (Jvm.Cond.code (⟨"java/lang/StringUTF16", "charAt", "([BI)C"⟩ : MethodName) jdk_52_method_83_code 2 (some .char) :: wc) ({ frames := 3, cells := 0, slots := 0, locals := 40 } : Room) #[(.ref b), (.int 0)] h0 [] (fun vq hq => vq = some (.int (StrChars.pairCh u v))) := by
  refine own_enter #[.val (.ref b), .val (.int 0)] pn_java_lang_StringUTF16_charAt___BI_C (ef_ru_uca1_0 b kb u v dv) hWd.1 O0 all0 ?_
  intro p e s m below meth c T0 X0 hnm hret
  refine og_iloadN X0 1 d21_0 rfl rfl ?_
  refine og_aloadN X0 2 d21_1 rfl rfl rfl ?_
  refine own_stat X0 5 (argsL := [(.int 0), (.ref b)]) (rest := []) d21_2 (ru_uci1 l Z a0 hw n0 h0 hWd [] X0.old b kb [(.int u), (.int v)] dv (0 : Int32) q0 (by decide) (by decide) ) (ow hw 107 rfl) (ow hw 108 rfl) (ow hw 61 rfl) (ow hw 109 rfl) (by decide) (lenOf pd__28I_5bB_29V rfl) rfl rfl rfl (W := 0) rfl (by decide) (by decide) (by decide) (by decide) all0 rfl ?_
  intro T1 h1 v1 X1 K1 hQ1
  obtain rfl := hQ1
  show OGo _ _ _ _ T1 (mkF m 5 #[.val (.ref b), .val (.int 0)] [])
  refine og_aloadN X1 6 d21_5 rfl rfl rfl ?_
  refine og_iloadN X1 7 d21_6 rfl rfl ?_
  have f2 := q0.keep K1 nin0
  refine own_stat X1 10 (argsL := [(.ref b), (.int 0)]) (rest := []) d21_7 (ru_get1_0 l Z a0 hw n0 h1 hWd [] X1.old b kb u v dv f2 ) (ow hw 82 rfl) (ow hw 83 rfl) (ow hw 61 rfl) (ow hw 84 rfl) (by decide) (lenOf pd__28_5bBI_29C rfl) rfl rfl rfl (W := 0) rfl (by decide) (by decide) (by decide) (by decide) all0 rfl ?_
  intro T3 h3 v3 X3 K3 hQ3
  obtain rfl := hQ3
  show OGo _ _ _ _ T3 (mkF m 10 #[.val (.ref b), .val (.int 0)] [(.int (StrChars.pairCh u v))])
  refine own_retC X3 d21_10 hret (own_fitC (own_lat16 _).1 (own_lat16 _).2) (by decide) (by decide) ?_
  exact rfl
set_option maxRecDepth 65536 in
set_option maxHeartbeats 40000000 in
theorem ru_ch1_0 (l : Launch) (Z : State) (a0 : Array Value) (hw : ∀ d ∈ tables_1, d.before a0 Z = true) (n0 : Nat) (h0 : Heap) (hWd : OWorld Z a0) (wc : List Jvm.Cond) (O0 : Old Z n0 h0) (a : Addr) (x0 : Int32) (q0 : OStr Z h0 a [x0] h0.size) :
    OMet l Z own_EL n0 (⟨"java/lang/String", "charAt", "(I)C"⟩ : MethodName) (Jvm.Cond.code (⟨"java/lang/String", "charAt", "(I)C"⟩ : MethodName) jdk_42_method_56_code 2 (some .char) :: wc) ({ frames := 4, cells := 0, slots := 0, locals := 53 } : Room) #[(.ref a), (.int 0)] h0 [] (fun vq hq => vq = some (.int x0)) := by
  refine own_enter #[.val (.ref a), .val (.int 0)] pn_java_lang_String_charAt__I_C (ef_ru_ch1_0 a x0) hWd.1 O0 all0 ?_
  intro p e s m below meth c T0 X0 hnm hret
  obtain ⟨t, kt, cd, NN, vv, eE, eC, eV, eA, cod, bd, -⟩ := q0
  rcases cod with ⟨rfl, rfl, rfl, lat⟩ | ⟨rfl, rfl, rfl, wid⟩
  · -- coder 0
    have eA2 : Arv Z h0 t kt .byte (1 : Int32) [(.int (StrChars.lo8 x0))] (.int 0) := eA
    refine og_aloadN X0 1 d19_0 rfl rfl rfl ?_
    refine own_virt X0 4 (a := a) (argsL := []) (rest := []) d19_1 eE (fun _ hZ => notFace_of_selects (args := #[]) (mvT hZ (ow hw 102 rfl))) (ru_isl0 l Z a0 hw n0 h0 hWd [] X0.old a eC ) (ow hw 99 rfl) (ow hw 100 rfl) (ow hw 102 rfl) (ow hw 101 rfl) (ow hw 3 rfl) (ow hw 103 rfl) (by decide) (lenOf pd__28_29Z rfl) rfl rfl rfl (W := 0) rfl (by decide) (by decide) (by decide) (by decide) all0 rfl ?_
    intro T1 h1 v1 X1 K1 hQ1
    obtain rfl := hQ1
    show OGo _ _ _ _ T1 (mkF m 4 #[.val (.ref a), .val (.int 0)] [(.int 1)])
    refine og_ifN X1 7 d19_4 (XT.i0_eq_f (by decide)) rfl ?_
    refine og_aloadN X1 8 d19_7 rfl rfl rfl ?_
    have f2 := eV.keep K1 nin0
    refine own_get X1 11 d19_8 (host := "") (Or.inl (ow hw 20 rfl)) Via.refl f2 rfl ?_
    intro T3 X4
    refine og_iloadN X4 12 d19_11 rfl rfl ?_
    have f5 := eA2.keep K1 nin0
    refine own_stat X4 15 (argsL := [(.ref t), (.int 0)]) (rest := []) d19_12 (ru_lca1_0 l Z a0 hw n0 h1 hWd [] X4.old t kt (StrChars.lo8 x0) (.int 0) f5 ) (ow hw 121 rfl) (ow hw 122 rfl) (ow hw 123 rfl) (ow hw 124 rfl) (by decide) (lenOf pd__28_5bBI_29C rfl) rfl rfl rfl (W := 0) rfl (by decide) (by decide) (by decide) (by decide) all0 rfl ?_
    intro T6 h6 v6 X6 K6 hQ6
    obtain rfl := hQ6
    show OGo _ _ _ _ T6 (mkF m 15 #[.val (.ref a), .val (.int 0)] [(.int ((StrChars.lo8 x0) &&& (255 : Int32)))])
    refine own_retC X6 d19_15 hret (own_fitC (own_lat8 _).1 (own_up8 (own_lat8 _).2)) (by decide) (by decide) ?_
    rw [StrChars.lo8_mask (bd _ (om 0 rfl)).1 (lat _ (om 0 rfl))]
  · -- coder 1
    have eA2 : Arv Z h0 t kt .byte (2 : Int32) [(.int (StrChars.lo8 x0)), (.int (StrChars.hi8 x0))] (.int 0) := eA
    refine og_aloadN X0 1 d19_0 rfl rfl rfl ?_
    refine own_virt X0 4 (a := a) (argsL := []) (rest := []) d19_1 eE (fun _ hZ => notFace_of_selects (args := #[]) (mvT hZ (ow hw 102 rfl))) (ru_isl1 l Z a0 hw n0 h0 hWd [] X0.old a eC ) (ow hw 99 rfl) (ow hw 100 rfl) (ow hw 102 rfl) (ow hw 101 rfl) (ow hw 3 rfl) (ow hw 103 rfl) (by decide) (lenOf pd__28_29Z rfl) rfl rfl rfl (W := 0) rfl (by decide) (by decide) (by decide) (by decide) all0 rfl ?_
    intro T7 h7 v7 X7 K7 hQ7
    obtain rfl := hQ7
    show OGo _ _ _ _ T7 (mkF m 4 #[.val (.ref a), .val (.int 0)] [(.int 0)])
    refine og_ifY X7 16 d19_4 (XT.i0_eq_t (by decide)) (by decide) (by decide) ?_
    refine og_aloadN X7 17 d19_16 rfl rfl rfl ?_
    have f8 := eV.keep K7 nin0
    refine own_get X7 20 d19_17 (host := "") (Or.inl (ow hw 20 rfl)) Via.refl f8 rfl ?_
    intro T9 X10
    refine og_iloadN X10 21 d19_20 rfl rfl ?_
    have f11 := eA2.keep K7 nin0
    refine own_stat X10 24 (argsL := [(.ref t), (.int 0)]) (rest := []) d19_21 (ru_uca1_0 l Z a0 hw n0 h7 hWd [] X10.old t kt (StrChars.lo8 x0) (StrChars.hi8 x0) (.int 0) f11 ) (ow hw 104 rfl) (ow hw 105 rfl) (ow hw 61 rfl) (ow hw 106 rfl) (by decide) (lenOf pd__28_5bBI_29C rfl) rfl rfl rfl (W := 0) rfl (by decide) (by decide) (by decide) (by decide) all0 rfl ?_
    intro T12 h12 v12 X12 K12 hQ12
    obtain rfl := hQ12
    show OGo _ _ _ _ T12 (mkF m 24 #[.val (.ref a), .val (.int 0)] [(.int (StrChars.pairCh (StrChars.lo8 x0) (StrChars.hi8 x0)))])
    refine own_retC X12 d19_24 hret (own_fitC (own_lat16 _).1 (own_lat16 _).2) (by decide) (by decide) ?_
    rw [StrChars.pair_says (bd _ (om 0 rfl)).1 (bd _ (om 0 rfl)).2]
set_option maxRecDepth 65536 in
set_option maxHeartbeats 40000000 in
theorem ru_uci2 (l : Launch) (Z : State) (a0 : Array Value) (hw : ∀ d ∈ tables_1, d.before a0 Z = true) (n0 : Nat) (h0 : Heap) (hWd : OWorld Z a0) (wc : List Jvm.Cond) (O0 : Old Z n0 h0) (b : Addr) (kb : ClassId) (vs : List Value) (dv : Value) (x : Int32) (q0 : Arv Z h0 b kb .byte (4 : Int32) vs dv) (q1 : ¬ x < 0) (q2 : x < (2 : Int32)) :
    OMet l Z own_EL n0 (⟨"java/lang/StringUTF16", "checkIndex", "(I[B)V"⟩ : MethodName) (Jvm.Cond.code (⟨"java/lang/StringUTF16", "checkIndex", "(I[B)V"⟩ : MethodName) jdk_52_method_91_code 2 none :: wc) ({ frames := 2, cells := 0, slots := 0, locals := 27 } : Room) #[(.int x), (.ref b)] h0 [] (fun vq hq => vq = none) := by
  refine own_enter #[.val (.int x), .val (.ref b)] pn_java_lang_StringUTF16_checkIndex__I_B_V (ef_ru_uci2 b kb vs dv x) hWd.1 O0 all0 ?_
  intro p e s m below meth c T0 X0 hnm hret
  refine og_iloadN X0 1 d22_0 rfl rfl ?_
  refine og_aloadN X0 2 d22_1 rfl rfl rfl ?_
  refine own_stat X0 5 (argsL := [(.ref b)]) (rest := [(.int x)]) d22_2 (ru_len2 l Z a0 hw n0 h0 hWd [] X0.old b kb vs dv q0 ) (ow hw 110 rfl) (ow hw 111 rfl) (ow hw 61 rfl) (ow hw 112 rfl) (by decide) (lenOf pd__28_5bB_29I rfl) rfl rfl rfl (W := 1) rfl (by decide) (by decide) (by decide) (by decide) all0 rfl ?_
  intro T1 h1 v1 X1 K1 hQ1
  obtain rfl := hQ1
  show OGo _ _ _ _ T1 (mkF m 5 #[.val (.int x), .val (.ref b)] [(.int 2), (.int x)])
  refine own_stat X1 8 (argsL := [(.int x), (.int 2)]) (rest := []) d22_5 (ru_sci l Z a0 hw n0 h1 hWd [] X1.old x (2 : Int32) q1 q2 ) (ow hw 113 rfl) (ow hw 114 rfl) (ow hw 3 rfl) (ow hw 115 rfl) (by decide) (lenOf pd__28II_29V rfl) rfl rfl rfl (W := 0) rfl (by decide) (by decide) (by decide) (by decide) all0 rfl ?_
  intro T2 h2 v2 X2 K2 hQ2
  obtain rfl := hQ2
  show OGo _ _ _ _ T2 (mkF m 8 #[.val (.int x), .val (.ref b)] [])
  refine own_retV X2 d22_8 hret (by decide) (by decide) ?_
  exact rfl
set_option maxRecDepth 65536 in
set_option maxHeartbeats 40000000 in
theorem ru_lca2_0 (l : Launch) (Z : State) (a0 : Array Value) (hw : ∀ d ∈ tables_1, d.before a0 Z = true) (n0 : Nat) (h0 : Heap) (hWd : OWorld Z a0) (wc : List Jvm.Cond) (O0 : Old Z n0 h0) (b : Addr) (kb : ClassId) (u : Int32) (dv : Value) (e1 : Value) (q0 : Arv Z h0 b kb .byte (2 : Int32) [(.int u), e1] dv) :
    OMet l Z own_EL n0 (⟨"java/lang/StringLatin1", "charAt", "([BI)C"⟩ : MethodName) (Jvm.Cond.code (⟨"java/lang/StringLatin1", "charAt", "([BI)C"⟩ : MethodName) jdk_43_method_2_code 2 (some .char) :: wc) ({ frames := 2, cells := 0, slots := 0, locals := 27 } : Room) #[(.ref b), (.int 0)] h0 [] (fun vq hq => vq = some (.int (u &&& (255 : Int32)))) := by
  refine own_enter #[.val (.ref b), .val (.int 0)] pn_java_lang_StringLatin1_charAt___BI_C (ef_ru_lca2_0 b kb u dv e1) hWd.1 O0 all0 ?_
  intro p e s m below meth c T0 X0 hnm hret
  refine og_iloadN X0 1 d26_0 rfl rfl ?_
  refine og_aloadN X0 2 d26_1 rfl rfl rfl ?_
  refine own_len X0 3 d26_2 q0 rfl ?_
  refine own_stat X0 6 (argsL := [(.int 0), (.int 2)]) (rest := []) d26_3 (ru_sci l Z a0 hw n0 h0 hWd [] X0.old (0 : Int32) (2 : Int32) (by decide) (by decide) ) (ow hw 125 rfl) (ow hw 114 rfl) (ow hw 3 rfl) (ow hw 115 rfl) (by decide) (lenOf pd__28II_29V rfl) rfl rfl rfl (W := 0) rfl (by decide) (by decide) (by decide) (by decide) all0 rfl ?_
  intro T1 h1 v1 X1 K1 hQ1
  obtain rfl := hQ1
  show OGo _ _ _ _ T1 (mkF m 6 #[.val (.ref b), .val (.int 0)] [])
  refine og_aloadN X1 7 d26_6 rfl rfl rfl ?_
  refine og_iloadN X1 8 d26_7 rfl rfl ?_
  have f2 := q0.keep K1 nin0
  refine own_ldB X1 9 d26_8 f2 (by decide) (by decide) rfl rfl ?_
  refine og_sipush X1 12 (255 : Int32) d26_9 rfl rfl ?_
  refine og_iand X1 13 d26_12 rfl ?_
  refine og_i2c8 X1 14 d26_13 rfl ?_
  refine own_retC X1 d26_14 hret (own_fitC (own_lat8 _).1 (own_up8 (own_lat8 _).2)) (by decide) (by decide) ?_
  exact rfl
set_option maxRecDepth 65536 in
set_option maxHeartbeats 40000000 in
theorem ru_uca2_0 (l : Launch) (Z : State) (a0 : Array Value) (hw : ∀ d ∈ tables_1, d.before a0 Z = true) (n0 : Nat) (h0 : Heap) (hWd : OWorld Z a0) (wc : List Jvm.Cond) (O0 : Old Z n0 h0) (b : Addr) (kb : ClassId) (u : Int32) (v : Int32) (dv : Value) (e2 : Value) (e3 : Value) (q0 : Arv Z h0 b kb .byte (4 : Int32) [(.int u), (.int v), e2, e3] dv) :
    OMet l Z own_EL n0 (⟨"java/lang/StringUTF16", "charAt", "([BI)C"⟩ : MethodName) (Jvm.Cond.code (⟨"java/lang/StringUTF16", "charAt", "([BI)C"⟩ : MethodName) jdk_52_method_83_code 2 (some .char) :: wc) ({ frames := 3, cells := 0, slots := 0, locals := 40 } : Room) #[(.ref b), (.int 0)] h0 [] (fun vq hq => vq = some (.int (StrChars.pairCh u v))) := by
  refine own_enter #[.val (.ref b), .val (.int 0)] pn_java_lang_StringUTF16_charAt___BI_C (ef_ru_uca2_0 b kb u v dv e2 e3) hWd.1 O0 all0 ?_
  intro p e s m below meth c T0 X0 hnm hret
  refine og_iloadN X0 1 d21_0 rfl rfl ?_
  refine og_aloadN X0 2 d21_1 rfl rfl rfl ?_
  refine own_stat X0 5 (argsL := [(.int 0), (.ref b)]) (rest := []) d21_2 (ru_uci2 l Z a0 hw n0 h0 hWd [] X0.old b kb [(.int u), (.int v), e2, e3] dv (0 : Int32) q0 (by decide) (by decide) ) (ow hw 107 rfl) (ow hw 108 rfl) (ow hw 61 rfl) (ow hw 109 rfl) (by decide) (lenOf pd__28I_5bB_29V rfl) rfl rfl rfl (W := 0) rfl (by decide) (by decide) (by decide) (by decide) all0 rfl ?_
  intro T1 h1 v1 X1 K1 hQ1
  obtain rfl := hQ1
  show OGo _ _ _ _ T1 (mkF m 5 #[.val (.ref b), .val (.int 0)] [])
  refine og_aloadN X1 6 d21_5 rfl rfl rfl ?_
  refine og_iloadN X1 7 d21_6 rfl rfl ?_
  have f2 := q0.keep K1 nin0
  refine own_stat X1 10 (argsL := [(.ref b), (.int 0)]) (rest := []) d21_7 (ru_get2_0 l Z a0 hw n0 h1 hWd [] X1.old b kb u v dv e2 e3 f2 ) (ow hw 82 rfl) (ow hw 83 rfl) (ow hw 61 rfl) (ow hw 84 rfl) (by decide) (lenOf pd__28_5bBI_29C rfl) rfl rfl rfl (W := 0) rfl (by decide) (by decide) (by decide) (by decide) all0 rfl ?_
  intro T3 h3 v3 X3 K3 hQ3
  obtain rfl := hQ3
  show OGo _ _ _ _ T3 (mkF m 10 #[.val (.ref b), .val (.int 0)] [(.int (StrChars.pairCh u v))])
  refine own_retC X3 d21_10 hret (own_fitC (own_lat16 _).1 (own_lat16 _).2) (by decide) (by decide) ?_
  exact rfl
set_option maxRecDepth 65536 in
set_option maxHeartbeats 40000000 in
theorem ru_ch2_0 (l : Launch) (Z : State) (a0 : Array Value) (hw : ∀ d ∈ tables_1, d.before a0 Z = true) (n0 : Nat) (h0 : Heap) (hWd : OWorld Z a0) (wc : List Jvm.Cond) (O0 : Old Z n0 h0) (a : Addr) (x0 : Int32) (x1 : Int32) (q0 : OStr Z h0 a [x0, x1] h0.size) :
    OMet l Z own_EL n0 (⟨"java/lang/String", "charAt", "(I)C"⟩ : MethodName) (Jvm.Cond.code (⟨"java/lang/String", "charAt", "(I)C"⟩ : MethodName) jdk_42_method_56_code 2 (some .char) :: wc) ({ frames := 4, cells := 0, slots := 0, locals := 53 } : Room) #[(.ref a), (.int 0)] h0 [] (fun vq hq => vq = some (.int x0)) := by
  refine own_enter #[.val (.ref a), .val (.int 0)] pn_java_lang_String_charAt__I_C (ef_ru_ch2_0 a x0 x1) hWd.1 O0 all0 ?_
  intro p e s m below meth c T0 X0 hnm hret
  obtain ⟨t, kt, cd, NN, vv, eE, eC, eV, eA, cod, bd, -⟩ := q0
  rcases cod with ⟨rfl, rfl, rfl, lat⟩ | ⟨rfl, rfl, rfl, wid⟩
  · -- coder 0
    have eA2 : Arv Z h0 t kt .byte (2 : Int32) [(.int (StrChars.lo8 x0)), (.int (StrChars.lo8 x1))] (.int 0) := eA
    refine og_aloadN X0 1 d19_0 rfl rfl rfl ?_
    refine own_virt X0 4 (a := a) (argsL := []) (rest := []) d19_1 eE (fun _ hZ => notFace_of_selects (args := #[]) (mvT hZ (ow hw 102 rfl))) (ru_isl0 l Z a0 hw n0 h0 hWd [] X0.old a eC ) (ow hw 99 rfl) (ow hw 100 rfl) (ow hw 102 rfl) (ow hw 101 rfl) (ow hw 3 rfl) (ow hw 103 rfl) (by decide) (lenOf pd__28_29Z rfl) rfl rfl rfl (W := 0) rfl (by decide) (by decide) (by decide) (by decide) all0 rfl ?_
    intro T1 h1 v1 X1 K1 hQ1
    obtain rfl := hQ1
    show OGo _ _ _ _ T1 (mkF m 4 #[.val (.ref a), .val (.int 0)] [(.int 1)])
    refine og_ifN X1 7 d19_4 (XT.i0_eq_f (by decide)) rfl ?_
    refine og_aloadN X1 8 d19_7 rfl rfl rfl ?_
    have f2 := eV.keep K1 nin0
    refine own_get X1 11 d19_8 (host := "") (Or.inl (ow hw 20 rfl)) Via.refl f2 rfl ?_
    intro T3 X4
    refine og_iloadN X4 12 d19_11 rfl rfl ?_
    have f5 := eA2.keep K1 nin0
    refine own_stat X4 15 (argsL := [(.ref t), (.int 0)]) (rest := []) d19_12 (ru_lca2_0 l Z a0 hw n0 h1 hWd [] X4.old t kt (StrChars.lo8 x0) (.int 0) (.int (StrChars.lo8 x1)) f5 ) (ow hw 121 rfl) (ow hw 122 rfl) (ow hw 123 rfl) (ow hw 124 rfl) (by decide) (lenOf pd__28_5bBI_29C rfl) rfl rfl rfl (W := 0) rfl (by decide) (by decide) (by decide) (by decide) all0 rfl ?_
    intro T6 h6 v6 X6 K6 hQ6
    obtain rfl := hQ6
    show OGo _ _ _ _ T6 (mkF m 15 #[.val (.ref a), .val (.int 0)] [(.int ((StrChars.lo8 x0) &&& (255 : Int32)))])
    refine own_retC X6 d19_15 hret (own_fitC (own_lat8 _).1 (own_up8 (own_lat8 _).2)) (by decide) (by decide) ?_
    rw [StrChars.lo8_mask (bd _ (om 0 rfl)).1 (lat _ (om 0 rfl))]
  · -- coder 1
    have eA2 : Arv Z h0 t kt .byte (4 : Int32) [(.int (StrChars.lo8 x0)), (.int (StrChars.hi8 x0)), (.int (StrChars.lo8 x1)), (.int (StrChars.hi8 x1))] (.int 0) := eA
    refine og_aloadN X0 1 d19_0 rfl rfl rfl ?_
    refine own_virt X0 4 (a := a) (argsL := []) (rest := []) d19_1 eE (fun _ hZ => notFace_of_selects (args := #[]) (mvT hZ (ow hw 102 rfl))) (ru_isl1 l Z a0 hw n0 h0 hWd [] X0.old a eC ) (ow hw 99 rfl) (ow hw 100 rfl) (ow hw 102 rfl) (ow hw 101 rfl) (ow hw 3 rfl) (ow hw 103 rfl) (by decide) (lenOf pd__28_29Z rfl) rfl rfl rfl (W := 0) rfl (by decide) (by decide) (by decide) (by decide) all0 rfl ?_
    intro T7 h7 v7 X7 K7 hQ7
    obtain rfl := hQ7
    show OGo _ _ _ _ T7 (mkF m 4 #[.val (.ref a), .val (.int 0)] [(.int 0)])
    refine og_ifY X7 16 d19_4 (XT.i0_eq_t (by decide)) (by decide) (by decide) ?_
    refine og_aloadN X7 17 d19_16 rfl rfl rfl ?_
    have f8 := eV.keep K7 nin0
    refine own_get X7 20 d19_17 (host := "") (Or.inl (ow hw 20 rfl)) Via.refl f8 rfl ?_
    intro T9 X10
    refine og_iloadN X10 21 d19_20 rfl rfl ?_
    have f11 := eA2.keep K7 nin0
    refine own_stat X10 24 (argsL := [(.ref t), (.int 0)]) (rest := []) d19_21 (ru_uca2_0 l Z a0 hw n0 h7 hWd [] X10.old t kt (StrChars.lo8 x0) (StrChars.hi8 x0) (.int 0) (.int (StrChars.lo8 x1)) (.int (StrChars.hi8 x1)) f11 ) (ow hw 104 rfl) (ow hw 105 rfl) (ow hw 61 rfl) (ow hw 106 rfl) (by decide) (lenOf pd__28_5bBI_29C rfl) rfl rfl rfl (W := 0) rfl (by decide) (by decide) (by decide) (by decide) all0 rfl ?_
    intro T12 h12 v12 X12 K12 hQ12
    obtain rfl := hQ12
    show OGo _ _ _ _ T12 (mkF m 24 #[.val (.ref a), .val (.int 0)] [(.int (StrChars.pairCh (StrChars.lo8 x0) (StrChars.hi8 x0)))])
    refine own_retC X12 d19_24 hret (own_fitC (own_lat16 _).1 (own_lat16 _).2) (by decide) (by decide) ?_
    rw [StrChars.pair_says (bd _ (om 0 rfl)).1 (bd _ (om 0 rfl)).2]
set_option maxRecDepth 65536 in
set_option maxHeartbeats 40000000 in
theorem ru_lca2_1 (l : Launch) (Z : State) (a0 : Array Value) (hw : ∀ d ∈ tables_1, d.before a0 Z = true) (n0 : Nat) (h0 : Heap) (hWd : OWorld Z a0) (wc : List Jvm.Cond) (O0 : Old Z n0 h0) (b : Addr) (kb : ClassId) (u : Int32) (dv : Value) (e0 : Value) (q0 : Arv Z h0 b kb .byte (2 : Int32) [e0, (.int u)] dv) :
    OMet l Z own_EL n0 (⟨"java/lang/StringLatin1", "charAt", "([BI)C"⟩ : MethodName) (Jvm.Cond.code (⟨"java/lang/StringLatin1", "charAt", "([BI)C"⟩ : MethodName) jdk_43_method_2_code 2 (some .char) :: wc) ({ frames := 2, cells := 0, slots := 0, locals := 27 } : Room) #[(.ref b), (.int 1)] h0 [] (fun vq hq => vq = some (.int (u &&& (255 : Int32)))) := by
  refine own_enter #[.val (.ref b), .val (.int 1)] pn_java_lang_StringLatin1_charAt___BI_C (ef_ru_lca2_1 b kb u dv e0) hWd.1 O0 all0 ?_
  intro p e s m below meth c T0 X0 hnm hret
  refine og_iloadN X0 1 d26_0 rfl rfl ?_
  refine og_aloadN X0 2 d26_1 rfl rfl rfl ?_
  refine own_len X0 3 d26_2 q0 rfl ?_
  refine own_stat X0 6 (argsL := [(.int 1), (.int 2)]) (rest := []) d26_3 (ru_sci l Z a0 hw n0 h0 hWd [] X0.old (1 : Int32) (2 : Int32) (by decide) (by decide) ) (ow hw 125 rfl) (ow hw 114 rfl) (ow hw 3 rfl) (ow hw 115 rfl) (by decide) (lenOf pd__28II_29V rfl) rfl rfl rfl (W := 0) rfl (by decide) (by decide) (by decide) (by decide) all0 rfl ?_
  intro T1 h1 v1 X1 K1 hQ1
  obtain rfl := hQ1
  show OGo _ _ _ _ T1 (mkF m 6 #[.val (.ref b), .val (.int 1)] [])
  refine og_aloadN X1 7 d26_6 rfl rfl rfl ?_
  refine og_iloadN X1 8 d26_7 rfl rfl ?_
  have f2 := q0.keep K1 nin0
  refine own_ldB X1 9 d26_8 f2 (by decide) (by decide) rfl rfl ?_
  refine og_sipush X1 12 (255 : Int32) d26_9 rfl rfl ?_
  refine og_iand X1 13 d26_12 rfl ?_
  refine og_i2c8 X1 14 d26_13 rfl ?_
  refine own_retC X1 d26_14 hret (own_fitC (own_lat8 _).1 (own_up8 (own_lat8 _).2)) (by decide) (by decide) ?_
  exact rfl
set_option maxRecDepth 65536 in
set_option maxHeartbeats 40000000 in
theorem ru_uca2_1 (l : Launch) (Z : State) (a0 : Array Value) (hw : ∀ d ∈ tables_1, d.before a0 Z = true) (n0 : Nat) (h0 : Heap) (hWd : OWorld Z a0) (wc : List Jvm.Cond) (O0 : Old Z n0 h0) (b : Addr) (kb : ClassId) (u : Int32) (v : Int32) (dv : Value) (e0 : Value) (e1 : Value) (q0 : Arv Z h0 b kb .byte (4 : Int32) [e0, e1, (.int u), (.int v)] dv) :
    OMet l Z own_EL n0 (⟨"java/lang/StringUTF16", "charAt", "([BI)C"⟩ : MethodName) (Jvm.Cond.code (⟨"java/lang/StringUTF16", "charAt", "([BI)C"⟩ : MethodName) jdk_52_method_83_code 2 (some .char) :: wc) ({ frames := 3, cells := 0, slots := 0, locals := 40 } : Room) #[(.ref b), (.int 1)] h0 [] (fun vq hq => vq = some (.int (StrChars.pairCh u v))) := by
  refine own_enter #[.val (.ref b), .val (.int 1)] pn_java_lang_StringUTF16_charAt___BI_C (ef_ru_uca2_1 b kb u v dv e0 e1) hWd.1 O0 all0 ?_
  intro p e s m below meth c T0 X0 hnm hret
  refine og_iloadN X0 1 d21_0 rfl rfl ?_
  refine og_aloadN X0 2 d21_1 rfl rfl rfl ?_
  refine own_stat X0 5 (argsL := [(.int 1), (.ref b)]) (rest := []) d21_2 (ru_uci2 l Z a0 hw n0 h0 hWd [] X0.old b kb [e0, e1, (.int u), (.int v)] dv (1 : Int32) q0 (by decide) (by decide) ) (ow hw 107 rfl) (ow hw 108 rfl) (ow hw 61 rfl) (ow hw 109 rfl) (by decide) (lenOf pd__28I_5bB_29V rfl) rfl rfl rfl (W := 0) rfl (by decide) (by decide) (by decide) (by decide) all0 rfl ?_
  intro T1 h1 v1 X1 K1 hQ1
  obtain rfl := hQ1
  show OGo _ _ _ _ T1 (mkF m 5 #[.val (.ref b), .val (.int 1)] [])
  refine og_aloadN X1 6 d21_5 rfl rfl rfl ?_
  refine og_iloadN X1 7 d21_6 rfl rfl ?_
  have f2 := q0.keep K1 nin0
  refine own_stat X1 10 (argsL := [(.ref b), (.int 1)]) (rest := []) d21_7 (ru_get2_1 l Z a0 hw n0 h1 hWd [] X1.old b kb u v dv e0 e1 f2 ) (ow hw 82 rfl) (ow hw 83 rfl) (ow hw 61 rfl) (ow hw 84 rfl) (by decide) (lenOf pd__28_5bBI_29C rfl) rfl rfl rfl (W := 0) rfl (by decide) (by decide) (by decide) (by decide) all0 rfl ?_
  intro T3 h3 v3 X3 K3 hQ3
  obtain rfl := hQ3
  show OGo _ _ _ _ T3 (mkF m 10 #[.val (.ref b), .val (.int 1)] [(.int (StrChars.pairCh u v))])
  refine own_retC X3 d21_10 hret (own_fitC (own_lat16 _).1 (own_lat16 _).2) (by decide) (by decide) ?_
  exact rfl
set_option maxRecDepth 65536 in
set_option maxHeartbeats 40000000 in
theorem ru_ch2_1 (l : Launch) (Z : State) (a0 : Array Value) (hw : ∀ d ∈ tables_1, d.before a0 Z = true) (n0 : Nat) (h0 : Heap) (hWd : OWorld Z a0) (wc : List Jvm.Cond) (O0 : Old Z n0 h0) (a : Addr) (x0 : Int32) (x1 : Int32) (q0 : OStr Z h0 a [x0, x1] h0.size) :
    OMet l Z own_EL n0 (⟨"java/lang/String", "charAt", "(I)C"⟩ : MethodName) (Jvm.Cond.code (⟨"java/lang/String", "charAt", "(I)C"⟩ : MethodName) jdk_42_method_56_code 2 (some .char) :: wc) ({ frames := 4, cells := 0, slots := 0, locals := 53 } : Room) #[(.ref a), (.int 1)] h0 [] (fun vq hq => vq = some (.int x1)) := by
  refine own_enter #[.val (.ref a), .val (.int 1)] pn_java_lang_String_charAt__I_C (ef_ru_ch2_1 a x0 x1) hWd.1 O0 all0 ?_
  intro p e s m below meth c T0 X0 hnm hret
  obtain ⟨t, kt, cd, NN, vv, eE, eC, eV, eA, cod, bd, -⟩ := q0
  rcases cod with ⟨rfl, rfl, rfl, lat⟩ | ⟨rfl, rfl, rfl, wid⟩
  · -- coder 0
    have eA2 : Arv Z h0 t kt .byte (2 : Int32) [(.int (StrChars.lo8 x0)), (.int (StrChars.lo8 x1))] (.int 0) := eA
    refine og_aloadN X0 1 d19_0 rfl rfl rfl ?_
    refine own_virt X0 4 (a := a) (argsL := []) (rest := []) d19_1 eE (fun _ hZ => notFace_of_selects (args := #[]) (mvT hZ (ow hw 102 rfl))) (ru_isl0 l Z a0 hw n0 h0 hWd [] X0.old a eC ) (ow hw 99 rfl) (ow hw 100 rfl) (ow hw 102 rfl) (ow hw 101 rfl) (ow hw 3 rfl) (ow hw 103 rfl) (by decide) (lenOf pd__28_29Z rfl) rfl rfl rfl (W := 0) rfl (by decide) (by decide) (by decide) (by decide) all0 rfl ?_
    intro T1 h1 v1 X1 K1 hQ1
    obtain rfl := hQ1
    show OGo _ _ _ _ T1 (mkF m 4 #[.val (.ref a), .val (.int 1)] [(.int 1)])
    refine og_ifN X1 7 d19_4 (XT.i0_eq_f (by decide)) rfl ?_
    refine og_aloadN X1 8 d19_7 rfl rfl rfl ?_
    have f2 := eV.keep K1 nin0
    refine own_get X1 11 d19_8 (host := "") (Or.inl (ow hw 20 rfl)) Via.refl f2 rfl ?_
    intro T3 X4
    refine og_iloadN X4 12 d19_11 rfl rfl ?_
    have f5 := eA2.keep K1 nin0
    refine own_stat X4 15 (argsL := [(.ref t), (.int 1)]) (rest := []) d19_12 (ru_lca2_1 l Z a0 hw n0 h1 hWd [] X4.old t kt (StrChars.lo8 x1) (.int 0) (.int (StrChars.lo8 x0)) f5 ) (ow hw 121 rfl) (ow hw 122 rfl) (ow hw 123 rfl) (ow hw 124 rfl) (by decide) (lenOf pd__28_5bBI_29C rfl) rfl rfl rfl (W := 0) rfl (by decide) (by decide) (by decide) (by decide) all0 rfl ?_
    intro T6 h6 v6 X6 K6 hQ6
    obtain rfl := hQ6
    show OGo _ _ _ _ T6 (mkF m 15 #[.val (.ref a), .val (.int 1)] [(.int ((StrChars.lo8 x1) &&& (255 : Int32)))])
    refine own_retC X6 d19_15 hret (own_fitC (own_lat8 _).1 (own_up8 (own_lat8 _).2)) (by decide) (by decide) ?_
    rw [StrChars.lo8_mask (bd _ (om 1 rfl)).1 (lat _ (om 1 rfl))]
  · -- coder 1
    have eA2 : Arv Z h0 t kt .byte (4 : Int32) [(.int (StrChars.lo8 x0)), (.int (StrChars.hi8 x0)), (.int (StrChars.lo8 x1)), (.int (StrChars.hi8 x1))] (.int 0) := eA
    refine og_aloadN X0 1 d19_0 rfl rfl rfl ?_
    refine own_virt X0 4 (a := a) (argsL := []) (rest := []) d19_1 eE (fun _ hZ => notFace_of_selects (args := #[]) (mvT hZ (ow hw 102 rfl))) (ru_isl1 l Z a0 hw n0 h0 hWd [] X0.old a eC ) (ow hw 99 rfl) (ow hw 100 rfl) (ow hw 102 rfl) (ow hw 101 rfl) (ow hw 3 rfl) (ow hw 103 rfl) (by decide) (lenOf pd__28_29Z rfl) rfl rfl rfl (W := 0) rfl (by decide) (by decide) (by decide) (by decide) all0 rfl ?_
    intro T7 h7 v7 X7 K7 hQ7
    obtain rfl := hQ7
    show OGo _ _ _ _ T7 (mkF m 4 #[.val (.ref a), .val (.int 1)] [(.int 0)])
    refine og_ifY X7 16 d19_4 (XT.i0_eq_t (by decide)) (by decide) (by decide) ?_
    refine og_aloadN X7 17 d19_16 rfl rfl rfl ?_
    have f8 := eV.keep K7 nin0
    refine own_get X7 20 d19_17 (host := "") (Or.inl (ow hw 20 rfl)) Via.refl f8 rfl ?_
    intro T9 X10
    refine og_iloadN X10 21 d19_20 rfl rfl ?_
    have f11 := eA2.keep K7 nin0
    refine own_stat X10 24 (argsL := [(.ref t), (.int 1)]) (rest := []) d19_21 (ru_uca2_1 l Z a0 hw n0 h7 hWd [] X10.old t kt (StrChars.lo8 x1) (StrChars.hi8 x1) (.int 0) (.int (StrChars.lo8 x0)) (.int (StrChars.hi8 x0)) f11 ) (ow hw 104 rfl) (ow hw 105 rfl) (ow hw 61 rfl) (ow hw 106 rfl) (by decide) (lenOf pd__28_5bBI_29C rfl) rfl rfl rfl (W := 0) rfl (by decide) (by decide) (by decide) (by decide) all0 rfl ?_
    intro T12 h12 v12 X12 K12 hQ12
    obtain rfl := hQ12
    show OGo _ _ _ _ T12 (mkF m 24 #[.val (.ref a), .val (.int 1)] [(.int (StrChars.pairCh (StrChars.lo8 x1) (StrChars.hi8 x1)))])
    refine own_retC X12 d19_24 hret (own_fitC (own_lat16 _).1 (own_lat16 _).2) (by decide) (by decide) ?_
    rw [StrChars.pair_says (bd _ (om 1 rfl)).1 (bd _ (om 1 rfl)).2]
set_option maxRecDepth 65536 in
set_option maxHeartbeats 40000000 in
theorem ru_uci3 (l : Launch) (Z : State) (a0 : Array Value) (hw : ∀ d ∈ tables_1, d.before a0 Z = true) (n0 : Nat) (h0 : Heap) (hWd : OWorld Z a0) (wc : List Jvm.Cond) (O0 : Old Z n0 h0) (b : Addr) (kb : ClassId) (vs : List Value) (dv : Value) (x : Int32) (q0 : Arv Z h0 b kb .byte (6 : Int32) vs dv) (q1 : ¬ x < 0) (q2 : x < (3 : Int32)) :
    OMet l Z own_EL n0 (⟨"java/lang/StringUTF16", "checkIndex", "(I[B)V"⟩ : MethodName) (Jvm.Cond.code (⟨"java/lang/StringUTF16", "checkIndex", "(I[B)V"⟩ : MethodName) jdk_52_method_91_code 2 none :: wc) ({ frames := 2, cells := 0, slots := 0, locals := 27 } : Room) #[(.int x), (.ref b)] h0 [] (fun vq hq => vq = none) := by
  refine own_enter #[.val (.int x), .val (.ref b)] pn_java_lang_StringUTF16_checkIndex__I_B_V (ef_ru_uci3 b kb vs dv x) hWd.1 O0 all0 ?_
  intro p e s m below meth c T0 X0 hnm hret
  refine og_iloadN X0 1 d22_0 rfl rfl ?_
  refine og_aloadN X0 2 d22_1 rfl rfl rfl ?_
  refine own_stat X0 5 (argsL := [(.ref b)]) (rest := [(.int x)]) d22_2 (ru_len3 l Z a0 hw n0 h0 hWd [] X0.old b kb vs dv q0 ) (ow hw 110 rfl) (ow hw 111 rfl) (ow hw 61 rfl) (ow hw 112 rfl) (by decide) (lenOf pd__28_5bB_29I rfl) rfl rfl rfl (W := 1) rfl (by decide) (by decide) (by decide) (by decide) all0 rfl ?_
  intro T1 h1 v1 X1 K1 hQ1
  obtain rfl := hQ1
  show OGo _ _ _ _ T1 (mkF m 5 #[.val (.int x), .val (.ref b)] [(.int 3), (.int x)])
  refine own_stat X1 8 (argsL := [(.int x), (.int 3)]) (rest := []) d22_5 (ru_sci l Z a0 hw n0 h1 hWd [] X1.old x (3 : Int32) q1 q2 ) (ow hw 113 rfl) (ow hw 114 rfl) (ow hw 3 rfl) (ow hw 115 rfl) (by decide) (lenOf pd__28II_29V rfl) rfl rfl rfl (W := 0) rfl (by decide) (by decide) (by decide) (by decide) all0 rfl ?_
  intro T2 h2 v2 X2 K2 hQ2
  obtain rfl := hQ2
  show OGo _ _ _ _ T2 (mkF m 8 #[.val (.int x), .val (.ref b)] [])
  refine own_retV X2 d22_8 hret (by decide) (by decide) ?_
  exact rfl
set_option maxRecDepth 65536 in
set_option maxHeartbeats 40000000 in
theorem ru_lca3_0 (l : Launch) (Z : State) (a0 : Array Value) (hw : ∀ d ∈ tables_1, d.before a0 Z = true) (n0 : Nat) (h0 : Heap) (hWd : OWorld Z a0) (wc : List Jvm.Cond) (O0 : Old Z n0 h0) (b : Addr) (kb : ClassId) (u : Int32) (dv : Value) (e1 : Value) (e2 : Value) (q0 : Arv Z h0 b kb .byte (3 : Int32) [(.int u), e1, e2] dv) :
    OMet l Z own_EL n0 (⟨"java/lang/StringLatin1", "charAt", "([BI)C"⟩ : MethodName) (Jvm.Cond.code (⟨"java/lang/StringLatin1", "charAt", "([BI)C"⟩ : MethodName) jdk_43_method_2_code 2 (some .char) :: wc) ({ frames := 2, cells := 0, slots := 0, locals := 27 } : Room) #[(.ref b), (.int 0)] h0 [] (fun vq hq => vq = some (.int (u &&& (255 : Int32)))) := by
  refine own_enter #[.val (.ref b), .val (.int 0)] pn_java_lang_StringLatin1_charAt___BI_C (ef_ru_lca3_0 b kb u dv e1 e2) hWd.1 O0 all0 ?_
  intro p e s m below meth c T0 X0 hnm hret
  refine og_iloadN X0 1 d26_0 rfl rfl ?_
  refine og_aloadN X0 2 d26_1 rfl rfl rfl ?_
  refine own_len X0 3 d26_2 q0 rfl ?_
  refine own_stat X0 6 (argsL := [(.int 0), (.int 3)]) (rest := []) d26_3 (ru_sci l Z a0 hw n0 h0 hWd [] X0.old (0 : Int32) (3 : Int32) (by decide) (by decide) ) (ow hw 125 rfl) (ow hw 114 rfl) (ow hw 3 rfl) (ow hw 115 rfl) (by decide) (lenOf pd__28II_29V rfl) rfl rfl rfl (W := 0) rfl (by decide) (by decide) (by decide) (by decide) all0 rfl ?_
  intro T1 h1 v1 X1 K1 hQ1
  obtain rfl := hQ1
  show OGo _ _ _ _ T1 (mkF m 6 #[.val (.ref b), .val (.int 0)] [])
  refine og_aloadN X1 7 d26_6 rfl rfl rfl ?_
  refine og_iloadN X1 8 d26_7 rfl rfl ?_
  have f2 := q0.keep K1 nin0
  refine own_ldB X1 9 d26_8 f2 (by decide) (by decide) rfl rfl ?_
  refine og_sipush X1 12 (255 : Int32) d26_9 rfl rfl ?_
  refine og_iand X1 13 d26_12 rfl ?_
  refine og_i2c8 X1 14 d26_13 rfl ?_
  refine own_retC X1 d26_14 hret (own_fitC (own_lat8 _).1 (own_up8 (own_lat8 _).2)) (by decide) (by decide) ?_
  exact rfl
set_option maxRecDepth 65536 in
set_option maxHeartbeats 40000000 in
theorem ru_uca3_0 (l : Launch) (Z : State) (a0 : Array Value) (hw : ∀ d ∈ tables_1, d.before a0 Z = true) (n0 : Nat) (h0 : Heap) (hWd : OWorld Z a0) (wc : List Jvm.Cond) (O0 : Old Z n0 h0) (b : Addr) (kb : ClassId) (u : Int32) (v : Int32) (dv : Value) (e2 : Value) (e3 : Value) (e4 : Value) (e5 : Value) (q0 : Arv Z h0 b kb .byte (6 : Int32) [(.int u), (.int v), e2, e3, e4, e5] dv) :
    OMet l Z own_EL n0 (⟨"java/lang/StringUTF16", "charAt", "([BI)C"⟩ : MethodName) (Jvm.Cond.code (⟨"java/lang/StringUTF16", "charAt", "([BI)C"⟩ : MethodName) jdk_52_method_83_code 2 (some .char) :: wc) ({ frames := 3, cells := 0, slots := 0, locals := 40 } : Room) #[(.ref b), (.int 0)] h0 [] (fun vq hq => vq = some (.int (StrChars.pairCh u v))) := by
  refine own_enter #[.val (.ref b), .val (.int 0)] pn_java_lang_StringUTF16_charAt___BI_C (ef_ru_uca3_0 b kb u v dv e2 e3 e4 e5) hWd.1 O0 all0 ?_
  intro p e s m below meth c T0 X0 hnm hret
  refine og_iloadN X0 1 d21_0 rfl rfl ?_
  refine og_aloadN X0 2 d21_1 rfl rfl rfl ?_
  refine own_stat X0 5 (argsL := [(.int 0), (.ref b)]) (rest := []) d21_2 (ru_uci3 l Z a0 hw n0 h0 hWd [] X0.old b kb [(.int u), (.int v), e2, e3, e4, e5] dv (0 : Int32) q0 (by decide) (by decide) ) (ow hw 107 rfl) (ow hw 108 rfl) (ow hw 61 rfl) (ow hw 109 rfl) (by decide) (lenOf pd__28I_5bB_29V rfl) rfl rfl rfl (W := 0) rfl (by decide) (by decide) (by decide) (by decide) all0 rfl ?_
  intro T1 h1 v1 X1 K1 hQ1
  obtain rfl := hQ1
  show OGo _ _ _ _ T1 (mkF m 5 #[.val (.ref b), .val (.int 0)] [])
  refine og_aloadN X1 6 d21_5 rfl rfl rfl ?_
  refine og_iloadN X1 7 d21_6 rfl rfl ?_
  have f2 := q0.keep K1 nin0
  refine own_stat X1 10 (argsL := [(.ref b), (.int 0)]) (rest := []) d21_7 (ru_get3_0 l Z a0 hw n0 h1 hWd [] X1.old b kb u v dv e2 e3 e4 e5 f2 ) (ow hw 82 rfl) (ow hw 83 rfl) (ow hw 61 rfl) (ow hw 84 rfl) (by decide) (lenOf pd__28_5bBI_29C rfl) rfl rfl rfl (W := 0) rfl (by decide) (by decide) (by decide) (by decide) all0 rfl ?_
  intro T3 h3 v3 X3 K3 hQ3
  obtain rfl := hQ3
  show OGo _ _ _ _ T3 (mkF m 10 #[.val (.ref b), .val (.int 0)] [(.int (StrChars.pairCh u v))])
  refine own_retC X3 d21_10 hret (own_fitC (own_lat16 _).1 (own_lat16 _).2) (by decide) (by decide) ?_
  exact rfl
set_option maxRecDepth 65536 in
set_option maxHeartbeats 40000000 in
theorem ru_ch3_0 (l : Launch) (Z : State) (a0 : Array Value) (hw : ∀ d ∈ tables_1, d.before a0 Z = true) (n0 : Nat) (h0 : Heap) (hWd : OWorld Z a0) (wc : List Jvm.Cond) (O0 : Old Z n0 h0) (a : Addr) (x0 : Int32) (x1 : Int32) (x2 : Int32) (q0 : OStr Z h0 a [x0, x1, x2] h0.size) :
    OMet l Z own_EL n0 (⟨"java/lang/String", "charAt", "(I)C"⟩ : MethodName) (Jvm.Cond.code (⟨"java/lang/String", "charAt", "(I)C"⟩ : MethodName) jdk_42_method_56_code 2 (some .char) :: wc) ({ frames := 4, cells := 0, slots := 0, locals := 53 } : Room) #[(.ref a), (.int 0)] h0 [] (fun vq hq => vq = some (.int x0)) := by
  refine own_enter #[.val (.ref a), .val (.int 0)] pn_java_lang_String_charAt__I_C (ef_ru_ch3_0 a x0 x1 x2) hWd.1 O0 all0 ?_
  intro p e s m below meth c T0 X0 hnm hret
  obtain ⟨t, kt, cd, NN, vv, eE, eC, eV, eA, cod, bd, -⟩ := q0
  rcases cod with ⟨rfl, rfl, rfl, lat⟩ | ⟨rfl, rfl, rfl, wid⟩
  · -- coder 0
    have eA2 : Arv Z h0 t kt .byte (3 : Int32) [(.int (StrChars.lo8 x0)), (.int (StrChars.lo8 x1)), (.int (StrChars.lo8 x2))] (.int 0) := eA
    refine og_aloadN X0 1 d19_0 rfl rfl rfl ?_
    refine own_virt X0 4 (a := a) (argsL := []) (rest := []) d19_1 eE (fun _ hZ => notFace_of_selects (args := #[]) (mvT hZ (ow hw 102 rfl))) (ru_isl0 l Z a0 hw n0 h0 hWd [] X0.old a eC ) (ow hw 99 rfl) (ow hw 100 rfl) (ow hw 102 rfl) (ow hw 101 rfl) (ow hw 3 rfl) (ow hw 103 rfl) (by decide) (lenOf pd__28_29Z rfl) rfl rfl rfl (W := 0) rfl (by decide) (by decide) (by decide) (by decide) all0 rfl ?_
    intro T1 h1 v1 X1 K1 hQ1
    obtain rfl := hQ1
    show OGo _ _ _ _ T1 (mkF m 4 #[.val (.ref a), .val (.int 0)] [(.int 1)])
    refine og_ifN X1 7 d19_4 (XT.i0_eq_f (by decide)) rfl ?_
    refine og_aloadN X1 8 d19_7 rfl rfl rfl ?_
    have f2 := eV.keep K1 nin0
    refine own_get X1 11 d19_8 (host := "") (Or.inl (ow hw 20 rfl)) Via.refl f2 rfl ?_
    intro T3 X4
    refine og_iloadN X4 12 d19_11 rfl rfl ?_
    have f5 := eA2.keep K1 nin0
    refine own_stat X4 15 (argsL := [(.ref t), (.int 0)]) (rest := []) d19_12 (ru_lca3_0 l Z a0 hw n0 h1 hWd [] X4.old t kt (StrChars.lo8 x0) (.int 0) (.int (StrChars.lo8 x1)) (.int (StrChars.lo8 x2)) f5 ) (ow hw 121 rfl) (ow hw 122 rfl) (ow hw 123 rfl) (ow hw 124 rfl) (by decide) (lenOf pd__28_5bBI_29C rfl) rfl rfl rfl (W := 0) rfl (by decide) (by decide) (by decide) (by decide) all0 rfl ?_
    intro T6 h6 v6 X6 K6 hQ6
    obtain rfl := hQ6
    show OGo _ _ _ _ T6 (mkF m 15 #[.val (.ref a), .val (.int 0)] [(.int ((StrChars.lo8 x0) &&& (255 : Int32)))])
    refine own_retC X6 d19_15 hret (own_fitC (own_lat8 _).1 (own_up8 (own_lat8 _).2)) (by decide) (by decide) ?_
    rw [StrChars.lo8_mask (bd _ (om 0 rfl)).1 (lat _ (om 0 rfl))]
  · -- coder 1
    have eA2 : Arv Z h0 t kt .byte (6 : Int32) [(.int (StrChars.lo8 x0)), (.int (StrChars.hi8 x0)), (.int (StrChars.lo8 x1)), (.int (StrChars.hi8 x1)), (.int (StrChars.lo8 x2)), (.int (StrChars.hi8 x2))] (.int 0) := eA
    refine og_aloadN X0 1 d19_0 rfl rfl rfl ?_
    refine own_virt X0 4 (a := a) (argsL := []) (rest := []) d19_1 eE (fun _ hZ => notFace_of_selects (args := #[]) (mvT hZ (ow hw 102 rfl))) (ru_isl1 l Z a0 hw n0 h0 hWd [] X0.old a eC ) (ow hw 99 rfl) (ow hw 100 rfl) (ow hw 102 rfl) (ow hw 101 rfl) (ow hw 3 rfl) (ow hw 103 rfl) (by decide) (lenOf pd__28_29Z rfl) rfl rfl rfl (W := 0) rfl (by decide) (by decide) (by decide) (by decide) all0 rfl ?_
    intro T7 h7 v7 X7 K7 hQ7
    obtain rfl := hQ7
    show OGo _ _ _ _ T7 (mkF m 4 #[.val (.ref a), .val (.int 0)] [(.int 0)])
    refine og_ifY X7 16 d19_4 (XT.i0_eq_t (by decide)) (by decide) (by decide) ?_
    refine og_aloadN X7 17 d19_16 rfl rfl rfl ?_
    have f8 := eV.keep K7 nin0
    refine own_get X7 20 d19_17 (host := "") (Or.inl (ow hw 20 rfl)) Via.refl f8 rfl ?_
    intro T9 X10
    refine og_iloadN X10 21 d19_20 rfl rfl ?_
    have f11 := eA2.keep K7 nin0
    refine own_stat X10 24 (argsL := [(.ref t), (.int 0)]) (rest := []) d19_21 (ru_uca3_0 l Z a0 hw n0 h7 hWd [] X10.old t kt (StrChars.lo8 x0) (StrChars.hi8 x0) (.int 0) (.int (StrChars.lo8 x1)) (.int (StrChars.hi8 x1)) (.int (StrChars.lo8 x2)) (.int (StrChars.hi8 x2)) f11 ) (ow hw 104 rfl) (ow hw 105 rfl) (ow hw 61 rfl) (ow hw 106 rfl) (by decide) (lenOf pd__28_5bBI_29C rfl) rfl rfl rfl (W := 0) rfl (by decide) (by decide) (by decide) (by decide) all0 rfl ?_
    intro T12 h12 v12 X12 K12 hQ12
    obtain rfl := hQ12
    show OGo _ _ _ _ T12 (mkF m 24 #[.val (.ref a), .val (.int 0)] [(.int (StrChars.pairCh (StrChars.lo8 x0) (StrChars.hi8 x0)))])
    refine own_retC X12 d19_24 hret (own_fitC (own_lat16 _).1 (own_lat16 _).2) (by decide) (by decide) ?_
    rw [StrChars.pair_says (bd _ (om 0 rfl)).1 (bd _ (om 0 rfl)).2]
set_option maxRecDepth 65536 in
set_option maxHeartbeats 40000000 in
theorem ru_lca3_1 (l : Launch) (Z : State) (a0 : Array Value) (hw : ∀ d ∈ tables_1, d.before a0 Z = true) (n0 : Nat) (h0 : Heap) (hWd : OWorld Z a0) (wc : List Jvm.Cond) (O0 : Old Z n0 h0) (b : Addr) (kb : ClassId) (u : Int32) (dv : Value) (e0 : Value) (e2 : Value) (q0 : Arv Z h0 b kb .byte (3 : Int32) [e0, (.int u), e2] dv) :
    OMet l Z own_EL n0 (⟨"java/lang/StringLatin1", "charAt", "([BI)C"⟩ : MethodName) (Jvm.Cond.code (⟨"java/lang/StringLatin1", "charAt", "([BI)C"⟩ : MethodName) jdk_43_method_2_code 2 (some .char) :: wc) ({ frames := 2, cells := 0, slots := 0, locals := 27 } : Room) #[(.ref b), (.int 1)] h0 [] (fun vq hq => vq = some (.int (u &&& (255 : Int32)))) := by
  refine own_enter #[.val (.ref b), .val (.int 1)] pn_java_lang_StringLatin1_charAt___BI_C (ef_ru_lca3_1 b kb u dv e0 e2) hWd.1 O0 all0 ?_
  intro p e s m below meth c T0 X0 hnm hret
  refine og_iloadN X0 1 d26_0 rfl rfl ?_
  refine og_aloadN X0 2 d26_1 rfl rfl rfl ?_
  refine own_len X0 3 d26_2 q0 rfl ?_
  refine own_stat X0 6 (argsL := [(.int 1), (.int 3)]) (rest := []) d26_3 (ru_sci l Z a0 hw n0 h0 hWd [] X0.old (1 : Int32) (3 : Int32) (by decide) (by decide) ) (ow hw 125 rfl) (ow hw 114 rfl) (ow hw 3 rfl) (ow hw 115 rfl) (by decide) (lenOf pd__28II_29V rfl) rfl rfl rfl (W := 0) rfl (by decide) (by decide) (by decide) (by decide) all0 rfl ?_
  intro T1 h1 v1 X1 K1 hQ1
  obtain rfl := hQ1
  show OGo _ _ _ _ T1 (mkF m 6 #[.val (.ref b), .val (.int 1)] [])
  refine og_aloadN X1 7 d26_6 rfl rfl rfl ?_
  refine og_iloadN X1 8 d26_7 rfl rfl ?_
  have f2 := q0.keep K1 nin0
  refine own_ldB X1 9 d26_8 f2 (by decide) (by decide) rfl rfl ?_
  refine og_sipush X1 12 (255 : Int32) d26_9 rfl rfl ?_
  refine og_iand X1 13 d26_12 rfl ?_
  refine og_i2c8 X1 14 d26_13 rfl ?_
  refine own_retC X1 d26_14 hret (own_fitC (own_lat8 _).1 (own_up8 (own_lat8 _).2)) (by decide) (by decide) ?_
  exact rfl
set_option maxRecDepth 65536 in
set_option maxHeartbeats 40000000 in
theorem ru_uca3_1 (l : Launch) (Z : State) (a0 : Array Value) (hw : ∀ d ∈ tables_1, d.before a0 Z = true) (n0 : Nat) (h0 : Heap) (hWd : OWorld Z a0) (wc : List Jvm.Cond) (O0 : Old Z n0 h0) (b : Addr) (kb : ClassId) (u : Int32) (v : Int32) (dv : Value) (e0 : Value) (e1 : Value) (e4 : Value) (e5 : Value) (q0 : Arv Z h0 b kb .byte (6 : Int32) [e0, e1, (.int u), (.int v), e4, e5] dv) :
    OMet l Z own_EL n0 (⟨"java/lang/StringUTF16", "charAt", "([BI)C"⟩ : MethodName) (Jvm.Cond.code (⟨"java/lang/StringUTF16", "charAt", "([BI)C"⟩ : MethodName) jdk_52_method_83_code 2 (some .char) :: wc) ({ frames := 3, cells := 0, slots := 0, locals := 40 } : Room) #[(.ref b), (.int 1)] h0 [] (fun vq hq => vq = some (.int (StrChars.pairCh u v))) := by
  refine own_enter #[.val (.ref b), .val (.int 1)] pn_java_lang_StringUTF16_charAt___BI_C (ef_ru_uca3_1 b kb u v dv e0 e1 e4 e5) hWd.1 O0 all0 ?_
  intro p e s m below meth c T0 X0 hnm hret
  refine og_iloadN X0 1 d21_0 rfl rfl ?_
  refine og_aloadN X0 2 d21_1 rfl rfl rfl ?_
  refine own_stat X0 5 (argsL := [(.int 1), (.ref b)]) (rest := []) d21_2 (ru_uci3 l Z a0 hw n0 h0 hWd [] X0.old b kb [e0, e1, (.int u), (.int v), e4, e5] dv (1 : Int32) q0 (by decide) (by decide) ) (ow hw 107 rfl) (ow hw 108 rfl) (ow hw 61 rfl) (ow hw 109 rfl) (by decide) (lenOf pd__28I_5bB_29V rfl) rfl rfl rfl (W := 0) rfl (by decide) (by decide) (by decide) (by decide) all0 rfl ?_
  intro T1 h1 v1 X1 K1 hQ1
  obtain rfl := hQ1
  show OGo _ _ _ _ T1 (mkF m 5 #[.val (.ref b), .val (.int 1)] [])
  refine og_aloadN X1 6 d21_5 rfl rfl rfl ?_
  refine og_iloadN X1 7 d21_6 rfl rfl ?_
  have f2 := q0.keep K1 nin0
  refine own_stat X1 10 (argsL := [(.ref b), (.int 1)]) (rest := []) d21_7 (ru_get3_1 l Z a0 hw n0 h1 hWd [] X1.old b kb u v dv e0 e1 e4 e5 f2 ) (ow hw 82 rfl) (ow hw 83 rfl) (ow hw 61 rfl) (ow hw 84 rfl) (by decide) (lenOf pd__28_5bBI_29C rfl) rfl rfl rfl (W := 0) rfl (by decide) (by decide) (by decide) (by decide) all0 rfl ?_
  intro T3 h3 v3 X3 K3 hQ3
  obtain rfl := hQ3
  show OGo _ _ _ _ T3 (mkF m 10 #[.val (.ref b), .val (.int 1)] [(.int (StrChars.pairCh u v))])
  refine own_retC X3 d21_10 hret (own_fitC (own_lat16 _).1 (own_lat16 _).2) (by decide) (by decide) ?_
  exact rfl
set_option maxRecDepth 65536 in
set_option maxHeartbeats 40000000 in
theorem ru_ch3_1 (l : Launch) (Z : State) (a0 : Array Value) (hw : ∀ d ∈ tables_1, d.before a0 Z = true) (n0 : Nat) (h0 : Heap) (hWd : OWorld Z a0) (wc : List Jvm.Cond) (O0 : Old Z n0 h0) (a : Addr) (x0 : Int32) (x1 : Int32) (x2 : Int32) (q0 : OStr Z h0 a [x0, x1, x2] h0.size) :
    OMet l Z own_EL n0 (⟨"java/lang/String", "charAt", "(I)C"⟩ : MethodName) (Jvm.Cond.code (⟨"java/lang/String", "charAt", "(I)C"⟩ : MethodName) jdk_42_method_56_code 2 (some .char) :: wc) ({ frames := 4, cells := 0, slots := 0, locals := 53 } : Room) #[(.ref a), (.int 1)] h0 [] (fun vq hq => vq = some (.int x1)) := by
  refine own_enter #[.val (.ref a), .val (.int 1)] pn_java_lang_String_charAt__I_C (ef_ru_ch3_1 a x0 x1 x2) hWd.1 O0 all0 ?_
  intro p e s m below meth c T0 X0 hnm hret
  obtain ⟨t, kt, cd, NN, vv, eE, eC, eV, eA, cod, bd, -⟩ := q0
  rcases cod with ⟨rfl, rfl, rfl, lat⟩ | ⟨rfl, rfl, rfl, wid⟩
  · -- coder 0
    have eA2 : Arv Z h0 t kt .byte (3 : Int32) [(.int (StrChars.lo8 x0)), (.int (StrChars.lo8 x1)), (.int (StrChars.lo8 x2))] (.int 0) := eA
    refine og_aloadN X0 1 d19_0 rfl rfl rfl ?_
    refine own_virt X0 4 (a := a) (argsL := []) (rest := []) d19_1 eE (fun _ hZ => notFace_of_selects (args := #[]) (mvT hZ (ow hw 102 rfl))) (ru_isl0 l Z a0 hw n0 h0 hWd [] X0.old a eC ) (ow hw 99 rfl) (ow hw 100 rfl) (ow hw 102 rfl) (ow hw 101 rfl) (ow hw 3 rfl) (ow hw 103 rfl) (by decide) (lenOf pd__28_29Z rfl) rfl rfl rfl (W := 0) rfl (by decide) (by decide) (by decide) (by decide) all0 rfl ?_
    intro T1 h1 v1 X1 K1 hQ1
    obtain rfl := hQ1
    show OGo _ _ _ _ T1 (mkF m 4 #[.val (.ref a), .val (.int 1)] [(.int 1)])
    refine og_ifN X1 7 d19_4 (XT.i0_eq_f (by decide)) rfl ?_
    refine og_aloadN X1 8 d19_7 rfl rfl rfl ?_
    have f2 := eV.keep K1 nin0
    refine own_get X1 11 d19_8 (host := "") (Or.inl (ow hw 20 rfl)) Via.refl f2 rfl ?_
    intro T3 X4
    refine og_iloadN X4 12 d19_11 rfl rfl ?_
    have f5 := eA2.keep K1 nin0
    refine own_stat X4 15 (argsL := [(.ref t), (.int 1)]) (rest := []) d19_12 (ru_lca3_1 l Z a0 hw n0 h1 hWd [] X4.old t kt (StrChars.lo8 x1) (.int 0) (.int (StrChars.lo8 x0)) (.int (StrChars.lo8 x2)) f5 ) (ow hw 121 rfl) (ow hw 122 rfl) (ow hw 123 rfl) (ow hw 124 rfl) (by decide) (lenOf pd__28_5bBI_29C rfl) rfl rfl rfl (W := 0) rfl (by decide) (by decide) (by decide) (by decide) all0 rfl ?_
    intro T6 h6 v6 X6 K6 hQ6
    obtain rfl := hQ6
    show OGo _ _ _ _ T6 (mkF m 15 #[.val (.ref a), .val (.int 1)] [(.int ((StrChars.lo8 x1) &&& (255 : Int32)))])
    refine own_retC X6 d19_15 hret (own_fitC (own_lat8 _).1 (own_up8 (own_lat8 _).2)) (by decide) (by decide) ?_
    rw [StrChars.lo8_mask (bd _ (om 1 rfl)).1 (lat _ (om 1 rfl))]
  · -- coder 1
    have eA2 : Arv Z h0 t kt .byte (6 : Int32) [(.int (StrChars.lo8 x0)), (.int (StrChars.hi8 x0)), (.int (StrChars.lo8 x1)), (.int (StrChars.hi8 x1)), (.int (StrChars.lo8 x2)), (.int (StrChars.hi8 x2))] (.int 0) := eA
    refine og_aloadN X0 1 d19_0 rfl rfl rfl ?_
    refine own_virt X0 4 (a := a) (argsL := []) (rest := []) d19_1 eE (fun _ hZ => notFace_of_selects (args := #[]) (mvT hZ (ow hw 102 rfl))) (ru_isl1 l Z a0 hw n0 h0 hWd [] X0.old a eC ) (ow hw 99 rfl) (ow hw 100 rfl) (ow hw 102 rfl) (ow hw 101 rfl) (ow hw 3 rfl) (ow hw 103 rfl) (by decide) (lenOf pd__28_29Z rfl) rfl rfl rfl (W := 0) rfl (by decide) (by decide) (by decide) (by decide) all0 rfl ?_
    intro T7 h7 v7 X7 K7 hQ7
    obtain rfl := hQ7
    show OGo _ _ _ _ T7 (mkF m 4 #[.val (.ref a), .val (.int 1)] [(.int 0)])
    refine og_ifY X7 16 d19_4 (XT.i0_eq_t (by decide)) (by decide) (by decide) ?_
    refine og_aloadN X7 17 d19_16 rfl rfl rfl ?_
    have f8 := eV.keep K7 nin0
    refine own_get X7 20 d19_17 (host := "") (Or.inl (ow hw 20 rfl)) Via.refl f8 rfl ?_
    intro T9 X10
    refine og_iloadN X10 21 d19_20 rfl rfl ?_
    have f11 := eA2.keep K7 nin0
    refine own_stat X10 24 (argsL := [(.ref t), (.int 1)]) (rest := []) d19_21 (ru_uca3_1 l Z a0 hw n0 h7 hWd [] X10.old t kt (StrChars.lo8 x1) (StrChars.hi8 x1) (.int 0) (.int (StrChars.lo8 x0)) (.int (StrChars.hi8 x0)) (.int (StrChars.lo8 x2)) (.int (StrChars.hi8 x2)) f11 ) (ow hw 104 rfl) (ow hw 105 rfl) (ow hw 61 rfl) (ow hw 106 rfl) (by decide) (lenOf pd__28_5bBI_29C rfl) rfl rfl rfl (W := 0) rfl (by decide) (by decide) (by decide) (by decide) all0 rfl ?_
    intro T12 h12 v12 X12 K12 hQ12
    obtain rfl := hQ12
    show OGo _ _ _ _ T12 (mkF m 24 #[.val (.ref a), .val (.int 1)] [(.int (StrChars.pairCh (StrChars.lo8 x1) (StrChars.hi8 x1)))])
    refine own_retC X12 d19_24 hret (own_fitC (own_lat16 _).1 (own_lat16 _).2) (by decide) (by decide) ?_
    rw [StrChars.pair_says (bd _ (om 1 rfl)).1 (bd _ (om 1 rfl)).2]
set_option maxRecDepth 65536 in
set_option maxHeartbeats 40000000 in
theorem ru_lca3_2 (l : Launch) (Z : State) (a0 : Array Value) (hw : ∀ d ∈ tables_1, d.before a0 Z = true) (n0 : Nat) (h0 : Heap) (hWd : OWorld Z a0) (wc : List Jvm.Cond) (O0 : Old Z n0 h0) (b : Addr) (kb : ClassId) (u : Int32) (dv : Value) (e0 : Value) (e1 : Value) (q0 : Arv Z h0 b kb .byte (3 : Int32) [e0, e1, (.int u)] dv) :
    OMet l Z own_EL n0 (⟨"java/lang/StringLatin1", "charAt", "([BI)C"⟩ : MethodName) (Jvm.Cond.code (⟨"java/lang/StringLatin1", "charAt", "([BI)C"⟩ : MethodName) jdk_43_method_2_code 2 (some .char) :: wc) ({ frames := 2, cells := 0, slots := 0, locals := 27 } : Room) #[(.ref b), (.int 2)] h0 [] (fun vq hq => vq = some (.int (u &&& (255 : Int32)))) := by
  refine own_enter #[.val (.ref b), .val (.int 2)] pn_java_lang_StringLatin1_charAt___BI_C (ef_ru_lca3_2 b kb u dv e0 e1) hWd.1 O0 all0 ?_
  intro p e s m below meth c T0 X0 hnm hret
  refine og_iloadN X0 1 d26_0 rfl rfl ?_
  refine og_aloadN X0 2 d26_1 rfl rfl rfl ?_
  refine own_len X0 3 d26_2 q0 rfl ?_
  refine own_stat X0 6 (argsL := [(.int 2), (.int 3)]) (rest := []) d26_3 (ru_sci l Z a0 hw n0 h0 hWd [] X0.old (2 : Int32) (3 : Int32) (by decide) (by decide) ) (ow hw 125 rfl) (ow hw 114 rfl) (ow hw 3 rfl) (ow hw 115 rfl) (by decide) (lenOf pd__28II_29V rfl) rfl rfl rfl (W := 0) rfl (by decide) (by decide) (by decide) (by decide) all0 rfl ?_
  intro T1 h1 v1 X1 K1 hQ1
  obtain rfl := hQ1
  show OGo _ _ _ _ T1 (mkF m 6 #[.val (.ref b), .val (.int 2)] [])
  refine og_aloadN X1 7 d26_6 rfl rfl rfl ?_
  refine og_iloadN X1 8 d26_7 rfl rfl ?_
  have f2 := q0.keep K1 nin0
  refine own_ldB X1 9 d26_8 f2 (by decide) (by decide) rfl rfl ?_
  refine og_sipush X1 12 (255 : Int32) d26_9 rfl rfl ?_
  refine og_iand X1 13 d26_12 rfl ?_
  refine og_i2c8 X1 14 d26_13 rfl ?_
  refine own_retC X1 d26_14 hret (own_fitC (own_lat8 _).1 (own_up8 (own_lat8 _).2)) (by decide) (by decide) ?_
  exact rfl
set_option maxRecDepth 65536 in
set_option maxHeartbeats 40000000 in
theorem ru_uca3_2 (l : Launch) (Z : State) (a0 : Array Value) (hw : ∀ d ∈ tables_1, d.before a0 Z = true) (n0 : Nat) (h0 : Heap) (hWd : OWorld Z a0) (wc : List Jvm.Cond) (O0 : Old Z n0 h0) (b : Addr) (kb : ClassId) (u : Int32) (v : Int32) (dv : Value) (e0 : Value) (e1 : Value) (e2 : Value) (e3 : Value) (q0 : Arv Z h0 b kb .byte (6 : Int32) [e0, e1, e2, e3, (.int u), (.int v)] dv) :
    OMet l Z own_EL n0 (⟨"java/lang/StringUTF16", "charAt", "([BI)C"⟩ : MethodName) (Jvm.Cond.code (⟨"java/lang/StringUTF16", "charAt", "([BI)C"⟩ : MethodName) jdk_52_method_83_code 2 (some .char) :: wc) ({ frames := 3, cells := 0, slots := 0, locals := 40 } : Room) #[(.ref b), (.int 2)] h0 [] (fun vq hq => vq = some (.int (StrChars.pairCh u v))) := by
  refine own_enter #[.val (.ref b), .val (.int 2)] pn_java_lang_StringUTF16_charAt___BI_C (ef_ru_uca3_2 b kb u v dv e0 e1 e2 e3) hWd.1 O0 all0 ?_
  intro p e s m below meth c T0 X0 hnm hret
  refine og_iloadN X0 1 d21_0 rfl rfl ?_
  refine og_aloadN X0 2 d21_1 rfl rfl rfl ?_
  refine own_stat X0 5 (argsL := [(.int 2), (.ref b)]) (rest := []) d21_2 (ru_uci3 l Z a0 hw n0 h0 hWd [] X0.old b kb [e0, e1, e2, e3, (.int u), (.int v)] dv (2 : Int32) q0 (by decide) (by decide) ) (ow hw 107 rfl) (ow hw 108 rfl) (ow hw 61 rfl) (ow hw 109 rfl) (by decide) (lenOf pd__28I_5bB_29V rfl) rfl rfl rfl (W := 0) rfl (by decide) (by decide) (by decide) (by decide) all0 rfl ?_
  intro T1 h1 v1 X1 K1 hQ1
  obtain rfl := hQ1
  show OGo _ _ _ _ T1 (mkF m 5 #[.val (.ref b), .val (.int 2)] [])
  refine og_aloadN X1 6 d21_5 rfl rfl rfl ?_
  refine og_iloadN X1 7 d21_6 rfl rfl ?_
  have f2 := q0.keep K1 nin0
  refine own_stat X1 10 (argsL := [(.ref b), (.int 2)]) (rest := []) d21_7 (ru_get3_2 l Z a0 hw n0 h1 hWd [] X1.old b kb u v dv e0 e1 e2 e3 f2 ) (ow hw 82 rfl) (ow hw 83 rfl) (ow hw 61 rfl) (ow hw 84 rfl) (by decide) (lenOf pd__28_5bBI_29C rfl) rfl rfl rfl (W := 0) rfl (by decide) (by decide) (by decide) (by decide) all0 rfl ?_
  intro T3 h3 v3 X3 K3 hQ3
  obtain rfl := hQ3
  show OGo _ _ _ _ T3 (mkF m 10 #[.val (.ref b), .val (.int 2)] [(.int (StrChars.pairCh u v))])
  refine own_retC X3 d21_10 hret (own_fitC (own_lat16 _).1 (own_lat16 _).2) (by decide) (by decide) ?_
  exact rfl
set_option maxRecDepth 65536 in
set_option maxHeartbeats 40000000 in
theorem ru_ch3_2 (l : Launch) (Z : State) (a0 : Array Value) (hw : ∀ d ∈ tables_1, d.before a0 Z = true) (n0 : Nat) (h0 : Heap) (hWd : OWorld Z a0) (wc : List Jvm.Cond) (O0 : Old Z n0 h0) (a : Addr) (x0 : Int32) (x1 : Int32) (x2 : Int32) (q0 : OStr Z h0 a [x0, x1, x2] h0.size) :
    OMet l Z own_EL n0 (⟨"java/lang/String", "charAt", "(I)C"⟩ : MethodName) (Jvm.Cond.code (⟨"java/lang/String", "charAt", "(I)C"⟩ : MethodName) jdk_42_method_56_code 2 (some .char) :: wc) ({ frames := 4, cells := 0, slots := 0, locals := 53 } : Room) #[(.ref a), (.int 2)] h0 [] (fun vq hq => vq = some (.int x2)) := by
  refine own_enter #[.val (.ref a), .val (.int 2)] pn_java_lang_String_charAt__I_C (ef_ru_ch3_2 a x0 x1 x2) hWd.1 O0 all0 ?_
  intro p e s m below meth c T0 X0 hnm hret
  obtain ⟨t, kt, cd, NN, vv, eE, eC, eV, eA, cod, bd, -⟩ := q0
  rcases cod with ⟨rfl, rfl, rfl, lat⟩ | ⟨rfl, rfl, rfl, wid⟩
  · -- coder 0
    have eA2 : Arv Z h0 t kt .byte (3 : Int32) [(.int (StrChars.lo8 x0)), (.int (StrChars.lo8 x1)), (.int (StrChars.lo8 x2))] (.int 0) := eA
    refine og_aloadN X0 1 d19_0 rfl rfl rfl ?_
    refine own_virt X0 4 (a := a) (argsL := []) (rest := []) d19_1 eE (fun _ hZ => notFace_of_selects (args := #[]) (mvT hZ (ow hw 102 rfl))) (ru_isl0 l Z a0 hw n0 h0 hWd [] X0.old a eC ) (ow hw 99 rfl) (ow hw 100 rfl) (ow hw 102 rfl) (ow hw 101 rfl) (ow hw 3 rfl) (ow hw 103 rfl) (by decide) (lenOf pd__28_29Z rfl) rfl rfl rfl (W := 0) rfl (by decide) (by decide) (by decide) (by decide) all0 rfl ?_
    intro T1 h1 v1 X1 K1 hQ1
    obtain rfl := hQ1
    show OGo _ _ _ _ T1 (mkF m 4 #[.val (.ref a), .val (.int 2)] [(.int 1)])
    refine og_ifN X1 7 d19_4 (XT.i0_eq_f (by decide)) rfl ?_
    refine og_aloadN X1 8 d19_7 rfl rfl rfl ?_
    have f2 := eV.keep K1 nin0
    refine own_get X1 11 d19_8 (host := "") (Or.inl (ow hw 20 rfl)) Via.refl f2 rfl ?_
    intro T3 X4
    refine og_iloadN X4 12 d19_11 rfl rfl ?_
    have f5 := eA2.keep K1 nin0
    refine own_stat X4 15 (argsL := [(.ref t), (.int 2)]) (rest := []) d19_12 (ru_lca3_2 l Z a0 hw n0 h1 hWd [] X4.old t kt (StrChars.lo8 x2) (.int 0) (.int (StrChars.lo8 x0)) (.int (StrChars.lo8 x1)) f5 ) (ow hw 121 rfl) (ow hw 122 rfl) (ow hw 123 rfl) (ow hw 124 rfl) (by decide) (lenOf pd__28_5bBI_29C rfl) rfl rfl rfl (W := 0) rfl (by decide) (by decide) (by decide) (by decide) all0 rfl ?_
    intro T6 h6 v6 X6 K6 hQ6
    obtain rfl := hQ6
    show OGo _ _ _ _ T6 (mkF m 15 #[.val (.ref a), .val (.int 2)] [(.int ((StrChars.lo8 x2) &&& (255 : Int32)))])
    refine own_retC X6 d19_15 hret (own_fitC (own_lat8 _).1 (own_up8 (own_lat8 _).2)) (by decide) (by decide) ?_
    rw [StrChars.lo8_mask (bd _ (om 2 rfl)).1 (lat _ (om 2 rfl))]
  · -- coder 1
    have eA2 : Arv Z h0 t kt .byte (6 : Int32) [(.int (StrChars.lo8 x0)), (.int (StrChars.hi8 x0)), (.int (StrChars.lo8 x1)), (.int (StrChars.hi8 x1)), (.int (StrChars.lo8 x2)), (.int (StrChars.hi8 x2))] (.int 0) := eA
    refine og_aloadN X0 1 d19_0 rfl rfl rfl ?_
    refine own_virt X0 4 (a := a) (argsL := []) (rest := []) d19_1 eE (fun _ hZ => notFace_of_selects (args := #[]) (mvT hZ (ow hw 102 rfl))) (ru_isl1 l Z a0 hw n0 h0 hWd [] X0.old a eC ) (ow hw 99 rfl) (ow hw 100 rfl) (ow hw 102 rfl) (ow hw 101 rfl) (ow hw 3 rfl) (ow hw 103 rfl) (by decide) (lenOf pd__28_29Z rfl) rfl rfl rfl (W := 0) rfl (by decide) (by decide) (by decide) (by decide) all0 rfl ?_
    intro T7 h7 v7 X7 K7 hQ7
    obtain rfl := hQ7
    show OGo _ _ _ _ T7 (mkF m 4 #[.val (.ref a), .val (.int 2)] [(.int 0)])
    refine og_ifY X7 16 d19_4 (XT.i0_eq_t (by decide)) (by decide) (by decide) ?_
    refine og_aloadN X7 17 d19_16 rfl rfl rfl ?_
    have f8 := eV.keep K7 nin0
    refine own_get X7 20 d19_17 (host := "") (Or.inl (ow hw 20 rfl)) Via.refl f8 rfl ?_
    intro T9 X10
    refine og_iloadN X10 21 d19_20 rfl rfl ?_
    have f11 := eA2.keep K7 nin0
    refine own_stat X10 24 (argsL := [(.ref t), (.int 2)]) (rest := []) d19_21 (ru_uca3_2 l Z a0 hw n0 h7 hWd [] X10.old t kt (StrChars.lo8 x2) (StrChars.hi8 x2) (.int 0) (.int (StrChars.lo8 x0)) (.int (StrChars.hi8 x0)) (.int (StrChars.lo8 x1)) (.int (StrChars.hi8 x1)) f11 ) (ow hw 104 rfl) (ow hw 105 rfl) (ow hw 61 rfl) (ow hw 106 rfl) (by decide) (lenOf pd__28_5bBI_29C rfl) rfl rfl rfl (W := 0) rfl (by decide) (by decide) (by decide) (by decide) all0 rfl ?_
    intro T12 h12 v12 X12 K12 hQ12
    obtain rfl := hQ12
    show OGo _ _ _ _ T12 (mkF m 24 #[.val (.ref a), .val (.int 2)] [(.int (StrChars.pairCh (StrChars.lo8 x2) (StrChars.hi8 x2)))])
    refine own_retC X12 d19_24 hret (own_fitC (own_lat16 _).1 (own_lat16 _).2) (by decide) (by decide) ?_
    rw [StrChars.pair_says (bd _ (om 2 rfl)).1 (bd _ (om 2 rfl)).2]
set_option maxRecDepth 65536 in
set_option maxHeartbeats 40000000 in
theorem rm4 (l : Launch) (Z : State) (a0 : Array Value) (hw : ∀ d ∈ tables_1, d.before a0 Z = true) (n0 : Nat) (h0 : Heap) (hWd : OWorld Z a0) (wc : List Jvm.Cond) (O0 : Old Z n0 h0) (a : Addr) (u : Addr) (v : Addr) (q0 : Exa Z h0 a "com/example/bote/bote/fields/FieldCursor") (q1 : Fld Z h0 a "com/example/bote/bote/fields/FieldCursor" "text" "Ljava/lang/String;" .null) (q2 : Fld Z h0 a "com/example/bote/bote/fields/FieldCursor" "shape" "Ljava/lang/String;" .null) (q3 : Fld Z h0 a "com/example/bote/bote/fields/FieldCursor" "at" "I" (.int 0)) (g0 : n0 ≤ a ∧ a < h0.size) :
    OMet l Z own_EL n0 (⟨"com/example/bote/bote/fields/FieldCursor", "<init>", "(Ljava/lang/String;Ljava/lang/String;)V"⟩ : MethodName) (Jvm.Cond.code (⟨"com/example/bote/bote/fields/FieldCursor", "<init>", "(Ljava/lang/String;Ljava/lang/String;)V"⟩ : MethodName) prog_2_method_1_code 3 none :: wc) ({ frames := 1, cells := 0, slots := 0, locals := 12 } : Room) #[(.ref a), (.ref u), (.ref v)] h0 [a] (fun vq hq => vq = none ∧ Fld Z hq a "com/example/bote/bote/fields/FieldCursor" "text" "Ljava/lang/String;" (.ref u) ∧ Fld Z hq a "com/example/bote/bote/fields/FieldCursor" "at" "I" (.int 0)) := by
  refine own_enter #[.val (.ref a), .val (.ref u), .val (.ref v)] pn_com_example_bote_bote_fields_FieldCursor__init___Ljava_lang_String_Ljava_lang_String__V (ef_rm4 a u v) hWd.1 O0 (allS g0 all0) ?_
  intro p e s m below meth c T0 X0 hnm hret
  refine og_aloadN X0 1 d4_0 rfl rfl rfl ?_
  refine own_obj0 X0 4 (a := a) d4_1 (ow hw 29 rfl) (ow hw 12 rfl) (ow hw 13 rfl) rfl (W := 0) rfl (by decide) (by decide) rfl ?_
  intro T1 X2
  refine og_aloadN X2 5 d4_4 rfl rfl rfl ?_
  refine og_aloadN X2 6 d4_5 rfl rfl rfl ?_
  refine own_put X2 9 d4_6 (host := "") (Or.inl (ow hw 30 rfl)) Via.refl q1 q0 (Or.inr ⟨(ow hw 31 rfl), rfl, hnm⟩) (ow hw 23 rfl) (ty := (.object "java/lang/String")) (by decide) rfl rfl (om 0 rfl) rfl ?_
  intro T3 h3 X3 W3 K3 F3
  have f4 := Fld.other W3 q2 (Or.inr (slot_ne (Or.inr (ow hw 33 rfl)) (Or.inr (ow hw 31 rfl)) (by decide) (t := (.object "java/lang/String")) (t' := (.object "java/lang/String")) (by decide) (by decide)))
  have f5 := Fld.other W3 q3 (Or.inr (slot_ne (Or.inl (ow hw 44 rfl)) (Or.inr (ow hw 31 rfl)) (by decide) (t := .int) (t' := (.object "java/lang/String")) (by decide) (by decide)))
  refine og_aloadN X3 10 d4_9 rfl rfl rfl ?_
  refine og_aloadN X3 11 d4_10 rfl rfl rfl ?_
  have f6 := q0.keep K3
  refine own_put X3 14 d4_11 (host := "") (Or.inl (ow hw 32 rfl)) Via.refl f4 f6 (Or.inr ⟨(ow hw 33 rfl), rfl, hnm⟩) (ow hw 23 rfl) (ty := (.object "java/lang/String")) (by decide) rfl rfl (om 0 rfl) rfl ?_
  intro T7 h7 X7 W7 K7 F7
  have f8 := Fld.other W7 F3 (Or.inr (slot_ne (Or.inr (ow hw 31 rfl)) (Or.inr (ow hw 33 rfl)) (by decide) (t := (.object "java/lang/String")) (t' := (.object "java/lang/String")) (by decide) (by decide)))
  have f9 := Fld.other W7 f5 (Or.inr (slot_ne (Or.inl (ow hw 44 rfl)) (Or.inr (ow hw 33 rfl)) (by decide) (t := .int) (t' := (.object "java/lang/String")) (by decide) (by decide)))
  refine own_retV X7 d4_14 hret (by decide) (by decide) ?_
  exact ⟨rfl, f8, f9⟩
set_option maxRecDepth 65536 in
set_option maxHeartbeats 40000000 in
theorem rm_nx0_0 (l : Launch) (Z : State) (a0 : Array Value) (hw : ∀ d ∈ tables_1, d.before a0 Z = true) (n0 : Nat) (h0 : Heap) (hWd : OWorld Z a0) (wc : List Jvm.Cond) (O0 : Old Z n0 h0) (a : Addr) (u : Addr) (y : Int32) (q0 : Fld Z h0 a "com/example/bote/bote/fields/FieldCursor" "text" "Ljava/lang/String;" (.ref u)) (q1 : Fld Z h0 a "com/example/bote/bote/fields/FieldCursor" "at" "I" (.int 0)) (q2 : OStr Z h0 u [] h0.size) :
    OMet l Z own_EL n0 (⟨"com/example/bote/bote/fields/FieldCursor", "isNext", "(C)Z"⟩ : MethodName) (Jvm.Cond.code (⟨"com/example/bote/bote/fields/FieldCursor", "isNext", "(C)Z"⟩ : MethodName) prog_2_method_5_code 2 (some .boolean) :: wc) ({ frames := 2, cells := 0, slots := 0, locals := 26 } : Room) #[(.ref a), (.int y)] h0 [] (fun vq hq => vq = some (.int 0)) := by
  refine own_enter #[.val (.ref a), .val (.int y)] pn_com_example_bote_bote_fields_FieldCursor_isNext__C_Z (ef_rm_nx0_0 a u y) hWd.1 O0 all0 ?_
  intro p e s m below meth c T0 X0 hnm hret
  refine og_aloadN X0 1 d6_0 rfl rfl rfl ?_
  refine own_get X0 4 d6_1 (host := "") (Or.inl (ow hw 43 rfl)) Via.refl q1 rfl ?_
  intro T1 X2
  refine og_aloadN X2 5 d6_4 rfl rfl rfl ?_
  refine own_get X2 8 d6_5 (host := "") (Or.inl (ow hw 30 rfl)) Via.refl q0 rfl ?_
  intro T3 X4
  refine own_strLen X4 11 d6_8 q2 (own_wL hw) (ow hw 2 rfl) hWd.2.1.1 hWd.2.1.2 (ow hw 45 rfl) (ow hw 46 rfl) (ow hw 48 rfl) (ow hw 47 rfl) rfl (W := 1) rfl (by decide) (by decide) (by decide) (by decide) rfl ?_
  intro T5 X6
  show OGo _ _ _ _ T5 (mkF m 11 #[.val (.ref a), .val (.int y)] [(.int 0), (.int 0)])
  refine og_icmpY X6 33 d6_11 (XT.ii_ge_t (by decide)) (by decide) (by decide) ?_
  refine og_iconst X6 34 (0 : Int32) d6_33 rfl rfl ?_
  refine own_retZ X6 d6_34 hret rfl (by decide) (by decide) ?_
  exact rfl
set_option maxRecDepth 65536 in
set_option maxHeartbeats 40000000 in
theorem rm_nx1_0 (l : Launch) (Z : State) (a0 : Array Value) (hw : ∀ d ∈ tables_1, d.before a0 Z = true) (n0 : Nat) (h0 : Heap) (hWd : OWorld Z a0) (wc : List Jvm.Cond) (O0 : Old Z n0 h0) (a : Addr) (u : Addr) (x0 : Int32) (y : Int32) (q0 : Fld Z h0 a "com/example/bote/bote/fields/FieldCursor" "text" "Ljava/lang/String;" (.ref u)) (q1 : Fld Z h0 a "com/example/bote/bote/fields/FieldCursor" "at" "I" (.int 0)) (q2 : OStr Z h0 u [x0] h0.size) :
    OMet l Z own_EL n0 (⟨"com/example/bote/bote/fields/FieldCursor", "isNext", "(C)Z"⟩ : MethodName) (Jvm.Cond.code (⟨"com/example/bote/bote/fields/FieldCursor", "isNext", "(C)Z"⟩ : MethodName) prog_2_method_5_code 2 (some .boolean) :: wc) ({ frames := 5, cells := 0, slots := 0, locals := 66 } : Room) #[(.ref a), (.int y)] h0 [] (fun vq hq => vq = some (.int (own_eq1 x0 y))) := by
  refine own_enter #[.val (.ref a), .val (.int y)] pn_com_example_bote_bote_fields_FieldCursor_isNext__C_Z (ef_rm_nx1_0 a u x0 y) hWd.1 O0 all0 ?_
  intro p e s m below meth c T0 X0 hnm hret
  refine og_aloadN X0 1 d6_0 rfl rfl rfl ?_
  refine own_get X0 4 d6_1 (host := "") (Or.inl (ow hw 43 rfl)) Via.refl q1 rfl ?_
  intro T1 X2
  refine og_aloadN X2 5 d6_4 rfl rfl rfl ?_
  refine own_get X2 8 d6_5 (host := "") (Or.inl (ow hw 30 rfl)) Via.refl q0 rfl ?_
  intro T3 X4
  refine own_strLen X4 11 d6_8 q2 (own_wL hw) (ow hw 2 rfl) hWd.2.1.1 hWd.2.1.2 (ow hw 45 rfl) (ow hw 46 rfl) (ow hw 48 rfl) (ow hw 47 rfl) rfl (W := 1) rfl (by decide) (by decide) (by decide) (by decide) rfl ?_
  intro T5 X6
  show OGo _ _ _ _ T5 (mkF m 11 #[.val (.ref a), .val (.int y)] [(.int 1), (.int 0)])
  refine og_icmpN X6 14 d6_11 (XT.ii_ge_f (by decide)) rfl ?_
  refine og_aloadN X6 15 d6_14 rfl rfl rfl ?_
  refine own_get X6 18 d6_15 (host := "") (Or.inl (ow hw 30 rfl)) Via.refl q0 rfl ?_
  intro T7 X8
  refine og_aloadN X8 19 d6_18 rfl rfl rfl ?_
  refine own_get X8 22 d6_19 (host := "") (Or.inl (ow hw 43 rfl)) Via.refl q1 rfl ?_
  intro T9 X10
  refine own_virt X10 25 (a := u) (argsL := [(.int 0)]) (rest := []) d6_22 q2.exa (fun _ hZ => notFace_of_selects (args := #[]) (mvT hZ (ow hw 97 rfl))) (ru_ch1_0 l Z a0 hw n0 h0 hWd [] X10.old u x0 q2.top ) (ow hw 94 rfl) (ow hw 95 rfl) (ow hw 97 rfl) (ow hw 96 rfl) (ow hw 3 rfl) (ow hw 98 rfl) (by decide) (lenOf pd__28I_29C rfl) rfl rfl rfl (W := 0) rfl (by decide) (by decide) (by decide) (by decide) all0 rfl ?_
  intro T11 h11 v11 X11 K11 hQ11
  obtain rfl := hQ11
  show OGo _ _ _ _ T11 (mkF m 25 #[.val (.ref a), .val (.int y)] [(.int x0)])
  refine og_iloadN X11 26 d6_25 rfl rfl ?_
  by_cases hc12 : x0 = y
  · -- x0 = y
    refine og_icmpN X11 29 d6_26 (XT.ii_ne_f hc12) rfl ?_
    refine og_iconst X11 30 (1 : Int32) d6_29 rfl rfl ?_
    refine og_goto X11 34 d6_30 (by decide) (by decide) ?_
    refine own_retZ X11 d6_34 hret rfl (by decide) (by decide) ?_
    rw [own_eq1, if_pos hc12]
  · -- not
    refine og_icmpY X11 33 d6_26 (XT.ii_ne_t hc12) (by decide) (by decide) ?_
    refine og_iconst X11 34 (0 : Int32) d6_33 rfl rfl ?_
    refine own_retZ X11 d6_34 hret rfl (by decide) (by decide) ?_
    rw [own_eq1, if_neg hc12]
set_option maxRecDepth 65536 in
set_option maxHeartbeats 40000000 in
theorem rm_tk1_0 (l : Launch) (Z : State) (a0 : Array Value) (hw : ∀ d ∈ tables_1, d.before a0 Z = true) (n0 : Nat) (h0 : Heap) (hWd : OWorld Z a0) (wc : List Jvm.Cond) (O0 : Old Z n0 h0) (a : Addr) (u : Addr) (x0 : Int32) (q0 : Exa Z h0 a "com/example/bote/bote/fields/FieldCursor") (q1 : Fld Z h0 a "com/example/bote/bote/fields/FieldCursor" "text" "Ljava/lang/String;" (.ref u)) (q2 : Fld Z h0 a "com/example/bote/bote/fields/FieldCursor" "at" "I" (.int 0)) (q3 : OStr Z h0 u [x0] h0.size) (g0 : n0 ≤ a ∧ a < h0.size) :
    OMet l Z own_EL n0 (⟨"com/example/bote/bote/fields/FieldCursor", "take", "(C)Z"⟩ : MethodName) (Jvm.Cond.code (⟨"com/example/bote/bote/fields/FieldCursor", "take", "(C)Z"⟩ : MethodName) prog_2_method_6_code 3 (some .boolean) :: wc) ({ frames := 6, cells := 0, slots := 0, locals := 79 } : Room) #[(.ref a), (.int x0)] h0 [a] (fun vq hq => vq = some (.int 1) ∧ Fld Z hq a "com/example/bote/bote/fields/FieldCursor" "text" "Ljava/lang/String;" (.ref u) ∧ Fld Z hq a "com/example/bote/bote/fields/FieldCursor" "at" "I" (.int 1)) := by
  refine own_enter #[.val (.ref a), .val (.int x0), .unset] pn_com_example_bote_bote_fields_FieldCursor_take__C_Z (ef_rm_tk1_0 a u x0) hWd.1 O0 (allS g0 all0) ?_
  intro p e s m below meth c T0 X0 hnm hret
  refine og_aloadN X0 1 d18_0 rfl rfl rfl ?_
  refine og_iloadN X0 2 d18_1 rfl rfl ?_
  refine own_virt X0 5 (a := a) (argsL := [(.int x0)]) (rest := []) d18_2 q0 (fun _ hZ => notFace_of_selects (args := #[]) (mvT hZ (ow hw 41 rfl))) (rm_nx1_0 l Z a0 hw n0 h0 hWd [] X0.old a u x0 x0 q1 q2 q3.top ) (ow hw 93 rfl) (ow hw 39 rfl) (ow hw 41 rfl) (ow hw 40 rfl) (ow hw 24 rfl) (ow hw 42 rfl) (by decide) (lenOf pd__28C_29Z rfl) rfl rfl rfl (W := 0) rfl (by decide) (by decide) (by decide) (by decide) all0 rfl ?_
  intro T1 h1 v1 X1 K1 hQ1
  obtain rfl := hQ1
  show OGo _ _ _ _ T1 (mkF m 5 #[.val (.ref a), .val (.int x0), .unset] [(.int (own_eq1 x0 x0))])
  refine og_istoreN X1 6 #[.val (.ref a), .val (.int x0), .val (.int (own_eq1 x0 x0))] d18_5 rfl rfl ?_
  refine og_iloadN X1 7 d18_6 rfl rfl ?_
  refine og_ifN X1 10 d18_7 (XT.i0_eq_f (by rw [own_eq1, if_pos rfl]; decide)) rfl ?_
  refine og_aloadN X1 11 d18_10 rfl rfl rfl ?_
  refine og_dup X1 12 d18_11 rfl rfl ?_
  have f2 := q2.keep K1 nin0
  refine own_get X1 15 d18_12 (host := "") (Or.inl (ow hw 43 rfl)) Via.refl f2 rfl ?_
  intro T3 X4
  refine og_iconst X4 16 (1 : Int32) d18_15 rfl rfl ?_
  refine og_iadd X4 17 d18_16 rfl ?_
  show OGo _ _ _ _ T3 (mkF m 17 #[.val (.ref a), .val (.int x0), .val (.int (own_eq1 x0 x0))] [(.int 1), (.ref a)])
  have f5 := q0.keep K1
  have f6 := q1.keep K1 nin0
  refine own_put X4 20 d18_17 (host := "") (Or.inl (ow hw 43 rfl)) Via.refl f2 f5 (Or.inl (ow hw 44 rfl)) (ow hw 23 rfl) (ty := .int) (by decide) rfl rfl (om 0 rfl) rfl ?_
  intro T7 h7 X7 W7 K7 F7
  have f8 := Fld.other W7 f6 (Or.inr (slot_ne (Or.inr (ow hw 31 rfl)) (Or.inl (ow hw 44 rfl)) (by decide) (t := (.object "java/lang/String")) (t' := .int) (by decide) (by decide)))
  refine og_iloadN X7 21 d18_20 rfl rfl ?_
  refine own_retZ X7 d18_21 hret (own_zb (Or.inr (show (own_eq1 x0 x0) = 1 from if_pos rfl))).1 (by decide) (by decide) ?_
  exact ⟨by rw [own_eq1, if_pos rfl], f8, F7⟩
set_option maxRecDepth 65536 in
set_option maxHeartbeats 40000000 in
theorem rm_nx1_1 (l : Launch) (Z : State) (a0 : Array Value) (hw : ∀ d ∈ tables_1, d.before a0 Z = true) (n0 : Nat) (h0 : Heap) (hWd : OWorld Z a0) (wc : List Jvm.Cond) (O0 : Old Z n0 h0) (a : Addr) (u : Addr) (x0 : Int32) (y : Int32) (q0 : Fld Z h0 a "com/example/bote/bote/fields/FieldCursor" "text" "Ljava/lang/String;" (.ref u)) (q1 : Fld Z h0 a "com/example/bote/bote/fields/FieldCursor" "at" "I" (.int 1)) (q2 : OStr Z h0 u [x0] h0.size) :
    OMet l Z own_EL n0 (⟨"com/example/bote/bote/fields/FieldCursor", "isNext", "(C)Z"⟩ : MethodName) (Jvm.Cond.code (⟨"com/example/bote/bote/fields/FieldCursor", "isNext", "(C)Z"⟩ : MethodName) prog_2_method_5_code 2 (some .boolean) :: wc) ({ frames := 2, cells := 0, slots := 0, locals := 26 } : Room) #[(.ref a), (.int y)] h0 [] (fun vq hq => vq = some (.int 0)) := by
  refine own_enter #[.val (.ref a), .val (.int y)] pn_com_example_bote_bote_fields_FieldCursor_isNext__C_Z (ef_rm_nx1_1 a u x0 y) hWd.1 O0 all0 ?_
  intro p e s m below meth c T0 X0 hnm hret
  refine og_aloadN X0 1 d6_0 rfl rfl rfl ?_
  refine own_get X0 4 d6_1 (host := "") (Or.inl (ow hw 43 rfl)) Via.refl q1 rfl ?_
  intro T1 X2
  refine og_aloadN X2 5 d6_4 rfl rfl rfl ?_
  refine own_get X2 8 d6_5 (host := "") (Or.inl (ow hw 30 rfl)) Via.refl q0 rfl ?_
  intro T3 X4
  refine own_strLen X4 11 d6_8 q2 (own_wL hw) (ow hw 2 rfl) hWd.2.1.1 hWd.2.1.2 (ow hw 45 rfl) (ow hw 46 rfl) (ow hw 48 rfl) (ow hw 47 rfl) rfl (W := 1) rfl (by decide) (by decide) (by decide) (by decide) rfl ?_
  intro T5 X6
  show OGo _ _ _ _ T5 (mkF m 11 #[.val (.ref a), .val (.int y)] [(.int 1), (.int 1)])
  refine og_icmpY X6 33 d6_11 (XT.ii_ge_t (by decide)) (by decide) (by decide) ?_
  refine og_iconst X6 34 (0 : Int32) d6_33 rfl rfl ?_
  refine own_retZ X6 d6_34 hret rfl (by decide) (by decide) ?_
  exact rfl
set_option maxRecDepth 65536 in
set_option maxHeartbeats 40000000 in
theorem rm_nx2_0 (l : Launch) (Z : State) (a0 : Array Value) (hw : ∀ d ∈ tables_1, d.before a0 Z = true) (n0 : Nat) (h0 : Heap) (hWd : OWorld Z a0) (wc : List Jvm.Cond) (O0 : Old Z n0 h0) (a : Addr) (u : Addr) (x0 : Int32) (x1 : Int32) (y : Int32) (q0 : Fld Z h0 a "com/example/bote/bote/fields/FieldCursor" "text" "Ljava/lang/String;" (.ref u)) (q1 : Fld Z h0 a "com/example/bote/bote/fields/FieldCursor" "at" "I" (.int 0)) (q2 : OStr Z h0 u [x0, x1] h0.size) :
    OMet l Z own_EL n0 (⟨"com/example/bote/bote/fields/FieldCursor", "isNext", "(C)Z"⟩ : MethodName) (Jvm.Cond.code (⟨"com/example/bote/bote/fields/FieldCursor", "isNext", "(C)Z"⟩ : MethodName) prog_2_method_5_code 2 (some .boolean) :: wc) ({ frames := 5, cells := 0, slots := 0, locals := 66 } : Room) #[(.ref a), (.int y)] h0 [] (fun vq hq => vq = some (.int (own_eq1 x0 y))) := by
  refine own_enter #[.val (.ref a), .val (.int y)] pn_com_example_bote_bote_fields_FieldCursor_isNext__C_Z (ef_rm_nx2_0 a u x0 x1 y) hWd.1 O0 all0 ?_
  intro p e s m below meth c T0 X0 hnm hret
  refine og_aloadN X0 1 d6_0 rfl rfl rfl ?_
  refine own_get X0 4 d6_1 (host := "") (Or.inl (ow hw 43 rfl)) Via.refl q1 rfl ?_
  intro T1 X2
  refine og_aloadN X2 5 d6_4 rfl rfl rfl ?_
  refine own_get X2 8 d6_5 (host := "") (Or.inl (ow hw 30 rfl)) Via.refl q0 rfl ?_
  intro T3 X4
  refine own_strLen X4 11 d6_8 q2 (own_wL hw) (ow hw 2 rfl) hWd.2.1.1 hWd.2.1.2 (ow hw 45 rfl) (ow hw 46 rfl) (ow hw 48 rfl) (ow hw 47 rfl) rfl (W := 1) rfl (by decide) (by decide) (by decide) (by decide) rfl ?_
  intro T5 X6
  show OGo _ _ _ _ T5 (mkF m 11 #[.val (.ref a), .val (.int y)] [(.int 2), (.int 0)])
  refine og_icmpN X6 14 d6_11 (XT.ii_ge_f (by decide)) rfl ?_
  refine og_aloadN X6 15 d6_14 rfl rfl rfl ?_
  refine own_get X6 18 d6_15 (host := "") (Or.inl (ow hw 30 rfl)) Via.refl q0 rfl ?_
  intro T7 X8
  refine og_aloadN X8 19 d6_18 rfl rfl rfl ?_
  refine own_get X8 22 d6_19 (host := "") (Or.inl (ow hw 43 rfl)) Via.refl q1 rfl ?_
  intro T9 X10
  refine own_virt X10 25 (a := u) (argsL := [(.int 0)]) (rest := []) d6_22 q2.exa (fun _ hZ => notFace_of_selects (args := #[]) (mvT hZ (ow hw 97 rfl))) (ru_ch2_0 l Z a0 hw n0 h0 hWd [] X10.old u x0 x1 q2.top ) (ow hw 94 rfl) (ow hw 95 rfl) (ow hw 97 rfl) (ow hw 96 rfl) (ow hw 3 rfl) (ow hw 98 rfl) (by decide) (lenOf pd__28I_29C rfl) rfl rfl rfl (W := 0) rfl (by decide) (by decide) (by decide) (by decide) all0 rfl ?_
  intro T11 h11 v11 X11 K11 hQ11
  obtain rfl := hQ11
  show OGo _ _ _ _ T11 (mkF m 25 #[.val (.ref a), .val (.int y)] [(.int x0)])
  refine og_iloadN X11 26 d6_25 rfl rfl ?_
  by_cases hc12 : x0 = y
  · -- x0 = y
    refine og_icmpN X11 29 d6_26 (XT.ii_ne_f hc12) rfl ?_
    refine og_iconst X11 30 (1 : Int32) d6_29 rfl rfl ?_
    refine og_goto X11 34 d6_30 (by decide) (by decide) ?_
    refine own_retZ X11 d6_34 hret rfl (by decide) (by decide) ?_
    rw [own_eq1, if_pos hc12]
  · -- not
    refine og_icmpY X11 33 d6_26 (XT.ii_ne_t hc12) (by decide) (by decide) ?_
    refine og_iconst X11 34 (0 : Int32) d6_33 rfl rfl ?_
    refine own_retZ X11 d6_34 hret rfl (by decide) (by decide) ?_
    rw [own_eq1, if_neg hc12]
set_option maxRecDepth 65536 in
set_option maxHeartbeats 40000000 in
theorem rm_tk2_0 (l : Launch) (Z : State) (a0 : Array Value) (hw : ∀ d ∈ tables_1, d.before a0 Z = true) (n0 : Nat) (h0 : Heap) (hWd : OWorld Z a0) (wc : List Jvm.Cond) (O0 : Old Z n0 h0) (a : Addr) (u : Addr) (x0 : Int32) (x1 : Int32) (q0 : Exa Z h0 a "com/example/bote/bote/fields/FieldCursor") (q1 : Fld Z h0 a "com/example/bote/bote/fields/FieldCursor" "text" "Ljava/lang/String;" (.ref u)) (q2 : Fld Z h0 a "com/example/bote/bote/fields/FieldCursor" "at" "I" (.int 0)) (q3 : OStr Z h0 u [x0, x1] h0.size) (g0 : n0 ≤ a ∧ a < h0.size) :
    OMet l Z own_EL n0 (⟨"com/example/bote/bote/fields/FieldCursor", "take", "(C)Z"⟩ : MethodName) (Jvm.Cond.code (⟨"com/example/bote/bote/fields/FieldCursor", "take", "(C)Z"⟩ : MethodName) prog_2_method_6_code 3 (some .boolean) :: wc) ({ frames := 6, cells := 0, slots := 0, locals := 79 } : Room) #[(.ref a), (.int x0)] h0 [a] (fun vq hq => vq = some (.int 1) ∧ Fld Z hq a "com/example/bote/bote/fields/FieldCursor" "text" "Ljava/lang/String;" (.ref u) ∧ Fld Z hq a "com/example/bote/bote/fields/FieldCursor" "at" "I" (.int 1)) := by
  refine own_enter #[.val (.ref a), .val (.int x0), .unset] pn_com_example_bote_bote_fields_FieldCursor_take__C_Z (ef_rm_tk2_0 a u x0 x1) hWd.1 O0 (allS g0 all0) ?_
  intro p e s m below meth c T0 X0 hnm hret
  refine og_aloadN X0 1 d18_0 rfl rfl rfl ?_
  refine og_iloadN X0 2 d18_1 rfl rfl ?_
  refine own_virt X0 5 (a := a) (argsL := [(.int x0)]) (rest := []) d18_2 q0 (fun _ hZ => notFace_of_selects (args := #[]) (mvT hZ (ow hw 41 rfl))) (rm_nx2_0 l Z a0 hw n0 h0 hWd [] X0.old a u x0 x1 x0 q1 q2 q3.top ) (ow hw 93 rfl) (ow hw 39 rfl) (ow hw 41 rfl) (ow hw 40 rfl) (ow hw 24 rfl) (ow hw 42 rfl) (by decide) (lenOf pd__28C_29Z rfl) rfl rfl rfl (W := 0) rfl (by decide) (by decide) (by decide) (by decide) all0 rfl ?_
  intro T1 h1 v1 X1 K1 hQ1
  obtain rfl := hQ1
  show OGo _ _ _ _ T1 (mkF m 5 #[.val (.ref a), .val (.int x0), .unset] [(.int (own_eq1 x0 x0))])
  refine og_istoreN X1 6 #[.val (.ref a), .val (.int x0), .val (.int (own_eq1 x0 x0))] d18_5 rfl rfl ?_
  refine og_iloadN X1 7 d18_6 rfl rfl ?_
  refine og_ifN X1 10 d18_7 (XT.i0_eq_f (by rw [own_eq1, if_pos rfl]; decide)) rfl ?_
  refine og_aloadN X1 11 d18_10 rfl rfl rfl ?_
  refine og_dup X1 12 d18_11 rfl rfl ?_
  have f2 := q2.keep K1 nin0
  refine own_get X1 15 d18_12 (host := "") (Or.inl (ow hw 43 rfl)) Via.refl f2 rfl ?_
  intro T3 X4
  refine og_iconst X4 16 (1 : Int32) d18_15 rfl rfl ?_
  refine og_iadd X4 17 d18_16 rfl ?_
  show OGo _ _ _ _ T3 (mkF m 17 #[.val (.ref a), .val (.int x0), .val (.int (own_eq1 x0 x0))] [(.int 1), (.ref a)])
  have f5 := q0.keep K1
  have f6 := q1.keep K1 nin0
  refine own_put X4 20 d18_17 (host := "") (Or.inl (ow hw 43 rfl)) Via.refl f2 f5 (Or.inl (ow hw 44 rfl)) (ow hw 23 rfl) (ty := .int) (by decide) rfl rfl (om 0 rfl) rfl ?_
  intro T7 h7 X7 W7 K7 F7
  have f8 := Fld.other W7 f6 (Or.inr (slot_ne (Or.inr (ow hw 31 rfl)) (Or.inl (ow hw 44 rfl)) (by decide) (t := (.object "java/lang/String")) (t' := .int) (by decide) (by decide)))
  refine og_iloadN X7 21 d18_20 rfl rfl ?_
  refine own_retZ X7 d18_21 hret (own_zb (Or.inr (show (own_eq1 x0 x0) = 1 from if_pos rfl))).1 (by decide) (by decide) ?_
  exact ⟨by rw [own_eq1, if_pos rfl], f8, F7⟩
set_option maxRecDepth 65536 in
set_option maxHeartbeats 40000000 in
theorem rm_nx2_1 (l : Launch) (Z : State) (a0 : Array Value) (hw : ∀ d ∈ tables_1, d.before a0 Z = true) (n0 : Nat) (h0 : Heap) (hWd : OWorld Z a0) (wc : List Jvm.Cond) (O0 : Old Z n0 h0) (a : Addr) (u : Addr) (x0 : Int32) (x1 : Int32) (y : Int32) (q0 : Fld Z h0 a "com/example/bote/bote/fields/FieldCursor" "text" "Ljava/lang/String;" (.ref u)) (q1 : Fld Z h0 a "com/example/bote/bote/fields/FieldCursor" "at" "I" (.int 1)) (q2 : OStr Z h0 u [x0, x1] h0.size) :
    OMet l Z own_EL n0 (⟨"com/example/bote/bote/fields/FieldCursor", "isNext", "(C)Z"⟩ : MethodName) (Jvm.Cond.code (⟨"com/example/bote/bote/fields/FieldCursor", "isNext", "(C)Z"⟩ : MethodName) prog_2_method_5_code 2 (some .boolean) :: wc) ({ frames := 5, cells := 0, slots := 0, locals := 66 } : Room) #[(.ref a), (.int y)] h0 [] (fun vq hq => vq = some (.int (own_eq1 x1 y))) := by
  refine own_enter #[.val (.ref a), .val (.int y)] pn_com_example_bote_bote_fields_FieldCursor_isNext__C_Z (ef_rm_nx2_1 a u x0 x1 y) hWd.1 O0 all0 ?_
  intro p e s m below meth c T0 X0 hnm hret
  refine og_aloadN X0 1 d6_0 rfl rfl rfl ?_
  refine own_get X0 4 d6_1 (host := "") (Or.inl (ow hw 43 rfl)) Via.refl q1 rfl ?_
  intro T1 X2
  refine og_aloadN X2 5 d6_4 rfl rfl rfl ?_
  refine own_get X2 8 d6_5 (host := "") (Or.inl (ow hw 30 rfl)) Via.refl q0 rfl ?_
  intro T3 X4
  refine own_strLen X4 11 d6_8 q2 (own_wL hw) (ow hw 2 rfl) hWd.2.1.1 hWd.2.1.2 (ow hw 45 rfl) (ow hw 46 rfl) (ow hw 48 rfl) (ow hw 47 rfl) rfl (W := 1) rfl (by decide) (by decide) (by decide) (by decide) rfl ?_
  intro T5 X6
  show OGo _ _ _ _ T5 (mkF m 11 #[.val (.ref a), .val (.int y)] [(.int 2), (.int 1)])
  refine og_icmpN X6 14 d6_11 (XT.ii_ge_f (by decide)) rfl ?_
  refine og_aloadN X6 15 d6_14 rfl rfl rfl ?_
  refine own_get X6 18 d6_15 (host := "") (Or.inl (ow hw 30 rfl)) Via.refl q0 rfl ?_
  intro T7 X8
  refine og_aloadN X8 19 d6_18 rfl rfl rfl ?_
  refine own_get X8 22 d6_19 (host := "") (Or.inl (ow hw 43 rfl)) Via.refl q1 rfl ?_
  intro T9 X10
  refine own_virt X10 25 (a := u) (argsL := [(.int 1)]) (rest := []) d6_22 q2.exa (fun _ hZ => notFace_of_selects (args := #[]) (mvT hZ (ow hw 97 rfl))) (ru_ch2_1 l Z a0 hw n0 h0 hWd [] X10.old u x0 x1 q2.top ) (ow hw 94 rfl) (ow hw 95 rfl) (ow hw 97 rfl) (ow hw 96 rfl) (ow hw 3 rfl) (ow hw 98 rfl) (by decide) (lenOf pd__28I_29C rfl) rfl rfl rfl (W := 0) rfl (by decide) (by decide) (by decide) (by decide) all0 rfl ?_
  intro T11 h11 v11 X11 K11 hQ11
  obtain rfl := hQ11
  show OGo _ _ _ _ T11 (mkF m 25 #[.val (.ref a), .val (.int y)] [(.int x1)])
  refine og_iloadN X11 26 d6_25 rfl rfl ?_
  by_cases hc12 : x1 = y
  · -- x1 = y
    refine og_icmpN X11 29 d6_26 (XT.ii_ne_f hc12) rfl ?_
    refine og_iconst X11 30 (1 : Int32) d6_29 rfl rfl ?_
    refine og_goto X11 34 d6_30 (by decide) (by decide) ?_
    refine own_retZ X11 d6_34 hret rfl (by decide) (by decide) ?_
    rw [own_eq1, if_pos hc12]
  · -- not
    refine og_icmpY X11 33 d6_26 (XT.ii_ne_t hc12) (by decide) (by decide) ?_
    refine og_iconst X11 34 (0 : Int32) d6_33 rfl rfl ?_
    refine own_retZ X11 d6_34 hret rfl (by decide) (by decide) ?_
    rw [own_eq1, if_neg hc12]
set_option maxRecDepth 65536 in
set_option maxHeartbeats 40000000 in
theorem rm_tk2_1 (l : Launch) (Z : State) (a0 : Array Value) (hw : ∀ d ∈ tables_1, d.before a0 Z = true) (n0 : Nat) (h0 : Heap) (hWd : OWorld Z a0) (wc : List Jvm.Cond) (O0 : Old Z n0 h0) (a : Addr) (u : Addr) (x0 : Int32) (x1 : Int32) (q0 : Exa Z h0 a "com/example/bote/bote/fields/FieldCursor") (q1 : Fld Z h0 a "com/example/bote/bote/fields/FieldCursor" "text" "Ljava/lang/String;" (.ref u)) (q2 : Fld Z h0 a "com/example/bote/bote/fields/FieldCursor" "at" "I" (.int 1)) (q3 : OStr Z h0 u [x0, x1] h0.size) (g0 : n0 ≤ a ∧ a < h0.size) :
    OMet l Z own_EL n0 (⟨"com/example/bote/bote/fields/FieldCursor", "take", "(C)Z"⟩ : MethodName) (Jvm.Cond.code (⟨"com/example/bote/bote/fields/FieldCursor", "take", "(C)Z"⟩ : MethodName) prog_2_method_6_code 3 (some .boolean) :: wc) ({ frames := 6, cells := 0, slots := 0, locals := 79 } : Room) #[(.ref a), (.int x1)] h0 [a] (fun vq hq => vq = some (.int 1) ∧ Fld Z hq a "com/example/bote/bote/fields/FieldCursor" "text" "Ljava/lang/String;" (.ref u) ∧ Fld Z hq a "com/example/bote/bote/fields/FieldCursor" "at" "I" (.int 2)) := by
  refine own_enter #[.val (.ref a), .val (.int x1), .unset] pn_com_example_bote_bote_fields_FieldCursor_take__C_Z (ef_rm_tk2_1 a u x0 x1) hWd.1 O0 (allS g0 all0) ?_
  intro p e s m below meth c T0 X0 hnm hret
  refine og_aloadN X0 1 d18_0 rfl rfl rfl ?_
  refine og_iloadN X0 2 d18_1 rfl rfl ?_
  refine own_virt X0 5 (a := a) (argsL := [(.int x1)]) (rest := []) d18_2 q0 (fun _ hZ => notFace_of_selects (args := #[]) (mvT hZ (ow hw 41 rfl))) (rm_nx2_1 l Z a0 hw n0 h0 hWd [] X0.old a u x0 x1 x1 q1 q2 q3.top ) (ow hw 93 rfl) (ow hw 39 rfl) (ow hw 41 rfl) (ow hw 40 rfl) (ow hw 24 rfl) (ow hw 42 rfl) (by decide) (lenOf pd__28C_29Z rfl) rfl rfl rfl (W := 0) rfl (by decide) (by decide) (by decide) (by decide) all0 rfl ?_
  intro T1 h1 v1 X1 K1 hQ1
  obtain rfl := hQ1
  show OGo _ _ _ _ T1 (mkF m 5 #[.val (.ref a), .val (.int x1), .unset] [(.int (own_eq1 x1 x1))])
  refine og_istoreN X1 6 #[.val (.ref a), .val (.int x1), .val (.int (own_eq1 x1 x1))] d18_5 rfl rfl ?_
  refine og_iloadN X1 7 d18_6 rfl rfl ?_
  refine og_ifN X1 10 d18_7 (XT.i0_eq_f (by rw [own_eq1, if_pos rfl]; decide)) rfl ?_
  refine og_aloadN X1 11 d18_10 rfl rfl rfl ?_
  refine og_dup X1 12 d18_11 rfl rfl ?_
  have f2 := q2.keep K1 nin0
  refine own_get X1 15 d18_12 (host := "") (Or.inl (ow hw 43 rfl)) Via.refl f2 rfl ?_
  intro T3 X4
  refine og_iconst X4 16 (1 : Int32) d18_15 rfl rfl ?_
  refine og_iadd X4 17 d18_16 rfl ?_
  show OGo _ _ _ _ T3 (mkF m 17 #[.val (.ref a), .val (.int x1), .val (.int (own_eq1 x1 x1))] [(.int 2), (.ref a)])
  have f5 := q0.keep K1
  have f6 := q1.keep K1 nin0
  refine own_put X4 20 d18_17 (host := "") (Or.inl (ow hw 43 rfl)) Via.refl f2 f5 (Or.inl (ow hw 44 rfl)) (ow hw 23 rfl) (ty := .int) (by decide) rfl rfl (om 0 rfl) rfl ?_
  intro T7 h7 X7 W7 K7 F7
  have f8 := Fld.other W7 f6 (Or.inr (slot_ne (Or.inr (ow hw 31 rfl)) (Or.inl (ow hw 44 rfl)) (by decide) (t := (.object "java/lang/String")) (t' := .int) (by decide) (by decide)))
  refine og_iloadN X7 21 d18_20 rfl rfl ?_
  refine own_retZ X7 d18_21 hret (own_zb (Or.inr (show (own_eq1 x1 x1) = 1 from if_pos rfl))).1 (by decide) (by decide) ?_
  exact ⟨by rw [own_eq1, if_pos rfl], f8, F7⟩
set_option maxRecDepth 65536 in
set_option maxHeartbeats 40000000 in
theorem rm_nx2_2 (l : Launch) (Z : State) (a0 : Array Value) (hw : ∀ d ∈ tables_1, d.before a0 Z = true) (n0 : Nat) (h0 : Heap) (hWd : OWorld Z a0) (wc : List Jvm.Cond) (O0 : Old Z n0 h0) (a : Addr) (u : Addr) (x0 : Int32) (x1 : Int32) (y : Int32) (q0 : Fld Z h0 a "com/example/bote/bote/fields/FieldCursor" "text" "Ljava/lang/String;" (.ref u)) (q1 : Fld Z h0 a "com/example/bote/bote/fields/FieldCursor" "at" "I" (.int 2)) (q2 : OStr Z h0 u [x0, x1] h0.size) :
    OMet l Z own_EL n0 (⟨"com/example/bote/bote/fields/FieldCursor", "isNext", "(C)Z"⟩ : MethodName) (Jvm.Cond.code (⟨"com/example/bote/bote/fields/FieldCursor", "isNext", "(C)Z"⟩ : MethodName) prog_2_method_5_code 2 (some .boolean) :: wc) ({ frames := 2, cells := 0, slots := 0, locals := 26 } : Room) #[(.ref a), (.int y)] h0 [] (fun vq hq => vq = some (.int 0)) := by
  refine own_enter #[.val (.ref a), .val (.int y)] pn_com_example_bote_bote_fields_FieldCursor_isNext__C_Z (ef_rm_nx2_2 a u x0 x1 y) hWd.1 O0 all0 ?_
  intro p e s m below meth c T0 X0 hnm hret
  refine og_aloadN X0 1 d6_0 rfl rfl rfl ?_
  refine own_get X0 4 d6_1 (host := "") (Or.inl (ow hw 43 rfl)) Via.refl q1 rfl ?_
  intro T1 X2
  refine og_aloadN X2 5 d6_4 rfl rfl rfl ?_
  refine own_get X2 8 d6_5 (host := "") (Or.inl (ow hw 30 rfl)) Via.refl q0 rfl ?_
  intro T3 X4
  refine own_strLen X4 11 d6_8 q2 (own_wL hw) (ow hw 2 rfl) hWd.2.1.1 hWd.2.1.2 (ow hw 45 rfl) (ow hw 46 rfl) (ow hw 48 rfl) (ow hw 47 rfl) rfl (W := 1) rfl (by decide) (by decide) (by decide) (by decide) rfl ?_
  intro T5 X6
  show OGo _ _ _ _ T5 (mkF m 11 #[.val (.ref a), .val (.int y)] [(.int 2), (.int 2)])
  refine og_icmpY X6 33 d6_11 (XT.ii_ge_t (by decide)) (by decide) (by decide) ?_
  refine og_iconst X6 34 (0 : Int32) d6_33 rfl rfl ?_
  refine own_retZ X6 d6_34 hret rfl (by decide) (by decide) ?_
  exact rfl
set_option maxRecDepth 65536 in
set_option maxHeartbeats 40000000 in
theorem rm_nx3_0 (l : Launch) (Z : State) (a0 : Array Value) (hw : ∀ d ∈ tables_1, d.before a0 Z = true) (n0 : Nat) (h0 : Heap) (hWd : OWorld Z a0) (wc : List Jvm.Cond) (O0 : Old Z n0 h0) (a : Addr) (u : Addr) (x0 : Int32) (x1 : Int32) (x2 : Int32) (y : Int32) (q0 : Fld Z h0 a "com/example/bote/bote/fields/FieldCursor" "text" "Ljava/lang/String;" (.ref u)) (q1 : Fld Z h0 a "com/example/bote/bote/fields/FieldCursor" "at" "I" (.int 0)) (q2 : OStr Z h0 u [x0, x1, x2] h0.size) :
    OMet l Z own_EL n0 (⟨"com/example/bote/bote/fields/FieldCursor", "isNext", "(C)Z"⟩ : MethodName) (Jvm.Cond.code (⟨"com/example/bote/bote/fields/FieldCursor", "isNext", "(C)Z"⟩ : MethodName) prog_2_method_5_code 2 (some .boolean) :: wc) ({ frames := 5, cells := 0, slots := 0, locals := 66 } : Room) #[(.ref a), (.int y)] h0 [] (fun vq hq => vq = some (.int (own_eq1 x0 y))) := by
  refine own_enter #[.val (.ref a), .val (.int y)] pn_com_example_bote_bote_fields_FieldCursor_isNext__C_Z (ef_rm_nx3_0 a u x0 x1 x2 y) hWd.1 O0 all0 ?_
  intro p e s m below meth c T0 X0 hnm hret
  refine og_aloadN X0 1 d6_0 rfl rfl rfl ?_
  refine own_get X0 4 d6_1 (host := "") (Or.inl (ow hw 43 rfl)) Via.refl q1 rfl ?_
  intro T1 X2
  refine og_aloadN X2 5 d6_4 rfl rfl rfl ?_
  refine own_get X2 8 d6_5 (host := "") (Or.inl (ow hw 30 rfl)) Via.refl q0 rfl ?_
  intro T3 X4
  refine own_strLen X4 11 d6_8 q2 (own_wL hw) (ow hw 2 rfl) hWd.2.1.1 hWd.2.1.2 (ow hw 45 rfl) (ow hw 46 rfl) (ow hw 48 rfl) (ow hw 47 rfl) rfl (W := 1) rfl (by decide) (by decide) (by decide) (by decide) rfl ?_
  intro T5 X6
  show OGo _ _ _ _ T5 (mkF m 11 #[.val (.ref a), .val (.int y)] [(.int 3), (.int 0)])
  refine og_icmpN X6 14 d6_11 (XT.ii_ge_f (by decide)) rfl ?_
  refine og_aloadN X6 15 d6_14 rfl rfl rfl ?_
  refine own_get X6 18 d6_15 (host := "") (Or.inl (ow hw 30 rfl)) Via.refl q0 rfl ?_
  intro T7 X8
  refine og_aloadN X8 19 d6_18 rfl rfl rfl ?_
  refine own_get X8 22 d6_19 (host := "") (Or.inl (ow hw 43 rfl)) Via.refl q1 rfl ?_
  intro T9 X10
  refine own_virt X10 25 (a := u) (argsL := [(.int 0)]) (rest := []) d6_22 q2.exa (fun _ hZ => notFace_of_selects (args := #[]) (mvT hZ (ow hw 97 rfl))) (ru_ch3_0 l Z a0 hw n0 h0 hWd [] X10.old u x0 x1 x2 q2.top ) (ow hw 94 rfl) (ow hw 95 rfl) (ow hw 97 rfl) (ow hw 96 rfl) (ow hw 3 rfl) (ow hw 98 rfl) (by decide) (lenOf pd__28I_29C rfl) rfl rfl rfl (W := 0) rfl (by decide) (by decide) (by decide) (by decide) all0 rfl ?_
  intro T11 h11 v11 X11 K11 hQ11
  obtain rfl := hQ11
  show OGo _ _ _ _ T11 (mkF m 25 #[.val (.ref a), .val (.int y)] [(.int x0)])
  refine og_iloadN X11 26 d6_25 rfl rfl ?_
  by_cases hc12 : x0 = y
  · -- x0 = y
    refine og_icmpN X11 29 d6_26 (XT.ii_ne_f hc12) rfl ?_
    refine og_iconst X11 30 (1 : Int32) d6_29 rfl rfl ?_
    refine og_goto X11 34 d6_30 (by decide) (by decide) ?_
    refine own_retZ X11 d6_34 hret rfl (by decide) (by decide) ?_
    rw [own_eq1, if_pos hc12]
  · -- not
    refine og_icmpY X11 33 d6_26 (XT.ii_ne_t hc12) (by decide) (by decide) ?_
    refine og_iconst X11 34 (0 : Int32) d6_33 rfl rfl ?_
    refine own_retZ X11 d6_34 hret rfl (by decide) (by decide) ?_
    rw [own_eq1, if_neg hc12]
set_option maxRecDepth 65536 in
set_option maxHeartbeats 40000000 in
theorem rm_tk3_0 (l : Launch) (Z : State) (a0 : Array Value) (hw : ∀ d ∈ tables_1, d.before a0 Z = true) (n0 : Nat) (h0 : Heap) (hWd : OWorld Z a0) (wc : List Jvm.Cond) (O0 : Old Z n0 h0) (a : Addr) (u : Addr) (x0 : Int32) (x1 : Int32) (x2 : Int32) (q0 : Exa Z h0 a "com/example/bote/bote/fields/FieldCursor") (q1 : Fld Z h0 a "com/example/bote/bote/fields/FieldCursor" "text" "Ljava/lang/String;" (.ref u)) (q2 : Fld Z h0 a "com/example/bote/bote/fields/FieldCursor" "at" "I" (.int 0)) (q3 : OStr Z h0 u [x0, x1, x2] h0.size) (g0 : n0 ≤ a ∧ a < h0.size) :
    OMet l Z own_EL n0 (⟨"com/example/bote/bote/fields/FieldCursor", "take", "(C)Z"⟩ : MethodName) (Jvm.Cond.code (⟨"com/example/bote/bote/fields/FieldCursor", "take", "(C)Z"⟩ : MethodName) prog_2_method_6_code 3 (some .boolean) :: wc) ({ frames := 6, cells := 0, slots := 0, locals := 79 } : Room) #[(.ref a), (.int x0)] h0 [a] (fun vq hq => vq = some (.int 1) ∧ Fld Z hq a "com/example/bote/bote/fields/FieldCursor" "text" "Ljava/lang/String;" (.ref u) ∧ Fld Z hq a "com/example/bote/bote/fields/FieldCursor" "at" "I" (.int 1)) := by
  refine own_enter #[.val (.ref a), .val (.int x0), .unset] pn_com_example_bote_bote_fields_FieldCursor_take__C_Z (ef_rm_tk3_0 a u x0 x1 x2) hWd.1 O0 (allS g0 all0) ?_
  intro p e s m below meth c T0 X0 hnm hret
  refine og_aloadN X0 1 d18_0 rfl rfl rfl ?_
  refine og_iloadN X0 2 d18_1 rfl rfl ?_
  refine own_virt X0 5 (a := a) (argsL := [(.int x0)]) (rest := []) d18_2 q0 (fun _ hZ => notFace_of_selects (args := #[]) (mvT hZ (ow hw 41 rfl))) (rm_nx3_0 l Z a0 hw n0 h0 hWd [] X0.old a u x0 x1 x2 x0 q1 q2 q3.top ) (ow hw 93 rfl) (ow hw 39 rfl) (ow hw 41 rfl) (ow hw 40 rfl) (ow hw 24 rfl) (ow hw 42 rfl) (by decide) (lenOf pd__28C_29Z rfl) rfl rfl rfl (W := 0) rfl (by decide) (by decide) (by decide) (by decide) all0 rfl ?_
  intro T1 h1 v1 X1 K1 hQ1
  obtain rfl := hQ1
  show OGo _ _ _ _ T1 (mkF m 5 #[.val (.ref a), .val (.int x0), .unset] [(.int (own_eq1 x0 x0))])
  refine og_istoreN X1 6 #[.val (.ref a), .val (.int x0), .val (.int (own_eq1 x0 x0))] d18_5 rfl rfl ?_
  refine og_iloadN X1 7 d18_6 rfl rfl ?_
  refine og_ifN X1 10 d18_7 (XT.i0_eq_f (by rw [own_eq1, if_pos rfl]; decide)) rfl ?_
  refine og_aloadN X1 11 d18_10 rfl rfl rfl ?_
  refine og_dup X1 12 d18_11 rfl rfl ?_
  have f2 := q2.keep K1 nin0
  refine own_get X1 15 d18_12 (host := "") (Or.inl (ow hw 43 rfl)) Via.refl f2 rfl ?_
  intro T3 X4
  refine og_iconst X4 16 (1 : Int32) d18_15 rfl rfl ?_
  refine og_iadd X4 17 d18_16 rfl ?_
  show OGo _ _ _ _ T3 (mkF m 17 #[.val (.ref a), .val (.int x0), .val (.int (own_eq1 x0 x0))] [(.int 1), (.ref a)])
  have f5 := q0.keep K1
  have f6 := q1.keep K1 nin0
  refine own_put X4 20 d18_17 (host := "") (Or.inl (ow hw 43 rfl)) Via.refl f2 f5 (Or.inl (ow hw 44 rfl)) (ow hw 23 rfl) (ty := .int) (by decide) rfl rfl (om 0 rfl) rfl ?_
  intro T7 h7 X7 W7 K7 F7
  have f8 := Fld.other W7 f6 (Or.inr (slot_ne (Or.inr (ow hw 31 rfl)) (Or.inl (ow hw 44 rfl)) (by decide) (t := (.object "java/lang/String")) (t' := .int) (by decide) (by decide)))
  refine og_iloadN X7 21 d18_20 rfl rfl ?_
  refine own_retZ X7 d18_21 hret (own_zb (Or.inr (show (own_eq1 x0 x0) = 1 from if_pos rfl))).1 (by decide) (by decide) ?_
  exact ⟨by rw [own_eq1, if_pos rfl], f8, F7⟩
set_option maxRecDepth 65536 in
set_option maxHeartbeats 40000000 in
theorem rm_nx3_1 (l : Launch) (Z : State) (a0 : Array Value) (hw : ∀ d ∈ tables_1, d.before a0 Z = true) (n0 : Nat) (h0 : Heap) (hWd : OWorld Z a0) (wc : List Jvm.Cond) (O0 : Old Z n0 h0) (a : Addr) (u : Addr) (x0 : Int32) (x1 : Int32) (x2 : Int32) (y : Int32) (q0 : Fld Z h0 a "com/example/bote/bote/fields/FieldCursor" "text" "Ljava/lang/String;" (.ref u)) (q1 : Fld Z h0 a "com/example/bote/bote/fields/FieldCursor" "at" "I" (.int 1)) (q2 : OStr Z h0 u [x0, x1, x2] h0.size) :
    OMet l Z own_EL n0 (⟨"com/example/bote/bote/fields/FieldCursor", "isNext", "(C)Z"⟩ : MethodName) (Jvm.Cond.code (⟨"com/example/bote/bote/fields/FieldCursor", "isNext", "(C)Z"⟩ : MethodName) prog_2_method_5_code 2 (some .boolean) :: wc) ({ frames := 5, cells := 0, slots := 0, locals := 66 } : Room) #[(.ref a), (.int y)] h0 [] (fun vq hq => vq = some (.int (own_eq1 x1 y))) := by
  refine own_enter #[.val (.ref a), .val (.int y)] pn_com_example_bote_bote_fields_FieldCursor_isNext__C_Z (ef_rm_nx3_1 a u x0 x1 x2 y) hWd.1 O0 all0 ?_
  intro p e s m below meth c T0 X0 hnm hret
  refine og_aloadN X0 1 d6_0 rfl rfl rfl ?_
  refine own_get X0 4 d6_1 (host := "") (Or.inl (ow hw 43 rfl)) Via.refl q1 rfl ?_
  intro T1 X2
  refine og_aloadN X2 5 d6_4 rfl rfl rfl ?_
  refine own_get X2 8 d6_5 (host := "") (Or.inl (ow hw 30 rfl)) Via.refl q0 rfl ?_
  intro T3 X4
  refine own_strLen X4 11 d6_8 q2 (own_wL hw) (ow hw 2 rfl) hWd.2.1.1 hWd.2.1.2 (ow hw 45 rfl) (ow hw 46 rfl) (ow hw 48 rfl) (ow hw 47 rfl) rfl (W := 1) rfl (by decide) (by decide) (by decide) (by decide) rfl ?_
  intro T5 X6
  show OGo _ _ _ _ T5 (mkF m 11 #[.val (.ref a), .val (.int y)] [(.int 3), (.int 1)])
  refine og_icmpN X6 14 d6_11 (XT.ii_ge_f (by decide)) rfl ?_
  refine og_aloadN X6 15 d6_14 rfl rfl rfl ?_
  refine own_get X6 18 d6_15 (host := "") (Or.inl (ow hw 30 rfl)) Via.refl q0 rfl ?_
  intro T7 X8
  refine og_aloadN X8 19 d6_18 rfl rfl rfl ?_
  refine own_get X8 22 d6_19 (host := "") (Or.inl (ow hw 43 rfl)) Via.refl q1 rfl ?_
  intro T9 X10
  refine own_virt X10 25 (a := u) (argsL := [(.int 1)]) (rest := []) d6_22 q2.exa (fun _ hZ => notFace_of_selects (args := #[]) (mvT hZ (ow hw 97 rfl))) (ru_ch3_1 l Z a0 hw n0 h0 hWd [] X10.old u x0 x1 x2 q2.top ) (ow hw 94 rfl) (ow hw 95 rfl) (ow hw 97 rfl) (ow hw 96 rfl) (ow hw 3 rfl) (ow hw 98 rfl) (by decide) (lenOf pd__28I_29C rfl) rfl rfl rfl (W := 0) rfl (by decide) (by decide) (by decide) (by decide) all0 rfl ?_
  intro T11 h11 v11 X11 K11 hQ11
  obtain rfl := hQ11
  show OGo _ _ _ _ T11 (mkF m 25 #[.val (.ref a), .val (.int y)] [(.int x1)])
  refine og_iloadN X11 26 d6_25 rfl rfl ?_
  by_cases hc12 : x1 = y
  · -- x1 = y
    refine og_icmpN X11 29 d6_26 (XT.ii_ne_f hc12) rfl ?_
    refine og_iconst X11 30 (1 : Int32) d6_29 rfl rfl ?_
    refine og_goto X11 34 d6_30 (by decide) (by decide) ?_
    refine own_retZ X11 d6_34 hret rfl (by decide) (by decide) ?_
    rw [own_eq1, if_pos hc12]
  · -- not
    refine og_icmpY X11 33 d6_26 (XT.ii_ne_t hc12) (by decide) (by decide) ?_
    refine og_iconst X11 34 (0 : Int32) d6_33 rfl rfl ?_
    refine own_retZ X11 d6_34 hret rfl (by decide) (by decide) ?_
    rw [own_eq1, if_neg hc12]
set_option maxRecDepth 65536 in
set_option maxHeartbeats 40000000 in
theorem rm_tk3_1 (l : Launch) (Z : State) (a0 : Array Value) (hw : ∀ d ∈ tables_1, d.before a0 Z = true) (n0 : Nat) (h0 : Heap) (hWd : OWorld Z a0) (wc : List Jvm.Cond) (O0 : Old Z n0 h0) (a : Addr) (u : Addr) (x0 : Int32) (x1 : Int32) (x2 : Int32) (q0 : Exa Z h0 a "com/example/bote/bote/fields/FieldCursor") (q1 : Fld Z h0 a "com/example/bote/bote/fields/FieldCursor" "text" "Ljava/lang/String;" (.ref u)) (q2 : Fld Z h0 a "com/example/bote/bote/fields/FieldCursor" "at" "I" (.int 1)) (q3 : OStr Z h0 u [x0, x1, x2] h0.size) (g0 : n0 ≤ a ∧ a < h0.size) :
    OMet l Z own_EL n0 (⟨"com/example/bote/bote/fields/FieldCursor", "take", "(C)Z"⟩ : MethodName) (Jvm.Cond.code (⟨"com/example/bote/bote/fields/FieldCursor", "take", "(C)Z"⟩ : MethodName) prog_2_method_6_code 3 (some .boolean) :: wc) ({ frames := 6, cells := 0, slots := 0, locals := 79 } : Room) #[(.ref a), (.int x1)] h0 [a] (fun vq hq => vq = some (.int 1) ∧ Fld Z hq a "com/example/bote/bote/fields/FieldCursor" "text" "Ljava/lang/String;" (.ref u) ∧ Fld Z hq a "com/example/bote/bote/fields/FieldCursor" "at" "I" (.int 2)) := by
  refine own_enter #[.val (.ref a), .val (.int x1), .unset] pn_com_example_bote_bote_fields_FieldCursor_take__C_Z (ef_rm_tk3_1 a u x0 x1 x2) hWd.1 O0 (allS g0 all0) ?_
  intro p e s m below meth c T0 X0 hnm hret
  refine og_aloadN X0 1 d18_0 rfl rfl rfl ?_
  refine og_iloadN X0 2 d18_1 rfl rfl ?_
  refine own_virt X0 5 (a := a) (argsL := [(.int x1)]) (rest := []) d18_2 q0 (fun _ hZ => notFace_of_selects (args := #[]) (mvT hZ (ow hw 41 rfl))) (rm_nx3_1 l Z a0 hw n0 h0 hWd [] X0.old a u x0 x1 x2 x1 q1 q2 q3.top ) (ow hw 93 rfl) (ow hw 39 rfl) (ow hw 41 rfl) (ow hw 40 rfl) (ow hw 24 rfl) (ow hw 42 rfl) (by decide) (lenOf pd__28C_29Z rfl) rfl rfl rfl (W := 0) rfl (by decide) (by decide) (by decide) (by decide) all0 rfl ?_
  intro T1 h1 v1 X1 K1 hQ1
  obtain rfl := hQ1
  show OGo _ _ _ _ T1 (mkF m 5 #[.val (.ref a), .val (.int x1), .unset] [(.int (own_eq1 x1 x1))])
  refine og_istoreN X1 6 #[.val (.ref a), .val (.int x1), .val (.int (own_eq1 x1 x1))] d18_5 rfl rfl ?_
  refine og_iloadN X1 7 d18_6 rfl rfl ?_
  refine og_ifN X1 10 d18_7 (XT.i0_eq_f (by rw [own_eq1, if_pos rfl]; decide)) rfl ?_
  refine og_aloadN X1 11 d18_10 rfl rfl rfl ?_
  refine og_dup X1 12 d18_11 rfl rfl ?_
  have f2 := q2.keep K1 nin0
  refine own_get X1 15 d18_12 (host := "") (Or.inl (ow hw 43 rfl)) Via.refl f2 rfl ?_
  intro T3 X4
  refine og_iconst X4 16 (1 : Int32) d18_15 rfl rfl ?_
  refine og_iadd X4 17 d18_16 rfl ?_
  show OGo _ _ _ _ T3 (mkF m 17 #[.val (.ref a), .val (.int x1), .val (.int (own_eq1 x1 x1))] [(.int 2), (.ref a)])
  have f5 := q0.keep K1
  have f6 := q1.keep K1 nin0
  refine own_put X4 20 d18_17 (host := "") (Or.inl (ow hw 43 rfl)) Via.refl f2 f5 (Or.inl (ow hw 44 rfl)) (ow hw 23 rfl) (ty := .int) (by decide) rfl rfl (om 0 rfl) rfl ?_
  intro T7 h7 X7 W7 K7 F7
  have f8 := Fld.other W7 f6 (Or.inr (slot_ne (Or.inr (ow hw 31 rfl)) (Or.inl (ow hw 44 rfl)) (by decide) (t := (.object "java/lang/String")) (t' := .int) (by decide) (by decide)))
  refine og_iloadN X7 21 d18_20 rfl rfl ?_
  refine own_retZ X7 d18_21 hret (own_zb (Or.inr (show (own_eq1 x1 x1) = 1 from if_pos rfl))).1 (by decide) (by decide) ?_
  exact ⟨by rw [own_eq1, if_pos rfl], f8, F7⟩
set_option maxRecDepth 65536 in
set_option maxHeartbeats 40000000 in
theorem rm_nx3_2 (l : Launch) (Z : State) (a0 : Array Value) (hw : ∀ d ∈ tables_1, d.before a0 Z = true) (n0 : Nat) (h0 : Heap) (hWd : OWorld Z a0) (wc : List Jvm.Cond) (O0 : Old Z n0 h0) (a : Addr) (u : Addr) (x0 : Int32) (x1 : Int32) (x2 : Int32) (y : Int32) (q0 : Fld Z h0 a "com/example/bote/bote/fields/FieldCursor" "text" "Ljava/lang/String;" (.ref u)) (q1 : Fld Z h0 a "com/example/bote/bote/fields/FieldCursor" "at" "I" (.int 2)) (q2 : OStr Z h0 u [x0, x1, x2] h0.size) :
    OMet l Z own_EL n0 (⟨"com/example/bote/bote/fields/FieldCursor", "isNext", "(C)Z"⟩ : MethodName) (Jvm.Cond.code (⟨"com/example/bote/bote/fields/FieldCursor", "isNext", "(C)Z"⟩ : MethodName) prog_2_method_5_code 2 (some .boolean) :: wc) ({ frames := 5, cells := 0, slots := 0, locals := 66 } : Room) #[(.ref a), (.int y)] h0 [] (fun vq hq => vq = some (.int (own_eq1 x2 y))) := by
  refine own_enter #[.val (.ref a), .val (.int y)] pn_com_example_bote_bote_fields_FieldCursor_isNext__C_Z (ef_rm_nx3_2 a u x0 x1 x2 y) hWd.1 O0 all0 ?_
  intro p e s m below meth c T0 X0 hnm hret
  refine og_aloadN X0 1 d6_0 rfl rfl rfl ?_
  refine own_get X0 4 d6_1 (host := "") (Or.inl (ow hw 43 rfl)) Via.refl q1 rfl ?_
  intro T1 X2
  refine og_aloadN X2 5 d6_4 rfl rfl rfl ?_
  refine own_get X2 8 d6_5 (host := "") (Or.inl (ow hw 30 rfl)) Via.refl q0 rfl ?_
  intro T3 X4
  refine own_strLen X4 11 d6_8 q2 (own_wL hw) (ow hw 2 rfl) hWd.2.1.1 hWd.2.1.2 (ow hw 45 rfl) (ow hw 46 rfl) (ow hw 48 rfl) (ow hw 47 rfl) rfl (W := 1) rfl (by decide) (by decide) (by decide) (by decide) rfl ?_
  intro T5 X6
  show OGo _ _ _ _ T5 (mkF m 11 #[.val (.ref a), .val (.int y)] [(.int 3), (.int 2)])
  refine og_icmpN X6 14 d6_11 (XT.ii_ge_f (by decide)) rfl ?_
  refine og_aloadN X6 15 d6_14 rfl rfl rfl ?_
  refine own_get X6 18 d6_15 (host := "") (Or.inl (ow hw 30 rfl)) Via.refl q0 rfl ?_
  intro T7 X8
  refine og_aloadN X8 19 d6_18 rfl rfl rfl ?_
  refine own_get X8 22 d6_19 (host := "") (Or.inl (ow hw 43 rfl)) Via.refl q1 rfl ?_
  intro T9 X10
  refine own_virt X10 25 (a := u) (argsL := [(.int 2)]) (rest := []) d6_22 q2.exa (fun _ hZ => notFace_of_selects (args := #[]) (mvT hZ (ow hw 97 rfl))) (ru_ch3_2 l Z a0 hw n0 h0 hWd [] X10.old u x0 x1 x2 q2.top ) (ow hw 94 rfl) (ow hw 95 rfl) (ow hw 97 rfl) (ow hw 96 rfl) (ow hw 3 rfl) (ow hw 98 rfl) (by decide) (lenOf pd__28I_29C rfl) rfl rfl rfl (W := 0) rfl (by decide) (by decide) (by decide) (by decide) all0 rfl ?_
  intro T11 h11 v11 X11 K11 hQ11
  obtain rfl := hQ11
  show OGo _ _ _ _ T11 (mkF m 25 #[.val (.ref a), .val (.int y)] [(.int x2)])
  refine og_iloadN X11 26 d6_25 rfl rfl ?_
  by_cases hc12 : x2 = y
  · -- x2 = y
    refine og_icmpN X11 29 d6_26 (XT.ii_ne_f hc12) rfl ?_
    refine og_iconst X11 30 (1 : Int32) d6_29 rfl rfl ?_
    refine og_goto X11 34 d6_30 (by decide) (by decide) ?_
    refine own_retZ X11 d6_34 hret rfl (by decide) (by decide) ?_
    rw [own_eq1, if_pos hc12]
  · -- not
    refine og_icmpY X11 33 d6_26 (XT.ii_ne_t hc12) (by decide) (by decide) ?_
    refine og_iconst X11 34 (0 : Int32) d6_33 rfl rfl ?_
    refine own_retZ X11 d6_34 hret rfl (by decide) (by decide) ?_
    rw [own_eq1, if_neg hc12]
set_option maxRecDepth 65536 in
set_option maxHeartbeats 40000000 in
theorem rm_tk3_2 (l : Launch) (Z : State) (a0 : Array Value) (hw : ∀ d ∈ tables_1, d.before a0 Z = true) (n0 : Nat) (h0 : Heap) (hWd : OWorld Z a0) (wc : List Jvm.Cond) (O0 : Old Z n0 h0) (a : Addr) (u : Addr) (x0 : Int32) (x1 : Int32) (x2 : Int32) (q0 : Exa Z h0 a "com/example/bote/bote/fields/FieldCursor") (q1 : Fld Z h0 a "com/example/bote/bote/fields/FieldCursor" "text" "Ljava/lang/String;" (.ref u)) (q2 : Fld Z h0 a "com/example/bote/bote/fields/FieldCursor" "at" "I" (.int 2)) (q3 : OStr Z h0 u [x0, x1, x2] h0.size) (g0 : n0 ≤ a ∧ a < h0.size) :
    OMet l Z own_EL n0 (⟨"com/example/bote/bote/fields/FieldCursor", "take", "(C)Z"⟩ : MethodName) (Jvm.Cond.code (⟨"com/example/bote/bote/fields/FieldCursor", "take", "(C)Z"⟩ : MethodName) prog_2_method_6_code 3 (some .boolean) :: wc) ({ frames := 6, cells := 0, slots := 0, locals := 79 } : Room) #[(.ref a), (.int x2)] h0 [a] (fun vq hq => vq = some (.int 1) ∧ Fld Z hq a "com/example/bote/bote/fields/FieldCursor" "text" "Ljava/lang/String;" (.ref u) ∧ Fld Z hq a "com/example/bote/bote/fields/FieldCursor" "at" "I" (.int 3)) := by
  refine own_enter #[.val (.ref a), .val (.int x2), .unset] pn_com_example_bote_bote_fields_FieldCursor_take__C_Z (ef_rm_tk3_2 a u x0 x1 x2) hWd.1 O0 (allS g0 all0) ?_
  intro p e s m below meth c T0 X0 hnm hret
  refine og_aloadN X0 1 d18_0 rfl rfl rfl ?_
  refine og_iloadN X0 2 d18_1 rfl rfl ?_
  refine own_virt X0 5 (a := a) (argsL := [(.int x2)]) (rest := []) d18_2 q0 (fun _ hZ => notFace_of_selects (args := #[]) (mvT hZ (ow hw 41 rfl))) (rm_nx3_2 l Z a0 hw n0 h0 hWd [] X0.old a u x0 x1 x2 x2 q1 q2 q3.top ) (ow hw 93 rfl) (ow hw 39 rfl) (ow hw 41 rfl) (ow hw 40 rfl) (ow hw 24 rfl) (ow hw 42 rfl) (by decide) (lenOf pd__28C_29Z rfl) rfl rfl rfl (W := 0) rfl (by decide) (by decide) (by decide) (by decide) all0 rfl ?_
  intro T1 h1 v1 X1 K1 hQ1
  obtain rfl := hQ1
  show OGo _ _ _ _ T1 (mkF m 5 #[.val (.ref a), .val (.int x2), .unset] [(.int (own_eq1 x2 x2))])
  refine og_istoreN X1 6 #[.val (.ref a), .val (.int x2), .val (.int (own_eq1 x2 x2))] d18_5 rfl rfl ?_
  refine og_iloadN X1 7 d18_6 rfl rfl ?_
  refine og_ifN X1 10 d18_7 (XT.i0_eq_f (by rw [own_eq1, if_pos rfl]; decide)) rfl ?_
  refine og_aloadN X1 11 d18_10 rfl rfl rfl ?_
  refine og_dup X1 12 d18_11 rfl rfl ?_
  have f2 := q2.keep K1 nin0
  refine own_get X1 15 d18_12 (host := "") (Or.inl (ow hw 43 rfl)) Via.refl f2 rfl ?_
  intro T3 X4
  refine og_iconst X4 16 (1 : Int32) d18_15 rfl rfl ?_
  refine og_iadd X4 17 d18_16 rfl ?_
  show OGo _ _ _ _ T3 (mkF m 17 #[.val (.ref a), .val (.int x2), .val (.int (own_eq1 x2 x2))] [(.int 3), (.ref a)])
  have f5 := q0.keep K1
  have f6 := q1.keep K1 nin0
  refine own_put X4 20 d18_17 (host := "") (Or.inl (ow hw 43 rfl)) Via.refl f2 f5 (Or.inl (ow hw 44 rfl)) (ow hw 23 rfl) (ty := .int) (by decide) rfl rfl (om 0 rfl) rfl ?_
  intro T7 h7 X7 W7 K7 F7
  have f8 := Fld.other W7 f6 (Or.inr (slot_ne (Or.inr (ow hw 31 rfl)) (Or.inl (ow hw 44 rfl)) (by decide) (t := (.object "java/lang/String")) (t' := .int) (by decide) (by decide)))
  refine og_iloadN X7 21 d18_20 rfl rfl ?_
  refine own_retZ X7 d18_21 hret (own_zb (Or.inr (show (own_eq1 x2 x2) = 1 from if_pos rfl))).1 (by decide) (by decide) ?_
  exact ⟨by rw [own_eq1, if_pos rfl], f8, F7⟩
set_option maxRecDepth 65536 in
set_option maxHeartbeats 40000000 in
theorem rm_nx3_3 (l : Launch) (Z : State) (a0 : Array Value) (hw : ∀ d ∈ tables_1, d.before a0 Z = true) (n0 : Nat) (h0 : Heap) (hWd : OWorld Z a0) (wc : List Jvm.Cond) (O0 : Old Z n0 h0) (a : Addr) (u : Addr) (x0 : Int32) (x1 : Int32) (x2 : Int32) (y : Int32) (q0 : Fld Z h0 a "com/example/bote/bote/fields/FieldCursor" "text" "Ljava/lang/String;" (.ref u)) (q1 : Fld Z h0 a "com/example/bote/bote/fields/FieldCursor" "at" "I" (.int 3)) (q2 : OStr Z h0 u [x0, x1, x2] h0.size) :
    OMet l Z own_EL n0 (⟨"com/example/bote/bote/fields/FieldCursor", "isNext", "(C)Z"⟩ : MethodName) (Jvm.Cond.code (⟨"com/example/bote/bote/fields/FieldCursor", "isNext", "(C)Z"⟩ : MethodName) prog_2_method_5_code 2 (some .boolean) :: wc) ({ frames := 2, cells := 0, slots := 0, locals := 26 } : Room) #[(.ref a), (.int y)] h0 [] (fun vq hq => vq = some (.int 0)) := by
  refine own_enter #[.val (.ref a), .val (.int y)] pn_com_example_bote_bote_fields_FieldCursor_isNext__C_Z (ef_rm_nx3_3 a u x0 x1 x2 y) hWd.1 O0 all0 ?_
  intro p e s m below meth c T0 X0 hnm hret
  refine og_aloadN X0 1 d6_0 rfl rfl rfl ?_
  refine own_get X0 4 d6_1 (host := "") (Or.inl (ow hw 43 rfl)) Via.refl q1 rfl ?_
  intro T1 X2
  refine og_aloadN X2 5 d6_4 rfl rfl rfl ?_
  refine own_get X2 8 d6_5 (host := "") (Or.inl (ow hw 30 rfl)) Via.refl q0 rfl ?_
  intro T3 X4
  refine own_strLen X4 11 d6_8 q2 (own_wL hw) (ow hw 2 rfl) hWd.2.1.1 hWd.2.1.2 (ow hw 45 rfl) (ow hw 46 rfl) (ow hw 48 rfl) (ow hw 47 rfl) rfl (W := 1) rfl (by decide) (by decide) (by decide) (by decide) rfl ?_
  intro T5 X6
  show OGo _ _ _ _ T5 (mkF m 11 #[.val (.ref a), .val (.int y)] [(.int 3), (.int 3)])
  refine og_icmpY X6 33 d6_11 (XT.ii_ge_t (by decide)) (by decide) (by decide) ?_
  refine og_iconst X6 34 (0 : Int32) d6_33 rfl rfl ?_
  refine own_retZ X6 d6_34 hret rfl (by decide) (by decide) ?_
  exact rfl
set_option maxRecDepth 65536 in
set_option maxHeartbeats 40000000 in
theorem rm_min0 (l : Launch) (Z : State) (a0 : Array Value) (hw : ∀ d ∈ tables_1, d.before a0 Z = true) (n0 : Nat) (h0 : Heap) (hWd : OWorld Z a0) (wc : List Jvm.Cond) (O0 : Old Z n0 h0) (x : Int32) (y : Int32) (q0 : ¬ y < x) :
    OMet l Z own_EL n0 (⟨"java/lang/Math", "min", "(II)I"⟩ : MethodName) (Jvm.Cond.code (⟨"java/lang/Math", "min", "(II)I"⟩ : MethodName) jdk_29_method_69_code 2 (some .int) :: wc) ({ frames := 0, cells := 0, slots := 0, locals := 0 } : Room) #[(.int x), (.int y)] h0 [] (fun vq hq => vq = some (.int x)) := by
  refine own_enter #[.val (.int x), .val (.int y)] pn_java_lang_Math_min__II_I (ef_rm_min0 x y) hWd.1 O0 all0 ?_
  intro p e s m below meth c T0 X0 hnm hret
  refine og_iloadN X0 1 d5_0 rfl rfl ?_
  refine og_iloadN X0 2 d5_1 rfl rfl ?_
  refine og_icmpN X0 5 d5_2 (XT.ii_gt_f q0) rfl ?_
  refine og_iloadN X0 6 d5_5 rfl rfl ?_
  refine og_goto X0 10 d5_6 (by decide) (by decide) ?_
  refine own_retI X0 d5_10 hret (by decide) (by decide) ?_
  exact rfl
set_option maxRecDepth 65536 in
set_option maxHeartbeats 40000000 in
theorem rm_min1 (l : Launch) (Z : State) (a0 : Array Value) (hw : ∀ d ∈ tables_1, d.before a0 Z = true) (n0 : Nat) (h0 : Heap) (hWd : OWorld Z a0) (wc : List Jvm.Cond) (O0 : Old Z n0 h0) (x : Int32) (y : Int32) (q0 : y < x) :
    OMet l Z own_EL n0 (⟨"java/lang/Math", "min", "(II)I"⟩ : MethodName) (Jvm.Cond.code (⟨"java/lang/Math", "min", "(II)I"⟩ : MethodName) jdk_29_method_69_code 2 (some .int) :: wc) ({ frames := 0, cells := 0, slots := 0, locals := 0 } : Room) #[(.int x), (.int y)] h0 [] (fun vq hq => vq = some (.int y)) := by
  refine own_enter #[.val (.int x), .val (.int y)] pn_java_lang_Math_min__II_I (ef_rm_min1 x y) hWd.1 O0 all0 ?_
  intro p e s m below meth c T0 X0 hnm hret
  refine og_iloadN X0 1 d5_0 rfl rfl ?_
  refine og_iloadN X0 2 d5_1 rfl rfl ?_
  refine og_icmpY X0 9 d5_2 (XT.ii_gt_t q0) (by decide) (by decide) ?_
  refine og_iloadN X0 10 d5_9 rfl rfl ?_
  refine own_retI X0 d5_10 hret (by decide) (by decide) ?_
  exact rfl
set_option maxRecDepth 65536 in
set_option maxHeartbeats 40000000 in
theorem rm_max0 (l : Launch) (Z : State) (a0 : Array Value) (hw : ∀ d ∈ tables_1, d.before a0 Z = true) (n0 : Nat) (h0 : Heap) (hWd : OWorld Z a0) (wc : List Jvm.Cond) (O0 : Old Z n0 h0) (x : Int32) (y : Int32) (q0 : ¬ x < y) :
    OMet l Z own_EL n0 (⟨"java/lang/Math", "max", "(II)I"⟩ : MethodName) (Jvm.Cond.code (⟨"java/lang/Math", "max", "(II)I"⟩ : MethodName) jdk_29_method_65_code 2 (some .int) :: wc) ({ frames := 0, cells := 0, slots := 0, locals := 0 } : Room) #[(.int x), (.int y)] h0 [] (fun vq hq => vq = some (.int x)) := by
  refine own_enter #[.val (.int x), .val (.int y)] pn_java_lang_Math_max__II_I (ef_rm_max0 x y) hWd.1 O0 all0 ?_
  intro p e s m below meth c T0 X0 hnm hret
  refine og_iloadN X0 1 d9_0 rfl rfl ?_
  refine og_iloadN X0 2 d9_1 rfl rfl ?_
  refine og_icmpN X0 5 d9_2 (XT.ii_lt_f q0) rfl ?_
  refine og_iloadN X0 6 d9_5 rfl rfl ?_
  refine og_goto X0 10 d9_6 (by decide) (by decide) ?_
  refine own_retI X0 d9_10 hret (by decide) (by decide) ?_
  exact rfl
set_option maxRecDepth 65536 in
set_option maxHeartbeats 40000000 in
theorem rm_max1 (l : Launch) (Z : State) (a0 : Array Value) (hw : ∀ d ∈ tables_1, d.before a0 Z = true) (n0 : Nat) (h0 : Heap) (hWd : OWorld Z a0) (wc : List Jvm.Cond) (O0 : Old Z n0 h0) (x : Int32) (y : Int32) (q0 : x < y) :
    OMet l Z own_EL n0 (⟨"java/lang/Math", "max", "(II)I"⟩ : MethodName) (Jvm.Cond.code (⟨"java/lang/Math", "max", "(II)I"⟩ : MethodName) jdk_29_method_65_code 2 (some .int) :: wc) ({ frames := 0, cells := 0, slots := 0, locals := 0 } : Room) #[(.int x), (.int y)] h0 [] (fun vq hq => vq = some (.int y)) := by
  refine own_enter #[.val (.int x), .val (.int y)] pn_java_lang_Math_max__II_I (ef_rm_max1 x y) hWd.1 O0 all0 ?_
  intro p e s m below meth c T0 X0 hnm hret
  refine og_iloadN X0 1 d9_0 rfl rfl ?_
  refine og_iloadN X0 2 d9_1 rfl rfl ?_
  refine og_icmpY X0 9 d9_2 (XT.ii_lt_t q0) (by decide) (by decide) ?_
  refine og_iloadN X0 10 d9_9 rfl rfl ?_
  refine own_retI X0 d9_10 hret (by decide) (by decide) ?_
  exact rfl
set_option maxRecDepth 65536 in
set_option maxHeartbeats 40000000 in
theorem rm0 (l : Launch) (Z : State) (a0 : Array Value) (hw : ∀ d ∈ tables_1, d.before a0 Z = true) (n0 : Nat) (h0 : Heap) (hWd : OWorld Z a0) (wc : List Jvm.Cond) (O0 : Old Z n0 h0) (pa : Int32) (pb : Int32) (pp : Int32)  :
    OMet l Z own_EL n0 x (Jvm.Cond.code x code maxLocals ret :: wc) room_1 #[(.int pa), (.int pb), (.int pp)] h0 [] (fun vq hq => vq = some (.int 1)) := by
  refine own_enter #[.val (.int pa), .val (.int pb), .val (.int pp), .unset, .unset, .unset, .unset, .unset, .unset, .unset, .unset, .unset, .unset, .unset, .unset, .unset, .unset] pn_com_example_bote_bote_fields_FieldCursorIsNextPinLaw_law__III_Z (ef_rm0 pa pb pp) hWd.1 O0 all0 ?_
  intro p e s m below meth c T0 X0 hnm hret
  refine og_iloadN X0 1 at_0 rfl rfl ?_
  refine og_i2c X0 2 at_1 rfl ?_
  refine og_istoreN X0 3 #[.val (.int pa), .val (.int pb), .val (.int pp), .val (.int ((pa).toUInt32.toUInt16.toUInt32.toInt32)), .unset, .unset, .unset, .unset, .unset, .unset, .unset, .unset, .unset, .unset, .unset, .unset, .unset] at_2 rfl rfl ?_
  refine og_iloadN X0 4 at_3 rfl rfl ?_
  refine og_bipush X0 6 (16 : Int32) at_4 rfl rfl ?_
  refine og_iushr X0 7 at_6 rfl ?_
  refine og_i2c X0 8 at_7 rfl ?_
  refine og_istore X0 10 #[.val (.int pa), .val (.int pb), .val (.int pp), .val (.int ((pa).toUInt32.toUInt16.toUInt32.toInt32)), .val (.int (((XT.ushr pa (16 : Int32))).toUInt32.toUInt16.toUInt32.toInt32)), .unset, .unset, .unset, .unset, .unset, .unset, .unset, .unset, .unset, .unset, .unset, .unset] at_8 rfl rfl ?_
  refine og_iloadN X0 11 at_10 rfl rfl ?_
  refine og_i2c X0 12 at_11 rfl ?_
  refine og_istore X0 14 #[.val (.int pa), .val (.int pb), .val (.int pp), .val (.int ((pa).toUInt32.toUInt16.toUInt32.toInt32)), .val (.int (((XT.ushr pa (16 : Int32))).toUInt32.toUInt16.toUInt32.toInt32)), .val (.int ((pb).toUInt32.toUInt16.toUInt32.toInt32)), .unset, .unset, .unset, .unset, .unset, .unset, .unset, .unset, .unset, .unset, .unset] at_12 rfl rfl ?_
  have B_u0 := own_lat16 (pa)
  generalize (pa).toUInt32.toUInt16.toUInt32.toInt32 = u0 at B_u0 ⊢
  have B_u1 := own_lat16 ((XT.ushr pa (16 : Int32)))
  generalize ((XT.ushr pa (16 : Int32))).toUInt32.toUInt16.toUInt32.toInt32 = u1 at B_u1 ⊢
  have B_u2 := own_lat16 (pb)
  generalize (pb).toUInt32.toUInt16.toUInt32.toInt32 = u2 at B_u2 ⊢
  refine og_iloadN X0 15 at_14 rfl rfl ?_
  refine og_bipush X0 17 (16 : Int32) at_15 rfl rfl ?_
  refine og_iushr X0 18 at_17 rfl ?_
  refine og_iconst X0 19 (3 : Int32) at_18 rfl rfl ?_
  refine og_iand X0 20 at_19 rfl ?_
  refine og_istore X0 22 #[.val (.int pa), .val (.int pb), .val (.int pp), .val (.int u0), .val (.int u1), .val (.int u2), .val (.int ((XT.ushr pb (16 : Int32)) &&& (3 : Int32))), .unset, .unset, .unset, .unset, .unset, .unset, .unset, .unset, .unset, .unset] at_20 rfl rfl ?_
  rcases own_and3 (XT.ushr pb (16 : Int32)) with eQ | eQ | eQ | eQ
  · -- 0
    rw [eQ]
    refine og_iloadN X0 23 at_22 rfl rfl ?_
    refine og_bipush X0 25 (18 : Int32) at_23 rfl rfl ?_
    refine og_iushr X0 26 at_25 rfl ?_
    refine og_iconst X0 27 (3 : Int32) at_26 rfl rfl ?_
    refine og_iand X0 28 at_27 rfl ?_
    refine og_iload X0 30 at_28 rfl rfl ?_
    refine og_iconst X0 31 (1 : Int32) at_30 rfl rfl ?_
    refine og_iadd X0 32 at_31 rfl ?_
    show OGo _ _ _ _ T0 (mkF m 32 #[.val (.int pa), .val (.int pb), .val (.int pp), .val (.int u0), .val (.int u1), .val (.int u2), .val (.int 0), .unset, .unset, .unset, .unset, .unset, .unset, .unset, .unset, .unset, .unset] [(.int 1), (.int ((XT.ushr pb (18 : Int32)) &&& (3 : Int32)))])
    refine og_irem X0 33 at_32 (by decide) rfl ?_
    refine og_istore X0 35 #[.val (.int pa), .val (.int pb), .val (.int pp), .val (.int u0), .val (.int u1), .val (.int u2), .val (.int 0), .val (.int (((XT.ushr pb (18 : Int32)) &&& (3 : Int32)) % (1 : Int32))), .unset, .unset, .unset, .unset, .unset, .unset, .unset, .unset, .unset] at_33 rfl rfl ?_
    rcases own_rem1 (own_and3 (XT.ushr pb (18 : Int32))) with eQ
    · -- 0
      rw [eQ]
      refine og_iconst X0 36 (3 : Int32) at_35 rfl rfl ?_
      refine own_arr X0 38 at_36 (ow hw 0 rfl) (by decide) (cap := 3) (by decide) (by decide) (by decide) (by decide) rfl ?_
      intro T1 h1 b1 kb1 X1 K1 G1 U1 A1
      have f2 : Arv Z h1 b1 kb1 .char (3 : Int32) [(.int 0), (.int 0), (.int 0)] (.int 0) := A1
      refine og_dup X1 39 at_38 rfl rfl ?_
      refine og_iconst X1 40 (0 : Int32) at_39 rfl rfl ?_
      refine og_iloadN X1 41 at_40 rfl rfl ?_
      refine own_stC X1 42 at_41 f2 (own_nch B_u0.1 B_u0.2) (by decide) (by decide) (i := 0) (by decide) (Nat.le_of_ble_eq_true rfl) (om 0 rfl) rfl ?_
      intro T3 h3 X3 W3 K3 A3
      have f4 : Arv Z h3 b1 kb1 .char (3 : Int32) [(.int u0), (.int 0), (.int 0)] (.int 0) := A3
      refine og_dup X3 43 at_42 rfl rfl ?_
      refine og_iconst X3 44 (1 : Int32) at_43 rfl rfl ?_
      refine og_iload X3 46 at_44 rfl rfl ?_
      refine own_stC X3 47 at_46 f4 (own_nch B_u1.1 B_u1.2) (by decide) (by decide) (i := 1) (by decide) (Nat.le_of_ble_eq_true rfl) (om 0 rfl) rfl ?_
      intro T5 h5 X5 W5 K5 A5
      have f6 : Arv Z h5 b1 kb1 .char (3 : Int32) [(.int u0), (.int u1), (.int 0)] (.int 0) := A5
      refine og_dup X5 48 at_47 rfl rfl ?_
      refine og_iconst X5 49 (2 : Int32) at_48 rfl rfl ?_
      refine og_iload X5 51 at_49 rfl rfl ?_
      refine own_stC X5 52 at_51 f6 (own_nch B_u2.1 B_u2.2) (by decide) (by decide) (i := 2) (by decide) (Nat.le_of_ble_eq_true rfl) (om 0 rfl) rfl ?_
      intro T7 h7 X7 W7 K7 A7
      have f8 : Arv Z h7 b1 kb1 .char (3 : Int32) [(.int u0), (.int u1), (.int u2)] (.int 0) := A7
      refine og_astore X7 54 #[.val (.int pa), .val (.int pb), .val (.int pp), .val (.int u0), .val (.int u1), .val (.int u2), .val (.int 0), .val (.int 0), .val (.ref b1), .unset, .unset, .unset, .unset, .unset, .unset, .unset, .unset] at_52 rfl rfl rfl ?_
      refine og_iload X7 56 at_54 rfl rfl ?_
      refine og_ifN X7 59 at_56 (XT.i0_ne_f (by decide)) rfl ?_
      refine own_new X7 62 at_59 (ow hw 1 rfl) (ow hw 2 rfl) (ow hw 3 rfl) (by decide) (by decide) rfl ?_
      intro T9 h9 b9 X9 K9 G9 U9 E9 D9
      have f10 : Fld Z h9 b9 "java/lang/String" "value" "[B" .null := D9 (Or.inr (ow hw 16 rfl)) (ty := (.array .byte)) (by decide)
      have f11 : Fld Z h9 b9 "java/lang/String" "coder" "B" (.int 0) := D9 (Or.inr (ow hw 17 rfl)) (ty := .byte) (by decide)
      refine og_dup X9 63 at_62 rfl rfl ?_
      refine og_iconst X9 64 (0 : Int32) at_63 rfl rfl ?_
      refine own_arr X9 66 at_64 (ow hw 0 rfl) (by decide) (cap := 0) (by decide) (by decide) (by decide) (by decide) rfl ?_
      intro T12 h12 b12 kb12 X12 K12 G12 U12 A12
      have f13 : Arv Z h12 b12 kb12 .char (0 : Int32) [] (.int 0) := A12
      have f14 := E9.keep K12
      have f15 := f10.keep K12 nin0
      have f16 := f11.keep K12 nin0
      refine own_spec X12 69 (a := b9) (argsL := [(.ref b12)]) (rest := [(.ref b9)]) at_66 rfl (rm_emp1 l Z a0 hw n0 h12 hWd [] X12.old b9 b12 .null (0 : Int32) kb12 f14 f15 f16 f13 (own_svb X12 (om 1 rfl))) (ow hw 4 rfl) (ow hw 5 rfl) (ow hw 3 rfl) (ow hw 6 rfl) (by decide) (lenOf pd__28_5bC_29V rfl) rfl rfl rfl (W := 1) rfl (by decide) (by decide) (by decide) (by decide) (allS (om 1 rfl) all0) rfl ?_
      intro T17 h17 v17 X17 K17 hQ17
      obtain ⟨rfl, f18⟩ := hQ17
      show OGo _ _ _ _ T17 (mkF m 69 #[.val (.int pa), .val (.int pb), .val (.int pp), .val (.int u0), .val (.int u1), .val (.int u2), .val (.int 0), .val (.int 0), .val (.ref b1), .unset, .unset, .unset, .unset, .unset, .unset, .unset, .unset] [(.ref b9)])
      refine og_astore X17 71 #[.val (.int pa), .val (.int pb), .val (.int pp), .val (.int u0), .val (.int u1), .val (.int u2), .val (.int 0), .val (.int 0), .val (.ref b1), .val (.ref b9), .unset, .unset, .unset, .unset, .unset, .unset, .unset] at_69 rfl rfl rfl ?_
      refine og_goto X17 155 at_71 (by decide) (by decide) ?_
      refine own_new X17 158 at_155 (ow hw 22 rfl) (ow hw 23 rfl) (ow hw 24 rfl) (by decide) (by decide) rfl ?_
      intro T19 h19 b19 X19 K19 G19 U19 E19 D19
      have f20 : Fld Z h19 b19 "com/example/bote/bote/fields/FieldCursor" "text" "Ljava/lang/String;" .null := D19 (Or.inr (ow hw 31 rfl)) (ty := (.object "java/lang/String")) (by decide)
      have f21 : Fld Z h19 b19 "com/example/bote/bote/fields/FieldCursor" "shape" "Ljava/lang/String;" .null := D19 (Or.inr (ow hw 33 rfl)) (ty := (.object "java/lang/String")) (by decide)
      have f22 : Fld Z h19 b19 "com/example/bote/bote/fields/FieldCursor" "at" "I" (.int 0) := D19 (Or.inl (ow hw 44 rfl)) (ty := .int) (by decide)
      refine og_dup X19 159 at_158 rfl rfl ?_
      refine og_aload X19 161 at_159 rfl rfl rfl ?_
      refine own_ldcO X19 163 (cap := 20) at_161 own_ELne (ow hw 25 rfl) (own_wS hw) (by decide) (by decide) (by decide) (by decide) rfl ?_
      intro T23 h23 a23 X23 K23
      have f24 := E19.keep K23
      have f25 := f20.keep K23 nin0
      have f26 := f21.keep K23 nin0
      have f27 := f22.keep K23 nin0
      refine own_spec X23 166 (a := b19) (argsL := [(.ref b9), (.ref a23)]) (rest := [(.ref b19)]) at_163 rfl (rm4 l Z a0 hw n0 h23 hWd [] X23.old b19 b9 a23 f24 f25 f26 f27 (own_svb X23 (om 0 rfl))) (ow hw 26 rfl) (ow hw 27 rfl) (ow hw 24 rfl) (ow hw 28 rfl) (by decide) (lenOf pd__28Ljava_2flang_2fString_3bLjava_2flang_2fString_3b_29V rfl) rfl rfl rfl (W := 1) rfl (by decide) (by decide) (by decide) (by decide) (allS (om 0 rfl) all0) rfl ?_
      intro T28 h28 v28 X28 K28 hQ28
      obtain ⟨rfl, f29, f30⟩ := hQ28
      show OGo _ _ _ _ T28 (mkF m 166 #[.val (.int pa), .val (.int pb), .val (.int pp), .val (.int u0), .val (.int u1), .val (.int u2), .val (.int 0), .val (.int 0), .val (.ref b1), .val (.ref b9), .unset, .unset, .unset, .unset, .unset, .unset, .unset] [(.ref b19)])
      refine og_astore X28 168 #[.val (.int pa), .val (.int pb), .val (.int pp), .val (.int u0), .val (.int u1), .val (.int u2), .val (.int 0), .val (.int 0), .val (.ref b1), .val (.ref b9), .val (.ref b19), .unset, .unset, .unset, .unset, .unset, .unset] at_166 rfl rfl rfl ?_
      refine og_iconst X28 169 (1 : Int32) at_168 rfl rfl ?_
      refine og_istore X28 171 #[.val (.int pa), .val (.int pb), .val (.int pp), .val (.int u0), .val (.int u1), .val (.int u2), .val (.int 0), .val (.int 0), .val (.ref b1), .val (.ref b9), .val (.ref b19), .val (.int 1), .unset, .unset, .unset, .unset, .unset] at_169 rfl rfl ?_
      refine og_iload X28 173 at_171 rfl rfl ?_
      refine og_iconst X28 174 (1 : Int32) at_173 rfl rfl ?_
      refine og_icmpY X28 202 at_174 (XT.ii_lt_t (by decide)) (by decide) (by decide) ?_
      refine og_iload X28 204 at_202 rfl rfl ?_
      refine og_iconst X28 205 (2 : Int32) at_204 rfl rfl ?_
      refine og_icmpY X28 234 at_205 (XT.ii_lt_t (by decide)) (by decide) (by decide) ?_
      refine og_iload X28 236 at_234 rfl rfl ?_
      refine og_iconst X28 237 (3 : Int32) at_236 rfl rfl ?_
      refine og_icmpY X28 266 at_237 (XT.ii_lt_t (by decide)) (by decide) (by decide) ?_
      refine og_iloadN X28 267 at_266 rfl rfl ?_
      refine og_iconst X28 268 (3 : Int32) at_267 rfl rfl ?_
      refine og_iand X28 269 at_268 rfl ?_
      refine og_istore X28 271 #[.val (.int pa), .val (.int pb), .val (.int pp), .val (.int u0), .val (.int u1), .val (.int u2), .val (.int 0), .val (.int 0), .val (.ref b1), .val (.ref b9), .val (.ref b19), .val (.int 1), .val (.int (pp &&& (3 : Int32))), .unset, .unset, .unset, .unset] at_269 rfl rfl ?_
      refine own_cut X28 341 (fun (w : Int32) => #[.val (.int pa), .val (.int pb), .val (.int pp), .val (.int u0), .val (.int u1), .val (.int u2), .val (.int 0), .val (.int 0), .val (.ref b1), .val (.ref b9), .val (.ref b19), .val (.int 1), .val (.int (pp &&& (3 : Int32))), .val (.int w), .unset, .unset, .unset]) (fun _ => []) (fun w => True) ?_ ?_
      · -- the common way on
        intro T31 h31 X31 K31 w ok31
        show OGo _ _ _ _ T31 (mkF m 341 #[.val (.int pa), .val (.int pb), .val (.int pp), .val (.int u0), .val (.int u1), .val (.int u2), .val (.int 0), .val (.int 0), .val (.ref b1), .val (.ref b9), .val (.ref b19), .val (.int 1), .val (.int (pp &&& (3 : Int32))), .val (.int w), .unset, .unset, .unset] [])
        refine og_iload X31 343 at_341 rfl rfl ?_
        refine og_iload X31 345 at_343 rfl rfl ?_
        refine og_icmpY X31 362 at_345 (XT.ii_ge_t (by decide)) (by decide) (by decide) ?_
        refine og_iconst X31 363 (0 : Int32) at_362 rfl rfl ?_
        refine og_istore X31 365 #[.val (.int pa), .val (.int pb), .val (.int pp), .val (.int u0), .val (.int u1), .val (.int u2), .val (.int 0), .val (.int 0), .val (.ref b1), .val (.ref b9), .val (.ref b19), .val (.int 1), .val (.int (pp &&& (3 : Int32))), .val (.int w), .val (.int 0), .unset, .unset] at_363 rfl rfl ?_
        refine og_aload X31 367 at_365 rfl rfl rfl ?_
        refine og_iload X31 369 at_367 rfl rfl ?_
        have f32 := f24.keep K28
        have f33 := f32.keep K31
        have f34 := f29.keep K31 nin0
        have f35 := f30.keep K31 nin0
        have f36 := f18.keep K19 all0
        have f37 := f36.keep K23 all0
        have f38 := f37.keep K28 (allS (Or.inl (Nat.le_trans (Nat.le_refl _) G19)) all0)
        have f39 := f38.keep K31 all0
        refine own_virt X31 372 (a := b19) (argsL := [(.int w)]) (rest := []) at_369 f33 (fun _ hZ => notFace_of_selects (args := #[]) (mvT hZ (ow hw 41 rfl))) (rm_nx0_0 l Z a0 hw n0 h31 hWd [] X31.old b19 b9 w f34 f35 f39.top ) (ow hw 38 rfl) (ow hw 39 rfl) (ow hw 41 rfl) (ow hw 40 rfl) (ow hw 24 rfl) (ow hw 42 rfl) (by decide) (lenOf pd__28C_29Z rfl) rfl rfl rfl (W := 0) rfl (by decide) (by decide) (by decide) (by decide) all0 rfl ?_
        intro T40 h40 v40 X40 K40 hQ40
        obtain rfl := hQ40
        show OGo _ _ _ _ T40 (mkF m 372 #[.val (.int pa), .val (.int pb), .val (.int pp), .val (.int u0), .val (.int u1), .val (.int u2), .val (.int 0), .val (.int 0), .val (.ref b1), .val (.ref b9), .val (.ref b19), .val (.int 1), .val (.int (pp &&& (3 : Int32))), .val (.int w), .val (.int 0), .unset, .unset] [(.int 0)])
        refine og_istore X40 374 #[.val (.int pa), .val (.int pb), .val (.int pp), .val (.int u0), .val (.int u1), .val (.int u2), .val (.int 0), .val (.int 0), .val (.ref b1), .val (.ref b9), .val (.ref b19), .val (.int 1), .val (.int (pp &&& (3 : Int32))), .val (.int w), .val (.int 0), .val (.int 0), .unset] at_372 rfl rfl ?_
        refine og_aload X40 376 at_374 rfl rfl rfl ?_
        refine og_iload X40 378 at_376 rfl rfl ?_
        have f41 := f33.keep K40
        have f42 := f34.keep K40 nin0
        have f43 := f35.keep K40 nin0
        have f44 := f39.keep K40 all0
        refine own_virt X40 381 (a := b19) (argsL := [(.int w)]) (rest := []) at_378 f41 (fun _ hZ => notFace_of_selects (args := #[]) (mvT hZ (ow hw 41 rfl))) (rm_nx0_0 l Z a0 hw n0 h40 hWd [] X40.old b19 b9 w f42 f43 f44.top ) (ow hw 38 rfl) (ow hw 39 rfl) (ow hw 41 rfl) (ow hw 40 rfl) (ow hw 24 rfl) (ow hw 42 rfl) (by decide) (lenOf pd__28C_29Z rfl) rfl rfl rfl (W := 0) rfl (by decide) (by decide) (by decide) (by decide) all0 rfl ?_
        intro T45 h45 v45 X45 K45 hQ45
        obtain rfl := hQ45
        show OGo _ _ _ _ T45 (mkF m 381 #[.val (.int pa), .val (.int pb), .val (.int pp), .val (.int u0), .val (.int u1), .val (.int u2), .val (.int 0), .val (.int 0), .val (.ref b1), .val (.ref b9), .val (.ref b19), .val (.int 1), .val (.int (pp &&& (3 : Int32))), .val (.int w), .val (.int 0), .val (.int 0), .unset] [(.int 0)])
        refine og_istore X45 383 #[.val (.int pa), .val (.int pb), .val (.int pp), .val (.int u0), .val (.int u1), .val (.int u2), .val (.int 0), .val (.int 0), .val (.ref b1), .val (.ref b9), .val (.ref b19), .val (.int 1), .val (.int (pp &&& (3 : Int32))), .val (.int w), .val (.int 0), .val (.int 0), .val (.int 0)] at_381 rfl rfl ?_
        refine og_iload X45 385 at_383 rfl rfl ?_
        refine og_ifN X45 388 at_385 (XT.i0_eq_f (by decide)) rfl ?_
        refine og_iload X45 390 at_388 rfl rfl ?_
        refine og_iload X45 392 at_390 rfl rfl ?_
        refine og_icmpN X45 395 at_392 (XT.ii_ne_f (by decide)) rfl ?_
        refine og_iload X45 397 at_395 rfl rfl ?_
        refine og_iload X45 399 at_397 rfl rfl ?_
        refine og_icmpN X45 402 at_399 (XT.ii_ne_f (by decide)) rfl ?_
        refine og_iconst X45 403 (1 : Int32) at_402 rfl rfl ?_
        refine og_goto X45 407 at_403 (by decide) (by decide) ?_
        refine own_retZ X45 at_407 hret rfl (by decide) (by decide) ?_
        exact rfl
      · -- the ways to it
        intro J31
        refine og_iload X28 273 at_271 rfl rfl ?_
        by_cases hc46 : (pp &&& (3 : Int32)) = 0
        · -- (pp &&& (3 : Int32)) = 0
          refine og_ifN X28 276 at_273 (XT.i0_ne_f hc46) rfl ?_
          refine og_iloadN X28 277 at_276 rfl rfl ?_
          refine og_bipush X28 279 (16 : Int32) at_277 rfl rfl ?_
          refine og_iushr X28 280 at_279 rfl ?_
          refine og_i2c X28 281 at_280 rfl ?_
          refine og_istore X28 283 #[.val (.int pa), .val (.int pb), .val (.int pp), .val (.int u0), .val (.int u1), .val (.int u2), .val (.int 0), .val (.int 0), .val (.ref b1), .val (.ref b9), .val (.ref b19), .val (.int 1), .val (.int (pp &&& (3 : Int32))), .val (.int (((XT.ushr pp (16 : Int32))).toUInt32.toUInt16.toUInt32.toInt32)), .unset, .unset, .unset] at_281 rfl rfl ?_
          refine og_goto X28 341 at_283 (by decide) (by decide) ?_
          exact J31 _ _ X28 (Keep.refl _ _) (((XT.ushr pp (16 : Int32))).toUInt32.toUInt16.toUInt32.toInt32) trivial
        · -- not
          refine og_ifY X28 286 at_273 (XT.i0_ne_t hc46) (by decide) (by decide) ?_
          refine og_iload X28 288 at_286 rfl rfl ?_
          refine og_iconst X28 289 (1 : Int32) at_288 rfl rfl ?_
          by_cases hc47 : (pp &&& (3 : Int32)) = (1 : Int32)
          · -- (pp &&& (3 : Int32)) = (1 : Int32)
            refine og_icmpN X28 292 at_289 (XT.ii_ne_f hc47) rfl ?_
            refine og_aload X28 294 at_292 rfl rfl rfl ?_
            refine og_iload X28 296 at_294 rfl rfl ?_
            refine og_iconst X28 297 (2 : Int32) at_296 rfl rfl ?_
            refine own_stat X28 300 (argsL := [(.int 0), (.int 2)]) (rest := [(.ref b1)]) at_297 (rm_min0 l Z a0 hw n0 h28 hWd [] X28.old (0 : Int32) (2 : Int32) (by decide) ) (ow hw 34 rfl) (ow hw 35 rfl) (ow hw 36 rfl) (ow hw 37 rfl) (by decide) (lenOf pd__28II_29I rfl) rfl rfl rfl (W := 1) rfl (by decide) (by decide) (by decide) (by decide) all0 rfl ?_
            intro T48 h48 v48 X48 K48 hQ48
            obtain rfl := hQ48
            show OGo _ _ _ _ T48 (mkF m 300 #[.val (.int pa), .val (.int pb), .val (.int pp), .val (.int u0), .val (.int u1), .val (.int u2), .val (.int 0), .val (.int 0), .val (.ref b1), .val (.ref b9), .val (.ref b19), .val (.int 1), .val (.int (pp &&& (3 : Int32))), .unset, .unset, .unset, .unset] [(.int 0), (.ref b1)])
            have f49 := f8.keep K9 nin0
            have f50 := f49.keep K12 nin0
            have f51 := f50.keep K17 (ninS (Nat.ne_of_lt (Nat.lt_of_lt_of_le (Nat.lt_of_lt_of_le U1 (Nat.le_trans (Nat.le_trans K3.1 K5.1) K7.1)) G9)) nin0)
            have f52 := f51.keep K19 nin0
            have f53 := f52.keep K23 nin0
            have f54 := f53.keep K28 (ninS (Nat.ne_of_lt (Nat.lt_of_lt_of_le (Nat.lt_of_lt_of_le U1 (Nat.le_trans (Nat.le_trans (Nat.le_trans (Nat.le_trans (Nat.le_trans K3.1 K5.1) K7.1) K9.1) K12.1) K17.1)) G19)) nin0)
            have f55 := f54.keep K48 nin0
            refine own_ldC X48 301 at_300 f55 (by decide) (by decide) rfl rfl ?_
            refine og_istore X48 303 #[.val (.int pa), .val (.int pb), .val (.int pp), .val (.int u0), .val (.int u1), .val (.int u2), .val (.int 0), .val (.int 0), .val (.ref b1), .val (.ref b9), .val (.ref b19), .val (.int 1), .val (.int (pp &&& (3 : Int32))), .val (.int u0), .unset, .unset, .unset] at_301 rfl rfl ?_
            refine og_goto X48 341 at_303 (by decide) (by decide) ?_
            exact J31 _ _ X48 K48 u0 trivial
          · -- not
            refine og_icmpY X28 306 at_289 (XT.ii_ne_t hc47) (by decide) (by decide) ?_
            refine og_iload X28 308 at_306 rfl rfl ?_
            refine og_iconst X28 309 (2 : Int32) at_308 rfl rfl ?_
            by_cases hc56 : (pp &&& (3 : Int32)) = (2 : Int32)
            · -- (pp &&& (3 : Int32)) = (2 : Int32)
              refine og_icmpN X28 312 at_309 (XT.ii_ne_f hc56) rfl ?_
              refine og_aload X28 314 at_312 rfl rfl rfl ?_
              refine og_iload X28 316 at_314 rfl rfl ?_
              refine og_iconst X28 317 (1 : Int32) at_316 rfl rfl ?_
              refine og_iadd X28 318 at_317 rfl ?_
              show OGo _ _ _ _ T28 (mkF m 318 #[.val (.int pa), .val (.int pb), .val (.int pp), .val (.int u0), .val (.int u1), .val (.int u2), .val (.int 0), .val (.int 0), .val (.ref b1), .val (.ref b9), .val (.ref b19), .val (.int 1), .val (.int (pp &&& (3 : Int32))), .unset, .unset, .unset, .unset] [(.int 1), (.ref b1)])
              refine og_iconst X28 319 (2 : Int32) at_318 rfl rfl ?_
              refine own_stat X28 322 (argsL := [(.int 1), (.int 2)]) (rest := [(.ref b1)]) at_319 (rm_min0 l Z a0 hw n0 h28 hWd [] X28.old (1 : Int32) (2 : Int32) (by decide) ) (ow hw 34 rfl) (ow hw 35 rfl) (ow hw 36 rfl) (ow hw 37 rfl) (by decide) (lenOf pd__28II_29I rfl) rfl rfl rfl (W := 1) rfl (by decide) (by decide) (by decide) (by decide) all0 rfl ?_
              intro T57 h57 v57 X57 K57 hQ57
              obtain rfl := hQ57
              show OGo _ _ _ _ T57 (mkF m 322 #[.val (.int pa), .val (.int pb), .val (.int pp), .val (.int u0), .val (.int u1), .val (.int u2), .val (.int 0), .val (.int 0), .val (.ref b1), .val (.ref b9), .val (.ref b19), .val (.int 1), .val (.int (pp &&& (3 : Int32))), .unset, .unset, .unset, .unset] [(.int 1), (.ref b1)])
              have f58 := f8.keep K9 nin0
              have f59 := f58.keep K12 nin0
              have f60 := f59.keep K17 (ninS (Nat.ne_of_lt (Nat.lt_of_lt_of_le (Nat.lt_of_lt_of_le U1 (Nat.le_trans (Nat.le_trans K3.1 K5.1) K7.1)) G9)) nin0)
              have f61 := f60.keep K19 nin0
              have f62 := f61.keep K23 nin0
              have f63 := f62.keep K28 (ninS (Nat.ne_of_lt (Nat.lt_of_lt_of_le (Nat.lt_of_lt_of_le U1 (Nat.le_trans (Nat.le_trans (Nat.le_trans (Nat.le_trans (Nat.le_trans K3.1 K5.1) K7.1) K9.1) K12.1) K17.1)) G19)) nin0)
              have f64 := f63.keep K57 nin0
              refine own_ldC X57 323 at_322 f64 (by decide) (by decide) rfl rfl ?_
              refine og_istore X57 325 #[.val (.int pa), .val (.int pb), .val (.int pp), .val (.int u0), .val (.int u1), .val (.int u2), .val (.int 0), .val (.int 0), .val (.ref b1), .val (.ref b9), .val (.ref b19), .val (.int 1), .val (.int (pp &&& (3 : Int32))), .val (.int u1), .unset, .unset, .unset] at_323 rfl rfl ?_
              refine og_goto X57 341 at_325 (by decide) (by decide) ?_
              exact J31 _ _ X57 K57 u1 trivial
            · -- not
              refine og_icmpY X28 328 at_309 (XT.ii_ne_t hc56) (by decide) (by decide) ?_
              refine og_aload X28 330 at_328 rfl rfl rfl ?_
              refine og_iload X28 332 at_330 rfl rfl ?_
              refine og_iconst X28 333 (1 : Int32) at_332 rfl rfl ?_
              refine og_isub X28 334 at_333 rfl ?_
              show OGo _ _ _ _ T28 (mkF m 334 #[.val (.int pa), .val (.int pb), .val (.int pp), .val (.int u0), .val (.int u1), .val (.int u2), .val (.int 0), .val (.int 0), .val (.ref b1), .val (.ref b9), .val (.ref b19), .val (.int 1), .val (.int (pp &&& (3 : Int32))), .unset, .unset, .unset, .unset] [(.int (-1 : Int32)), (.ref b1)])
              refine og_iconst X28 335 (0 : Int32) at_334 rfl rfl ?_
              refine own_stat X28 338 (argsL := [(.int (-1 : Int32)), (.int 0)]) (rest := [(.ref b1)]) at_335 (rm_max1 l Z a0 hw n0 h28 hWd [] X28.old (-1 : Int32) (0 : Int32) (by decide) ) (ow hw 56 rfl) (ow hw 57 rfl) (ow hw 36 rfl) (ow hw 58 rfl) (by decide) (lenOf pd__28II_29I rfl) rfl rfl rfl (W := 1) rfl (by decide) (by decide) (by decide) (by decide) all0 rfl ?_
              intro T65 h65 v65 X65 K65 hQ65
              obtain rfl := hQ65
              show OGo _ _ _ _ T65 (mkF m 338 #[.val (.int pa), .val (.int pb), .val (.int pp), .val (.int u0), .val (.int u1), .val (.int u2), .val (.int 0), .val (.int 0), .val (.ref b1), .val (.ref b9), .val (.ref b19), .val (.int 1), .val (.int (pp &&& (3 : Int32))), .unset, .unset, .unset, .unset] [(.int 0), (.ref b1)])
              have f66 := f8.keep K9 nin0
              have f67 := f66.keep K12 nin0
              have f68 := f67.keep K17 (ninS (Nat.ne_of_lt (Nat.lt_of_lt_of_le (Nat.lt_of_lt_of_le U1 (Nat.le_trans (Nat.le_trans K3.1 K5.1) K7.1)) G9)) nin0)
              have f69 := f68.keep K19 nin0
              have f70 := f69.keep K23 nin0
              have f71 := f70.keep K28 (ninS (Nat.ne_of_lt (Nat.lt_of_lt_of_le (Nat.lt_of_lt_of_le U1 (Nat.le_trans (Nat.le_trans (Nat.le_trans (Nat.le_trans (Nat.le_trans K3.1 K5.1) K7.1) K9.1) K12.1) K17.1)) G19)) nin0)
              have f72 := f71.keep K65 nin0
              refine own_ldC X65 339 at_338 f72 (by decide) (by decide) rfl rfl ?_
              refine og_istore X65 341 #[.val (.int pa), .val (.int pb), .val (.int pp), .val (.int u0), .val (.int u1), .val (.int u2), .val (.int 0), .val (.int 0), .val (.ref b1), .val (.ref b9), .val (.ref b19), .val (.int 1), .val (.int (pp &&& (3 : Int32))), .val (.int u0), .unset, .unset, .unset] at_339 rfl rfl ?_
              exact J31 _ _ X65 K65 u0 trivial
  · -- 1
    rw [eQ]
    refine og_iloadN X0 23 at_22 rfl rfl ?_
    refine og_bipush X0 25 (18 : Int32) at_23 rfl rfl ?_
    refine og_iushr X0 26 at_25 rfl ?_
    refine og_iconst X0 27 (3 : Int32) at_26 rfl rfl ?_
    refine og_iand X0 28 at_27 rfl ?_
    refine og_iload X0 30 at_28 rfl rfl ?_
    refine og_iconst X0 31 (1 : Int32) at_30 rfl rfl ?_
    refine og_iadd X0 32 at_31 rfl ?_
    show OGo _ _ _ _ T0 (mkF m 32 #[.val (.int pa), .val (.int pb), .val (.int pp), .val (.int u0), .val (.int u1), .val (.int u2), .val (.int 1), .unset, .unset, .unset, .unset, .unset, .unset, .unset, .unset, .unset, .unset] [(.int 2), (.int ((XT.ushr pb (18 : Int32)) &&& (3 : Int32)))])
    refine og_irem X0 33 at_32 (by decide) rfl ?_
    refine og_istore X0 35 #[.val (.int pa), .val (.int pb), .val (.int pp), .val (.int u0), .val (.int u1), .val (.int u2), .val (.int 1), .val (.int (((XT.ushr pb (18 : Int32)) &&& (3 : Int32)) % (2 : Int32))), .unset, .unset, .unset, .unset, .unset, .unset, .unset, .unset, .unset] at_33 rfl rfl ?_
    rcases own_rem2 (own_and3 (XT.ushr pb (18 : Int32))) with eQ | eQ
    · -- 0
      rw [eQ]
      refine og_iconst X0 36 (3 : Int32) at_35 rfl rfl ?_
      refine own_arr X0 38 at_36 (ow hw 0 rfl) (by decide) (cap := 3) (by decide) (by decide) (by decide) (by decide) rfl ?_
      intro T73 h73 b73 kb73 X73 K73 G73 U73 A73
      have f74 : Arv Z h73 b73 kb73 .char (3 : Int32) [(.int 0), (.int 0), (.int 0)] (.int 0) := A73
      refine og_dup X73 39 at_38 rfl rfl ?_
      refine og_iconst X73 40 (0 : Int32) at_39 rfl rfl ?_
      refine og_iloadN X73 41 at_40 rfl rfl ?_
      refine own_stC X73 42 at_41 f74 (own_nch B_u0.1 B_u0.2) (by decide) (by decide) (i := 0) (by decide) (Nat.le_of_ble_eq_true rfl) (om 0 rfl) rfl ?_
      intro T75 h75 X75 W75 K75 A75
      have f76 : Arv Z h75 b73 kb73 .char (3 : Int32) [(.int u0), (.int 0), (.int 0)] (.int 0) := A75
      refine og_dup X75 43 at_42 rfl rfl ?_
      refine og_iconst X75 44 (1 : Int32) at_43 rfl rfl ?_
      refine og_iload X75 46 at_44 rfl rfl ?_
      refine own_stC X75 47 at_46 f76 (own_nch B_u1.1 B_u1.2) (by decide) (by decide) (i := 1) (by decide) (Nat.le_of_ble_eq_true rfl) (om 0 rfl) rfl ?_
      intro T77 h77 X77 W77 K77 A77
      have f78 : Arv Z h77 b73 kb73 .char (3 : Int32) [(.int u0), (.int u1), (.int 0)] (.int 0) := A77
      refine og_dup X77 48 at_47 rfl rfl ?_
      refine og_iconst X77 49 (2 : Int32) at_48 rfl rfl ?_
      refine og_iload X77 51 at_49 rfl rfl ?_
      refine own_stC X77 52 at_51 f78 (own_nch B_u2.1 B_u2.2) (by decide) (by decide) (i := 2) (by decide) (Nat.le_of_ble_eq_true rfl) (om 0 rfl) rfl ?_
      intro T79 h79 X79 W79 K79 A79
      have f80 : Arv Z h79 b73 kb73 .char (3 : Int32) [(.int u0), (.int u1), (.int u2)] (.int 0) := A79
      refine og_astore X79 54 #[.val (.int pa), .val (.int pb), .val (.int pp), .val (.int u0), .val (.int u1), .val (.int u2), .val (.int 1), .val (.int 0), .val (.ref b73), .unset, .unset, .unset, .unset, .unset, .unset, .unset, .unset] at_52 rfl rfl rfl ?_
      refine og_iload X79 56 at_54 rfl rfl ?_
      refine og_ifY X79 74 at_56 (XT.i0_ne_t (by decide)) (by decide) (by decide) ?_
      refine og_iload X79 76 at_74 rfl rfl ?_
      refine og_iconst X79 77 (1 : Int32) at_76 rfl rfl ?_
      refine og_icmpN X79 80 at_77 (XT.ii_ne_f (by decide)) rfl ?_
      refine own_new X79 83 at_80 (ow hw 1 rfl) (ow hw 2 rfl) (ow hw 3 rfl) (by decide) (by decide) rfl ?_
      intro T81 h81 b81 X81 K81 G81 U81 E81 D81
      have f82 : Fld Z h81 b81 "java/lang/String" "value" "[B" .null := D81 (Or.inr (ow hw 16 rfl)) (ty := (.array .byte)) (by decide)
      have f83 : Fld Z h81 b81 "java/lang/String" "coder" "B" (.int 0) := D81 (Or.inr (ow hw 17 rfl)) (ty := .byte) (by decide)
      refine og_dup X81 84 at_83 rfl rfl ?_
      refine og_iconst X81 85 (1 : Int32) at_84 rfl rfl ?_
      refine own_arr X81 87 at_85 (ow hw 0 rfl) (by decide) (cap := 1) (by decide) (by decide) (by decide) (by decide) rfl ?_
      intro T84 h84 b84 kb84 X84 K84 G84 U84 A84
      have f85 : Arv Z h84 b84 kb84 .char (1 : Int32) [(.int 0)] (.int 0) := A84
      refine og_dup X84 88 at_87 rfl rfl ?_
      refine og_iconst X84 89 (0 : Int32) at_88 rfl rfl ?_
      refine og_iloadN X84 90 at_89 rfl rfl ?_
      refine own_stC X84 91 at_90 f85 (own_nch B_u0.1 B_u0.2) (by decide) (by decide) (i := 0) (by decide) (Nat.le_of_ble_eq_true rfl) (om 0 rfl) rfl ?_
      intro T86 h86 X86 W86 K86 A86
      have f87 : Arv Z h86 b84 kb84 .char (1 : Int32) [(.int u0)] (.int 0) := A86
      have f88 := E81.keep K84
      have f89 := f88.keep K86
      have f90 := f82.keep K84 nin0
      have f91 := f90.keep K86 (ninS (Nat.ne_of_lt (Nat.lt_of_lt_of_le U81 G84)) nin0)
      have f92 := f83.keep K84 nin0
      have f93 := f92.keep K86 (ninS (Nat.ne_of_lt (Nat.lt_of_lt_of_le U81 G84)) nin0)
      refine own_spec X86 94 (a := b81) (argsL := [(.ref b84)]) (rest := [(.ref b81)]) at_91 rfl (ru_ini1 l Z a0 hw n0 h86 hWd [] X86.old b81 b84 .null (0 : Int32) kb84 (.int 0) u0 f89 f91 f93 f87 B_u0.1 B_u0.2 (own_svb X86 (om 1 rfl))) (ow hw 4 rfl) (ow hw 5 rfl) (ow hw 3 rfl) (ow hw 6 rfl) (by decide) (lenOf pd__28_5bC_29V rfl) rfl rfl rfl (W := 1) rfl (by decide) (by decide) (by decide) (by decide) (allS (om 1 rfl) all0) rfl ?_
      intro T94 h94 v94 X94 K94 hQ94
      obtain ⟨rfl, f95⟩ := hQ94
      show OGo _ _ _ _ T94 (mkF m 94 #[.val (.int pa), .val (.int pb), .val (.int pp), .val (.int u0), .val (.int u1), .val (.int u2), .val (.int 1), .val (.int 0), .val (.ref b73), .unset, .unset, .unset, .unset, .unset, .unset, .unset, .unset] [(.ref b81)])
      refine og_astore X94 96 #[.val (.int pa), .val (.int pb), .val (.int pp), .val (.int u0), .val (.int u1), .val (.int u2), .val (.int 1), .val (.int 0), .val (.ref b73), .val (.ref b81), .unset, .unset, .unset, .unset, .unset, .unset, .unset] at_94 rfl rfl rfl ?_
      refine og_goto X94 155 at_96 (by decide) (by decide) ?_
      refine own_new X94 158 at_155 (ow hw 22 rfl) (ow hw 23 rfl) (ow hw 24 rfl) (by decide) (by decide) rfl ?_
      intro T96 h96 b96 X96 K96 G96 U96 E96 D96
      have f97 : Fld Z h96 b96 "com/example/bote/bote/fields/FieldCursor" "text" "Ljava/lang/String;" .null := D96 (Or.inr (ow hw 31 rfl)) (ty := (.object "java/lang/String")) (by decide)
      have f98 : Fld Z h96 b96 "com/example/bote/bote/fields/FieldCursor" "shape" "Ljava/lang/String;" .null := D96 (Or.inr (ow hw 33 rfl)) (ty := (.object "java/lang/String")) (by decide)
      have f99 : Fld Z h96 b96 "com/example/bote/bote/fields/FieldCursor" "at" "I" (.int 0) := D96 (Or.inl (ow hw 44 rfl)) (ty := .int) (by decide)
      refine og_dup X96 159 at_158 rfl rfl ?_
      refine og_aload X96 161 at_159 rfl rfl rfl ?_
      refine own_ldcO X96 163 (cap := 20) at_161 own_ELne (ow hw 25 rfl) (own_wS hw) (by decide) (by decide) (by decide) (by decide) rfl ?_
      intro T100 h100 a100 X100 K100
      have f101 := E96.keep K100
      have f102 := f97.keep K100 nin0
      have f103 := f98.keep K100 nin0
      have f104 := f99.keep K100 nin0
      refine own_spec X100 166 (a := b96) (argsL := [(.ref b81), (.ref a100)]) (rest := [(.ref b96)]) at_163 rfl (rm4 l Z a0 hw n0 h100 hWd [] X100.old b96 b81 a100 f101 f102 f103 f104 (own_svb X100 (om 0 rfl))) (ow hw 26 rfl) (ow hw 27 rfl) (ow hw 24 rfl) (ow hw 28 rfl) (by decide) (lenOf pd__28Ljava_2flang_2fString_3bLjava_2flang_2fString_3b_29V rfl) rfl rfl rfl (W := 1) rfl (by decide) (by decide) (by decide) (by decide) (allS (om 0 rfl) all0) rfl ?_
      intro T105 h105 v105 X105 K105 hQ105
      obtain ⟨rfl, f106, f107⟩ := hQ105
      show OGo _ _ _ _ T105 (mkF m 166 #[.val (.int pa), .val (.int pb), .val (.int pp), .val (.int u0), .val (.int u1), .val (.int u2), .val (.int 1), .val (.int 0), .val (.ref b73), .val (.ref b81), .unset, .unset, .unset, .unset, .unset, .unset, .unset] [(.ref b96)])
      refine og_astore X105 168 #[.val (.int pa), .val (.int pb), .val (.int pp), .val (.int u0), .val (.int u1), .val (.int u2), .val (.int 1), .val (.int 0), .val (.ref b73), .val (.ref b81), .val (.ref b96), .unset, .unset, .unset, .unset, .unset, .unset] at_166 rfl rfl rfl ?_
      refine og_iconst X105 169 (1 : Int32) at_168 rfl rfl ?_
      refine og_istore X105 171 #[.val (.int pa), .val (.int pb), .val (.int pp), .val (.int u0), .val (.int u1), .val (.int u2), .val (.int 1), .val (.int 0), .val (.ref b73), .val (.ref b81), .val (.ref b96), .val (.int 1), .unset, .unset, .unset, .unset, .unset] at_169 rfl rfl ?_
      refine og_iload X105 173 at_171 rfl rfl ?_
      refine og_iconst X105 174 (1 : Int32) at_173 rfl rfl ?_
      refine og_icmpY X105 202 at_174 (XT.ii_lt_t (by decide)) (by decide) (by decide) ?_
      refine og_iload X105 204 at_202 rfl rfl ?_
      refine og_iconst X105 205 (2 : Int32) at_204 rfl rfl ?_
      refine og_icmpY X105 234 at_205 (XT.ii_lt_t (by decide)) (by decide) (by decide) ?_
      refine og_iload X105 236 at_234 rfl rfl ?_
      refine og_iconst X105 237 (3 : Int32) at_236 rfl rfl ?_
      refine og_icmpY X105 266 at_237 (XT.ii_lt_t (by decide)) (by decide) (by decide) ?_
      refine og_iloadN X105 267 at_266 rfl rfl ?_
      refine og_iconst X105 268 (3 : Int32) at_267 rfl rfl ?_
      refine og_iand X105 269 at_268 rfl ?_
      refine og_istore X105 271 #[.val (.int pa), .val (.int pb), .val (.int pp), .val (.int u0), .val (.int u1), .val (.int u2), .val (.int 1), .val (.int 0), .val (.ref b73), .val (.ref b81), .val (.ref b96), .val (.int 1), .val (.int (pp &&& (3 : Int32))), .unset, .unset, .unset, .unset] at_269 rfl rfl ?_
      refine own_cut X105 341 (fun (w : Int32) => #[.val (.int pa), .val (.int pb), .val (.int pp), .val (.int u0), .val (.int u1), .val (.int u2), .val (.int 1), .val (.int 0), .val (.ref b73), .val (.ref b81), .val (.ref b96), .val (.int 1), .val (.int (pp &&& (3 : Int32))), .val (.int w), .unset, .unset, .unset]) (fun _ => []) (fun w => True) ?_ ?_
      · -- the common way on
        intro T108 h108 X108 K108 w ok108
        show OGo _ _ _ _ T108 (mkF m 341 #[.val (.int pa), .val (.int pb), .val (.int pp), .val (.int u0), .val (.int u1), .val (.int u2), .val (.int 1), .val (.int 0), .val (.ref b73), .val (.ref b81), .val (.ref b96), .val (.int 1), .val (.int (pp &&& (3 : Int32))), .val (.int w), .unset, .unset, .unset] [])
        refine og_iload X108 343 at_341 rfl rfl ?_
        refine og_iload X108 345 at_343 rfl rfl ?_
        refine og_icmpN X108 348 at_345 (XT.ii_ge_f (by decide)) rfl ?_
        refine og_aload X108 350 at_348 rfl rfl rfl ?_
        refine og_iload X108 352 at_350 rfl rfl ?_
        have f109 := f80.keep K81 nin0
        have f110 := f109.keep K84 nin0
        have f111 := f110.keep K86 (ninS (Nat.ne_of_lt (Nat.lt_of_lt_of_le (Nat.lt_of_lt_of_le U73 (Nat.le_trans (Nat.le_trans (Nat.le_trans K75.1 K77.1) K79.1) K81.1)) G84)) nin0)
        have f112 := f111.keep K94 (ninS (Nat.ne_of_lt (Nat.lt_of_lt_of_le (Nat.lt_of_lt_of_le U73 (Nat.le_trans (Nat.le_trans K75.1 K77.1) K79.1)) G81)) nin0)
        have f113 := f112.keep K96 nin0
        have f114 := f113.keep K100 nin0
        have f115 := f114.keep K105 (ninS (Nat.ne_of_lt (Nat.lt_of_lt_of_le (Nat.lt_of_lt_of_le U73 (Nat.le_trans (Nat.le_trans (Nat.le_trans (Nat.le_trans (Nat.le_trans (Nat.le_trans K75.1 K77.1) K79.1) K81.1) K84.1) K86.1) K94.1)) G96)) nin0)
        have f116 := f115.keep K108 nin0
        refine own_ldC X108 353 at_352 f116 (by decide) (by decide) rfl rfl ?_
        refine og_iload X108 355 at_353 rfl rfl ?_
        by_cases hc117 : u0 = w
        · -- u0 = w
          refine og_icmpN X108 358 at_355 (XT.ii_ne_f hc117) rfl ?_
          refine og_iconst X108 359 (1 : Int32) at_358 rfl rfl ?_
          refine og_goto X108 363 at_359 (by decide) (by decide) ?_
          refine og_istore X108 365 #[.val (.int pa), .val (.int pb), .val (.int pp), .val (.int u0), .val (.int u1), .val (.int u2), .val (.int 1), .val (.int 0), .val (.ref b73), .val (.ref b81), .val (.ref b96), .val (.int 1), .val (.int (pp &&& (3 : Int32))), .val (.int w), .val (.int 1), .unset, .unset] at_363 rfl rfl ?_
          refine og_aload X108 367 at_365 rfl rfl rfl ?_
          refine og_iload X108 369 at_367 rfl rfl ?_
          have f118 := f101.keep K105
          have f119 := f118.keep K108
          have f120 := f106.keep K108 nin0
          have f121 := f107.keep K108 nin0
          have f122 := f95.keep K96 all0
          have f123 := f122.keep K100 all0
          have f124 := f123.keep K105 (allS (Or.inl (Nat.le_trans (Nat.le_refl _) G96)) all0)
          have f125 := f124.keep K108 all0
          refine own_virt X108 372 (a := b96) (argsL := [(.int w)]) (rest := []) at_369 f119 (fun _ hZ => notFace_of_selects (args := #[]) (mvT hZ (ow hw 41 rfl))) (rm_nx1_0 l Z a0 hw n0 h108 hWd [] X108.old b96 b81 u0 w f120 f121 f125.top ) (ow hw 38 rfl) (ow hw 39 rfl) (ow hw 41 rfl) (ow hw 40 rfl) (ow hw 24 rfl) (ow hw 42 rfl) (by decide) (lenOf pd__28C_29Z rfl) rfl rfl rfl (W := 0) rfl (by decide) (by decide) (by decide) (by decide) all0 rfl ?_
          intro T126 h126 v126 X126 K126 hQ126
          obtain rfl := hQ126
          show OGo _ _ _ _ T126 (mkF m 372 #[.val (.int pa), .val (.int pb), .val (.int pp), .val (.int u0), .val (.int u1), .val (.int u2), .val (.int 1), .val (.int 0), .val (.ref b73), .val (.ref b81), .val (.ref b96), .val (.int 1), .val (.int (pp &&& (3 : Int32))), .val (.int w), .val (.int 1), .unset, .unset] [(.int (own_eq1 u0 w))])
          refine og_istore X126 374 #[.val (.int pa), .val (.int pb), .val (.int pp), .val (.int u0), .val (.int u1), .val (.int u2), .val (.int 1), .val (.int 0), .val (.ref b73), .val (.ref b81), .val (.ref b96), .val (.int 1), .val (.int (pp &&& (3 : Int32))), .val (.int w), .val (.int 1), .val (.int (own_eq1 u0 w)), .unset] at_372 rfl rfl ?_
          refine og_aload X126 376 at_374 rfl rfl rfl ?_
          refine og_iload X126 378 at_376 rfl rfl ?_
          have f127 := f119.keep K126
          have f128 := f120.keep K126 nin0
          have f129 := f121.keep K126 nin0
          have f130 := f125.keep K126 all0
          refine own_virt X126 381 (a := b96) (argsL := [(.int w)]) (rest := []) at_378 f127 (fun _ hZ => notFace_of_selects (args := #[]) (mvT hZ (ow hw 41 rfl))) (rm_nx1_0 l Z a0 hw n0 h126 hWd [] X126.old b96 b81 u0 w f128 f129 f130.top ) (ow hw 38 rfl) (ow hw 39 rfl) (ow hw 41 rfl) (ow hw 40 rfl) (ow hw 24 rfl) (ow hw 42 rfl) (by decide) (lenOf pd__28C_29Z rfl) rfl rfl rfl (W := 0) rfl (by decide) (by decide) (by decide) (by decide) all0 rfl ?_
          intro T131 h131 v131 X131 K131 hQ131
          obtain rfl := hQ131
          show OGo _ _ _ _ T131 (mkF m 381 #[.val (.int pa), .val (.int pb), .val (.int pp), .val (.int u0), .val (.int u1), .val (.int u2), .val (.int 1), .val (.int 0), .val (.ref b73), .val (.ref b81), .val (.ref b96), .val (.int 1), .val (.int (pp &&& (3 : Int32))), .val (.int w), .val (.int 1), .val (.int (own_eq1 u0 w)), .unset] [(.int (own_eq1 u0 w))])
          refine og_istore X131 383 #[.val (.int pa), .val (.int pb), .val (.int pp), .val (.int u0), .val (.int u1), .val (.int u2), .val (.int 1), .val (.int 0), .val (.ref b73), .val (.ref b81), .val (.ref b96), .val (.int 1), .val (.int (pp &&& (3 : Int32))), .val (.int w), .val (.int 1), .val (.int (own_eq1 u0 w)), .val (.int (own_eq1 u0 w))] at_381 rfl rfl ?_
          refine og_iload X131 385 at_383 rfl rfl ?_
          refine og_ifN X131 388 at_385 (XT.i0_eq_f (by decide)) rfl ?_
          refine og_iload X131 390 at_388 rfl rfl ?_
          refine og_iload X131 392 at_390 rfl rfl ?_
          refine og_icmpN X131 395 at_392 (XT.ii_ne_f (by rw [own_eq1, if_pos hc117])) rfl ?_
          refine og_iload X131 397 at_395 rfl rfl ?_
          refine og_iload X131 399 at_397 rfl rfl ?_
          refine og_icmpN X131 402 at_399 (XT.ii_ne_f (by rw [own_eq1, if_pos hc117])) rfl ?_
          refine og_iconst X131 403 (1 : Int32) at_402 rfl rfl ?_
          refine og_goto X131 407 at_403 (by decide) (by decide) ?_
          refine own_retZ X131 at_407 hret rfl (by decide) (by decide) ?_
          exact rfl
        · -- not
          refine og_icmpY X108 362 at_355 (XT.ii_ne_t hc117) (by decide) (by decide) ?_
          refine og_iconst X108 363 (0 : Int32) at_362 rfl rfl ?_
          refine og_istore X108 365 #[.val (.int pa), .val (.int pb), .val (.int pp), .val (.int u0), .val (.int u1), .val (.int u2), .val (.int 1), .val (.int 0), .val (.ref b73), .val (.ref b81), .val (.ref b96), .val (.int 1), .val (.int (pp &&& (3 : Int32))), .val (.int w), .val (.int 0), .unset, .unset] at_363 rfl rfl ?_
          refine og_aload X108 367 at_365 rfl rfl rfl ?_
          refine og_iload X108 369 at_367 rfl rfl ?_
          have f132 := f101.keep K105
          have f133 := f132.keep K108
          have f134 := f106.keep K108 nin0
          have f135 := f107.keep K108 nin0
          have f136 := f95.keep K96 all0
          have f137 := f136.keep K100 all0
          have f138 := f137.keep K105 (allS (Or.inl (Nat.le_trans (Nat.le_refl _) G96)) all0)
          have f139 := f138.keep K108 all0
          refine own_virt X108 372 (a := b96) (argsL := [(.int w)]) (rest := []) at_369 f133 (fun _ hZ => notFace_of_selects (args := #[]) (mvT hZ (ow hw 41 rfl))) (rm_nx1_0 l Z a0 hw n0 h108 hWd [] X108.old b96 b81 u0 w f134 f135 f139.top ) (ow hw 38 rfl) (ow hw 39 rfl) (ow hw 41 rfl) (ow hw 40 rfl) (ow hw 24 rfl) (ow hw 42 rfl) (by decide) (lenOf pd__28C_29Z rfl) rfl rfl rfl (W := 0) rfl (by decide) (by decide) (by decide) (by decide) all0 rfl ?_
          intro T140 h140 v140 X140 K140 hQ140
          obtain rfl := hQ140
          show OGo _ _ _ _ T140 (mkF m 372 #[.val (.int pa), .val (.int pb), .val (.int pp), .val (.int u0), .val (.int u1), .val (.int u2), .val (.int 1), .val (.int 0), .val (.ref b73), .val (.ref b81), .val (.ref b96), .val (.int 1), .val (.int (pp &&& (3 : Int32))), .val (.int w), .val (.int 0), .unset, .unset] [(.int (own_eq1 u0 w))])
          refine og_istore X140 374 #[.val (.int pa), .val (.int pb), .val (.int pp), .val (.int u0), .val (.int u1), .val (.int u2), .val (.int 1), .val (.int 0), .val (.ref b73), .val (.ref b81), .val (.ref b96), .val (.int 1), .val (.int (pp &&& (3 : Int32))), .val (.int w), .val (.int 0), .val (.int (own_eq1 u0 w)), .unset] at_372 rfl rfl ?_
          refine og_aload X140 376 at_374 rfl rfl rfl ?_
          refine og_iload X140 378 at_376 rfl rfl ?_
          have f141 := f133.keep K140
          have f142 := f134.keep K140 nin0
          have f143 := f135.keep K140 nin0
          have f144 := f139.keep K140 all0
          refine own_virt X140 381 (a := b96) (argsL := [(.int w)]) (rest := []) at_378 f141 (fun _ hZ => notFace_of_selects (args := #[]) (mvT hZ (ow hw 41 rfl))) (rm_nx1_0 l Z a0 hw n0 h140 hWd [] X140.old b96 b81 u0 w f142 f143 f144.top ) (ow hw 38 rfl) (ow hw 39 rfl) (ow hw 41 rfl) (ow hw 40 rfl) (ow hw 24 rfl) (ow hw 42 rfl) (by decide) (lenOf pd__28C_29Z rfl) rfl rfl rfl (W := 0) rfl (by decide) (by decide) (by decide) (by decide) all0 rfl ?_
          intro T145 h145 v145 X145 K145 hQ145
          obtain rfl := hQ145
          show OGo _ _ _ _ T145 (mkF m 381 #[.val (.int pa), .val (.int pb), .val (.int pp), .val (.int u0), .val (.int u1), .val (.int u2), .val (.int 1), .val (.int 0), .val (.ref b73), .val (.ref b81), .val (.ref b96), .val (.int 1), .val (.int (pp &&& (3 : Int32))), .val (.int w), .val (.int 0), .val (.int (own_eq1 u0 w)), .unset] [(.int (own_eq1 u0 w))])
          refine og_istore X145 383 #[.val (.int pa), .val (.int pb), .val (.int pp), .val (.int u0), .val (.int u1), .val (.int u2), .val (.int 1), .val (.int 0), .val (.ref b73), .val (.ref b81), .val (.ref b96), .val (.int 1), .val (.int (pp &&& (3 : Int32))), .val (.int w), .val (.int 0), .val (.int (own_eq1 u0 w)), .val (.int (own_eq1 u0 w))] at_381 rfl rfl ?_
          refine og_iload X145 385 at_383 rfl rfl ?_
          refine og_ifN X145 388 at_385 (XT.i0_eq_f (by decide)) rfl ?_
          refine og_iload X145 390 at_388 rfl rfl ?_
          refine og_iload X145 392 at_390 rfl rfl ?_
          refine og_icmpN X145 395 at_392 (XT.ii_ne_f (by rw [own_eq1, if_neg hc117])) rfl ?_
          refine og_iload X145 397 at_395 rfl rfl ?_
          refine og_iload X145 399 at_397 rfl rfl ?_
          refine og_icmpN X145 402 at_399 (XT.ii_ne_f (by rw [own_eq1, if_neg hc117])) rfl ?_
          refine og_iconst X145 403 (1 : Int32) at_402 rfl rfl ?_
          refine og_goto X145 407 at_403 (by decide) (by decide) ?_
          refine own_retZ X145 at_407 hret rfl (by decide) (by decide) ?_
          exact rfl
      · -- the ways to it
        intro J108
        refine og_iload X105 273 at_271 rfl rfl ?_
        by_cases hc146 : (pp &&& (3 : Int32)) = 0
        · -- (pp &&& (3 : Int32)) = 0
          refine og_ifN X105 276 at_273 (XT.i0_ne_f hc146) rfl ?_
          refine og_iloadN X105 277 at_276 rfl rfl ?_
          refine og_bipush X105 279 (16 : Int32) at_277 rfl rfl ?_
          refine og_iushr X105 280 at_279 rfl ?_
          refine og_i2c X105 281 at_280 rfl ?_
          refine og_istore X105 283 #[.val (.int pa), .val (.int pb), .val (.int pp), .val (.int u0), .val (.int u1), .val (.int u2), .val (.int 1), .val (.int 0), .val (.ref b73), .val (.ref b81), .val (.ref b96), .val (.int 1), .val (.int (pp &&& (3 : Int32))), .val (.int (((XT.ushr pp (16 : Int32))).toUInt32.toUInt16.toUInt32.toInt32)), .unset, .unset, .unset] at_281 rfl rfl ?_
          refine og_goto X105 341 at_283 (by decide) (by decide) ?_
          exact J108 _ _ X105 (Keep.refl _ _) (((XT.ushr pp (16 : Int32))).toUInt32.toUInt16.toUInt32.toInt32) trivial
        · -- not
          refine og_ifY X105 286 at_273 (XT.i0_ne_t hc146) (by decide) (by decide) ?_
          refine og_iload X105 288 at_286 rfl rfl ?_
          refine og_iconst X105 289 (1 : Int32) at_288 rfl rfl ?_
          by_cases hc147 : (pp &&& (3 : Int32)) = (1 : Int32)
          · -- (pp &&& (3 : Int32)) = (1 : Int32)
            refine og_icmpN X105 292 at_289 (XT.ii_ne_f hc147) rfl ?_
            refine og_aload X105 294 at_292 rfl rfl rfl ?_
            refine og_iload X105 296 at_294 rfl rfl ?_
            refine og_iconst X105 297 (2 : Int32) at_296 rfl rfl ?_
            refine own_stat X105 300 (argsL := [(.int 0), (.int 2)]) (rest := [(.ref b73)]) at_297 (rm_min0 l Z a0 hw n0 h105 hWd [] X105.old (0 : Int32) (2 : Int32) (by decide) ) (ow hw 34 rfl) (ow hw 35 rfl) (ow hw 36 rfl) (ow hw 37 rfl) (by decide) (lenOf pd__28II_29I rfl) rfl rfl rfl (W := 1) rfl (by decide) (by decide) (by decide) (by decide) all0 rfl ?_
            intro T148 h148 v148 X148 K148 hQ148
            obtain rfl := hQ148
            show OGo _ _ _ _ T148 (mkF m 300 #[.val (.int pa), .val (.int pb), .val (.int pp), .val (.int u0), .val (.int u1), .val (.int u2), .val (.int 1), .val (.int 0), .val (.ref b73), .val (.ref b81), .val (.ref b96), .val (.int 1), .val (.int (pp &&& (3 : Int32))), .unset, .unset, .unset, .unset] [(.int 0), (.ref b73)])
            have f149 := f80.keep K81 nin0
            have f150 := f149.keep K84 nin0
            have f151 := f150.keep K86 (ninS (Nat.ne_of_lt (Nat.lt_of_lt_of_le (Nat.lt_of_lt_of_le U73 (Nat.le_trans (Nat.le_trans (Nat.le_trans K75.1 K77.1) K79.1) K81.1)) G84)) nin0)
            have f152 := f151.keep K94 (ninS (Nat.ne_of_lt (Nat.lt_of_lt_of_le (Nat.lt_of_lt_of_le U73 (Nat.le_trans (Nat.le_trans K75.1 K77.1) K79.1)) G81)) nin0)
            have f153 := f152.keep K96 nin0
            have f154 := f153.keep K100 nin0
            have f155 := f154.keep K105 (ninS (Nat.ne_of_lt (Nat.lt_of_lt_of_le (Nat.lt_of_lt_of_le U73 (Nat.le_trans (Nat.le_trans (Nat.le_trans (Nat.le_trans (Nat.le_trans (Nat.le_trans K75.1 K77.1) K79.1) K81.1) K84.1) K86.1) K94.1)) G96)) nin0)
            have f156 := f155.keep K148 nin0
            refine own_ldC X148 301 at_300 f156 (by decide) (by decide) rfl rfl ?_
            refine og_istore X148 303 #[.val (.int pa), .val (.int pb), .val (.int pp), .val (.int u0), .val (.int u1), .val (.int u2), .val (.int 1), .val (.int 0), .val (.ref b73), .val (.ref b81), .val (.ref b96), .val (.int 1), .val (.int (pp &&& (3 : Int32))), .val (.int u0), .unset, .unset, .unset] at_301 rfl rfl ?_
            refine og_goto X148 341 at_303 (by decide) (by decide) ?_
            exact J108 _ _ X148 K148 u0 trivial
          · -- not
            refine og_icmpY X105 306 at_289 (XT.ii_ne_t hc147) (by decide) (by decide) ?_
            refine og_iload X105 308 at_306 rfl rfl ?_
            refine og_iconst X105 309 (2 : Int32) at_308 rfl rfl ?_
            by_cases hc157 : (pp &&& (3 : Int32)) = (2 : Int32)
            · -- (pp &&& (3 : Int32)) = (2 : Int32)
              refine og_icmpN X105 312 at_309 (XT.ii_ne_f hc157) rfl ?_
              refine og_aload X105 314 at_312 rfl rfl rfl ?_
              refine og_iload X105 316 at_314 rfl rfl ?_
              refine og_iconst X105 317 (1 : Int32) at_316 rfl rfl ?_
              refine og_iadd X105 318 at_317 rfl ?_
              show OGo _ _ _ _ T105 (mkF m 318 #[.val (.int pa), .val (.int pb), .val (.int pp), .val (.int u0), .val (.int u1), .val (.int u2), .val (.int 1), .val (.int 0), .val (.ref b73), .val (.ref b81), .val (.ref b96), .val (.int 1), .val (.int (pp &&& (3 : Int32))), .unset, .unset, .unset, .unset] [(.int 1), (.ref b73)])
              refine og_iconst X105 319 (2 : Int32) at_318 rfl rfl ?_
              refine own_stat X105 322 (argsL := [(.int 1), (.int 2)]) (rest := [(.ref b73)]) at_319 (rm_min0 l Z a0 hw n0 h105 hWd [] X105.old (1 : Int32) (2 : Int32) (by decide) ) (ow hw 34 rfl) (ow hw 35 rfl) (ow hw 36 rfl) (ow hw 37 rfl) (by decide) (lenOf pd__28II_29I rfl) rfl rfl rfl (W := 1) rfl (by decide) (by decide) (by decide) (by decide) all0 rfl ?_
              intro T158 h158 v158 X158 K158 hQ158
              obtain rfl := hQ158
              show OGo _ _ _ _ T158 (mkF m 322 #[.val (.int pa), .val (.int pb), .val (.int pp), .val (.int u0), .val (.int u1), .val (.int u2), .val (.int 1), .val (.int 0), .val (.ref b73), .val (.ref b81), .val (.ref b96), .val (.int 1), .val (.int (pp &&& (3 : Int32))), .unset, .unset, .unset, .unset] [(.int 1), (.ref b73)])
              have f159 := f80.keep K81 nin0
              have f160 := f159.keep K84 nin0
              have f161 := f160.keep K86 (ninS (Nat.ne_of_lt (Nat.lt_of_lt_of_le (Nat.lt_of_lt_of_le U73 (Nat.le_trans (Nat.le_trans (Nat.le_trans K75.1 K77.1) K79.1) K81.1)) G84)) nin0)
              have f162 := f161.keep K94 (ninS (Nat.ne_of_lt (Nat.lt_of_lt_of_le (Nat.lt_of_lt_of_le U73 (Nat.le_trans (Nat.le_trans K75.1 K77.1) K79.1)) G81)) nin0)
              have f163 := f162.keep K96 nin0
              have f164 := f163.keep K100 nin0
              have f165 := f164.keep K105 (ninS (Nat.ne_of_lt (Nat.lt_of_lt_of_le (Nat.lt_of_lt_of_le U73 (Nat.le_trans (Nat.le_trans (Nat.le_trans (Nat.le_trans (Nat.le_trans (Nat.le_trans K75.1 K77.1) K79.1) K81.1) K84.1) K86.1) K94.1)) G96)) nin0)
              have f166 := f165.keep K158 nin0
              refine own_ldC X158 323 at_322 f166 (by decide) (by decide) rfl rfl ?_
              refine og_istore X158 325 #[.val (.int pa), .val (.int pb), .val (.int pp), .val (.int u0), .val (.int u1), .val (.int u2), .val (.int 1), .val (.int 0), .val (.ref b73), .val (.ref b81), .val (.ref b96), .val (.int 1), .val (.int (pp &&& (3 : Int32))), .val (.int u1), .unset, .unset, .unset] at_323 rfl rfl ?_
              refine og_goto X158 341 at_325 (by decide) (by decide) ?_
              exact J108 _ _ X158 K158 u1 trivial
            · -- not
              refine og_icmpY X105 328 at_309 (XT.ii_ne_t hc157) (by decide) (by decide) ?_
              refine og_aload X105 330 at_328 rfl rfl rfl ?_
              refine og_iload X105 332 at_330 rfl rfl ?_
              refine og_iconst X105 333 (1 : Int32) at_332 rfl rfl ?_
              refine og_isub X105 334 at_333 rfl ?_
              show OGo _ _ _ _ T105 (mkF m 334 #[.val (.int pa), .val (.int pb), .val (.int pp), .val (.int u0), .val (.int u1), .val (.int u2), .val (.int 1), .val (.int 0), .val (.ref b73), .val (.ref b81), .val (.ref b96), .val (.int 1), .val (.int (pp &&& (3 : Int32))), .unset, .unset, .unset, .unset] [(.int (-1 : Int32)), (.ref b73)])
              refine og_iconst X105 335 (0 : Int32) at_334 rfl rfl ?_
              refine own_stat X105 338 (argsL := [(.int (-1 : Int32)), (.int 0)]) (rest := [(.ref b73)]) at_335 (rm_max1 l Z a0 hw n0 h105 hWd [] X105.old (-1 : Int32) (0 : Int32) (by decide) ) (ow hw 56 rfl) (ow hw 57 rfl) (ow hw 36 rfl) (ow hw 58 rfl) (by decide) (lenOf pd__28II_29I rfl) rfl rfl rfl (W := 1) rfl (by decide) (by decide) (by decide) (by decide) all0 rfl ?_
              intro T167 h167 v167 X167 K167 hQ167
              obtain rfl := hQ167
              show OGo _ _ _ _ T167 (mkF m 338 #[.val (.int pa), .val (.int pb), .val (.int pp), .val (.int u0), .val (.int u1), .val (.int u2), .val (.int 1), .val (.int 0), .val (.ref b73), .val (.ref b81), .val (.ref b96), .val (.int 1), .val (.int (pp &&& (3 : Int32))), .unset, .unset, .unset, .unset] [(.int 0), (.ref b73)])
              have f168 := f80.keep K81 nin0
              have f169 := f168.keep K84 nin0
              have f170 := f169.keep K86 (ninS (Nat.ne_of_lt (Nat.lt_of_lt_of_le (Nat.lt_of_lt_of_le U73 (Nat.le_trans (Nat.le_trans (Nat.le_trans K75.1 K77.1) K79.1) K81.1)) G84)) nin0)
              have f171 := f170.keep K94 (ninS (Nat.ne_of_lt (Nat.lt_of_lt_of_le (Nat.lt_of_lt_of_le U73 (Nat.le_trans (Nat.le_trans K75.1 K77.1) K79.1)) G81)) nin0)
              have f172 := f171.keep K96 nin0
              have f173 := f172.keep K100 nin0
              have f174 := f173.keep K105 (ninS (Nat.ne_of_lt (Nat.lt_of_lt_of_le (Nat.lt_of_lt_of_le U73 (Nat.le_trans (Nat.le_trans (Nat.le_trans (Nat.le_trans (Nat.le_trans (Nat.le_trans K75.1 K77.1) K79.1) K81.1) K84.1) K86.1) K94.1)) G96)) nin0)
              have f175 := f174.keep K167 nin0
              refine own_ldC X167 339 at_338 f175 (by decide) (by decide) rfl rfl ?_
              refine og_istore X167 341 #[.val (.int pa), .val (.int pb), .val (.int pp), .val (.int u0), .val (.int u1), .val (.int u2), .val (.int 1), .val (.int 0), .val (.ref b73), .val (.ref b81), .val (.ref b96), .val (.int 1), .val (.int (pp &&& (3 : Int32))), .val (.int u0), .unset, .unset, .unset] at_339 rfl rfl ?_
              exact J108 _ _ X167 K167 u0 trivial
    · -- 1
      rw [eQ]
      refine og_iconst X0 36 (3 : Int32) at_35 rfl rfl ?_
      refine own_arr X0 38 at_36 (ow hw 0 rfl) (by decide) (cap := 3) (by decide) (by decide) (by decide) (by decide) rfl ?_
      intro T176 h176 b176 kb176 X176 K176 G176 U176 A176
      have f177 : Arv Z h176 b176 kb176 .char (3 : Int32) [(.int 0), (.int 0), (.int 0)] (.int 0) := A176
      refine og_dup X176 39 at_38 rfl rfl ?_
      refine og_iconst X176 40 (0 : Int32) at_39 rfl rfl ?_
      refine og_iloadN X176 41 at_40 rfl rfl ?_
      refine own_stC X176 42 at_41 f177 (own_nch B_u0.1 B_u0.2) (by decide) (by decide) (i := 0) (by decide) (Nat.le_of_ble_eq_true rfl) (om 0 rfl) rfl ?_
      intro T178 h178 X178 W178 K178 A178
      have f179 : Arv Z h178 b176 kb176 .char (3 : Int32) [(.int u0), (.int 0), (.int 0)] (.int 0) := A178
      refine og_dup X178 43 at_42 rfl rfl ?_
      refine og_iconst X178 44 (1 : Int32) at_43 rfl rfl ?_
      refine og_iload X178 46 at_44 rfl rfl ?_
      refine own_stC X178 47 at_46 f179 (own_nch B_u1.1 B_u1.2) (by decide) (by decide) (i := 1) (by decide) (Nat.le_of_ble_eq_true rfl) (om 0 rfl) rfl ?_
      intro T180 h180 X180 W180 K180 A180
      have f181 : Arv Z h180 b176 kb176 .char (3 : Int32) [(.int u0), (.int u1), (.int 0)] (.int 0) := A180
      refine og_dup X180 48 at_47 rfl rfl ?_
      refine og_iconst X180 49 (2 : Int32) at_48 rfl rfl ?_
      refine og_iload X180 51 at_49 rfl rfl ?_
      refine own_stC X180 52 at_51 f181 (own_nch B_u2.1 B_u2.2) (by decide) (by decide) (i := 2) (by decide) (Nat.le_of_ble_eq_true rfl) (om 0 rfl) rfl ?_
      intro T182 h182 X182 W182 K182 A182
      have f183 : Arv Z h182 b176 kb176 .char (3 : Int32) [(.int u0), (.int u1), (.int u2)] (.int 0) := A182
      refine og_astore X182 54 #[.val (.int pa), .val (.int pb), .val (.int pp), .val (.int u0), .val (.int u1), .val (.int u2), .val (.int 1), .val (.int 1), .val (.ref b176), .unset, .unset, .unset, .unset, .unset, .unset, .unset, .unset] at_52 rfl rfl rfl ?_
      refine og_iload X182 56 at_54 rfl rfl ?_
      refine og_ifY X182 74 at_56 (XT.i0_ne_t (by decide)) (by decide) (by decide) ?_
      refine og_iload X182 76 at_74 rfl rfl ?_
      refine og_iconst X182 77 (1 : Int32) at_76 rfl rfl ?_
      refine og_icmpN X182 80 at_77 (XT.ii_ne_f (by decide)) rfl ?_
      refine own_new X182 83 at_80 (ow hw 1 rfl) (ow hw 2 rfl) (ow hw 3 rfl) (by decide) (by decide) rfl ?_
      intro T184 h184 b184 X184 K184 G184 U184 E184 D184
      have f185 : Fld Z h184 b184 "java/lang/String" "value" "[B" .null := D184 (Or.inr (ow hw 16 rfl)) (ty := (.array .byte)) (by decide)
      have f186 : Fld Z h184 b184 "java/lang/String" "coder" "B" (.int 0) := D184 (Or.inr (ow hw 17 rfl)) (ty := .byte) (by decide)
      refine og_dup X184 84 at_83 rfl rfl ?_
      refine og_iconst X184 85 (1 : Int32) at_84 rfl rfl ?_
      refine own_arr X184 87 at_85 (ow hw 0 rfl) (by decide) (cap := 1) (by decide) (by decide) (by decide) (by decide) rfl ?_
      intro T187 h187 b187 kb187 X187 K187 G187 U187 A187
      have f188 : Arv Z h187 b187 kb187 .char (1 : Int32) [(.int 0)] (.int 0) := A187
      refine og_dup X187 88 at_87 rfl rfl ?_
      refine og_iconst X187 89 (0 : Int32) at_88 rfl rfl ?_
      refine og_iloadN X187 90 at_89 rfl rfl ?_
      refine own_stC X187 91 at_90 f188 (own_nch B_u0.1 B_u0.2) (by decide) (by decide) (i := 0) (by decide) (Nat.le_of_ble_eq_true rfl) (om 0 rfl) rfl ?_
      intro T189 h189 X189 W189 K189 A189
      have f190 : Arv Z h189 b187 kb187 .char (1 : Int32) [(.int u0)] (.int 0) := A189
      have f191 := E184.keep K187
      have f192 := f191.keep K189
      have f193 := f185.keep K187 nin0
      have f194 := f193.keep K189 (ninS (Nat.ne_of_lt (Nat.lt_of_lt_of_le U184 G187)) nin0)
      have f195 := f186.keep K187 nin0
      have f196 := f195.keep K189 (ninS (Nat.ne_of_lt (Nat.lt_of_lt_of_le U184 G187)) nin0)
      refine own_spec X189 94 (a := b184) (argsL := [(.ref b187)]) (rest := [(.ref b184)]) at_91 rfl (ru_ini1 l Z a0 hw n0 h189 hWd [] X189.old b184 b187 .null (0 : Int32) kb187 (.int 0) u0 f192 f194 f196 f190 B_u0.1 B_u0.2 (own_svb X189 (om 1 rfl))) (ow hw 4 rfl) (ow hw 5 rfl) (ow hw 3 rfl) (ow hw 6 rfl) (by decide) (lenOf pd__28_5bC_29V rfl) rfl rfl rfl (W := 1) rfl (by decide) (by decide) (by decide) (by decide) (allS (om 1 rfl) all0) rfl ?_
      intro T197 h197 v197 X197 K197 hQ197
      obtain ⟨rfl, f198⟩ := hQ197
      show OGo _ _ _ _ T197 (mkF m 94 #[.val (.int pa), .val (.int pb), .val (.int pp), .val (.int u0), .val (.int u1), .val (.int u2), .val (.int 1), .val (.int 1), .val (.ref b176), .unset, .unset, .unset, .unset, .unset, .unset, .unset, .unset] [(.ref b184)])
      refine og_astore X197 96 #[.val (.int pa), .val (.int pb), .val (.int pp), .val (.int u0), .val (.int u1), .val (.int u2), .val (.int 1), .val (.int 1), .val (.ref b176), .val (.ref b184), .unset, .unset, .unset, .unset, .unset, .unset, .unset] at_94 rfl rfl rfl ?_
      refine og_goto X197 155 at_96 (by decide) (by decide) ?_
      refine own_new X197 158 at_155 (ow hw 22 rfl) (ow hw 23 rfl) (ow hw 24 rfl) (by decide) (by decide) rfl ?_
      intro T199 h199 b199 X199 K199 G199 U199 E199 D199
      have f200 : Fld Z h199 b199 "com/example/bote/bote/fields/FieldCursor" "text" "Ljava/lang/String;" .null := D199 (Or.inr (ow hw 31 rfl)) (ty := (.object "java/lang/String")) (by decide)
      have f201 : Fld Z h199 b199 "com/example/bote/bote/fields/FieldCursor" "shape" "Ljava/lang/String;" .null := D199 (Or.inr (ow hw 33 rfl)) (ty := (.object "java/lang/String")) (by decide)
      have f202 : Fld Z h199 b199 "com/example/bote/bote/fields/FieldCursor" "at" "I" (.int 0) := D199 (Or.inl (ow hw 44 rfl)) (ty := .int) (by decide)
      refine og_dup X199 159 at_158 rfl rfl ?_
      refine og_aload X199 161 at_159 rfl rfl rfl ?_
      refine own_ldcO X199 163 (cap := 20) at_161 own_ELne (ow hw 25 rfl) (own_wS hw) (by decide) (by decide) (by decide) (by decide) rfl ?_
      intro T203 h203 a203 X203 K203
      have f204 := E199.keep K203
      have f205 := f200.keep K203 nin0
      have f206 := f201.keep K203 nin0
      have f207 := f202.keep K203 nin0
      refine own_spec X203 166 (a := b199) (argsL := [(.ref b184), (.ref a203)]) (rest := [(.ref b199)]) at_163 rfl (rm4 l Z a0 hw n0 h203 hWd [] X203.old b199 b184 a203 f204 f205 f206 f207 (own_svb X203 (om 0 rfl))) (ow hw 26 rfl) (ow hw 27 rfl) (ow hw 24 rfl) (ow hw 28 rfl) (by decide) (lenOf pd__28Ljava_2flang_2fString_3bLjava_2flang_2fString_3b_29V rfl) rfl rfl rfl (W := 1) rfl (by decide) (by decide) (by decide) (by decide) (allS (om 0 rfl) all0) rfl ?_
      intro T208 h208 v208 X208 K208 hQ208
      obtain ⟨rfl, f209, f210⟩ := hQ208
      show OGo _ _ _ _ T208 (mkF m 166 #[.val (.int pa), .val (.int pb), .val (.int pp), .val (.int u0), .val (.int u1), .val (.int u2), .val (.int 1), .val (.int 1), .val (.ref b176), .val (.ref b184), .unset, .unset, .unset, .unset, .unset, .unset, .unset] [(.ref b199)])
      refine og_astore X208 168 #[.val (.int pa), .val (.int pb), .val (.int pp), .val (.int u0), .val (.int u1), .val (.int u2), .val (.int 1), .val (.int 1), .val (.ref b176), .val (.ref b184), .val (.ref b199), .unset, .unset, .unset, .unset, .unset, .unset] at_166 rfl rfl rfl ?_
      refine og_iconst X208 169 (1 : Int32) at_168 rfl rfl ?_
      refine og_istore X208 171 #[.val (.int pa), .val (.int pb), .val (.int pp), .val (.int u0), .val (.int u1), .val (.int u2), .val (.int 1), .val (.int 1), .val (.ref b176), .val (.ref b184), .val (.ref b199), .val (.int 1), .unset, .unset, .unset, .unset, .unset] at_169 rfl rfl ?_
      refine og_iload X208 173 at_171 rfl rfl ?_
      refine og_iconst X208 174 (1 : Int32) at_173 rfl rfl ?_
      refine og_icmpN X208 177 at_174 (XT.ii_lt_f (by decide)) rfl ?_
      refine og_aload X208 179 at_177 rfl rfl rfl ?_
      refine og_iloadN X208 180 at_179 rfl rfl ?_
      have f211 := f204.keep K208
      have f212 := f198.keep K199 all0
      have f213 := f212.keep K203 all0
      have f214 := f213.keep K208 (allS (Or.inl (Nat.le_trans (Nat.le_refl _) G199)) all0)
      refine own_virt X208 183 (a := b199) (argsL := [(.int u0)]) (rest := []) at_180 f211 (fun _ hZ => notFace_of_selects (args := #[]) (mvT hZ (ow hw 91 rfl))) (rm_tk1_0 l Z a0 hw n0 h208 hWd [] X208.old b199 b184 u0 f211 f209 f210 f214.top (own_svb X208 (om 0 rfl))) (ow hw 88 rfl) (ow hw 89 rfl) (ow hw 91 rfl) (ow hw 90 rfl) (ow hw 24 rfl) (ow hw 92 rfl) (by decide) (lenOf pd__28C_29Z rfl) rfl rfl rfl (W := 0) rfl (by decide) (by decide) (by decide) (by decide) (allS (om 0 rfl) all0) rfl ?_
      intro T215 h215 v215 X215 K215 hQ215
      obtain ⟨rfl, f216, f217⟩ := hQ215
      show OGo _ _ _ _ T215 (mkF m 183 #[.val (.int pa), .val (.int pb), .val (.int pp), .val (.int u0), .val (.int u1), .val (.int u2), .val (.int 1), .val (.int 1), .val (.ref b176), .val (.ref b184), .val (.ref b199), .val (.int 1), .unset, .unset, .unset, .unset, .unset] [(.int 1)])
      refine og_istore X215 185 #[.val (.int pa), .val (.int pb), .val (.int pp), .val (.int u0), .val (.int u1), .val (.int u2), .val (.int 1), .val (.int 1), .val (.ref b176), .val (.ref b184), .val (.ref b199), .val (.int 1), .val (.int 1), .unset, .unset, .unset, .unset] at_183 rfl rfl ?_
      refine og_iload X215 187 at_185 rfl rfl ?_
      refine og_ifN X215 190 at_187 (XT.i0_eq_f (by decide)) rfl ?_
      refine og_iload X215 192 at_190 rfl rfl ?_
      refine og_ifN X215 195 at_192 (XT.i0_eq_f (by decide)) rfl ?_
      refine og_iconst X215 196 (1 : Int32) at_195 rfl rfl ?_
      refine og_goto X215 200 at_196 (by decide) (by decide) ?_
      refine og_istore X215 202 #[.val (.int pa), .val (.int pb), .val (.int pp), .val (.int u0), .val (.int u1), .val (.int u2), .val (.int 1), .val (.int 1), .val (.ref b176), .val (.ref b184), .val (.ref b199), .val (.int 1), .val (.int 1), .unset, .unset, .unset, .unset] at_200 rfl rfl ?_
      refine og_iload X215 204 at_202 rfl rfl ?_
      refine og_iconst X215 205 (2 : Int32) at_204 rfl rfl ?_
      refine og_icmpY X215 234 at_205 (XT.ii_lt_t (by decide)) (by decide) (by decide) ?_
      refine og_iload X215 236 at_234 rfl rfl ?_
      refine og_iconst X215 237 (3 : Int32) at_236 rfl rfl ?_
      refine og_icmpY X215 266 at_237 (XT.ii_lt_t (by decide)) (by decide) (by decide) ?_
      refine og_iloadN X215 267 at_266 rfl rfl ?_
      refine og_iconst X215 268 (3 : Int32) at_267 rfl rfl ?_
      refine og_iand X215 269 at_268 rfl ?_
      refine og_istore X215 271 #[.val (.int pa), .val (.int pb), .val (.int pp), .val (.int u0), .val (.int u1), .val (.int u2), .val (.int 1), .val (.int 1), .val (.ref b176), .val (.ref b184), .val (.ref b199), .val (.int 1), .val (.int (pp &&& (3 : Int32))), .unset, .unset, .unset, .unset] at_269 rfl rfl ?_
      refine own_cut X215 341 (fun (w : Int32) => #[.val (.int pa), .val (.int pb), .val (.int pp), .val (.int u0), .val (.int u1), .val (.int u2), .val (.int 1), .val (.int 1), .val (.ref b176), .val (.ref b184), .val (.ref b199), .val (.int 1), .val (.int (pp &&& (3 : Int32))), .val (.int w), .unset, .unset, .unset]) (fun _ => []) (fun w => True) ?_ ?_
      · -- the common way on
        intro T218 h218 X218 K218 w ok218
        show OGo _ _ _ _ T218 (mkF m 341 #[.val (.int pa), .val (.int pb), .val (.int pp), .val (.int u0), .val (.int u1), .val (.int u2), .val (.int 1), .val (.int 1), .val (.ref b176), .val (.ref b184), .val (.ref b199), .val (.int 1), .val (.int (pp &&& (3 : Int32))), .val (.int w), .unset, .unset, .unset] [])
        refine og_iload X218 343 at_341 rfl rfl ?_
        refine og_iload X218 345 at_343 rfl rfl ?_
        refine og_icmpY X218 362 at_345 (XT.ii_ge_t (by decide)) (by decide) (by decide) ?_
        refine og_iconst X218 363 (0 : Int32) at_362 rfl rfl ?_
        refine og_istore X218 365 #[.val (.int pa), .val (.int pb), .val (.int pp), .val (.int u0), .val (.int u1), .val (.int u2), .val (.int 1), .val (.int 1), .val (.ref b176), .val (.ref b184), .val (.ref b199), .val (.int 1), .val (.int (pp &&& (3 : Int32))), .val (.int w), .val (.int 0), .unset, .unset] at_363 rfl rfl ?_
        refine og_aload X218 367 at_365 rfl rfl rfl ?_
        refine og_iload X218 369 at_367 rfl rfl ?_
        have f219 := f211.keep K215
        have f220 := f219.keep K218
        have f221 := f216.keep K218 nin0
        have f222 := f217.keep K218 nin0
        have f223 := f214.keep K215 (allS (Or.inl (Nat.le_trans (Nat.le_refl _) G199)) all0)
        have f224 := f223.keep K218 all0
        refine own_virt X218 372 (a := b199) (argsL := [(.int w)]) (rest := []) at_369 f220 (fun _ hZ => notFace_of_selects (args := #[]) (mvT hZ (ow hw 41 rfl))) (rm_nx1_1 l Z a0 hw n0 h218 hWd [] X218.old b199 b184 u0 w f221 f222 f224.top ) (ow hw 38 rfl) (ow hw 39 rfl) (ow hw 41 rfl) (ow hw 40 rfl) (ow hw 24 rfl) (ow hw 42 rfl) (by decide) (lenOf pd__28C_29Z rfl) rfl rfl rfl (W := 0) rfl (by decide) (by decide) (by decide) (by decide) all0 rfl ?_
        intro T225 h225 v225 X225 K225 hQ225
        obtain rfl := hQ225
        show OGo _ _ _ _ T225 (mkF m 372 #[.val (.int pa), .val (.int pb), .val (.int pp), .val (.int u0), .val (.int u1), .val (.int u2), .val (.int 1), .val (.int 1), .val (.ref b176), .val (.ref b184), .val (.ref b199), .val (.int 1), .val (.int (pp &&& (3 : Int32))), .val (.int w), .val (.int 0), .unset, .unset] [(.int 0)])
        refine og_istore X225 374 #[.val (.int pa), .val (.int pb), .val (.int pp), .val (.int u0), .val (.int u1), .val (.int u2), .val (.int 1), .val (.int 1), .val (.ref b176), .val (.ref b184), .val (.ref b199), .val (.int 1), .val (.int (pp &&& (3 : Int32))), .val (.int w), .val (.int 0), .val (.int 0), .unset] at_372 rfl rfl ?_
        refine og_aload X225 376 at_374 rfl rfl rfl ?_
        refine og_iload X225 378 at_376 rfl rfl ?_
        have f226 := f220.keep K225
        have f227 := f221.keep K225 nin0
        have f228 := f222.keep K225 nin0
        have f229 := f224.keep K225 all0
        refine own_virt X225 381 (a := b199) (argsL := [(.int w)]) (rest := []) at_378 f226 (fun _ hZ => notFace_of_selects (args := #[]) (mvT hZ (ow hw 41 rfl))) (rm_nx1_1 l Z a0 hw n0 h225 hWd [] X225.old b199 b184 u0 w f227 f228 f229.top ) (ow hw 38 rfl) (ow hw 39 rfl) (ow hw 41 rfl) (ow hw 40 rfl) (ow hw 24 rfl) (ow hw 42 rfl) (by decide) (lenOf pd__28C_29Z rfl) rfl rfl rfl (W := 0) rfl (by decide) (by decide) (by decide) (by decide) all0 rfl ?_
        intro T230 h230 v230 X230 K230 hQ230
        obtain rfl := hQ230
        show OGo _ _ _ _ T230 (mkF m 381 #[.val (.int pa), .val (.int pb), .val (.int pp), .val (.int u0), .val (.int u1), .val (.int u2), .val (.int 1), .val (.int 1), .val (.ref b176), .val (.ref b184), .val (.ref b199), .val (.int 1), .val (.int (pp &&& (3 : Int32))), .val (.int w), .val (.int 0), .val (.int 0), .unset] [(.int 0)])
        refine og_istore X230 383 #[.val (.int pa), .val (.int pb), .val (.int pp), .val (.int u0), .val (.int u1), .val (.int u2), .val (.int 1), .val (.int 1), .val (.ref b176), .val (.ref b184), .val (.ref b199), .val (.int 1), .val (.int (pp &&& (3 : Int32))), .val (.int w), .val (.int 0), .val (.int 0), .val (.int 0)] at_381 rfl rfl ?_
        refine og_iload X230 385 at_383 rfl rfl ?_
        refine og_ifN X230 388 at_385 (XT.i0_eq_f (by decide)) rfl ?_
        refine og_iload X230 390 at_388 rfl rfl ?_
        refine og_iload X230 392 at_390 rfl rfl ?_
        refine og_icmpN X230 395 at_392 (XT.ii_ne_f (by decide)) rfl ?_
        refine og_iload X230 397 at_395 rfl rfl ?_
        refine og_iload X230 399 at_397 rfl rfl ?_
        refine og_icmpN X230 402 at_399 (XT.ii_ne_f (by decide)) rfl ?_
        refine og_iconst X230 403 (1 : Int32) at_402 rfl rfl ?_
        refine og_goto X230 407 at_403 (by decide) (by decide) ?_
        refine own_retZ X230 at_407 hret rfl (by decide) (by decide) ?_
        exact rfl
      · -- the ways to it
        intro J218
        refine og_iload X215 273 at_271 rfl rfl ?_
        by_cases hc231 : (pp &&& (3 : Int32)) = 0
        · -- (pp &&& (3 : Int32)) = 0
          refine og_ifN X215 276 at_273 (XT.i0_ne_f hc231) rfl ?_
          refine og_iloadN X215 277 at_276 rfl rfl ?_
          refine og_bipush X215 279 (16 : Int32) at_277 rfl rfl ?_
          refine og_iushr X215 280 at_279 rfl ?_
          refine og_i2c X215 281 at_280 rfl ?_
          refine og_istore X215 283 #[.val (.int pa), .val (.int pb), .val (.int pp), .val (.int u0), .val (.int u1), .val (.int u2), .val (.int 1), .val (.int 1), .val (.ref b176), .val (.ref b184), .val (.ref b199), .val (.int 1), .val (.int (pp &&& (3 : Int32))), .val (.int (((XT.ushr pp (16 : Int32))).toUInt32.toUInt16.toUInt32.toInt32)), .unset, .unset, .unset] at_281 rfl rfl ?_
          refine og_goto X215 341 at_283 (by decide) (by decide) ?_
          exact J218 _ _ X215 (Keep.refl _ _) (((XT.ushr pp (16 : Int32))).toUInt32.toUInt16.toUInt32.toInt32) trivial
        · -- not
          refine og_ifY X215 286 at_273 (XT.i0_ne_t hc231) (by decide) (by decide) ?_
          refine og_iload X215 288 at_286 rfl rfl ?_
          refine og_iconst X215 289 (1 : Int32) at_288 rfl rfl ?_
          by_cases hc232 : (pp &&& (3 : Int32)) = (1 : Int32)
          · -- (pp &&& (3 : Int32)) = (1 : Int32)
            refine og_icmpN X215 292 at_289 (XT.ii_ne_f hc232) rfl ?_
            refine og_aload X215 294 at_292 rfl rfl rfl ?_
            refine og_iload X215 296 at_294 rfl rfl ?_
            refine og_iconst X215 297 (2 : Int32) at_296 rfl rfl ?_
            refine own_stat X215 300 (argsL := [(.int 1), (.int 2)]) (rest := [(.ref b176)]) at_297 (rm_min0 l Z a0 hw n0 h215 hWd [] X215.old (1 : Int32) (2 : Int32) (by decide) ) (ow hw 34 rfl) (ow hw 35 rfl) (ow hw 36 rfl) (ow hw 37 rfl) (by decide) (lenOf pd__28II_29I rfl) rfl rfl rfl (W := 1) rfl (by decide) (by decide) (by decide) (by decide) all0 rfl ?_
            intro T233 h233 v233 X233 K233 hQ233
            obtain rfl := hQ233
            show OGo _ _ _ _ T233 (mkF m 300 #[.val (.int pa), .val (.int pb), .val (.int pp), .val (.int u0), .val (.int u1), .val (.int u2), .val (.int 1), .val (.int 1), .val (.ref b176), .val (.ref b184), .val (.ref b199), .val (.int 1), .val (.int (pp &&& (3 : Int32))), .unset, .unset, .unset, .unset] [(.int 1), (.ref b176)])
            have f234 := f183.keep K184 nin0
            have f235 := f234.keep K187 nin0
            have f236 := f235.keep K189 (ninS (Nat.ne_of_lt (Nat.lt_of_lt_of_le (Nat.lt_of_lt_of_le U176 (Nat.le_trans (Nat.le_trans (Nat.le_trans K178.1 K180.1) K182.1) K184.1)) G187)) nin0)
            have f237 := f236.keep K197 (ninS (Nat.ne_of_lt (Nat.lt_of_lt_of_le (Nat.lt_of_lt_of_le U176 (Nat.le_trans (Nat.le_trans K178.1 K180.1) K182.1)) G184)) nin0)
            have f238 := f237.keep K199 nin0
            have f239 := f238.keep K203 nin0
            have f240 := f239.keep K208 (ninS (Nat.ne_of_lt (Nat.lt_of_lt_of_le (Nat.lt_of_lt_of_le U176 (Nat.le_trans (Nat.le_trans (Nat.le_trans (Nat.le_trans (Nat.le_trans (Nat.le_trans K178.1 K180.1) K182.1) K184.1) K187.1) K189.1) K197.1)) G199)) nin0)
            have f241 := f240.keep K215 (ninS (Nat.ne_of_lt (Nat.lt_of_lt_of_le (Nat.lt_of_lt_of_le U176 (Nat.le_trans (Nat.le_trans (Nat.le_trans (Nat.le_trans (Nat.le_trans (Nat.le_trans K178.1 K180.1) K182.1) K184.1) K187.1) K189.1) K197.1)) G199)) nin0)
            have f242 := f241.keep K233 nin0
            refine own_ldC X233 301 at_300 f242 (by decide) (by decide) rfl rfl ?_
            refine og_istore X233 303 #[.val (.int pa), .val (.int pb), .val (.int pp), .val (.int u0), .val (.int u1), .val (.int u2), .val (.int 1), .val (.int 1), .val (.ref b176), .val (.ref b184), .val (.ref b199), .val (.int 1), .val (.int (pp &&& (3 : Int32))), .val (.int u1), .unset, .unset, .unset] at_301 rfl rfl ?_
            refine og_goto X233 341 at_303 (by decide) (by decide) ?_
            exact J218 _ _ X233 K233 u1 trivial
          · -- not
            refine og_icmpY X215 306 at_289 (XT.ii_ne_t hc232) (by decide) (by decide) ?_
            refine og_iload X215 308 at_306 rfl rfl ?_
            refine og_iconst X215 309 (2 : Int32) at_308 rfl rfl ?_
            by_cases hc243 : (pp &&& (3 : Int32)) = (2 : Int32)
            · -- (pp &&& (3 : Int32)) = (2 : Int32)
              refine og_icmpN X215 312 at_309 (XT.ii_ne_f hc243) rfl ?_
              refine og_aload X215 314 at_312 rfl rfl rfl ?_
              refine og_iload X215 316 at_314 rfl rfl ?_
              refine og_iconst X215 317 (1 : Int32) at_316 rfl rfl ?_
              refine og_iadd X215 318 at_317 rfl ?_
              show OGo _ _ _ _ T215 (mkF m 318 #[.val (.int pa), .val (.int pb), .val (.int pp), .val (.int u0), .val (.int u1), .val (.int u2), .val (.int 1), .val (.int 1), .val (.ref b176), .val (.ref b184), .val (.ref b199), .val (.int 1), .val (.int (pp &&& (3 : Int32))), .unset, .unset, .unset, .unset] [(.int 2), (.ref b176)])
              refine og_iconst X215 319 (2 : Int32) at_318 rfl rfl ?_
              refine own_stat X215 322 (argsL := [(.int 2), (.int 2)]) (rest := [(.ref b176)]) at_319 (rm_min0 l Z a0 hw n0 h215 hWd [] X215.old (2 : Int32) (2 : Int32) (by decide) ) (ow hw 34 rfl) (ow hw 35 rfl) (ow hw 36 rfl) (ow hw 37 rfl) (by decide) (lenOf pd__28II_29I rfl) rfl rfl rfl (W := 1) rfl (by decide) (by decide) (by decide) (by decide) all0 rfl ?_
              intro T244 h244 v244 X244 K244 hQ244
              obtain rfl := hQ244
              show OGo _ _ _ _ T244 (mkF m 322 #[.val (.int pa), .val (.int pb), .val (.int pp), .val (.int u0), .val (.int u1), .val (.int u2), .val (.int 1), .val (.int 1), .val (.ref b176), .val (.ref b184), .val (.ref b199), .val (.int 1), .val (.int (pp &&& (3 : Int32))), .unset, .unset, .unset, .unset] [(.int 2), (.ref b176)])
              have f245 := f183.keep K184 nin0
              have f246 := f245.keep K187 nin0
              have f247 := f246.keep K189 (ninS (Nat.ne_of_lt (Nat.lt_of_lt_of_le (Nat.lt_of_lt_of_le U176 (Nat.le_trans (Nat.le_trans (Nat.le_trans K178.1 K180.1) K182.1) K184.1)) G187)) nin0)
              have f248 := f247.keep K197 (ninS (Nat.ne_of_lt (Nat.lt_of_lt_of_le (Nat.lt_of_lt_of_le U176 (Nat.le_trans (Nat.le_trans K178.1 K180.1) K182.1)) G184)) nin0)
              have f249 := f248.keep K199 nin0
              have f250 := f249.keep K203 nin0
              have f251 := f250.keep K208 (ninS (Nat.ne_of_lt (Nat.lt_of_lt_of_le (Nat.lt_of_lt_of_le U176 (Nat.le_trans (Nat.le_trans (Nat.le_trans (Nat.le_trans (Nat.le_trans (Nat.le_trans K178.1 K180.1) K182.1) K184.1) K187.1) K189.1) K197.1)) G199)) nin0)
              have f252 := f251.keep K215 (ninS (Nat.ne_of_lt (Nat.lt_of_lt_of_le (Nat.lt_of_lt_of_le U176 (Nat.le_trans (Nat.le_trans (Nat.le_trans (Nat.le_trans (Nat.le_trans (Nat.le_trans K178.1 K180.1) K182.1) K184.1) K187.1) K189.1) K197.1)) G199)) nin0)
              have f253 := f252.keep K244 nin0
              refine own_ldC X244 323 at_322 f253 (by decide) (by decide) rfl rfl ?_
              refine og_istore X244 325 #[.val (.int pa), .val (.int pb), .val (.int pp), .val (.int u0), .val (.int u1), .val (.int u2), .val (.int 1), .val (.int 1), .val (.ref b176), .val (.ref b184), .val (.ref b199), .val (.int 1), .val (.int (pp &&& (3 : Int32))), .val (.int u2), .unset, .unset, .unset] at_323 rfl rfl ?_
              refine og_goto X244 341 at_325 (by decide) (by decide) ?_
              exact J218 _ _ X244 K244 u2 trivial
            · -- not
              refine og_icmpY X215 328 at_309 (XT.ii_ne_t hc243) (by decide) (by decide) ?_
              refine og_aload X215 330 at_328 rfl rfl rfl ?_
              refine og_iload X215 332 at_330 rfl rfl ?_
              refine og_iconst X215 333 (1 : Int32) at_332 rfl rfl ?_
              refine og_isub X215 334 at_333 rfl ?_
              show OGo _ _ _ _ T215 (mkF m 334 #[.val (.int pa), .val (.int pb), .val (.int pp), .val (.int u0), .val (.int u1), .val (.int u2), .val (.int 1), .val (.int 1), .val (.ref b176), .val (.ref b184), .val (.ref b199), .val (.int 1), .val (.int (pp &&& (3 : Int32))), .unset, .unset, .unset, .unset] [(.int 0), (.ref b176)])
              refine og_iconst X215 335 (0 : Int32) at_334 rfl rfl ?_
              refine own_stat X215 338 (argsL := [(.int 0), (.int 0)]) (rest := [(.ref b176)]) at_335 (rm_max0 l Z a0 hw n0 h215 hWd [] X215.old (0 : Int32) (0 : Int32) (by decide) ) (ow hw 56 rfl) (ow hw 57 rfl) (ow hw 36 rfl) (ow hw 58 rfl) (by decide) (lenOf pd__28II_29I rfl) rfl rfl rfl (W := 1) rfl (by decide) (by decide) (by decide) (by decide) all0 rfl ?_
              intro T254 h254 v254 X254 K254 hQ254
              obtain rfl := hQ254
              show OGo _ _ _ _ T254 (mkF m 338 #[.val (.int pa), .val (.int pb), .val (.int pp), .val (.int u0), .val (.int u1), .val (.int u2), .val (.int 1), .val (.int 1), .val (.ref b176), .val (.ref b184), .val (.ref b199), .val (.int 1), .val (.int (pp &&& (3 : Int32))), .unset, .unset, .unset, .unset] [(.int 0), (.ref b176)])
              have f255 := f183.keep K184 nin0
              have f256 := f255.keep K187 nin0
              have f257 := f256.keep K189 (ninS (Nat.ne_of_lt (Nat.lt_of_lt_of_le (Nat.lt_of_lt_of_le U176 (Nat.le_trans (Nat.le_trans (Nat.le_trans K178.1 K180.1) K182.1) K184.1)) G187)) nin0)
              have f258 := f257.keep K197 (ninS (Nat.ne_of_lt (Nat.lt_of_lt_of_le (Nat.lt_of_lt_of_le U176 (Nat.le_trans (Nat.le_trans K178.1 K180.1) K182.1)) G184)) nin0)
              have f259 := f258.keep K199 nin0
              have f260 := f259.keep K203 nin0
              have f261 := f260.keep K208 (ninS (Nat.ne_of_lt (Nat.lt_of_lt_of_le (Nat.lt_of_lt_of_le U176 (Nat.le_trans (Nat.le_trans (Nat.le_trans (Nat.le_trans (Nat.le_trans (Nat.le_trans K178.1 K180.1) K182.1) K184.1) K187.1) K189.1) K197.1)) G199)) nin0)
              have f262 := f261.keep K215 (ninS (Nat.ne_of_lt (Nat.lt_of_lt_of_le (Nat.lt_of_lt_of_le U176 (Nat.le_trans (Nat.le_trans (Nat.le_trans (Nat.le_trans (Nat.le_trans (Nat.le_trans K178.1 K180.1) K182.1) K184.1) K187.1) K189.1) K197.1)) G199)) nin0)
              have f263 := f262.keep K254 nin0
              refine own_ldC X254 339 at_338 f263 (by decide) (by decide) rfl rfl ?_
              refine og_istore X254 341 #[.val (.int pa), .val (.int pb), .val (.int pp), .val (.int u0), .val (.int u1), .val (.int u2), .val (.int 1), .val (.int 1), .val (.ref b176), .val (.ref b184), .val (.ref b199), .val (.int 1), .val (.int (pp &&& (3 : Int32))), .val (.int u0), .unset, .unset, .unset] at_339 rfl rfl ?_
              exact J218 _ _ X254 K254 u0 trivial
  · -- 2
    rw [eQ]
    refine og_iloadN X0 23 at_22 rfl rfl ?_
    refine og_bipush X0 25 (18 : Int32) at_23 rfl rfl ?_
    refine og_iushr X0 26 at_25 rfl ?_
    refine og_iconst X0 27 (3 : Int32) at_26 rfl rfl ?_
    refine og_iand X0 28 at_27 rfl ?_
    refine og_iload X0 30 at_28 rfl rfl ?_
    refine og_iconst X0 31 (1 : Int32) at_30 rfl rfl ?_
    refine og_iadd X0 32 at_31 rfl ?_
    show OGo _ _ _ _ T0 (mkF m 32 #[.val (.int pa), .val (.int pb), .val (.int pp), .val (.int u0), .val (.int u1), .val (.int u2), .val (.int 2), .unset, .unset, .unset, .unset, .unset, .unset, .unset, .unset, .unset, .unset] [(.int 3), (.int ((XT.ushr pb (18 : Int32)) &&& (3 : Int32)))])
    refine og_irem X0 33 at_32 (by decide) rfl ?_
    refine og_istore X0 35 #[.val (.int pa), .val (.int pb), .val (.int pp), .val (.int u0), .val (.int u1), .val (.int u2), .val (.int 2), .val (.int (((XT.ushr pb (18 : Int32)) &&& (3 : Int32)) % (3 : Int32))), .unset, .unset, .unset, .unset, .unset, .unset, .unset, .unset, .unset] at_33 rfl rfl ?_
    rcases own_rem3 (own_and3 (XT.ushr pb (18 : Int32))) with eQ | eQ | eQ
    · -- 0
      rw [eQ]
      refine og_iconst X0 36 (3 : Int32) at_35 rfl rfl ?_
      refine own_arr X0 38 at_36 (ow hw 0 rfl) (by decide) (cap := 3) (by decide) (by decide) (by decide) (by decide) rfl ?_
      intro T264 h264 b264 kb264 X264 K264 G264 U264 A264
      have f265 : Arv Z h264 b264 kb264 .char (3 : Int32) [(.int 0), (.int 0), (.int 0)] (.int 0) := A264
      refine og_dup X264 39 at_38 rfl rfl ?_
      refine og_iconst X264 40 (0 : Int32) at_39 rfl rfl ?_
      refine og_iloadN X264 41 at_40 rfl rfl ?_
      refine own_stC X264 42 at_41 f265 (own_nch B_u0.1 B_u0.2) (by decide) (by decide) (i := 0) (by decide) (Nat.le_of_ble_eq_true rfl) (om 0 rfl) rfl ?_
      intro T266 h266 X266 W266 K266 A266
      have f267 : Arv Z h266 b264 kb264 .char (3 : Int32) [(.int u0), (.int 0), (.int 0)] (.int 0) := A266
      refine og_dup X266 43 at_42 rfl rfl ?_
      refine og_iconst X266 44 (1 : Int32) at_43 rfl rfl ?_
      refine og_iload X266 46 at_44 rfl rfl ?_
      refine own_stC X266 47 at_46 f267 (own_nch B_u1.1 B_u1.2) (by decide) (by decide) (i := 1) (by decide) (Nat.le_of_ble_eq_true rfl) (om 0 rfl) rfl ?_
      intro T268 h268 X268 W268 K268 A268
      have f269 : Arv Z h268 b264 kb264 .char (3 : Int32) [(.int u0), (.int u1), (.int 0)] (.int 0) := A268
      refine og_dup X268 48 at_47 rfl rfl ?_
      refine og_iconst X268 49 (2 : Int32) at_48 rfl rfl ?_
      refine og_iload X268 51 at_49 rfl rfl ?_
      refine own_stC X268 52 at_51 f269 (own_nch B_u2.1 B_u2.2) (by decide) (by decide) (i := 2) (by decide) (Nat.le_of_ble_eq_true rfl) (om 0 rfl) rfl ?_
      intro T270 h270 X270 W270 K270 A270
      have f271 : Arv Z h270 b264 kb264 .char (3 : Int32) [(.int u0), (.int u1), (.int u2)] (.int 0) := A270
      refine og_astore X270 54 #[.val (.int pa), .val (.int pb), .val (.int pp), .val (.int u0), .val (.int u1), .val (.int u2), .val (.int 2), .val (.int 0), .val (.ref b264), .unset, .unset, .unset, .unset, .unset, .unset, .unset, .unset] at_52 rfl rfl rfl ?_
      refine og_iload X270 56 at_54 rfl rfl ?_
      refine og_ifY X270 74 at_56 (XT.i0_ne_t (by decide)) (by decide) (by decide) ?_
      refine og_iload X270 76 at_74 rfl rfl ?_
      refine og_iconst X270 77 (1 : Int32) at_76 rfl rfl ?_
      refine og_icmpY X270 99 at_77 (XT.ii_ne_t (by decide)) (by decide) (by decide) ?_
      refine og_iload X270 101 at_99 rfl rfl ?_
      refine og_iconst X270 102 (2 : Int32) at_101 rfl rfl ?_
      refine og_icmpN X270 105 at_102 (XT.ii_ne_f (by decide)) rfl ?_
      refine own_new X270 108 at_105 (ow hw 1 rfl) (ow hw 2 rfl) (ow hw 3 rfl) (by decide) (by decide) rfl ?_
      intro T272 h272 b272 X272 K272 G272 U272 E272 D272
      have f273 : Fld Z h272 b272 "java/lang/String" "value" "[B" .null := D272 (Or.inr (ow hw 16 rfl)) (ty := (.array .byte)) (by decide)
      have f274 : Fld Z h272 b272 "java/lang/String" "coder" "B" (.int 0) := D272 (Or.inr (ow hw 17 rfl)) (ty := .byte) (by decide)
      refine og_dup X272 109 at_108 rfl rfl ?_
      refine og_iconst X272 110 (2 : Int32) at_109 rfl rfl ?_
      refine own_arr X272 112 at_110 (ow hw 0 rfl) (by decide) (cap := 2) (by decide) (by decide) (by decide) (by decide) rfl ?_
      intro T275 h275 b275 kb275 X275 K275 G275 U275 A275
      have f276 : Arv Z h275 b275 kb275 .char (2 : Int32) [(.int 0), (.int 0)] (.int 0) := A275
      refine og_dup X275 113 at_112 rfl rfl ?_
      refine og_iconst X275 114 (0 : Int32) at_113 rfl rfl ?_
      refine og_iloadN X275 115 at_114 rfl rfl ?_
      refine own_stC X275 116 at_115 f276 (own_nch B_u0.1 B_u0.2) (by decide) (by decide) (i := 0) (by decide) (Nat.le_of_ble_eq_true rfl) (om 0 rfl) rfl ?_
      intro T277 h277 X277 W277 K277 A277
      have f278 : Arv Z h277 b275 kb275 .char (2 : Int32) [(.int u0), (.int 0)] (.int 0) := A277
      refine og_dup X277 117 at_116 rfl rfl ?_
      refine og_iconst X277 118 (1 : Int32) at_117 rfl rfl ?_
      refine og_iload X277 120 at_118 rfl rfl ?_
      refine own_stC X277 121 at_120 f278 (own_nch B_u1.1 B_u1.2) (by decide) (by decide) (i := 1) (by decide) (Nat.le_of_ble_eq_true rfl) (om 0 rfl) rfl ?_
      intro T279 h279 X279 W279 K279 A279
      have f280 : Arv Z h279 b275 kb275 .char (2 : Int32) [(.int u0), (.int u1)] (.int 0) := A279
      have f281 := E272.keep K275
      have f282 := f281.keep K277
      have f283 := f282.keep K279
      have f284 := f273.keep K275 nin0
      have f285 := f284.keep K277 (ninS (Nat.ne_of_lt (Nat.lt_of_lt_of_le U272 G275)) nin0)
      have f286 := f285.keep K279 (ninS (Nat.ne_of_lt (Nat.lt_of_lt_of_le U272 G275)) nin0)
      have f287 := f274.keep K275 nin0
      have f288 := f287.keep K277 (ninS (Nat.ne_of_lt (Nat.lt_of_lt_of_le U272 G275)) nin0)
      have f289 := f288.keep K279 (ninS (Nat.ne_of_lt (Nat.lt_of_lt_of_le U272 G275)) nin0)
      refine own_spec X279 124 (a := b272) (argsL := [(.ref b275)]) (rest := [(.ref b272)]) at_121 rfl (ru_ini2 l Z a0 hw n0 h279 hWd [] X279.old b272 b275 .null (0 : Int32) kb275 (.int 0) u0 u1 f283 f286 f289 f280 B_u0.1 B_u0.2 B_u1.1 B_u1.2 (own_svb X279 (om 1 rfl))) (ow hw 4 rfl) (ow hw 5 rfl) (ow hw 3 rfl) (ow hw 6 rfl) (by decide) (lenOf pd__28_5bC_29V rfl) rfl rfl rfl (W := 1) rfl (by decide) (by decide) (by decide) (by decide) (allS (om 1 rfl) all0) rfl ?_
      intro T290 h290 v290 X290 K290 hQ290
      obtain ⟨rfl, f291⟩ := hQ290
      show OGo _ _ _ _ T290 (mkF m 124 #[.val (.int pa), .val (.int pb), .val (.int pp), .val (.int u0), .val (.int u1), .val (.int u2), .val (.int 2), .val (.int 0), .val (.ref b264), .unset, .unset, .unset, .unset, .unset, .unset, .unset, .unset] [(.ref b272)])
      refine og_astore X290 126 #[.val (.int pa), .val (.int pb), .val (.int pp), .val (.int u0), .val (.int u1), .val (.int u2), .val (.int 2), .val (.int 0), .val (.ref b264), .val (.ref b272), .unset, .unset, .unset, .unset, .unset, .unset, .unset] at_124 rfl rfl rfl ?_
      refine og_goto X290 155 at_126 (by decide) (by decide) ?_
      refine own_new X290 158 at_155 (ow hw 22 rfl) (ow hw 23 rfl) (ow hw 24 rfl) (by decide) (by decide) rfl ?_
      intro T292 h292 b292 X292 K292 G292 U292 E292 D292
      have f293 : Fld Z h292 b292 "com/example/bote/bote/fields/FieldCursor" "text" "Ljava/lang/String;" .null := D292 (Or.inr (ow hw 31 rfl)) (ty := (.object "java/lang/String")) (by decide)
      have f294 : Fld Z h292 b292 "com/example/bote/bote/fields/FieldCursor" "shape" "Ljava/lang/String;" .null := D292 (Or.inr (ow hw 33 rfl)) (ty := (.object "java/lang/String")) (by decide)
      have f295 : Fld Z h292 b292 "com/example/bote/bote/fields/FieldCursor" "at" "I" (.int 0) := D292 (Or.inl (ow hw 44 rfl)) (ty := .int) (by decide)
      refine og_dup X292 159 at_158 rfl rfl ?_
      refine og_aload X292 161 at_159 rfl rfl rfl ?_
      refine own_ldcO X292 163 (cap := 20) at_161 own_ELne (ow hw 25 rfl) (own_wS hw) (by decide) (by decide) (by decide) (by decide) rfl ?_
      intro T296 h296 a296 X296 K296
      have f297 := E292.keep K296
      have f298 := f293.keep K296 nin0
      have f299 := f294.keep K296 nin0
      have f300 := f295.keep K296 nin0
      refine own_spec X296 166 (a := b292) (argsL := [(.ref b272), (.ref a296)]) (rest := [(.ref b292)]) at_163 rfl (rm4 l Z a0 hw n0 h296 hWd [] X296.old b292 b272 a296 f297 f298 f299 f300 (own_svb X296 (om 0 rfl))) (ow hw 26 rfl) (ow hw 27 rfl) (ow hw 24 rfl) (ow hw 28 rfl) (by decide) (lenOf pd__28Ljava_2flang_2fString_3bLjava_2flang_2fString_3b_29V rfl) rfl rfl rfl (W := 1) rfl (by decide) (by decide) (by decide) (by decide) (allS (om 0 rfl) all0) rfl ?_
      intro T301 h301 v301 X301 K301 hQ301
      obtain ⟨rfl, f302, f303⟩ := hQ301
      show OGo _ _ _ _ T301 (mkF m 166 #[.val (.int pa), .val (.int pb), .val (.int pp), .val (.int u0), .val (.int u1), .val (.int u2), .val (.int 2), .val (.int 0), .val (.ref b264), .val (.ref b272), .unset, .unset, .unset, .unset, .unset, .unset, .unset] [(.ref b292)])
      refine og_astore X301 168 #[.val (.int pa), .val (.int pb), .val (.int pp), .val (.int u0), .val (.int u1), .val (.int u2), .val (.int 2), .val (.int 0), .val (.ref b264), .val (.ref b272), .val (.ref b292), .unset, .unset, .unset, .unset, .unset, .unset] at_166 rfl rfl rfl ?_
      refine og_iconst X301 169 (1 : Int32) at_168 rfl rfl ?_
      refine og_istore X301 171 #[.val (.int pa), .val (.int pb), .val (.int pp), .val (.int u0), .val (.int u1), .val (.int u2), .val (.int 2), .val (.int 0), .val (.ref b264), .val (.ref b272), .val (.ref b292), .val (.int 1), .unset, .unset, .unset, .unset, .unset] at_169 rfl rfl ?_
      refine og_iload X301 173 at_171 rfl rfl ?_
      refine og_iconst X301 174 (1 : Int32) at_173 rfl rfl ?_
      refine og_icmpY X301 202 at_174 (XT.ii_lt_t (by decide)) (by decide) (by decide) ?_
      refine og_iload X301 204 at_202 rfl rfl ?_
      refine og_iconst X301 205 (2 : Int32) at_204 rfl rfl ?_
      refine og_icmpY X301 234 at_205 (XT.ii_lt_t (by decide)) (by decide) (by decide) ?_
      refine og_iload X301 236 at_234 rfl rfl ?_
      refine og_iconst X301 237 (3 : Int32) at_236 rfl rfl ?_
      refine og_icmpY X301 266 at_237 (XT.ii_lt_t (by decide)) (by decide) (by decide) ?_
      refine og_iloadN X301 267 at_266 rfl rfl ?_
      refine og_iconst X301 268 (3 : Int32) at_267 rfl rfl ?_
      refine og_iand X301 269 at_268 rfl ?_
      refine og_istore X301 271 #[.val (.int pa), .val (.int pb), .val (.int pp), .val (.int u0), .val (.int u1), .val (.int u2), .val (.int 2), .val (.int 0), .val (.ref b264), .val (.ref b272), .val (.ref b292), .val (.int 1), .val (.int (pp &&& (3 : Int32))), .unset, .unset, .unset, .unset] at_269 rfl rfl ?_
      refine own_cut X301 341 (fun (w : Int32) => #[.val (.int pa), .val (.int pb), .val (.int pp), .val (.int u0), .val (.int u1), .val (.int u2), .val (.int 2), .val (.int 0), .val (.ref b264), .val (.ref b272), .val (.ref b292), .val (.int 1), .val (.int (pp &&& (3 : Int32))), .val (.int w), .unset, .unset, .unset]) (fun _ => []) (fun w => True) ?_ ?_
      · -- the common way on
        intro T304 h304 X304 K304 w ok304
        show OGo _ _ _ _ T304 (mkF m 341 #[.val (.int pa), .val (.int pb), .val (.int pp), .val (.int u0), .val (.int u1), .val (.int u2), .val (.int 2), .val (.int 0), .val (.ref b264), .val (.ref b272), .val (.ref b292), .val (.int 1), .val (.int (pp &&& (3 : Int32))), .val (.int w), .unset, .unset, .unset] [])
        refine og_iload X304 343 at_341 rfl rfl ?_
        refine og_iload X304 345 at_343 rfl rfl ?_
        refine og_icmpN X304 348 at_345 (XT.ii_ge_f (by decide)) rfl ?_
        refine og_aload X304 350 at_348 rfl rfl rfl ?_
        refine og_iload X304 352 at_350 rfl rfl ?_
        have f305 := f271.keep K272 nin0
        have f306 := f305.keep K275 nin0
        have f307 := f306.keep K277 (ninS (Nat.ne_of_lt (Nat.lt_of_lt_of_le (Nat.lt_of_lt_of_le U264 (Nat.le_trans (Nat.le_trans (Nat.le_trans K266.1 K268.1) K270.1) K272.1)) G275)) nin0)
        have f308 := f307.keep K279 (ninS (Nat.ne_of_lt (Nat.lt_of_lt_of_le (Nat.lt_of_lt_of_le U264 (Nat.le_trans (Nat.le_trans (Nat.le_trans K266.1 K268.1) K270.1) K272.1)) G275)) nin0)
        have f309 := f308.keep K290 (ninS (Nat.ne_of_lt (Nat.lt_of_lt_of_le (Nat.lt_of_lt_of_le U264 (Nat.le_trans (Nat.le_trans K266.1 K268.1) K270.1)) G272)) nin0)
        have f310 := f309.keep K292 nin0
        have f311 := f310.keep K296 nin0
        have f312 := f311.keep K301 (ninS (Nat.ne_of_lt (Nat.lt_of_lt_of_le (Nat.lt_of_lt_of_le U264 (Nat.le_trans (Nat.le_trans (Nat.le_trans (Nat.le_trans (Nat.le_trans (Nat.le_trans (Nat.le_trans K266.1 K268.1) K270.1) K272.1) K275.1) K277.1) K279.1) K290.1)) G292)) nin0)
        have f313 := f312.keep K304 nin0
        refine own_ldC X304 353 at_352 f313 (by decide) (by decide) rfl rfl ?_
        refine og_iload X304 355 at_353 rfl rfl ?_
        by_cases hc314 : u0 = w
        · -- u0 = w
          refine og_icmpN X304 358 at_355 (XT.ii_ne_f hc314) rfl ?_
          refine og_iconst X304 359 (1 : Int32) at_358 rfl rfl ?_
          refine og_goto X304 363 at_359 (by decide) (by decide) ?_
          refine og_istore X304 365 #[.val (.int pa), .val (.int pb), .val (.int pp), .val (.int u0), .val (.int u1), .val (.int u2), .val (.int 2), .val (.int 0), .val (.ref b264), .val (.ref b272), .val (.ref b292), .val (.int 1), .val (.int (pp &&& (3 : Int32))), .val (.int w), .val (.int 1), .unset, .unset] at_363 rfl rfl ?_
          refine og_aload X304 367 at_365 rfl rfl rfl ?_
          refine og_iload X304 369 at_367 rfl rfl ?_
          have f315 := f297.keep K301
          have f316 := f315.keep K304
          have f317 := f302.keep K304 nin0
          have f318 := f303.keep K304 nin0
          have f319 := f291.keep K292 all0
          have f320 := f319.keep K296 all0
          have f321 := f320.keep K301 (allS (Or.inl (Nat.le_trans (Nat.le_refl _) G292)) all0)
          have f322 := f321.keep K304 all0
          refine own_virt X304 372 (a := b292) (argsL := [(.int w)]) (rest := []) at_369 f316 (fun _ hZ => notFace_of_selects (args := #[]) (mvT hZ (ow hw 41 rfl))) (rm_nx2_0 l Z a0 hw n0 h304 hWd [] X304.old b292 b272 u0 u1 w f317 f318 f322.top ) (ow hw 38 rfl) (ow hw 39 rfl) (ow hw 41 rfl) (ow hw 40 rfl) (ow hw 24 rfl) (ow hw 42 rfl) (by decide) (lenOf pd__28C_29Z rfl) rfl rfl rfl (W := 0) rfl (by decide) (by decide) (by decide) (by decide) all0 rfl ?_
          intro T323 h323 v323 X323 K323 hQ323
          obtain rfl := hQ323
          show OGo _ _ _ _ T323 (mkF m 372 #[.val (.int pa), .val (.int pb), .val (.int pp), .val (.int u0), .val (.int u1), .val (.int u2), .val (.int 2), .val (.int 0), .val (.ref b264), .val (.ref b272), .val (.ref b292), .val (.int 1), .val (.int (pp &&& (3 : Int32))), .val (.int w), .val (.int 1), .unset, .unset] [(.int (own_eq1 u0 w))])
          refine og_istore X323 374 #[.val (.int pa), .val (.int pb), .val (.int pp), .val (.int u0), .val (.int u1), .val (.int u2), .val (.int 2), .val (.int 0), .val (.ref b264), .val (.ref b272), .val (.ref b292), .val (.int 1), .val (.int (pp &&& (3 : Int32))), .val (.int w), .val (.int 1), .val (.int (own_eq1 u0 w)), .unset] at_372 rfl rfl ?_
          refine og_aload X323 376 at_374 rfl rfl rfl ?_
          refine og_iload X323 378 at_376 rfl rfl ?_
          have f324 := f316.keep K323
          have f325 := f317.keep K323 nin0
          have f326 := f318.keep K323 nin0
          have f327 := f322.keep K323 all0
          refine own_virt X323 381 (a := b292) (argsL := [(.int w)]) (rest := []) at_378 f324 (fun _ hZ => notFace_of_selects (args := #[]) (mvT hZ (ow hw 41 rfl))) (rm_nx2_0 l Z a0 hw n0 h323 hWd [] X323.old b292 b272 u0 u1 w f325 f326 f327.top ) (ow hw 38 rfl) (ow hw 39 rfl) (ow hw 41 rfl) (ow hw 40 rfl) (ow hw 24 rfl) (ow hw 42 rfl) (by decide) (lenOf pd__28C_29Z rfl) rfl rfl rfl (W := 0) rfl (by decide) (by decide) (by decide) (by decide) all0 rfl ?_
          intro T328 h328 v328 X328 K328 hQ328
          obtain rfl := hQ328
          show OGo _ _ _ _ T328 (mkF m 381 #[.val (.int pa), .val (.int pb), .val (.int pp), .val (.int u0), .val (.int u1), .val (.int u2), .val (.int 2), .val (.int 0), .val (.ref b264), .val (.ref b272), .val (.ref b292), .val (.int 1), .val (.int (pp &&& (3 : Int32))), .val (.int w), .val (.int 1), .val (.int (own_eq1 u0 w)), .unset] [(.int (own_eq1 u0 w))])
          refine og_istore X328 383 #[.val (.int pa), .val (.int pb), .val (.int pp), .val (.int u0), .val (.int u1), .val (.int u2), .val (.int 2), .val (.int 0), .val (.ref b264), .val (.ref b272), .val (.ref b292), .val (.int 1), .val (.int (pp &&& (3 : Int32))), .val (.int w), .val (.int 1), .val (.int (own_eq1 u0 w)), .val (.int (own_eq1 u0 w))] at_381 rfl rfl ?_
          refine og_iload X328 385 at_383 rfl rfl ?_
          refine og_ifN X328 388 at_385 (XT.i0_eq_f (by decide)) rfl ?_
          refine og_iload X328 390 at_388 rfl rfl ?_
          refine og_iload X328 392 at_390 rfl rfl ?_
          refine og_icmpN X328 395 at_392 (XT.ii_ne_f (by rw [own_eq1, if_pos hc314])) rfl ?_
          refine og_iload X328 397 at_395 rfl rfl ?_
          refine og_iload X328 399 at_397 rfl rfl ?_
          refine og_icmpN X328 402 at_399 (XT.ii_ne_f (by rw [own_eq1, if_pos hc314])) rfl ?_
          refine og_iconst X328 403 (1 : Int32) at_402 rfl rfl ?_
          refine og_goto X328 407 at_403 (by decide) (by decide) ?_
          refine own_retZ X328 at_407 hret rfl (by decide) (by decide) ?_
          exact rfl
        · -- not
          refine og_icmpY X304 362 at_355 (XT.ii_ne_t hc314) (by decide) (by decide) ?_
          refine og_iconst X304 363 (0 : Int32) at_362 rfl rfl ?_
          refine og_istore X304 365 #[.val (.int pa), .val (.int pb), .val (.int pp), .val (.int u0), .val (.int u1), .val (.int u2), .val (.int 2), .val (.int 0), .val (.ref b264), .val (.ref b272), .val (.ref b292), .val (.int 1), .val (.int (pp &&& (3 : Int32))), .val (.int w), .val (.int 0), .unset, .unset] at_363 rfl rfl ?_
          refine og_aload X304 367 at_365 rfl rfl rfl ?_
          refine og_iload X304 369 at_367 rfl rfl ?_
          have f329 := f297.keep K301
          have f330 := f329.keep K304
          have f331 := f302.keep K304 nin0
          have f332 := f303.keep K304 nin0
          have f333 := f291.keep K292 all0
          have f334 := f333.keep K296 all0
          have f335 := f334.keep K301 (allS (Or.inl (Nat.le_trans (Nat.le_refl _) G292)) all0)
          have f336 := f335.keep K304 all0
          refine own_virt X304 372 (a := b292) (argsL := [(.int w)]) (rest := []) at_369 f330 (fun _ hZ => notFace_of_selects (args := #[]) (mvT hZ (ow hw 41 rfl))) (rm_nx2_0 l Z a0 hw n0 h304 hWd [] X304.old b292 b272 u0 u1 w f331 f332 f336.top ) (ow hw 38 rfl) (ow hw 39 rfl) (ow hw 41 rfl) (ow hw 40 rfl) (ow hw 24 rfl) (ow hw 42 rfl) (by decide) (lenOf pd__28C_29Z rfl) rfl rfl rfl (W := 0) rfl (by decide) (by decide) (by decide) (by decide) all0 rfl ?_
          intro T337 h337 v337 X337 K337 hQ337
          obtain rfl := hQ337
          show OGo _ _ _ _ T337 (mkF m 372 #[.val (.int pa), .val (.int pb), .val (.int pp), .val (.int u0), .val (.int u1), .val (.int u2), .val (.int 2), .val (.int 0), .val (.ref b264), .val (.ref b272), .val (.ref b292), .val (.int 1), .val (.int (pp &&& (3 : Int32))), .val (.int w), .val (.int 0), .unset, .unset] [(.int (own_eq1 u0 w))])
          refine og_istore X337 374 #[.val (.int pa), .val (.int pb), .val (.int pp), .val (.int u0), .val (.int u1), .val (.int u2), .val (.int 2), .val (.int 0), .val (.ref b264), .val (.ref b272), .val (.ref b292), .val (.int 1), .val (.int (pp &&& (3 : Int32))), .val (.int w), .val (.int 0), .val (.int (own_eq1 u0 w)), .unset] at_372 rfl rfl ?_
          refine og_aload X337 376 at_374 rfl rfl rfl ?_
          refine og_iload X337 378 at_376 rfl rfl ?_
          have f338 := f330.keep K337
          have f339 := f331.keep K337 nin0
          have f340 := f332.keep K337 nin0
          have f341 := f336.keep K337 all0
          refine own_virt X337 381 (a := b292) (argsL := [(.int w)]) (rest := []) at_378 f338 (fun _ hZ => notFace_of_selects (args := #[]) (mvT hZ (ow hw 41 rfl))) (rm_nx2_0 l Z a0 hw n0 h337 hWd [] X337.old b292 b272 u0 u1 w f339 f340 f341.top ) (ow hw 38 rfl) (ow hw 39 rfl) (ow hw 41 rfl) (ow hw 40 rfl) (ow hw 24 rfl) (ow hw 42 rfl) (by decide) (lenOf pd__28C_29Z rfl) rfl rfl rfl (W := 0) rfl (by decide) (by decide) (by decide) (by decide) all0 rfl ?_
          intro T342 h342 v342 X342 K342 hQ342
          obtain rfl := hQ342
          show OGo _ _ _ _ T342 (mkF m 381 #[.val (.int pa), .val (.int pb), .val (.int pp), .val (.int u0), .val (.int u1), .val (.int u2), .val (.int 2), .val (.int 0), .val (.ref b264), .val (.ref b272), .val (.ref b292), .val (.int 1), .val (.int (pp &&& (3 : Int32))), .val (.int w), .val (.int 0), .val (.int (own_eq1 u0 w)), .unset] [(.int (own_eq1 u0 w))])
          refine og_istore X342 383 #[.val (.int pa), .val (.int pb), .val (.int pp), .val (.int u0), .val (.int u1), .val (.int u2), .val (.int 2), .val (.int 0), .val (.ref b264), .val (.ref b272), .val (.ref b292), .val (.int 1), .val (.int (pp &&& (3 : Int32))), .val (.int w), .val (.int 0), .val (.int (own_eq1 u0 w)), .val (.int (own_eq1 u0 w))] at_381 rfl rfl ?_
          refine og_iload X342 385 at_383 rfl rfl ?_
          refine og_ifN X342 388 at_385 (XT.i0_eq_f (by decide)) rfl ?_
          refine og_iload X342 390 at_388 rfl rfl ?_
          refine og_iload X342 392 at_390 rfl rfl ?_
          refine og_icmpN X342 395 at_392 (XT.ii_ne_f (by rw [own_eq1, if_neg hc314])) rfl ?_
          refine og_iload X342 397 at_395 rfl rfl ?_
          refine og_iload X342 399 at_397 rfl rfl ?_
          refine og_icmpN X342 402 at_399 (XT.ii_ne_f (by rw [own_eq1, if_neg hc314])) rfl ?_
          refine og_iconst X342 403 (1 : Int32) at_402 rfl rfl ?_
          refine og_goto X342 407 at_403 (by decide) (by decide) ?_
          refine own_retZ X342 at_407 hret rfl (by decide) (by decide) ?_
          exact rfl
      · -- the ways to it
        intro J304
        refine og_iload X301 273 at_271 rfl rfl ?_
        by_cases hc343 : (pp &&& (3 : Int32)) = 0
        · -- (pp &&& (3 : Int32)) = 0
          refine og_ifN X301 276 at_273 (XT.i0_ne_f hc343) rfl ?_
          refine og_iloadN X301 277 at_276 rfl rfl ?_
          refine og_bipush X301 279 (16 : Int32) at_277 rfl rfl ?_
          refine og_iushr X301 280 at_279 rfl ?_
          refine og_i2c X301 281 at_280 rfl ?_
          refine og_istore X301 283 #[.val (.int pa), .val (.int pb), .val (.int pp), .val (.int u0), .val (.int u1), .val (.int u2), .val (.int 2), .val (.int 0), .val (.ref b264), .val (.ref b272), .val (.ref b292), .val (.int 1), .val (.int (pp &&& (3 : Int32))), .val (.int (((XT.ushr pp (16 : Int32))).toUInt32.toUInt16.toUInt32.toInt32)), .unset, .unset, .unset] at_281 rfl rfl ?_
          refine og_goto X301 341 at_283 (by decide) (by decide) ?_
          exact J304 _ _ X301 (Keep.refl _ _) (((XT.ushr pp (16 : Int32))).toUInt32.toUInt16.toUInt32.toInt32) trivial
        · -- not
          refine og_ifY X301 286 at_273 (XT.i0_ne_t hc343) (by decide) (by decide) ?_
          refine og_iload X301 288 at_286 rfl rfl ?_
          refine og_iconst X301 289 (1 : Int32) at_288 rfl rfl ?_
          by_cases hc344 : (pp &&& (3 : Int32)) = (1 : Int32)
          · -- (pp &&& (3 : Int32)) = (1 : Int32)
            refine og_icmpN X301 292 at_289 (XT.ii_ne_f hc344) rfl ?_
            refine og_aload X301 294 at_292 rfl rfl rfl ?_
            refine og_iload X301 296 at_294 rfl rfl ?_
            refine og_iconst X301 297 (2 : Int32) at_296 rfl rfl ?_
            refine own_stat X301 300 (argsL := [(.int 0), (.int 2)]) (rest := [(.ref b264)]) at_297 (rm_min0 l Z a0 hw n0 h301 hWd [] X301.old (0 : Int32) (2 : Int32) (by decide) ) (ow hw 34 rfl) (ow hw 35 rfl) (ow hw 36 rfl) (ow hw 37 rfl) (by decide) (lenOf pd__28II_29I rfl) rfl rfl rfl (W := 1) rfl (by decide) (by decide) (by decide) (by decide) all0 rfl ?_
            intro T345 h345 v345 X345 K345 hQ345
            obtain rfl := hQ345
            show OGo _ _ _ _ T345 (mkF m 300 #[.val (.int pa), .val (.int pb), .val (.int pp), .val (.int u0), .val (.int u1), .val (.int u2), .val (.int 2), .val (.int 0), .val (.ref b264), .val (.ref b272), .val (.ref b292), .val (.int 1), .val (.int (pp &&& (3 : Int32))), .unset, .unset, .unset, .unset] [(.int 0), (.ref b264)])
            have f346 := f271.keep K272 nin0
            have f347 := f346.keep K275 nin0
            have f348 := f347.keep K277 (ninS (Nat.ne_of_lt (Nat.lt_of_lt_of_le (Nat.lt_of_lt_of_le U264 (Nat.le_trans (Nat.le_trans (Nat.le_trans K266.1 K268.1) K270.1) K272.1)) G275)) nin0)
            have f349 := f348.keep K279 (ninS (Nat.ne_of_lt (Nat.lt_of_lt_of_le (Nat.lt_of_lt_of_le U264 (Nat.le_trans (Nat.le_trans (Nat.le_trans K266.1 K268.1) K270.1) K272.1)) G275)) nin0)
            have f350 := f349.keep K290 (ninS (Nat.ne_of_lt (Nat.lt_of_lt_of_le (Nat.lt_of_lt_of_le U264 (Nat.le_trans (Nat.le_trans K266.1 K268.1) K270.1)) G272)) nin0)
            have f351 := f350.keep K292 nin0
            have f352 := f351.keep K296 nin0
            have f353 := f352.keep K301 (ninS (Nat.ne_of_lt (Nat.lt_of_lt_of_le (Nat.lt_of_lt_of_le U264 (Nat.le_trans (Nat.le_trans (Nat.le_trans (Nat.le_trans (Nat.le_trans (Nat.le_trans (Nat.le_trans K266.1 K268.1) K270.1) K272.1) K275.1) K277.1) K279.1) K290.1)) G292)) nin0)
            have f354 := f353.keep K345 nin0
            refine own_ldC X345 301 at_300 f354 (by decide) (by decide) rfl rfl ?_
            refine og_istore X345 303 #[.val (.int pa), .val (.int pb), .val (.int pp), .val (.int u0), .val (.int u1), .val (.int u2), .val (.int 2), .val (.int 0), .val (.ref b264), .val (.ref b272), .val (.ref b292), .val (.int 1), .val (.int (pp &&& (3 : Int32))), .val (.int u0), .unset, .unset, .unset] at_301 rfl rfl ?_
            refine og_goto X345 341 at_303 (by decide) (by decide) ?_
            exact J304 _ _ X345 K345 u0 trivial
          · -- not
            refine og_icmpY X301 306 at_289 (XT.ii_ne_t hc344) (by decide) (by decide) ?_
            refine og_iload X301 308 at_306 rfl rfl ?_
            refine og_iconst X301 309 (2 : Int32) at_308 rfl rfl ?_
            by_cases hc355 : (pp &&& (3 : Int32)) = (2 : Int32)
            · -- (pp &&& (3 : Int32)) = (2 : Int32)
              refine og_icmpN X301 312 at_309 (XT.ii_ne_f hc355) rfl ?_
              refine og_aload X301 314 at_312 rfl rfl rfl ?_
              refine og_iload X301 316 at_314 rfl rfl ?_
              refine og_iconst X301 317 (1 : Int32) at_316 rfl rfl ?_
              refine og_iadd X301 318 at_317 rfl ?_
              show OGo _ _ _ _ T301 (mkF m 318 #[.val (.int pa), .val (.int pb), .val (.int pp), .val (.int u0), .val (.int u1), .val (.int u2), .val (.int 2), .val (.int 0), .val (.ref b264), .val (.ref b272), .val (.ref b292), .val (.int 1), .val (.int (pp &&& (3 : Int32))), .unset, .unset, .unset, .unset] [(.int 1), (.ref b264)])
              refine og_iconst X301 319 (2 : Int32) at_318 rfl rfl ?_
              refine own_stat X301 322 (argsL := [(.int 1), (.int 2)]) (rest := [(.ref b264)]) at_319 (rm_min0 l Z a0 hw n0 h301 hWd [] X301.old (1 : Int32) (2 : Int32) (by decide) ) (ow hw 34 rfl) (ow hw 35 rfl) (ow hw 36 rfl) (ow hw 37 rfl) (by decide) (lenOf pd__28II_29I rfl) rfl rfl rfl (W := 1) rfl (by decide) (by decide) (by decide) (by decide) all0 rfl ?_
              intro T356 h356 v356 X356 K356 hQ356
              obtain rfl := hQ356
              show OGo _ _ _ _ T356 (mkF m 322 #[.val (.int pa), .val (.int pb), .val (.int pp), .val (.int u0), .val (.int u1), .val (.int u2), .val (.int 2), .val (.int 0), .val (.ref b264), .val (.ref b272), .val (.ref b292), .val (.int 1), .val (.int (pp &&& (3 : Int32))), .unset, .unset, .unset, .unset] [(.int 1), (.ref b264)])
              have f357 := f271.keep K272 nin0
              have f358 := f357.keep K275 nin0
              have f359 := f358.keep K277 (ninS (Nat.ne_of_lt (Nat.lt_of_lt_of_le (Nat.lt_of_lt_of_le U264 (Nat.le_trans (Nat.le_trans (Nat.le_trans K266.1 K268.1) K270.1) K272.1)) G275)) nin0)
              have f360 := f359.keep K279 (ninS (Nat.ne_of_lt (Nat.lt_of_lt_of_le (Nat.lt_of_lt_of_le U264 (Nat.le_trans (Nat.le_trans (Nat.le_trans K266.1 K268.1) K270.1) K272.1)) G275)) nin0)
              have f361 := f360.keep K290 (ninS (Nat.ne_of_lt (Nat.lt_of_lt_of_le (Nat.lt_of_lt_of_le U264 (Nat.le_trans (Nat.le_trans K266.1 K268.1) K270.1)) G272)) nin0)
              have f362 := f361.keep K292 nin0
              have f363 := f362.keep K296 nin0
              have f364 := f363.keep K301 (ninS (Nat.ne_of_lt (Nat.lt_of_lt_of_le (Nat.lt_of_lt_of_le U264 (Nat.le_trans (Nat.le_trans (Nat.le_trans (Nat.le_trans (Nat.le_trans (Nat.le_trans (Nat.le_trans K266.1 K268.1) K270.1) K272.1) K275.1) K277.1) K279.1) K290.1)) G292)) nin0)
              have f365 := f364.keep K356 nin0
              refine own_ldC X356 323 at_322 f365 (by decide) (by decide) rfl rfl ?_
              refine og_istore X356 325 #[.val (.int pa), .val (.int pb), .val (.int pp), .val (.int u0), .val (.int u1), .val (.int u2), .val (.int 2), .val (.int 0), .val (.ref b264), .val (.ref b272), .val (.ref b292), .val (.int 1), .val (.int (pp &&& (3 : Int32))), .val (.int u1), .unset, .unset, .unset] at_323 rfl rfl ?_
              refine og_goto X356 341 at_325 (by decide) (by decide) ?_
              exact J304 _ _ X356 K356 u1 trivial
            · -- not
              refine og_icmpY X301 328 at_309 (XT.ii_ne_t hc355) (by decide) (by decide) ?_
              refine og_aload X301 330 at_328 rfl rfl rfl ?_
              refine og_iload X301 332 at_330 rfl rfl ?_
              refine og_iconst X301 333 (1 : Int32) at_332 rfl rfl ?_
              refine og_isub X301 334 at_333 rfl ?_
              show OGo _ _ _ _ T301 (mkF m 334 #[.val (.int pa), .val (.int pb), .val (.int pp), .val (.int u0), .val (.int u1), .val (.int u2), .val (.int 2), .val (.int 0), .val (.ref b264), .val (.ref b272), .val (.ref b292), .val (.int 1), .val (.int (pp &&& (3 : Int32))), .unset, .unset, .unset, .unset] [(.int (-1 : Int32)), (.ref b264)])
              refine og_iconst X301 335 (0 : Int32) at_334 rfl rfl ?_
              refine own_stat X301 338 (argsL := [(.int (-1 : Int32)), (.int 0)]) (rest := [(.ref b264)]) at_335 (rm_max1 l Z a0 hw n0 h301 hWd [] X301.old (-1 : Int32) (0 : Int32) (by decide) ) (ow hw 56 rfl) (ow hw 57 rfl) (ow hw 36 rfl) (ow hw 58 rfl) (by decide) (lenOf pd__28II_29I rfl) rfl rfl rfl (W := 1) rfl (by decide) (by decide) (by decide) (by decide) all0 rfl ?_
              intro T366 h366 v366 X366 K366 hQ366
              obtain rfl := hQ366
              show OGo _ _ _ _ T366 (mkF m 338 #[.val (.int pa), .val (.int pb), .val (.int pp), .val (.int u0), .val (.int u1), .val (.int u2), .val (.int 2), .val (.int 0), .val (.ref b264), .val (.ref b272), .val (.ref b292), .val (.int 1), .val (.int (pp &&& (3 : Int32))), .unset, .unset, .unset, .unset] [(.int 0), (.ref b264)])
              have f367 := f271.keep K272 nin0
              have f368 := f367.keep K275 nin0
              have f369 := f368.keep K277 (ninS (Nat.ne_of_lt (Nat.lt_of_lt_of_le (Nat.lt_of_lt_of_le U264 (Nat.le_trans (Nat.le_trans (Nat.le_trans K266.1 K268.1) K270.1) K272.1)) G275)) nin0)
              have f370 := f369.keep K279 (ninS (Nat.ne_of_lt (Nat.lt_of_lt_of_le (Nat.lt_of_lt_of_le U264 (Nat.le_trans (Nat.le_trans (Nat.le_trans K266.1 K268.1) K270.1) K272.1)) G275)) nin0)
              have f371 := f370.keep K290 (ninS (Nat.ne_of_lt (Nat.lt_of_lt_of_le (Nat.lt_of_lt_of_le U264 (Nat.le_trans (Nat.le_trans K266.1 K268.1) K270.1)) G272)) nin0)
              have f372 := f371.keep K292 nin0
              have f373 := f372.keep K296 nin0
              have f374 := f373.keep K301 (ninS (Nat.ne_of_lt (Nat.lt_of_lt_of_le (Nat.lt_of_lt_of_le U264 (Nat.le_trans (Nat.le_trans (Nat.le_trans (Nat.le_trans (Nat.le_trans (Nat.le_trans (Nat.le_trans K266.1 K268.1) K270.1) K272.1) K275.1) K277.1) K279.1) K290.1)) G292)) nin0)
              have f375 := f374.keep K366 nin0
              refine own_ldC X366 339 at_338 f375 (by decide) (by decide) rfl rfl ?_
              refine og_istore X366 341 #[.val (.int pa), .val (.int pb), .val (.int pp), .val (.int u0), .val (.int u1), .val (.int u2), .val (.int 2), .val (.int 0), .val (.ref b264), .val (.ref b272), .val (.ref b292), .val (.int 1), .val (.int (pp &&& (3 : Int32))), .val (.int u0), .unset, .unset, .unset] at_339 rfl rfl ?_
              exact J304 _ _ X366 K366 u0 trivial
    · -- 1
      rw [eQ]
      refine og_iconst X0 36 (3 : Int32) at_35 rfl rfl ?_
      refine own_arr X0 38 at_36 (ow hw 0 rfl) (by decide) (cap := 3) (by decide) (by decide) (by decide) (by decide) rfl ?_
      intro T376 h376 b376 kb376 X376 K376 G376 U376 A376
      have f377 : Arv Z h376 b376 kb376 .char (3 : Int32) [(.int 0), (.int 0), (.int 0)] (.int 0) := A376
      refine og_dup X376 39 at_38 rfl rfl ?_
      refine og_iconst X376 40 (0 : Int32) at_39 rfl rfl ?_
      refine og_iloadN X376 41 at_40 rfl rfl ?_
      refine own_stC X376 42 at_41 f377 (own_nch B_u0.1 B_u0.2) (by decide) (by decide) (i := 0) (by decide) (Nat.le_of_ble_eq_true rfl) (om 0 rfl) rfl ?_
      intro T378 h378 X378 W378 K378 A378
      have f379 : Arv Z h378 b376 kb376 .char (3 : Int32) [(.int u0), (.int 0), (.int 0)] (.int 0) := A378
      refine og_dup X378 43 at_42 rfl rfl ?_
      refine og_iconst X378 44 (1 : Int32) at_43 rfl rfl ?_
      refine og_iload X378 46 at_44 rfl rfl ?_
      refine own_stC X378 47 at_46 f379 (own_nch B_u1.1 B_u1.2) (by decide) (by decide) (i := 1) (by decide) (Nat.le_of_ble_eq_true rfl) (om 0 rfl) rfl ?_
      intro T380 h380 X380 W380 K380 A380
      have f381 : Arv Z h380 b376 kb376 .char (3 : Int32) [(.int u0), (.int u1), (.int 0)] (.int 0) := A380
      refine og_dup X380 48 at_47 rfl rfl ?_
      refine og_iconst X380 49 (2 : Int32) at_48 rfl rfl ?_
      refine og_iload X380 51 at_49 rfl rfl ?_
      refine own_stC X380 52 at_51 f381 (own_nch B_u2.1 B_u2.2) (by decide) (by decide) (i := 2) (by decide) (Nat.le_of_ble_eq_true rfl) (om 0 rfl) rfl ?_
      intro T382 h382 X382 W382 K382 A382
      have f383 : Arv Z h382 b376 kb376 .char (3 : Int32) [(.int u0), (.int u1), (.int u2)] (.int 0) := A382
      refine og_astore X382 54 #[.val (.int pa), .val (.int pb), .val (.int pp), .val (.int u0), .val (.int u1), .val (.int u2), .val (.int 2), .val (.int 1), .val (.ref b376), .unset, .unset, .unset, .unset, .unset, .unset, .unset, .unset] at_52 rfl rfl rfl ?_
      refine og_iload X382 56 at_54 rfl rfl ?_
      refine og_ifY X382 74 at_56 (XT.i0_ne_t (by decide)) (by decide) (by decide) ?_
      refine og_iload X382 76 at_74 rfl rfl ?_
      refine og_iconst X382 77 (1 : Int32) at_76 rfl rfl ?_
      refine og_icmpY X382 99 at_77 (XT.ii_ne_t (by decide)) (by decide) (by decide) ?_
      refine og_iload X382 101 at_99 rfl rfl ?_
      refine og_iconst X382 102 (2 : Int32) at_101 rfl rfl ?_
      refine og_icmpN X382 105 at_102 (XT.ii_ne_f (by decide)) rfl ?_
      refine own_new X382 108 at_105 (ow hw 1 rfl) (ow hw 2 rfl) (ow hw 3 rfl) (by decide) (by decide) rfl ?_
      intro T384 h384 b384 X384 K384 G384 U384 E384 D384
      have f385 : Fld Z h384 b384 "java/lang/String" "value" "[B" .null := D384 (Or.inr (ow hw 16 rfl)) (ty := (.array .byte)) (by decide)
      have f386 : Fld Z h384 b384 "java/lang/String" "coder" "B" (.int 0) := D384 (Or.inr (ow hw 17 rfl)) (ty := .byte) (by decide)
      refine og_dup X384 109 at_108 rfl rfl ?_
      refine og_iconst X384 110 (2 : Int32) at_109 rfl rfl ?_
      refine own_arr X384 112 at_110 (ow hw 0 rfl) (by decide) (cap := 2) (by decide) (by decide) (by decide) (by decide) rfl ?_
      intro T387 h387 b387 kb387 X387 K387 G387 U387 A387
      have f388 : Arv Z h387 b387 kb387 .char (2 : Int32) [(.int 0), (.int 0)] (.int 0) := A387
      refine og_dup X387 113 at_112 rfl rfl ?_
      refine og_iconst X387 114 (0 : Int32) at_113 rfl rfl ?_
      refine og_iloadN X387 115 at_114 rfl rfl ?_
      refine own_stC X387 116 at_115 f388 (own_nch B_u0.1 B_u0.2) (by decide) (by decide) (i := 0) (by decide) (Nat.le_of_ble_eq_true rfl) (om 0 rfl) rfl ?_
      intro T389 h389 X389 W389 K389 A389
      have f390 : Arv Z h389 b387 kb387 .char (2 : Int32) [(.int u0), (.int 0)] (.int 0) := A389
      refine og_dup X389 117 at_116 rfl rfl ?_
      refine og_iconst X389 118 (1 : Int32) at_117 rfl rfl ?_
      refine og_iload X389 120 at_118 rfl rfl ?_
      refine own_stC X389 121 at_120 f390 (own_nch B_u1.1 B_u1.2) (by decide) (by decide) (i := 1) (by decide) (Nat.le_of_ble_eq_true rfl) (om 0 rfl) rfl ?_
      intro T391 h391 X391 W391 K391 A391
      have f392 : Arv Z h391 b387 kb387 .char (2 : Int32) [(.int u0), (.int u1)] (.int 0) := A391
      have f393 := E384.keep K387
      have f394 := f393.keep K389
      have f395 := f394.keep K391
      have f396 := f385.keep K387 nin0
      have f397 := f396.keep K389 (ninS (Nat.ne_of_lt (Nat.lt_of_lt_of_le U384 G387)) nin0)
      have f398 := f397.keep K391 (ninS (Nat.ne_of_lt (Nat.lt_of_lt_of_le U384 G387)) nin0)
      have f399 := f386.keep K387 nin0
      have f400 := f399.keep K389 (ninS (Nat.ne_of_lt (Nat.lt_of_lt_of_le U384 G387)) nin0)
      have f401 := f400.keep K391 (ninS (Nat.ne_of_lt (Nat.lt_of_lt_of_le U384 G387)) nin0)
      refine own_spec X391 124 (a := b384) (argsL := [(.ref b387)]) (rest := [(.ref b384)]) at_121 rfl (ru_ini2 l Z a0 hw n0 h391 hWd [] X391.old b384 b387 .null (0 : Int32) kb387 (.int 0) u0 u1 f395 f398 f401 f392 B_u0.1 B_u0.2 B_u1.1 B_u1.2 (own_svb X391 (om 1 rfl))) (ow hw 4 rfl) (ow hw 5 rfl) (ow hw 3 rfl) (ow hw 6 rfl) (by decide) (lenOf pd__28_5bC_29V rfl) rfl rfl rfl (W := 1) rfl (by decide) (by decide) (by decide) (by decide) (allS (om 1 rfl) all0) rfl ?_
      intro T402 h402 v402 X402 K402 hQ402
      obtain ⟨rfl, f403⟩ := hQ402
      show OGo _ _ _ _ T402 (mkF m 124 #[.val (.int pa), .val (.int pb), .val (.int pp), .val (.int u0), .val (.int u1), .val (.int u2), .val (.int 2), .val (.int 1), .val (.ref b376), .unset, .unset, .unset, .unset, .unset, .unset, .unset, .unset] [(.ref b384)])
      refine og_astore X402 126 #[.val (.int pa), .val (.int pb), .val (.int pp), .val (.int u0), .val (.int u1), .val (.int u2), .val (.int 2), .val (.int 1), .val (.ref b376), .val (.ref b384), .unset, .unset, .unset, .unset, .unset, .unset, .unset] at_124 rfl rfl rfl ?_
      refine og_goto X402 155 at_126 (by decide) (by decide) ?_
      refine own_new X402 158 at_155 (ow hw 22 rfl) (ow hw 23 rfl) (ow hw 24 rfl) (by decide) (by decide) rfl ?_
      intro T404 h404 b404 X404 K404 G404 U404 E404 D404
      have f405 : Fld Z h404 b404 "com/example/bote/bote/fields/FieldCursor" "text" "Ljava/lang/String;" .null := D404 (Or.inr (ow hw 31 rfl)) (ty := (.object "java/lang/String")) (by decide)
      have f406 : Fld Z h404 b404 "com/example/bote/bote/fields/FieldCursor" "shape" "Ljava/lang/String;" .null := D404 (Or.inr (ow hw 33 rfl)) (ty := (.object "java/lang/String")) (by decide)
      have f407 : Fld Z h404 b404 "com/example/bote/bote/fields/FieldCursor" "at" "I" (.int 0) := D404 (Or.inl (ow hw 44 rfl)) (ty := .int) (by decide)
      refine og_dup X404 159 at_158 rfl rfl ?_
      refine og_aload X404 161 at_159 rfl rfl rfl ?_
      refine own_ldcO X404 163 (cap := 20) at_161 own_ELne (ow hw 25 rfl) (own_wS hw) (by decide) (by decide) (by decide) (by decide) rfl ?_
      intro T408 h408 a408 X408 K408
      have f409 := E404.keep K408
      have f410 := f405.keep K408 nin0
      have f411 := f406.keep K408 nin0
      have f412 := f407.keep K408 nin0
      refine own_spec X408 166 (a := b404) (argsL := [(.ref b384), (.ref a408)]) (rest := [(.ref b404)]) at_163 rfl (rm4 l Z a0 hw n0 h408 hWd [] X408.old b404 b384 a408 f409 f410 f411 f412 (own_svb X408 (om 0 rfl))) (ow hw 26 rfl) (ow hw 27 rfl) (ow hw 24 rfl) (ow hw 28 rfl) (by decide) (lenOf pd__28Ljava_2flang_2fString_3bLjava_2flang_2fString_3b_29V rfl) rfl rfl rfl (W := 1) rfl (by decide) (by decide) (by decide) (by decide) (allS (om 0 rfl) all0) rfl ?_
      intro T413 h413 v413 X413 K413 hQ413
      obtain ⟨rfl, f414, f415⟩ := hQ413
      show OGo _ _ _ _ T413 (mkF m 166 #[.val (.int pa), .val (.int pb), .val (.int pp), .val (.int u0), .val (.int u1), .val (.int u2), .val (.int 2), .val (.int 1), .val (.ref b376), .val (.ref b384), .unset, .unset, .unset, .unset, .unset, .unset, .unset] [(.ref b404)])
      refine og_astore X413 168 #[.val (.int pa), .val (.int pb), .val (.int pp), .val (.int u0), .val (.int u1), .val (.int u2), .val (.int 2), .val (.int 1), .val (.ref b376), .val (.ref b384), .val (.ref b404), .unset, .unset, .unset, .unset, .unset, .unset] at_166 rfl rfl rfl ?_
      refine og_iconst X413 169 (1 : Int32) at_168 rfl rfl ?_
      refine og_istore X413 171 #[.val (.int pa), .val (.int pb), .val (.int pp), .val (.int u0), .val (.int u1), .val (.int u2), .val (.int 2), .val (.int 1), .val (.ref b376), .val (.ref b384), .val (.ref b404), .val (.int 1), .unset, .unset, .unset, .unset, .unset] at_169 rfl rfl ?_
      refine og_iload X413 173 at_171 rfl rfl ?_
      refine og_iconst X413 174 (1 : Int32) at_173 rfl rfl ?_
      refine og_icmpN X413 177 at_174 (XT.ii_lt_f (by decide)) rfl ?_
      refine og_aload X413 179 at_177 rfl rfl rfl ?_
      refine og_iloadN X413 180 at_179 rfl rfl ?_
      have f416 := f409.keep K413
      have f417 := f403.keep K404 all0
      have f418 := f417.keep K408 all0
      have f419 := f418.keep K413 (allS (Or.inl (Nat.le_trans (Nat.le_refl _) G404)) all0)
      refine own_virt X413 183 (a := b404) (argsL := [(.int u0)]) (rest := []) at_180 f416 (fun _ hZ => notFace_of_selects (args := #[]) (mvT hZ (ow hw 91 rfl))) (rm_tk2_0 l Z a0 hw n0 h413 hWd [] X413.old b404 b384 u0 u1 f416 f414 f415 f419.top (own_svb X413 (om 0 rfl))) (ow hw 88 rfl) (ow hw 89 rfl) (ow hw 91 rfl) (ow hw 90 rfl) (ow hw 24 rfl) (ow hw 92 rfl) (by decide) (lenOf pd__28C_29Z rfl) rfl rfl rfl (W := 0) rfl (by decide) (by decide) (by decide) (by decide) (allS (om 0 rfl) all0) rfl ?_
      intro T420 h420 v420 X420 K420 hQ420
      obtain ⟨rfl, f421, f422⟩ := hQ420
      show OGo _ _ _ _ T420 (mkF m 183 #[.val (.int pa), .val (.int pb), .val (.int pp), .val (.int u0), .val (.int u1), .val (.int u2), .val (.int 2), .val (.int 1), .val (.ref b376), .val (.ref b384), .val (.ref b404), .val (.int 1), .unset, .unset, .unset, .unset, .unset] [(.int 1)])
      refine og_istore X420 185 #[.val (.int pa), .val (.int pb), .val (.int pp), .val (.int u0), .val (.int u1), .val (.int u2), .val (.int 2), .val (.int 1), .val (.ref b376), .val (.ref b384), .val (.ref b404), .val (.int 1), .val (.int 1), .unset, .unset, .unset, .unset] at_183 rfl rfl ?_
      refine og_iload X420 187 at_185 rfl rfl ?_
      refine og_ifN X420 190 at_187 (XT.i0_eq_f (by decide)) rfl ?_
      refine og_iload X420 192 at_190 rfl rfl ?_
      refine og_ifN X420 195 at_192 (XT.i0_eq_f (by decide)) rfl ?_
      refine og_iconst X420 196 (1 : Int32) at_195 rfl rfl ?_
      refine og_goto X420 200 at_196 (by decide) (by decide) ?_
      refine og_istore X420 202 #[.val (.int pa), .val (.int pb), .val (.int pp), .val (.int u0), .val (.int u1), .val (.int u2), .val (.int 2), .val (.int 1), .val (.ref b376), .val (.ref b384), .val (.ref b404), .val (.int 1), .val (.int 1), .unset, .unset, .unset, .unset] at_200 rfl rfl ?_
      refine og_iload X420 204 at_202 rfl rfl ?_
      refine og_iconst X420 205 (2 : Int32) at_204 rfl rfl ?_
      refine og_icmpY X420 234 at_205 (XT.ii_lt_t (by decide)) (by decide) (by decide) ?_
      refine og_iload X420 236 at_234 rfl rfl ?_
      refine og_iconst X420 237 (3 : Int32) at_236 rfl rfl ?_
      refine og_icmpY X420 266 at_237 (XT.ii_lt_t (by decide)) (by decide) (by decide) ?_
      refine og_iloadN X420 267 at_266 rfl rfl ?_
      refine og_iconst X420 268 (3 : Int32) at_267 rfl rfl ?_
      refine og_iand X420 269 at_268 rfl ?_
      refine og_istore X420 271 #[.val (.int pa), .val (.int pb), .val (.int pp), .val (.int u0), .val (.int u1), .val (.int u2), .val (.int 2), .val (.int 1), .val (.ref b376), .val (.ref b384), .val (.ref b404), .val (.int 1), .val (.int (pp &&& (3 : Int32))), .unset, .unset, .unset, .unset] at_269 rfl rfl ?_
      refine own_cut X420 341 (fun (w : Int32) => #[.val (.int pa), .val (.int pb), .val (.int pp), .val (.int u0), .val (.int u1), .val (.int u2), .val (.int 2), .val (.int 1), .val (.ref b376), .val (.ref b384), .val (.ref b404), .val (.int 1), .val (.int (pp &&& (3 : Int32))), .val (.int w), .unset, .unset, .unset]) (fun _ => []) (fun w => True) ?_ ?_
      · -- the common way on
        intro T423 h423 X423 K423 w ok423
        show OGo _ _ _ _ T423 (mkF m 341 #[.val (.int pa), .val (.int pb), .val (.int pp), .val (.int u0), .val (.int u1), .val (.int u2), .val (.int 2), .val (.int 1), .val (.ref b376), .val (.ref b384), .val (.ref b404), .val (.int 1), .val (.int (pp &&& (3 : Int32))), .val (.int w), .unset, .unset, .unset] [])
        refine og_iload X423 343 at_341 rfl rfl ?_
        refine og_iload X423 345 at_343 rfl rfl ?_
        refine og_icmpN X423 348 at_345 (XT.ii_ge_f (by decide)) rfl ?_
        refine og_aload X423 350 at_348 rfl rfl rfl ?_
        refine og_iload X423 352 at_350 rfl rfl ?_
        have f424 := f383.keep K384 nin0
        have f425 := f424.keep K387 nin0
        have f426 := f425.keep K389 (ninS (Nat.ne_of_lt (Nat.lt_of_lt_of_le (Nat.lt_of_lt_of_le U376 (Nat.le_trans (Nat.le_trans (Nat.le_trans K378.1 K380.1) K382.1) K384.1)) G387)) nin0)
        have f427 := f426.keep K391 (ninS (Nat.ne_of_lt (Nat.lt_of_lt_of_le (Nat.lt_of_lt_of_le U376 (Nat.le_trans (Nat.le_trans (Nat.le_trans K378.1 K380.1) K382.1) K384.1)) G387)) nin0)
        have f428 := f427.keep K402 (ninS (Nat.ne_of_lt (Nat.lt_of_lt_of_le (Nat.lt_of_lt_of_le U376 (Nat.le_trans (Nat.le_trans K378.1 K380.1) K382.1)) G384)) nin0)
        have f429 := f428.keep K404 nin0
        have f430 := f429.keep K408 nin0
        have f431 := f430.keep K413 (ninS (Nat.ne_of_lt (Nat.lt_of_lt_of_le (Nat.lt_of_lt_of_le U376 (Nat.le_trans (Nat.le_trans (Nat.le_trans (Nat.le_trans (Nat.le_trans (Nat.le_trans (Nat.le_trans K378.1 K380.1) K382.1) K384.1) K387.1) K389.1) K391.1) K402.1)) G404)) nin0)
        have f432 := f431.keep K420 (ninS (Nat.ne_of_lt (Nat.lt_of_lt_of_le (Nat.lt_of_lt_of_le U376 (Nat.le_trans (Nat.le_trans (Nat.le_trans (Nat.le_trans (Nat.le_trans (Nat.le_trans (Nat.le_trans K378.1 K380.1) K382.1) K384.1) K387.1) K389.1) K391.1) K402.1)) G404)) nin0)
        have f433 := f432.keep K423 nin0
        refine own_ldC X423 353 at_352 f433 (by decide) (by decide) rfl rfl ?_
        refine og_iload X423 355 at_353 rfl rfl ?_
        by_cases hc434 : u1 = w
        · -- u1 = w
          refine og_icmpN X423 358 at_355 (XT.ii_ne_f hc434) rfl ?_
          refine og_iconst X423 359 (1 : Int32) at_358 rfl rfl ?_
          refine og_goto X423 363 at_359 (by decide) (by decide) ?_
          refine og_istore X423 365 #[.val (.int pa), .val (.int pb), .val (.int pp), .val (.int u0), .val (.int u1), .val (.int u2), .val (.int 2), .val (.int 1), .val (.ref b376), .val (.ref b384), .val (.ref b404), .val (.int 1), .val (.int (pp &&& (3 : Int32))), .val (.int w), .val (.int 1), .unset, .unset] at_363 rfl rfl ?_
          refine og_aload X423 367 at_365 rfl rfl rfl ?_
          refine og_iload X423 369 at_367 rfl rfl ?_
          have f435 := f416.keep K420
          have f436 := f435.keep K423
          have f437 := f421.keep K423 nin0
          have f438 := f422.keep K423 nin0
          have f439 := f419.keep K420 (allS (Or.inl (Nat.le_trans (Nat.le_refl _) G404)) all0)
          have f440 := f439.keep K423 all0
          refine own_virt X423 372 (a := b404) (argsL := [(.int w)]) (rest := []) at_369 f436 (fun _ hZ => notFace_of_selects (args := #[]) (mvT hZ (ow hw 41 rfl))) (rm_nx2_1 l Z a0 hw n0 h423 hWd [] X423.old b404 b384 u0 u1 w f437 f438 f440.top ) (ow hw 38 rfl) (ow hw 39 rfl) (ow hw 41 rfl) (ow hw 40 rfl) (ow hw 24 rfl) (ow hw 42 rfl) (by decide) (lenOf pd__28C_29Z rfl) rfl rfl rfl (W := 0) rfl (by decide) (by decide) (by decide) (by decide) all0 rfl ?_
          intro T441 h441 v441 X441 K441 hQ441
          obtain rfl := hQ441
          show OGo _ _ _ _ T441 (mkF m 372 #[.val (.int pa), .val (.int pb), .val (.int pp), .val (.int u0), .val (.int u1), .val (.int u2), .val (.int 2), .val (.int 1), .val (.ref b376), .val (.ref b384), .val (.ref b404), .val (.int 1), .val (.int (pp &&& (3 : Int32))), .val (.int w), .val (.int 1), .unset, .unset] [(.int (own_eq1 u1 w))])
          refine og_istore X441 374 #[.val (.int pa), .val (.int pb), .val (.int pp), .val (.int u0), .val (.int u1), .val (.int u2), .val (.int 2), .val (.int 1), .val (.ref b376), .val (.ref b384), .val (.ref b404), .val (.int 1), .val (.int (pp &&& (3 : Int32))), .val (.int w), .val (.int 1), .val (.int (own_eq1 u1 w)), .unset] at_372 rfl rfl ?_
          refine og_aload X441 376 at_374 rfl rfl rfl ?_
          refine og_iload X441 378 at_376 rfl rfl ?_
          have f442 := f436.keep K441
          have f443 := f437.keep K441 nin0
          have f444 := f438.keep K441 nin0
          have f445 := f440.keep K441 all0
          refine own_virt X441 381 (a := b404) (argsL := [(.int w)]) (rest := []) at_378 f442 (fun _ hZ => notFace_of_selects (args := #[]) (mvT hZ (ow hw 41 rfl))) (rm_nx2_1 l Z a0 hw n0 h441 hWd [] X441.old b404 b384 u0 u1 w f443 f444 f445.top ) (ow hw 38 rfl) (ow hw 39 rfl) (ow hw 41 rfl) (ow hw 40 rfl) (ow hw 24 rfl) (ow hw 42 rfl) (by decide) (lenOf pd__28C_29Z rfl) rfl rfl rfl (W := 0) rfl (by decide) (by decide) (by decide) (by decide) all0 rfl ?_
          intro T446 h446 v446 X446 K446 hQ446
          obtain rfl := hQ446
          show OGo _ _ _ _ T446 (mkF m 381 #[.val (.int pa), .val (.int pb), .val (.int pp), .val (.int u0), .val (.int u1), .val (.int u2), .val (.int 2), .val (.int 1), .val (.ref b376), .val (.ref b384), .val (.ref b404), .val (.int 1), .val (.int (pp &&& (3 : Int32))), .val (.int w), .val (.int 1), .val (.int (own_eq1 u1 w)), .unset] [(.int (own_eq1 u1 w))])
          refine og_istore X446 383 #[.val (.int pa), .val (.int pb), .val (.int pp), .val (.int u0), .val (.int u1), .val (.int u2), .val (.int 2), .val (.int 1), .val (.ref b376), .val (.ref b384), .val (.ref b404), .val (.int 1), .val (.int (pp &&& (3 : Int32))), .val (.int w), .val (.int 1), .val (.int (own_eq1 u1 w)), .val (.int (own_eq1 u1 w))] at_381 rfl rfl ?_
          refine og_iload X446 385 at_383 rfl rfl ?_
          refine og_ifN X446 388 at_385 (XT.i0_eq_f (by decide)) rfl ?_
          refine og_iload X446 390 at_388 rfl rfl ?_
          refine og_iload X446 392 at_390 rfl rfl ?_
          refine og_icmpN X446 395 at_392 (XT.ii_ne_f (by rw [own_eq1, if_pos hc434])) rfl ?_
          refine og_iload X446 397 at_395 rfl rfl ?_
          refine og_iload X446 399 at_397 rfl rfl ?_
          refine og_icmpN X446 402 at_399 (XT.ii_ne_f (by rw [own_eq1, if_pos hc434])) rfl ?_
          refine og_iconst X446 403 (1 : Int32) at_402 rfl rfl ?_
          refine og_goto X446 407 at_403 (by decide) (by decide) ?_
          refine own_retZ X446 at_407 hret rfl (by decide) (by decide) ?_
          exact rfl
        · -- not
          refine og_icmpY X423 362 at_355 (XT.ii_ne_t hc434) (by decide) (by decide) ?_
          refine og_iconst X423 363 (0 : Int32) at_362 rfl rfl ?_
          refine og_istore X423 365 #[.val (.int pa), .val (.int pb), .val (.int pp), .val (.int u0), .val (.int u1), .val (.int u2), .val (.int 2), .val (.int 1), .val (.ref b376), .val (.ref b384), .val (.ref b404), .val (.int 1), .val (.int (pp &&& (3 : Int32))), .val (.int w), .val (.int 0), .unset, .unset] at_363 rfl rfl ?_
          refine og_aload X423 367 at_365 rfl rfl rfl ?_
          refine og_iload X423 369 at_367 rfl rfl ?_
          have f447 := f416.keep K420
          have f448 := f447.keep K423
          have f449 := f421.keep K423 nin0
          have f450 := f422.keep K423 nin0
          have f451 := f419.keep K420 (allS (Or.inl (Nat.le_trans (Nat.le_refl _) G404)) all0)
          have f452 := f451.keep K423 all0
          refine own_virt X423 372 (a := b404) (argsL := [(.int w)]) (rest := []) at_369 f448 (fun _ hZ => notFace_of_selects (args := #[]) (mvT hZ (ow hw 41 rfl))) (rm_nx2_1 l Z a0 hw n0 h423 hWd [] X423.old b404 b384 u0 u1 w f449 f450 f452.top ) (ow hw 38 rfl) (ow hw 39 rfl) (ow hw 41 rfl) (ow hw 40 rfl) (ow hw 24 rfl) (ow hw 42 rfl) (by decide) (lenOf pd__28C_29Z rfl) rfl rfl rfl (W := 0) rfl (by decide) (by decide) (by decide) (by decide) all0 rfl ?_
          intro T453 h453 v453 X453 K453 hQ453
          obtain rfl := hQ453
          show OGo _ _ _ _ T453 (mkF m 372 #[.val (.int pa), .val (.int pb), .val (.int pp), .val (.int u0), .val (.int u1), .val (.int u2), .val (.int 2), .val (.int 1), .val (.ref b376), .val (.ref b384), .val (.ref b404), .val (.int 1), .val (.int (pp &&& (3 : Int32))), .val (.int w), .val (.int 0), .unset, .unset] [(.int (own_eq1 u1 w))])
          refine og_istore X453 374 #[.val (.int pa), .val (.int pb), .val (.int pp), .val (.int u0), .val (.int u1), .val (.int u2), .val (.int 2), .val (.int 1), .val (.ref b376), .val (.ref b384), .val (.ref b404), .val (.int 1), .val (.int (pp &&& (3 : Int32))), .val (.int w), .val (.int 0), .val (.int (own_eq1 u1 w)), .unset] at_372 rfl rfl ?_
          refine og_aload X453 376 at_374 rfl rfl rfl ?_
          refine og_iload X453 378 at_376 rfl rfl ?_
          have f454 := f448.keep K453
          have f455 := f449.keep K453 nin0
          have f456 := f450.keep K453 nin0
          have f457 := f452.keep K453 all0
          refine own_virt X453 381 (a := b404) (argsL := [(.int w)]) (rest := []) at_378 f454 (fun _ hZ => notFace_of_selects (args := #[]) (mvT hZ (ow hw 41 rfl))) (rm_nx2_1 l Z a0 hw n0 h453 hWd [] X453.old b404 b384 u0 u1 w f455 f456 f457.top ) (ow hw 38 rfl) (ow hw 39 rfl) (ow hw 41 rfl) (ow hw 40 rfl) (ow hw 24 rfl) (ow hw 42 rfl) (by decide) (lenOf pd__28C_29Z rfl) rfl rfl rfl (W := 0) rfl (by decide) (by decide) (by decide) (by decide) all0 rfl ?_
          intro T458 h458 v458 X458 K458 hQ458
          obtain rfl := hQ458
          show OGo _ _ _ _ T458 (mkF m 381 #[.val (.int pa), .val (.int pb), .val (.int pp), .val (.int u0), .val (.int u1), .val (.int u2), .val (.int 2), .val (.int 1), .val (.ref b376), .val (.ref b384), .val (.ref b404), .val (.int 1), .val (.int (pp &&& (3 : Int32))), .val (.int w), .val (.int 0), .val (.int (own_eq1 u1 w)), .unset] [(.int (own_eq1 u1 w))])
          refine og_istore X458 383 #[.val (.int pa), .val (.int pb), .val (.int pp), .val (.int u0), .val (.int u1), .val (.int u2), .val (.int 2), .val (.int 1), .val (.ref b376), .val (.ref b384), .val (.ref b404), .val (.int 1), .val (.int (pp &&& (3 : Int32))), .val (.int w), .val (.int 0), .val (.int (own_eq1 u1 w)), .val (.int (own_eq1 u1 w))] at_381 rfl rfl ?_
          refine og_iload X458 385 at_383 rfl rfl ?_
          refine og_ifN X458 388 at_385 (XT.i0_eq_f (by decide)) rfl ?_
          refine og_iload X458 390 at_388 rfl rfl ?_
          refine og_iload X458 392 at_390 rfl rfl ?_
          refine og_icmpN X458 395 at_392 (XT.ii_ne_f (by rw [own_eq1, if_neg hc434])) rfl ?_
          refine og_iload X458 397 at_395 rfl rfl ?_
          refine og_iload X458 399 at_397 rfl rfl ?_
          refine og_icmpN X458 402 at_399 (XT.ii_ne_f (by rw [own_eq1, if_neg hc434])) rfl ?_
          refine og_iconst X458 403 (1 : Int32) at_402 rfl rfl ?_
          refine og_goto X458 407 at_403 (by decide) (by decide) ?_
          refine own_retZ X458 at_407 hret rfl (by decide) (by decide) ?_
          exact rfl
      · -- the ways to it
        intro J423
        refine og_iload X420 273 at_271 rfl rfl ?_
        by_cases hc459 : (pp &&& (3 : Int32)) = 0
        · -- (pp &&& (3 : Int32)) = 0
          refine og_ifN X420 276 at_273 (XT.i0_ne_f hc459) rfl ?_
          refine og_iloadN X420 277 at_276 rfl rfl ?_
          refine og_bipush X420 279 (16 : Int32) at_277 rfl rfl ?_
          refine og_iushr X420 280 at_279 rfl ?_
          refine og_i2c X420 281 at_280 rfl ?_
          refine og_istore X420 283 #[.val (.int pa), .val (.int pb), .val (.int pp), .val (.int u0), .val (.int u1), .val (.int u2), .val (.int 2), .val (.int 1), .val (.ref b376), .val (.ref b384), .val (.ref b404), .val (.int 1), .val (.int (pp &&& (3 : Int32))), .val (.int (((XT.ushr pp (16 : Int32))).toUInt32.toUInt16.toUInt32.toInt32)), .unset, .unset, .unset] at_281 rfl rfl ?_
          refine og_goto X420 341 at_283 (by decide) (by decide) ?_
          exact J423 _ _ X420 (Keep.refl _ _) (((XT.ushr pp (16 : Int32))).toUInt32.toUInt16.toUInt32.toInt32) trivial
        · -- not
          refine og_ifY X420 286 at_273 (XT.i0_ne_t hc459) (by decide) (by decide) ?_
          refine og_iload X420 288 at_286 rfl rfl ?_
          refine og_iconst X420 289 (1 : Int32) at_288 rfl rfl ?_
          by_cases hc460 : (pp &&& (3 : Int32)) = (1 : Int32)
          · -- (pp &&& (3 : Int32)) = (1 : Int32)
            refine og_icmpN X420 292 at_289 (XT.ii_ne_f hc460) rfl ?_
            refine og_aload X420 294 at_292 rfl rfl rfl ?_
            refine og_iload X420 296 at_294 rfl rfl ?_
            refine og_iconst X420 297 (2 : Int32) at_296 rfl rfl ?_
            refine own_stat X420 300 (argsL := [(.int 1), (.int 2)]) (rest := [(.ref b376)]) at_297 (rm_min0 l Z a0 hw n0 h420 hWd [] X420.old (1 : Int32) (2 : Int32) (by decide) ) (ow hw 34 rfl) (ow hw 35 rfl) (ow hw 36 rfl) (ow hw 37 rfl) (by decide) (lenOf pd__28II_29I rfl) rfl rfl rfl (W := 1) rfl (by decide) (by decide) (by decide) (by decide) all0 rfl ?_
            intro T461 h461 v461 X461 K461 hQ461
            obtain rfl := hQ461
            show OGo _ _ _ _ T461 (mkF m 300 #[.val (.int pa), .val (.int pb), .val (.int pp), .val (.int u0), .val (.int u1), .val (.int u2), .val (.int 2), .val (.int 1), .val (.ref b376), .val (.ref b384), .val (.ref b404), .val (.int 1), .val (.int (pp &&& (3 : Int32))), .unset, .unset, .unset, .unset] [(.int 1), (.ref b376)])
            have f462 := f383.keep K384 nin0
            have f463 := f462.keep K387 nin0
            have f464 := f463.keep K389 (ninS (Nat.ne_of_lt (Nat.lt_of_lt_of_le (Nat.lt_of_lt_of_le U376 (Nat.le_trans (Nat.le_trans (Nat.le_trans K378.1 K380.1) K382.1) K384.1)) G387)) nin0)
            have f465 := f464.keep K391 (ninS (Nat.ne_of_lt (Nat.lt_of_lt_of_le (Nat.lt_of_lt_of_le U376 (Nat.le_trans (Nat.le_trans (Nat.le_trans K378.1 K380.1) K382.1) K384.1)) G387)) nin0)
            have f466 := f465.keep K402 (ninS (Nat.ne_of_lt (Nat.lt_of_lt_of_le (Nat.lt_of_lt_of_le U376 (Nat.le_trans (Nat.le_trans K378.1 K380.1) K382.1)) G384)) nin0)
            have f467 := f466.keep K404 nin0
            have f468 := f467.keep K408 nin0
            have f469 := f468.keep K413 (ninS (Nat.ne_of_lt (Nat.lt_of_lt_of_le (Nat.lt_of_lt_of_le U376 (Nat.le_trans (Nat.le_trans (Nat.le_trans (Nat.le_trans (Nat.le_trans (Nat.le_trans (Nat.le_trans K378.1 K380.1) K382.1) K384.1) K387.1) K389.1) K391.1) K402.1)) G404)) nin0)
            have f470 := f469.keep K420 (ninS (Nat.ne_of_lt (Nat.lt_of_lt_of_le (Nat.lt_of_lt_of_le U376 (Nat.le_trans (Nat.le_trans (Nat.le_trans (Nat.le_trans (Nat.le_trans (Nat.le_trans (Nat.le_trans K378.1 K380.1) K382.1) K384.1) K387.1) K389.1) K391.1) K402.1)) G404)) nin0)
            have f471 := f470.keep K461 nin0
            refine own_ldC X461 301 at_300 f471 (by decide) (by decide) rfl rfl ?_
            refine og_istore X461 303 #[.val (.int pa), .val (.int pb), .val (.int pp), .val (.int u0), .val (.int u1), .val (.int u2), .val (.int 2), .val (.int 1), .val (.ref b376), .val (.ref b384), .val (.ref b404), .val (.int 1), .val (.int (pp &&& (3 : Int32))), .val (.int u1), .unset, .unset, .unset] at_301 rfl rfl ?_
            refine og_goto X461 341 at_303 (by decide) (by decide) ?_
            exact J423 _ _ X461 K461 u1 trivial
          · -- not
            refine og_icmpY X420 306 at_289 (XT.ii_ne_t hc460) (by decide) (by decide) ?_
            refine og_iload X420 308 at_306 rfl rfl ?_
            refine og_iconst X420 309 (2 : Int32) at_308 rfl rfl ?_
            by_cases hc472 : (pp &&& (3 : Int32)) = (2 : Int32)
            · -- (pp &&& (3 : Int32)) = (2 : Int32)
              refine og_icmpN X420 312 at_309 (XT.ii_ne_f hc472) rfl ?_
              refine og_aload X420 314 at_312 rfl rfl rfl ?_
              refine og_iload X420 316 at_314 rfl rfl ?_
              refine og_iconst X420 317 (1 : Int32) at_316 rfl rfl ?_
              refine og_iadd X420 318 at_317 rfl ?_
              show OGo _ _ _ _ T420 (mkF m 318 #[.val (.int pa), .val (.int pb), .val (.int pp), .val (.int u0), .val (.int u1), .val (.int u2), .val (.int 2), .val (.int 1), .val (.ref b376), .val (.ref b384), .val (.ref b404), .val (.int 1), .val (.int (pp &&& (3 : Int32))), .unset, .unset, .unset, .unset] [(.int 2), (.ref b376)])
              refine og_iconst X420 319 (2 : Int32) at_318 rfl rfl ?_
              refine own_stat X420 322 (argsL := [(.int 2), (.int 2)]) (rest := [(.ref b376)]) at_319 (rm_min0 l Z a0 hw n0 h420 hWd [] X420.old (2 : Int32) (2 : Int32) (by decide) ) (ow hw 34 rfl) (ow hw 35 rfl) (ow hw 36 rfl) (ow hw 37 rfl) (by decide) (lenOf pd__28II_29I rfl) rfl rfl rfl (W := 1) rfl (by decide) (by decide) (by decide) (by decide) all0 rfl ?_
              intro T473 h473 v473 X473 K473 hQ473
              obtain rfl := hQ473
              show OGo _ _ _ _ T473 (mkF m 322 #[.val (.int pa), .val (.int pb), .val (.int pp), .val (.int u0), .val (.int u1), .val (.int u2), .val (.int 2), .val (.int 1), .val (.ref b376), .val (.ref b384), .val (.ref b404), .val (.int 1), .val (.int (pp &&& (3 : Int32))), .unset, .unset, .unset, .unset] [(.int 2), (.ref b376)])
              have f474 := f383.keep K384 nin0
              have f475 := f474.keep K387 nin0
              have f476 := f475.keep K389 (ninS (Nat.ne_of_lt (Nat.lt_of_lt_of_le (Nat.lt_of_lt_of_le U376 (Nat.le_trans (Nat.le_trans (Nat.le_trans K378.1 K380.1) K382.1) K384.1)) G387)) nin0)
              have f477 := f476.keep K391 (ninS (Nat.ne_of_lt (Nat.lt_of_lt_of_le (Nat.lt_of_lt_of_le U376 (Nat.le_trans (Nat.le_trans (Nat.le_trans K378.1 K380.1) K382.1) K384.1)) G387)) nin0)
              have f478 := f477.keep K402 (ninS (Nat.ne_of_lt (Nat.lt_of_lt_of_le (Nat.lt_of_lt_of_le U376 (Nat.le_trans (Nat.le_trans K378.1 K380.1) K382.1)) G384)) nin0)
              have f479 := f478.keep K404 nin0
              have f480 := f479.keep K408 nin0
              have f481 := f480.keep K413 (ninS (Nat.ne_of_lt (Nat.lt_of_lt_of_le (Nat.lt_of_lt_of_le U376 (Nat.le_trans (Nat.le_trans (Nat.le_trans (Nat.le_trans (Nat.le_trans (Nat.le_trans (Nat.le_trans K378.1 K380.1) K382.1) K384.1) K387.1) K389.1) K391.1) K402.1)) G404)) nin0)
              have f482 := f481.keep K420 (ninS (Nat.ne_of_lt (Nat.lt_of_lt_of_le (Nat.lt_of_lt_of_le U376 (Nat.le_trans (Nat.le_trans (Nat.le_trans (Nat.le_trans (Nat.le_trans (Nat.le_trans (Nat.le_trans K378.1 K380.1) K382.1) K384.1) K387.1) K389.1) K391.1) K402.1)) G404)) nin0)
              have f483 := f482.keep K473 nin0
              refine own_ldC X473 323 at_322 f483 (by decide) (by decide) rfl rfl ?_
              refine og_istore X473 325 #[.val (.int pa), .val (.int pb), .val (.int pp), .val (.int u0), .val (.int u1), .val (.int u2), .val (.int 2), .val (.int 1), .val (.ref b376), .val (.ref b384), .val (.ref b404), .val (.int 1), .val (.int (pp &&& (3 : Int32))), .val (.int u2), .unset, .unset, .unset] at_323 rfl rfl ?_
              refine og_goto X473 341 at_325 (by decide) (by decide) ?_
              exact J423 _ _ X473 K473 u2 trivial
            · -- not
              refine og_icmpY X420 328 at_309 (XT.ii_ne_t hc472) (by decide) (by decide) ?_
              refine og_aload X420 330 at_328 rfl rfl rfl ?_
              refine og_iload X420 332 at_330 rfl rfl ?_
              refine og_iconst X420 333 (1 : Int32) at_332 rfl rfl ?_
              refine og_isub X420 334 at_333 rfl ?_
              show OGo _ _ _ _ T420 (mkF m 334 #[.val (.int pa), .val (.int pb), .val (.int pp), .val (.int u0), .val (.int u1), .val (.int u2), .val (.int 2), .val (.int 1), .val (.ref b376), .val (.ref b384), .val (.ref b404), .val (.int 1), .val (.int (pp &&& (3 : Int32))), .unset, .unset, .unset, .unset] [(.int 0), (.ref b376)])
              refine og_iconst X420 335 (0 : Int32) at_334 rfl rfl ?_
              refine own_stat X420 338 (argsL := [(.int 0), (.int 0)]) (rest := [(.ref b376)]) at_335 (rm_max0 l Z a0 hw n0 h420 hWd [] X420.old (0 : Int32) (0 : Int32) (by decide) ) (ow hw 56 rfl) (ow hw 57 rfl) (ow hw 36 rfl) (ow hw 58 rfl) (by decide) (lenOf pd__28II_29I rfl) rfl rfl rfl (W := 1) rfl (by decide) (by decide) (by decide) (by decide) all0 rfl ?_
              intro T484 h484 v484 X484 K484 hQ484
              obtain rfl := hQ484
              show OGo _ _ _ _ T484 (mkF m 338 #[.val (.int pa), .val (.int pb), .val (.int pp), .val (.int u0), .val (.int u1), .val (.int u2), .val (.int 2), .val (.int 1), .val (.ref b376), .val (.ref b384), .val (.ref b404), .val (.int 1), .val (.int (pp &&& (3 : Int32))), .unset, .unset, .unset, .unset] [(.int 0), (.ref b376)])
              have f485 := f383.keep K384 nin0
              have f486 := f485.keep K387 nin0
              have f487 := f486.keep K389 (ninS (Nat.ne_of_lt (Nat.lt_of_lt_of_le (Nat.lt_of_lt_of_le U376 (Nat.le_trans (Nat.le_trans (Nat.le_trans K378.1 K380.1) K382.1) K384.1)) G387)) nin0)
              have f488 := f487.keep K391 (ninS (Nat.ne_of_lt (Nat.lt_of_lt_of_le (Nat.lt_of_lt_of_le U376 (Nat.le_trans (Nat.le_trans (Nat.le_trans K378.1 K380.1) K382.1) K384.1)) G387)) nin0)
              have f489 := f488.keep K402 (ninS (Nat.ne_of_lt (Nat.lt_of_lt_of_le (Nat.lt_of_lt_of_le U376 (Nat.le_trans (Nat.le_trans K378.1 K380.1) K382.1)) G384)) nin0)
              have f490 := f489.keep K404 nin0
              have f491 := f490.keep K408 nin0
              have f492 := f491.keep K413 (ninS (Nat.ne_of_lt (Nat.lt_of_lt_of_le (Nat.lt_of_lt_of_le U376 (Nat.le_trans (Nat.le_trans (Nat.le_trans (Nat.le_trans (Nat.le_trans (Nat.le_trans (Nat.le_trans K378.1 K380.1) K382.1) K384.1) K387.1) K389.1) K391.1) K402.1)) G404)) nin0)
              have f493 := f492.keep K420 (ninS (Nat.ne_of_lt (Nat.lt_of_lt_of_le (Nat.lt_of_lt_of_le U376 (Nat.le_trans (Nat.le_trans (Nat.le_trans (Nat.le_trans (Nat.le_trans (Nat.le_trans (Nat.le_trans K378.1 K380.1) K382.1) K384.1) K387.1) K389.1) K391.1) K402.1)) G404)) nin0)
              have f494 := f493.keep K484 nin0
              refine own_ldC X484 339 at_338 f494 (by decide) (by decide) rfl rfl ?_
              refine og_istore X484 341 #[.val (.int pa), .val (.int pb), .val (.int pp), .val (.int u0), .val (.int u1), .val (.int u2), .val (.int 2), .val (.int 1), .val (.ref b376), .val (.ref b384), .val (.ref b404), .val (.int 1), .val (.int (pp &&& (3 : Int32))), .val (.int u0), .unset, .unset, .unset] at_339 rfl rfl ?_
              exact J423 _ _ X484 K484 u0 trivial
    · -- 2
      rw [eQ]
      refine og_iconst X0 36 (3 : Int32) at_35 rfl rfl ?_
      refine own_arr X0 38 at_36 (ow hw 0 rfl) (by decide) (cap := 3) (by decide) (by decide) (by decide) (by decide) rfl ?_
      intro T495 h495 b495 kb495 X495 K495 G495 U495 A495
      have f496 : Arv Z h495 b495 kb495 .char (3 : Int32) [(.int 0), (.int 0), (.int 0)] (.int 0) := A495
      refine og_dup X495 39 at_38 rfl rfl ?_
      refine og_iconst X495 40 (0 : Int32) at_39 rfl rfl ?_
      refine og_iloadN X495 41 at_40 rfl rfl ?_
      refine own_stC X495 42 at_41 f496 (own_nch B_u0.1 B_u0.2) (by decide) (by decide) (i := 0) (by decide) (Nat.le_of_ble_eq_true rfl) (om 0 rfl) rfl ?_
      intro T497 h497 X497 W497 K497 A497
      have f498 : Arv Z h497 b495 kb495 .char (3 : Int32) [(.int u0), (.int 0), (.int 0)] (.int 0) := A497
      refine og_dup X497 43 at_42 rfl rfl ?_
      refine og_iconst X497 44 (1 : Int32) at_43 rfl rfl ?_
      refine og_iload X497 46 at_44 rfl rfl ?_
      refine own_stC X497 47 at_46 f498 (own_nch B_u1.1 B_u1.2) (by decide) (by decide) (i := 1) (by decide) (Nat.le_of_ble_eq_true rfl) (om 0 rfl) rfl ?_
      intro T499 h499 X499 W499 K499 A499
      have f500 : Arv Z h499 b495 kb495 .char (3 : Int32) [(.int u0), (.int u1), (.int 0)] (.int 0) := A499
      refine og_dup X499 48 at_47 rfl rfl ?_
      refine og_iconst X499 49 (2 : Int32) at_48 rfl rfl ?_
      refine og_iload X499 51 at_49 rfl rfl ?_
      refine own_stC X499 52 at_51 f500 (own_nch B_u2.1 B_u2.2) (by decide) (by decide) (i := 2) (by decide) (Nat.le_of_ble_eq_true rfl) (om 0 rfl) rfl ?_
      intro T501 h501 X501 W501 K501 A501
      have f502 : Arv Z h501 b495 kb495 .char (3 : Int32) [(.int u0), (.int u1), (.int u2)] (.int 0) := A501
      refine og_astore X501 54 #[.val (.int pa), .val (.int pb), .val (.int pp), .val (.int u0), .val (.int u1), .val (.int u2), .val (.int 2), .val (.int 2), .val (.ref b495), .unset, .unset, .unset, .unset, .unset, .unset, .unset, .unset] at_52 rfl rfl rfl ?_
      refine og_iload X501 56 at_54 rfl rfl ?_
      refine og_ifY X501 74 at_56 (XT.i0_ne_t (by decide)) (by decide) (by decide) ?_
      refine og_iload X501 76 at_74 rfl rfl ?_
      refine og_iconst X501 77 (1 : Int32) at_76 rfl rfl ?_
      refine og_icmpY X501 99 at_77 (XT.ii_ne_t (by decide)) (by decide) (by decide) ?_
      refine og_iload X501 101 at_99 rfl rfl ?_
      refine og_iconst X501 102 (2 : Int32) at_101 rfl rfl ?_
      refine og_icmpN X501 105 at_102 (XT.ii_ne_f (by decide)) rfl ?_
      refine own_new X501 108 at_105 (ow hw 1 rfl) (ow hw 2 rfl) (ow hw 3 rfl) (by decide) (by decide) rfl ?_
      intro T503 h503 b503 X503 K503 G503 U503 E503 D503
      have f504 : Fld Z h503 b503 "java/lang/String" "value" "[B" .null := D503 (Or.inr (ow hw 16 rfl)) (ty := (.array .byte)) (by decide)
      have f505 : Fld Z h503 b503 "java/lang/String" "coder" "B" (.int 0) := D503 (Or.inr (ow hw 17 rfl)) (ty := .byte) (by decide)
      refine og_dup X503 109 at_108 rfl rfl ?_
      refine og_iconst X503 110 (2 : Int32) at_109 rfl rfl ?_
      refine own_arr X503 112 at_110 (ow hw 0 rfl) (by decide) (cap := 2) (by decide) (by decide) (by decide) (by decide) rfl ?_
      intro T506 h506 b506 kb506 X506 K506 G506 U506 A506
      have f507 : Arv Z h506 b506 kb506 .char (2 : Int32) [(.int 0), (.int 0)] (.int 0) := A506
      refine og_dup X506 113 at_112 rfl rfl ?_
      refine og_iconst X506 114 (0 : Int32) at_113 rfl rfl ?_
      refine og_iloadN X506 115 at_114 rfl rfl ?_
      refine own_stC X506 116 at_115 f507 (own_nch B_u0.1 B_u0.2) (by decide) (by decide) (i := 0) (by decide) (Nat.le_of_ble_eq_true rfl) (om 0 rfl) rfl ?_
      intro T508 h508 X508 W508 K508 A508
      have f509 : Arv Z h508 b506 kb506 .char (2 : Int32) [(.int u0), (.int 0)] (.int 0) := A508
      refine og_dup X508 117 at_116 rfl rfl ?_
      refine og_iconst X508 118 (1 : Int32) at_117 rfl rfl ?_
      refine og_iload X508 120 at_118 rfl rfl ?_
      refine own_stC X508 121 at_120 f509 (own_nch B_u1.1 B_u1.2) (by decide) (by decide) (i := 1) (by decide) (Nat.le_of_ble_eq_true rfl) (om 0 rfl) rfl ?_
      intro T510 h510 X510 W510 K510 A510
      have f511 : Arv Z h510 b506 kb506 .char (2 : Int32) [(.int u0), (.int u1)] (.int 0) := A510
      have f512 := E503.keep K506
      have f513 := f512.keep K508
      have f514 := f513.keep K510
      have f515 := f504.keep K506 nin0
      have f516 := f515.keep K508 (ninS (Nat.ne_of_lt (Nat.lt_of_lt_of_le U503 G506)) nin0)
      have f517 := f516.keep K510 (ninS (Nat.ne_of_lt (Nat.lt_of_lt_of_le U503 G506)) nin0)
      have f518 := f505.keep K506 nin0
      have f519 := f518.keep K508 (ninS (Nat.ne_of_lt (Nat.lt_of_lt_of_le U503 G506)) nin0)
      have f520 := f519.keep K510 (ninS (Nat.ne_of_lt (Nat.lt_of_lt_of_le U503 G506)) nin0)
      refine own_spec X510 124 (a := b503) (argsL := [(.ref b506)]) (rest := [(.ref b503)]) at_121 rfl (ru_ini2 l Z a0 hw n0 h510 hWd [] X510.old b503 b506 .null (0 : Int32) kb506 (.int 0) u0 u1 f514 f517 f520 f511 B_u0.1 B_u0.2 B_u1.1 B_u1.2 (own_svb X510 (om 1 rfl))) (ow hw 4 rfl) (ow hw 5 rfl) (ow hw 3 rfl) (ow hw 6 rfl) (by decide) (lenOf pd__28_5bC_29V rfl) rfl rfl rfl (W := 1) rfl (by decide) (by decide) (by decide) (by decide) (allS (om 1 rfl) all0) rfl ?_
      intro T521 h521 v521 X521 K521 hQ521
      obtain ⟨rfl, f522⟩ := hQ521
      show OGo _ _ _ _ T521 (mkF m 124 #[.val (.int pa), .val (.int pb), .val (.int pp), .val (.int u0), .val (.int u1), .val (.int u2), .val (.int 2), .val (.int 2), .val (.ref b495), .unset, .unset, .unset, .unset, .unset, .unset, .unset, .unset] [(.ref b503)])
      refine og_astore X521 126 #[.val (.int pa), .val (.int pb), .val (.int pp), .val (.int u0), .val (.int u1), .val (.int u2), .val (.int 2), .val (.int 2), .val (.ref b495), .val (.ref b503), .unset, .unset, .unset, .unset, .unset, .unset, .unset] at_124 rfl rfl rfl ?_
      refine og_goto X521 155 at_126 (by decide) (by decide) ?_
      refine own_new X521 158 at_155 (ow hw 22 rfl) (ow hw 23 rfl) (ow hw 24 rfl) (by decide) (by decide) rfl ?_
      intro T523 h523 b523 X523 K523 G523 U523 E523 D523
      have f524 : Fld Z h523 b523 "com/example/bote/bote/fields/FieldCursor" "text" "Ljava/lang/String;" .null := D523 (Or.inr (ow hw 31 rfl)) (ty := (.object "java/lang/String")) (by decide)
      have f525 : Fld Z h523 b523 "com/example/bote/bote/fields/FieldCursor" "shape" "Ljava/lang/String;" .null := D523 (Or.inr (ow hw 33 rfl)) (ty := (.object "java/lang/String")) (by decide)
      have f526 : Fld Z h523 b523 "com/example/bote/bote/fields/FieldCursor" "at" "I" (.int 0) := D523 (Or.inl (ow hw 44 rfl)) (ty := .int) (by decide)
      refine og_dup X523 159 at_158 rfl rfl ?_
      refine og_aload X523 161 at_159 rfl rfl rfl ?_
      refine own_ldcO X523 163 (cap := 20) at_161 own_ELne (ow hw 25 rfl) (own_wS hw) (by decide) (by decide) (by decide) (by decide) rfl ?_
      intro T527 h527 a527 X527 K527
      have f528 := E523.keep K527
      have f529 := f524.keep K527 nin0
      have f530 := f525.keep K527 nin0
      have f531 := f526.keep K527 nin0
      refine own_spec X527 166 (a := b523) (argsL := [(.ref b503), (.ref a527)]) (rest := [(.ref b523)]) at_163 rfl (rm4 l Z a0 hw n0 h527 hWd [] X527.old b523 b503 a527 f528 f529 f530 f531 (own_svb X527 (om 0 rfl))) (ow hw 26 rfl) (ow hw 27 rfl) (ow hw 24 rfl) (ow hw 28 rfl) (by decide) (lenOf pd__28Ljava_2flang_2fString_3bLjava_2flang_2fString_3b_29V rfl) rfl rfl rfl (W := 1) rfl (by decide) (by decide) (by decide) (by decide) (allS (om 0 rfl) all0) rfl ?_
      intro T532 h532 v532 X532 K532 hQ532
      obtain ⟨rfl, f533, f534⟩ := hQ532
      show OGo _ _ _ _ T532 (mkF m 166 #[.val (.int pa), .val (.int pb), .val (.int pp), .val (.int u0), .val (.int u1), .val (.int u2), .val (.int 2), .val (.int 2), .val (.ref b495), .val (.ref b503), .unset, .unset, .unset, .unset, .unset, .unset, .unset] [(.ref b523)])
      refine og_astore X532 168 #[.val (.int pa), .val (.int pb), .val (.int pp), .val (.int u0), .val (.int u1), .val (.int u2), .val (.int 2), .val (.int 2), .val (.ref b495), .val (.ref b503), .val (.ref b523), .unset, .unset, .unset, .unset, .unset, .unset] at_166 rfl rfl rfl ?_
      refine og_iconst X532 169 (1 : Int32) at_168 rfl rfl ?_
      refine og_istore X532 171 #[.val (.int pa), .val (.int pb), .val (.int pp), .val (.int u0), .val (.int u1), .val (.int u2), .val (.int 2), .val (.int 2), .val (.ref b495), .val (.ref b503), .val (.ref b523), .val (.int 1), .unset, .unset, .unset, .unset, .unset] at_169 rfl rfl ?_
      refine og_iload X532 173 at_171 rfl rfl ?_
      refine og_iconst X532 174 (1 : Int32) at_173 rfl rfl ?_
      refine og_icmpN X532 177 at_174 (XT.ii_lt_f (by decide)) rfl ?_
      refine og_aload X532 179 at_177 rfl rfl rfl ?_
      refine og_iloadN X532 180 at_179 rfl rfl ?_
      have f535 := f528.keep K532
      have f536 := f522.keep K523 all0
      have f537 := f536.keep K527 all0
      have f538 := f537.keep K532 (allS (Or.inl (Nat.le_trans (Nat.le_refl _) G523)) all0)
      refine own_virt X532 183 (a := b523) (argsL := [(.int u0)]) (rest := []) at_180 f535 (fun _ hZ => notFace_of_selects (args := #[]) (mvT hZ (ow hw 91 rfl))) (rm_tk2_0 l Z a0 hw n0 h532 hWd [] X532.old b523 b503 u0 u1 f535 f533 f534 f538.top (own_svb X532 (om 0 rfl))) (ow hw 88 rfl) (ow hw 89 rfl) (ow hw 91 rfl) (ow hw 90 rfl) (ow hw 24 rfl) (ow hw 92 rfl) (by decide) (lenOf pd__28C_29Z rfl) rfl rfl rfl (W := 0) rfl (by decide) (by decide) (by decide) (by decide) (allS (om 0 rfl) all0) rfl ?_
      intro T539 h539 v539 X539 K539 hQ539
      obtain ⟨rfl, f540, f541⟩ := hQ539
      show OGo _ _ _ _ T539 (mkF m 183 #[.val (.int pa), .val (.int pb), .val (.int pp), .val (.int u0), .val (.int u1), .val (.int u2), .val (.int 2), .val (.int 2), .val (.ref b495), .val (.ref b503), .val (.ref b523), .val (.int 1), .unset, .unset, .unset, .unset, .unset] [(.int 1)])
      refine og_istore X539 185 #[.val (.int pa), .val (.int pb), .val (.int pp), .val (.int u0), .val (.int u1), .val (.int u2), .val (.int 2), .val (.int 2), .val (.ref b495), .val (.ref b503), .val (.ref b523), .val (.int 1), .val (.int 1), .unset, .unset, .unset, .unset] at_183 rfl rfl ?_
      refine og_iload X539 187 at_185 rfl rfl ?_
      refine og_ifN X539 190 at_187 (XT.i0_eq_f (by decide)) rfl ?_
      refine og_iload X539 192 at_190 rfl rfl ?_
      refine og_ifN X539 195 at_192 (XT.i0_eq_f (by decide)) rfl ?_
      refine og_iconst X539 196 (1 : Int32) at_195 rfl rfl ?_
      refine og_goto X539 200 at_196 (by decide) (by decide) ?_
      refine og_istore X539 202 #[.val (.int pa), .val (.int pb), .val (.int pp), .val (.int u0), .val (.int u1), .val (.int u2), .val (.int 2), .val (.int 2), .val (.ref b495), .val (.ref b503), .val (.ref b523), .val (.int 1), .val (.int 1), .unset, .unset, .unset, .unset] at_200 rfl rfl ?_
      refine og_iload X539 204 at_202 rfl rfl ?_
      refine og_iconst X539 205 (2 : Int32) at_204 rfl rfl ?_
      refine og_icmpN X539 208 at_205 (XT.ii_lt_f (by decide)) rfl ?_
      refine og_aload X539 210 at_208 rfl rfl rfl ?_
      refine og_iload X539 212 at_210 rfl rfl ?_
      have f542 := f535.keep K539
      have f543 := f538.keep K539 (allS (Or.inl (Nat.le_trans (Nat.le_refl _) G523)) all0)
      refine own_virt X539 215 (a := b523) (argsL := [(.int u1)]) (rest := []) at_212 f542 (fun _ hZ => notFace_of_selects (args := #[]) (mvT hZ (ow hw 91 rfl))) (rm_tk2_1 l Z a0 hw n0 h539 hWd [] X539.old b523 b503 u0 u1 f542 f540 f541 f543.top (own_svb X539 (om 0 rfl))) (ow hw 88 rfl) (ow hw 89 rfl) (ow hw 91 rfl) (ow hw 90 rfl) (ow hw 24 rfl) (ow hw 92 rfl) (by decide) (lenOf pd__28C_29Z rfl) rfl rfl rfl (W := 0) rfl (by decide) (by decide) (by decide) (by decide) (allS (om 0 rfl) all0) rfl ?_
      intro T544 h544 v544 X544 K544 hQ544
      obtain ⟨rfl, f545, f546⟩ := hQ544
      show OGo _ _ _ _ T544 (mkF m 215 #[.val (.int pa), .val (.int pb), .val (.int pp), .val (.int u0), .val (.int u1), .val (.int u2), .val (.int 2), .val (.int 2), .val (.ref b495), .val (.ref b503), .val (.ref b523), .val (.int 1), .val (.int 1), .unset, .unset, .unset, .unset] [(.int 1)])
      refine og_istore X544 217 #[.val (.int pa), .val (.int pb), .val (.int pp), .val (.int u0), .val (.int u1), .val (.int u2), .val (.int 2), .val (.int 2), .val (.ref b495), .val (.ref b503), .val (.ref b523), .val (.int 1), .val (.int 1), .unset, .unset, .unset, .unset] at_215 rfl rfl ?_
      refine og_iload X544 219 at_217 rfl rfl ?_
      refine og_ifN X544 222 at_219 (XT.i0_eq_f (by decide)) rfl ?_
      refine og_iload X544 224 at_222 rfl rfl ?_
      refine og_ifN X544 227 at_224 (XT.i0_eq_f (by decide)) rfl ?_
      refine og_iconst X544 228 (1 : Int32) at_227 rfl rfl ?_
      refine og_goto X544 232 at_228 (by decide) (by decide) ?_
      refine og_istore X544 234 #[.val (.int pa), .val (.int pb), .val (.int pp), .val (.int u0), .val (.int u1), .val (.int u2), .val (.int 2), .val (.int 2), .val (.ref b495), .val (.ref b503), .val (.ref b523), .val (.int 1), .val (.int 1), .unset, .unset, .unset, .unset] at_232 rfl rfl ?_
      refine og_iload X544 236 at_234 rfl rfl ?_
      refine og_iconst X544 237 (3 : Int32) at_236 rfl rfl ?_
      refine og_icmpY X544 266 at_237 (XT.ii_lt_t (by decide)) (by decide) (by decide) ?_
      refine og_iloadN X544 267 at_266 rfl rfl ?_
      refine og_iconst X544 268 (3 : Int32) at_267 rfl rfl ?_
      refine og_iand X544 269 at_268 rfl ?_
      refine og_istore X544 271 #[.val (.int pa), .val (.int pb), .val (.int pp), .val (.int u0), .val (.int u1), .val (.int u2), .val (.int 2), .val (.int 2), .val (.ref b495), .val (.ref b503), .val (.ref b523), .val (.int 1), .val (.int (pp &&& (3 : Int32))), .unset, .unset, .unset, .unset] at_269 rfl rfl ?_
      refine own_cut X544 341 (fun (w : Int32) => #[.val (.int pa), .val (.int pb), .val (.int pp), .val (.int u0), .val (.int u1), .val (.int u2), .val (.int 2), .val (.int 2), .val (.ref b495), .val (.ref b503), .val (.ref b523), .val (.int 1), .val (.int (pp &&& (3 : Int32))), .val (.int w), .unset, .unset, .unset]) (fun _ => []) (fun w => True) ?_ ?_
      · -- the common way on
        intro T547 h547 X547 K547 w ok547
        show OGo _ _ _ _ T547 (mkF m 341 #[.val (.int pa), .val (.int pb), .val (.int pp), .val (.int u0), .val (.int u1), .val (.int u2), .val (.int 2), .val (.int 2), .val (.ref b495), .val (.ref b503), .val (.ref b523), .val (.int 1), .val (.int (pp &&& (3 : Int32))), .val (.int w), .unset, .unset, .unset] [])
        refine og_iload X547 343 at_341 rfl rfl ?_
        refine og_iload X547 345 at_343 rfl rfl ?_
        refine og_icmpY X547 362 at_345 (XT.ii_ge_t (by decide)) (by decide) (by decide) ?_
        refine og_iconst X547 363 (0 : Int32) at_362 rfl rfl ?_
        refine og_istore X547 365 #[.val (.int pa), .val (.int pb), .val (.int pp), .val (.int u0), .val (.int u1), .val (.int u2), .val (.int 2), .val (.int 2), .val (.ref b495), .val (.ref b503), .val (.ref b523), .val (.int 1), .val (.int (pp &&& (3 : Int32))), .val (.int w), .val (.int 0), .unset, .unset] at_363 rfl rfl ?_
        refine og_aload X547 367 at_365 rfl rfl rfl ?_
        refine og_iload X547 369 at_367 rfl rfl ?_
        have f548 := f542.keep K544
        have f549 := f548.keep K547
        have f550 := f545.keep K547 nin0
        have f551 := f546.keep K547 nin0
        have f552 := f543.keep K544 (allS (Or.inl (Nat.le_trans (Nat.le_refl _) G523)) all0)
        have f553 := f552.keep K547 all0
        refine own_virt X547 372 (a := b523) (argsL := [(.int w)]) (rest := []) at_369 f549 (fun _ hZ => notFace_of_selects (args := #[]) (mvT hZ (ow hw 41 rfl))) (rm_nx2_2 l Z a0 hw n0 h547 hWd [] X547.old b523 b503 u0 u1 w f550 f551 f553.top ) (ow hw 38 rfl) (ow hw 39 rfl) (ow hw 41 rfl) (ow hw 40 rfl) (ow hw 24 rfl) (ow hw 42 rfl) (by decide) (lenOf pd__28C_29Z rfl) rfl rfl rfl (W := 0) rfl (by decide) (by decide) (by decide) (by decide) all0 rfl ?_
        intro T554 h554 v554 X554 K554 hQ554
        obtain rfl := hQ554
        show OGo _ _ _ _ T554 (mkF m 372 #[.val (.int pa), .val (.int pb), .val (.int pp), .val (.int u0), .val (.int u1), .val (.int u2), .val (.int 2), .val (.int 2), .val (.ref b495), .val (.ref b503), .val (.ref b523), .val (.int 1), .val (.int (pp &&& (3 : Int32))), .val (.int w), .val (.int 0), .unset, .unset] [(.int 0)])
        refine og_istore X554 374 #[.val (.int pa), .val (.int pb), .val (.int pp), .val (.int u0), .val (.int u1), .val (.int u2), .val (.int 2), .val (.int 2), .val (.ref b495), .val (.ref b503), .val (.ref b523), .val (.int 1), .val (.int (pp &&& (3 : Int32))), .val (.int w), .val (.int 0), .val (.int 0), .unset] at_372 rfl rfl ?_
        refine og_aload X554 376 at_374 rfl rfl rfl ?_
        refine og_iload X554 378 at_376 rfl rfl ?_
        have f555 := f549.keep K554
        have f556 := f550.keep K554 nin0
        have f557 := f551.keep K554 nin0
        have f558 := f553.keep K554 all0
        refine own_virt X554 381 (a := b523) (argsL := [(.int w)]) (rest := []) at_378 f555 (fun _ hZ => notFace_of_selects (args := #[]) (mvT hZ (ow hw 41 rfl))) (rm_nx2_2 l Z a0 hw n0 h554 hWd [] X554.old b523 b503 u0 u1 w f556 f557 f558.top ) (ow hw 38 rfl) (ow hw 39 rfl) (ow hw 41 rfl) (ow hw 40 rfl) (ow hw 24 rfl) (ow hw 42 rfl) (by decide) (lenOf pd__28C_29Z rfl) rfl rfl rfl (W := 0) rfl (by decide) (by decide) (by decide) (by decide) all0 rfl ?_
        intro T559 h559 v559 X559 K559 hQ559
        obtain rfl := hQ559
        show OGo _ _ _ _ T559 (mkF m 381 #[.val (.int pa), .val (.int pb), .val (.int pp), .val (.int u0), .val (.int u1), .val (.int u2), .val (.int 2), .val (.int 2), .val (.ref b495), .val (.ref b503), .val (.ref b523), .val (.int 1), .val (.int (pp &&& (3 : Int32))), .val (.int w), .val (.int 0), .val (.int 0), .unset] [(.int 0)])
        refine og_istore X559 383 #[.val (.int pa), .val (.int pb), .val (.int pp), .val (.int u0), .val (.int u1), .val (.int u2), .val (.int 2), .val (.int 2), .val (.ref b495), .val (.ref b503), .val (.ref b523), .val (.int 1), .val (.int (pp &&& (3 : Int32))), .val (.int w), .val (.int 0), .val (.int 0), .val (.int 0)] at_381 rfl rfl ?_
        refine og_iload X559 385 at_383 rfl rfl ?_
        refine og_ifN X559 388 at_385 (XT.i0_eq_f (by decide)) rfl ?_
        refine og_iload X559 390 at_388 rfl rfl ?_
        refine og_iload X559 392 at_390 rfl rfl ?_
        refine og_icmpN X559 395 at_392 (XT.ii_ne_f (by decide)) rfl ?_
        refine og_iload X559 397 at_395 rfl rfl ?_
        refine og_iload X559 399 at_397 rfl rfl ?_
        refine og_icmpN X559 402 at_399 (XT.ii_ne_f (by decide)) rfl ?_
        refine og_iconst X559 403 (1 : Int32) at_402 rfl rfl ?_
        refine og_goto X559 407 at_403 (by decide) (by decide) ?_
        refine own_retZ X559 at_407 hret rfl (by decide) (by decide) ?_
        exact rfl
      · -- the ways to it
        intro J547
        refine og_iload X544 273 at_271 rfl rfl ?_
        by_cases hc560 : (pp &&& (3 : Int32)) = 0
        · -- (pp &&& (3 : Int32)) = 0
          refine og_ifN X544 276 at_273 (XT.i0_ne_f hc560) rfl ?_
          refine og_iloadN X544 277 at_276 rfl rfl ?_
          refine og_bipush X544 279 (16 : Int32) at_277 rfl rfl ?_
          refine og_iushr X544 280 at_279 rfl ?_
          refine og_i2c X544 281 at_280 rfl ?_
          refine og_istore X544 283 #[.val (.int pa), .val (.int pb), .val (.int pp), .val (.int u0), .val (.int u1), .val (.int u2), .val (.int 2), .val (.int 2), .val (.ref b495), .val (.ref b503), .val (.ref b523), .val (.int 1), .val (.int (pp &&& (3 : Int32))), .val (.int (((XT.ushr pp (16 : Int32))).toUInt32.toUInt16.toUInt32.toInt32)), .unset, .unset, .unset] at_281 rfl rfl ?_
          refine og_goto X544 341 at_283 (by decide) (by decide) ?_
          exact J547 _ _ X544 (Keep.refl _ _) (((XT.ushr pp (16 : Int32))).toUInt32.toUInt16.toUInt32.toInt32) trivial
        · -- not
          refine og_ifY X544 286 at_273 (XT.i0_ne_t hc560) (by decide) (by decide) ?_
          refine og_iload X544 288 at_286 rfl rfl ?_
          refine og_iconst X544 289 (1 : Int32) at_288 rfl rfl ?_
          by_cases hc561 : (pp &&& (3 : Int32)) = (1 : Int32)
          · -- (pp &&& (3 : Int32)) = (1 : Int32)
            refine og_icmpN X544 292 at_289 (XT.ii_ne_f hc561) rfl ?_
            refine og_aload X544 294 at_292 rfl rfl rfl ?_
            refine og_iload X544 296 at_294 rfl rfl ?_
            refine og_iconst X544 297 (2 : Int32) at_296 rfl rfl ?_
            refine own_stat X544 300 (argsL := [(.int 2), (.int 2)]) (rest := [(.ref b495)]) at_297 (rm_min0 l Z a0 hw n0 h544 hWd [] X544.old (2 : Int32) (2 : Int32) (by decide) ) (ow hw 34 rfl) (ow hw 35 rfl) (ow hw 36 rfl) (ow hw 37 rfl) (by decide) (lenOf pd__28II_29I rfl) rfl rfl rfl (W := 1) rfl (by decide) (by decide) (by decide) (by decide) all0 rfl ?_
            intro T562 h562 v562 X562 K562 hQ562
            obtain rfl := hQ562
            show OGo _ _ _ _ T562 (mkF m 300 #[.val (.int pa), .val (.int pb), .val (.int pp), .val (.int u0), .val (.int u1), .val (.int u2), .val (.int 2), .val (.int 2), .val (.ref b495), .val (.ref b503), .val (.ref b523), .val (.int 1), .val (.int (pp &&& (3 : Int32))), .unset, .unset, .unset, .unset] [(.int 2), (.ref b495)])
            have f563 := f502.keep K503 nin0
            have f564 := f563.keep K506 nin0
            have f565 := f564.keep K508 (ninS (Nat.ne_of_lt (Nat.lt_of_lt_of_le (Nat.lt_of_lt_of_le U495 (Nat.le_trans (Nat.le_trans (Nat.le_trans K497.1 K499.1) K501.1) K503.1)) G506)) nin0)
            have f566 := f565.keep K510 (ninS (Nat.ne_of_lt (Nat.lt_of_lt_of_le (Nat.lt_of_lt_of_le U495 (Nat.le_trans (Nat.le_trans (Nat.le_trans K497.1 K499.1) K501.1) K503.1)) G506)) nin0)
            have f567 := f566.keep K521 (ninS (Nat.ne_of_lt (Nat.lt_of_lt_of_le (Nat.lt_of_lt_of_le U495 (Nat.le_trans (Nat.le_trans K497.1 K499.1) K501.1)) G503)) nin0)
            have f568 := f567.keep K523 nin0
            have f569 := f568.keep K527 nin0
            have f570 := f569.keep K532 (ninS (Nat.ne_of_lt (Nat.lt_of_lt_of_le (Nat.lt_of_lt_of_le U495 (Nat.le_trans (Nat.le_trans (Nat.le_trans (Nat.le_trans (Nat.le_trans (Nat.le_trans (Nat.le_trans K497.1 K499.1) K501.1) K503.1) K506.1) K508.1) K510.1) K521.1)) G523)) nin0)
            have f571 := f570.keep K539 (ninS (Nat.ne_of_lt (Nat.lt_of_lt_of_le (Nat.lt_of_lt_of_le U495 (Nat.le_trans (Nat.le_trans (Nat.le_trans (Nat.le_trans (Nat.le_trans (Nat.le_trans (Nat.le_trans K497.1 K499.1) K501.1) K503.1) K506.1) K508.1) K510.1) K521.1)) G523)) nin0)
            have f572 := f571.keep K544 (ninS (Nat.ne_of_lt (Nat.lt_of_lt_of_le (Nat.lt_of_lt_of_le U495 (Nat.le_trans (Nat.le_trans (Nat.le_trans (Nat.le_trans (Nat.le_trans (Nat.le_trans (Nat.le_trans K497.1 K499.1) K501.1) K503.1) K506.1) K508.1) K510.1) K521.1)) G523)) nin0)
            have f573 := f572.keep K562 nin0
            refine own_ldC X562 301 at_300 f573 (by decide) (by decide) rfl rfl ?_
            refine og_istore X562 303 #[.val (.int pa), .val (.int pb), .val (.int pp), .val (.int u0), .val (.int u1), .val (.int u2), .val (.int 2), .val (.int 2), .val (.ref b495), .val (.ref b503), .val (.ref b523), .val (.int 1), .val (.int (pp &&& (3 : Int32))), .val (.int u2), .unset, .unset, .unset] at_301 rfl rfl ?_
            refine og_goto X562 341 at_303 (by decide) (by decide) ?_
            exact J547 _ _ X562 K562 u2 trivial
          · -- not
            refine og_icmpY X544 306 at_289 (XT.ii_ne_t hc561) (by decide) (by decide) ?_
            refine og_iload X544 308 at_306 rfl rfl ?_
            refine og_iconst X544 309 (2 : Int32) at_308 rfl rfl ?_
            by_cases hc574 : (pp &&& (3 : Int32)) = (2 : Int32)
            · -- (pp &&& (3 : Int32)) = (2 : Int32)
              refine og_icmpN X544 312 at_309 (XT.ii_ne_f hc574) rfl ?_
              refine og_aload X544 314 at_312 rfl rfl rfl ?_
              refine og_iload X544 316 at_314 rfl rfl ?_
              refine og_iconst X544 317 (1 : Int32) at_316 rfl rfl ?_
              refine og_iadd X544 318 at_317 rfl ?_
              show OGo _ _ _ _ T544 (mkF m 318 #[.val (.int pa), .val (.int pb), .val (.int pp), .val (.int u0), .val (.int u1), .val (.int u2), .val (.int 2), .val (.int 2), .val (.ref b495), .val (.ref b503), .val (.ref b523), .val (.int 1), .val (.int (pp &&& (3 : Int32))), .unset, .unset, .unset, .unset] [(.int 3), (.ref b495)])
              refine og_iconst X544 319 (2 : Int32) at_318 rfl rfl ?_
              refine own_stat X544 322 (argsL := [(.int 3), (.int 2)]) (rest := [(.ref b495)]) at_319 (rm_min1 l Z a0 hw n0 h544 hWd [] X544.old (3 : Int32) (2 : Int32) (by decide) ) (ow hw 34 rfl) (ow hw 35 rfl) (ow hw 36 rfl) (ow hw 37 rfl) (by decide) (lenOf pd__28II_29I rfl) rfl rfl rfl (W := 1) rfl (by decide) (by decide) (by decide) (by decide) all0 rfl ?_
              intro T575 h575 v575 X575 K575 hQ575
              obtain rfl := hQ575
              show OGo _ _ _ _ T575 (mkF m 322 #[.val (.int pa), .val (.int pb), .val (.int pp), .val (.int u0), .val (.int u1), .val (.int u2), .val (.int 2), .val (.int 2), .val (.ref b495), .val (.ref b503), .val (.ref b523), .val (.int 1), .val (.int (pp &&& (3 : Int32))), .unset, .unset, .unset, .unset] [(.int 2), (.ref b495)])
              have f576 := f502.keep K503 nin0
              have f577 := f576.keep K506 nin0
              have f578 := f577.keep K508 (ninS (Nat.ne_of_lt (Nat.lt_of_lt_of_le (Nat.lt_of_lt_of_le U495 (Nat.le_trans (Nat.le_trans (Nat.le_trans K497.1 K499.1) K501.1) K503.1)) G506)) nin0)
              have f579 := f578.keep K510 (ninS (Nat.ne_of_lt (Nat.lt_of_lt_of_le (Nat.lt_of_lt_of_le U495 (Nat.le_trans (Nat.le_trans (Nat.le_trans K497.1 K499.1) K501.1) K503.1)) G506)) nin0)
              have f580 := f579.keep K521 (ninS (Nat.ne_of_lt (Nat.lt_of_lt_of_le (Nat.lt_of_lt_of_le U495 (Nat.le_trans (Nat.le_trans K497.1 K499.1) K501.1)) G503)) nin0)
              have f581 := f580.keep K523 nin0
              have f582 := f581.keep K527 nin0
              have f583 := f582.keep K532 (ninS (Nat.ne_of_lt (Nat.lt_of_lt_of_le (Nat.lt_of_lt_of_le U495 (Nat.le_trans (Nat.le_trans (Nat.le_trans (Nat.le_trans (Nat.le_trans (Nat.le_trans (Nat.le_trans K497.1 K499.1) K501.1) K503.1) K506.1) K508.1) K510.1) K521.1)) G523)) nin0)
              have f584 := f583.keep K539 (ninS (Nat.ne_of_lt (Nat.lt_of_lt_of_le (Nat.lt_of_lt_of_le U495 (Nat.le_trans (Nat.le_trans (Nat.le_trans (Nat.le_trans (Nat.le_trans (Nat.le_trans (Nat.le_trans K497.1 K499.1) K501.1) K503.1) K506.1) K508.1) K510.1) K521.1)) G523)) nin0)
              have f585 := f584.keep K544 (ninS (Nat.ne_of_lt (Nat.lt_of_lt_of_le (Nat.lt_of_lt_of_le U495 (Nat.le_trans (Nat.le_trans (Nat.le_trans (Nat.le_trans (Nat.le_trans (Nat.le_trans (Nat.le_trans K497.1 K499.1) K501.1) K503.1) K506.1) K508.1) K510.1) K521.1)) G523)) nin0)
              have f586 := f585.keep K575 nin0
              refine own_ldC X575 323 at_322 f586 (by decide) (by decide) rfl rfl ?_
              refine og_istore X575 325 #[.val (.int pa), .val (.int pb), .val (.int pp), .val (.int u0), .val (.int u1), .val (.int u2), .val (.int 2), .val (.int 2), .val (.ref b495), .val (.ref b503), .val (.ref b523), .val (.int 1), .val (.int (pp &&& (3 : Int32))), .val (.int u2), .unset, .unset, .unset] at_323 rfl rfl ?_
              refine og_goto X575 341 at_325 (by decide) (by decide) ?_
              exact J547 _ _ X575 K575 u2 trivial
            · -- not
              refine og_icmpY X544 328 at_309 (XT.ii_ne_t hc574) (by decide) (by decide) ?_
              refine og_aload X544 330 at_328 rfl rfl rfl ?_
              refine og_iload X544 332 at_330 rfl rfl ?_
              refine og_iconst X544 333 (1 : Int32) at_332 rfl rfl ?_
              refine og_isub X544 334 at_333 rfl ?_
              show OGo _ _ _ _ T544 (mkF m 334 #[.val (.int pa), .val (.int pb), .val (.int pp), .val (.int u0), .val (.int u1), .val (.int u2), .val (.int 2), .val (.int 2), .val (.ref b495), .val (.ref b503), .val (.ref b523), .val (.int 1), .val (.int (pp &&& (3 : Int32))), .unset, .unset, .unset, .unset] [(.int 1), (.ref b495)])
              refine og_iconst X544 335 (0 : Int32) at_334 rfl rfl ?_
              refine own_stat X544 338 (argsL := [(.int 1), (.int 0)]) (rest := [(.ref b495)]) at_335 (rm_max0 l Z a0 hw n0 h544 hWd [] X544.old (1 : Int32) (0 : Int32) (by decide) ) (ow hw 56 rfl) (ow hw 57 rfl) (ow hw 36 rfl) (ow hw 58 rfl) (by decide) (lenOf pd__28II_29I rfl) rfl rfl rfl (W := 1) rfl (by decide) (by decide) (by decide) (by decide) all0 rfl ?_
              intro T587 h587 v587 X587 K587 hQ587
              obtain rfl := hQ587
              show OGo _ _ _ _ T587 (mkF m 338 #[.val (.int pa), .val (.int pb), .val (.int pp), .val (.int u0), .val (.int u1), .val (.int u2), .val (.int 2), .val (.int 2), .val (.ref b495), .val (.ref b503), .val (.ref b523), .val (.int 1), .val (.int (pp &&& (3 : Int32))), .unset, .unset, .unset, .unset] [(.int 1), (.ref b495)])
              have f588 := f502.keep K503 nin0
              have f589 := f588.keep K506 nin0
              have f590 := f589.keep K508 (ninS (Nat.ne_of_lt (Nat.lt_of_lt_of_le (Nat.lt_of_lt_of_le U495 (Nat.le_trans (Nat.le_trans (Nat.le_trans K497.1 K499.1) K501.1) K503.1)) G506)) nin0)
              have f591 := f590.keep K510 (ninS (Nat.ne_of_lt (Nat.lt_of_lt_of_le (Nat.lt_of_lt_of_le U495 (Nat.le_trans (Nat.le_trans (Nat.le_trans K497.1 K499.1) K501.1) K503.1)) G506)) nin0)
              have f592 := f591.keep K521 (ninS (Nat.ne_of_lt (Nat.lt_of_lt_of_le (Nat.lt_of_lt_of_le U495 (Nat.le_trans (Nat.le_trans K497.1 K499.1) K501.1)) G503)) nin0)
              have f593 := f592.keep K523 nin0
              have f594 := f593.keep K527 nin0
              have f595 := f594.keep K532 (ninS (Nat.ne_of_lt (Nat.lt_of_lt_of_le (Nat.lt_of_lt_of_le U495 (Nat.le_trans (Nat.le_trans (Nat.le_trans (Nat.le_trans (Nat.le_trans (Nat.le_trans (Nat.le_trans K497.1 K499.1) K501.1) K503.1) K506.1) K508.1) K510.1) K521.1)) G523)) nin0)
              have f596 := f595.keep K539 (ninS (Nat.ne_of_lt (Nat.lt_of_lt_of_le (Nat.lt_of_lt_of_le U495 (Nat.le_trans (Nat.le_trans (Nat.le_trans (Nat.le_trans (Nat.le_trans (Nat.le_trans (Nat.le_trans K497.1 K499.1) K501.1) K503.1) K506.1) K508.1) K510.1) K521.1)) G523)) nin0)
              have f597 := f596.keep K544 (ninS (Nat.ne_of_lt (Nat.lt_of_lt_of_le (Nat.lt_of_lt_of_le U495 (Nat.le_trans (Nat.le_trans (Nat.le_trans (Nat.le_trans (Nat.le_trans (Nat.le_trans (Nat.le_trans K497.1 K499.1) K501.1) K503.1) K506.1) K508.1) K510.1) K521.1)) G523)) nin0)
              have f598 := f597.keep K587 nin0
              refine own_ldC X587 339 at_338 f598 (by decide) (by decide) rfl rfl ?_
              refine og_istore X587 341 #[.val (.int pa), .val (.int pb), .val (.int pp), .val (.int u0), .val (.int u1), .val (.int u2), .val (.int 2), .val (.int 2), .val (.ref b495), .val (.ref b503), .val (.ref b523), .val (.int 1), .val (.int (pp &&& (3 : Int32))), .val (.int u1), .unset, .unset, .unset] at_339 rfl rfl ?_
              exact J547 _ _ X587 K587 u1 trivial
  · -- 3
    rw [eQ]
    refine og_iloadN X0 23 at_22 rfl rfl ?_
    refine og_bipush X0 25 (18 : Int32) at_23 rfl rfl ?_
    refine og_iushr X0 26 at_25 rfl ?_
    refine og_iconst X0 27 (3 : Int32) at_26 rfl rfl ?_
    refine og_iand X0 28 at_27 rfl ?_
    refine og_iload X0 30 at_28 rfl rfl ?_
    refine og_iconst X0 31 (1 : Int32) at_30 rfl rfl ?_
    refine og_iadd X0 32 at_31 rfl ?_
    show OGo _ _ _ _ T0 (mkF m 32 #[.val (.int pa), .val (.int pb), .val (.int pp), .val (.int u0), .val (.int u1), .val (.int u2), .val (.int 3), .unset, .unset, .unset, .unset, .unset, .unset, .unset, .unset, .unset, .unset] [(.int 4), (.int ((XT.ushr pb (18 : Int32)) &&& (3 : Int32)))])
    refine og_irem X0 33 at_32 (by decide) rfl ?_
    refine og_istore X0 35 #[.val (.int pa), .val (.int pb), .val (.int pp), .val (.int u0), .val (.int u1), .val (.int u2), .val (.int 3), .val (.int (((XT.ushr pb (18 : Int32)) &&& (3 : Int32)) % (4 : Int32))), .unset, .unset, .unset, .unset, .unset, .unset, .unset, .unset, .unset] at_33 rfl rfl ?_
    rcases own_rem4 (own_and3 (XT.ushr pb (18 : Int32))) with eQ | eQ | eQ | eQ
    · -- 0
      rw [eQ]
      refine og_iconst X0 36 (3 : Int32) at_35 rfl rfl ?_
      refine own_arr X0 38 at_36 (ow hw 0 rfl) (by decide) (cap := 3) (by decide) (by decide) (by decide) (by decide) rfl ?_
      intro T599 h599 b599 kb599 X599 K599 G599 U599 A599
      have f600 : Arv Z h599 b599 kb599 .char (3 : Int32) [(.int 0), (.int 0), (.int 0)] (.int 0) := A599
      refine og_dup X599 39 at_38 rfl rfl ?_
      refine og_iconst X599 40 (0 : Int32) at_39 rfl rfl ?_
      refine og_iloadN X599 41 at_40 rfl rfl ?_
      refine own_stC X599 42 at_41 f600 (own_nch B_u0.1 B_u0.2) (by decide) (by decide) (i := 0) (by decide) (Nat.le_of_ble_eq_true rfl) (om 0 rfl) rfl ?_
      intro T601 h601 X601 W601 K601 A601
      have f602 : Arv Z h601 b599 kb599 .char (3 : Int32) [(.int u0), (.int 0), (.int 0)] (.int 0) := A601
      refine og_dup X601 43 at_42 rfl rfl ?_
      refine og_iconst X601 44 (1 : Int32) at_43 rfl rfl ?_
      refine og_iload X601 46 at_44 rfl rfl ?_
      refine own_stC X601 47 at_46 f602 (own_nch B_u1.1 B_u1.2) (by decide) (by decide) (i := 1) (by decide) (Nat.le_of_ble_eq_true rfl) (om 0 rfl) rfl ?_
      intro T603 h603 X603 W603 K603 A603
      have f604 : Arv Z h603 b599 kb599 .char (3 : Int32) [(.int u0), (.int u1), (.int 0)] (.int 0) := A603
      refine og_dup X603 48 at_47 rfl rfl ?_
      refine og_iconst X603 49 (2 : Int32) at_48 rfl rfl ?_
      refine og_iload X603 51 at_49 rfl rfl ?_
      refine own_stC X603 52 at_51 f604 (own_nch B_u2.1 B_u2.2) (by decide) (by decide) (i := 2) (by decide) (Nat.le_of_ble_eq_true rfl) (om 0 rfl) rfl ?_
      intro T605 h605 X605 W605 K605 A605
      have f606 : Arv Z h605 b599 kb599 .char (3 : Int32) [(.int u0), (.int u1), (.int u2)] (.int 0) := A605
      refine og_astore X605 54 #[.val (.int pa), .val (.int pb), .val (.int pp), .val (.int u0), .val (.int u1), .val (.int u2), .val (.int 3), .val (.int 0), .val (.ref b599), .unset, .unset, .unset, .unset, .unset, .unset, .unset, .unset] at_52 rfl rfl rfl ?_
      refine og_iload X605 56 at_54 rfl rfl ?_
      refine og_ifY X605 74 at_56 (XT.i0_ne_t (by decide)) (by decide) (by decide) ?_
      refine og_iload X605 76 at_74 rfl rfl ?_
      refine og_iconst X605 77 (1 : Int32) at_76 rfl rfl ?_
      refine og_icmpY X605 99 at_77 (XT.ii_ne_t (by decide)) (by decide) (by decide) ?_
      refine og_iload X605 101 at_99 rfl rfl ?_
      refine og_iconst X605 102 (2 : Int32) at_101 rfl rfl ?_
      refine og_icmpY X605 129 at_102 (XT.ii_ne_t (by decide)) (by decide) (by decide) ?_
      refine own_new X605 132 at_129 (ow hw 1 rfl) (ow hw 2 rfl) (ow hw 3 rfl) (by decide) (by decide) rfl ?_
      intro T607 h607 b607 X607 K607 G607 U607 E607 D607
      have f608 : Fld Z h607 b607 "java/lang/String" "value" "[B" .null := D607 (Or.inr (ow hw 16 rfl)) (ty := (.array .byte)) (by decide)
      have f609 : Fld Z h607 b607 "java/lang/String" "coder" "B" (.int 0) := D607 (Or.inr (ow hw 17 rfl)) (ty := .byte) (by decide)
      refine og_dup X607 133 at_132 rfl rfl ?_
      refine og_iconst X607 134 (3 : Int32) at_133 rfl rfl ?_
      refine own_arr X607 136 at_134 (ow hw 0 rfl) (by decide) (cap := 3) (by decide) (by decide) (by decide) (by decide) rfl ?_
      intro T610 h610 b610 kb610 X610 K610 G610 U610 A610
      have f611 : Arv Z h610 b610 kb610 .char (3 : Int32) [(.int 0), (.int 0), (.int 0)] (.int 0) := A610
      refine og_dup X610 137 at_136 rfl rfl ?_
      refine og_iconst X610 138 (0 : Int32) at_137 rfl rfl ?_
      refine og_iloadN X610 139 at_138 rfl rfl ?_
      refine own_stC X610 140 at_139 f611 (own_nch B_u0.1 B_u0.2) (by decide) (by decide) (i := 0) (by decide) (Nat.le_of_ble_eq_true rfl) (om 0 rfl) rfl ?_
      intro T612 h612 X612 W612 K612 A612
      have f613 : Arv Z h612 b610 kb610 .char (3 : Int32) [(.int u0), (.int 0), (.int 0)] (.int 0) := A612
      refine og_dup X612 141 at_140 rfl rfl ?_
      refine og_iconst X612 142 (1 : Int32) at_141 rfl rfl ?_
      refine og_iload X612 144 at_142 rfl rfl ?_
      refine own_stC X612 145 at_144 f613 (own_nch B_u1.1 B_u1.2) (by decide) (by decide) (i := 1) (by decide) (Nat.le_of_ble_eq_true rfl) (om 0 rfl) rfl ?_
      intro T614 h614 X614 W614 K614 A614
      have f615 : Arv Z h614 b610 kb610 .char (3 : Int32) [(.int u0), (.int u1), (.int 0)] (.int 0) := A614
      refine og_dup X614 146 at_145 rfl rfl ?_
      refine og_iconst X614 147 (2 : Int32) at_146 rfl rfl ?_
      refine og_iload X614 149 at_147 rfl rfl ?_
      refine own_stC X614 150 at_149 f615 (own_nch B_u2.1 B_u2.2) (by decide) (by decide) (i := 2) (by decide) (Nat.le_of_ble_eq_true rfl) (om 0 rfl) rfl ?_
      intro T616 h616 X616 W616 K616 A616
      have f617 : Arv Z h616 b610 kb610 .char (3 : Int32) [(.int u0), (.int u1), (.int u2)] (.int 0) := A616
      have f618 := E607.keep K610
      have f619 := f618.keep K612
      have f620 := f619.keep K614
      have f621 := f620.keep K616
      have f622 := f608.keep K610 nin0
      have f623 := f622.keep K612 (ninS (Nat.ne_of_lt (Nat.lt_of_lt_of_le U607 G610)) nin0)
      have f624 := f623.keep K614 (ninS (Nat.ne_of_lt (Nat.lt_of_lt_of_le U607 G610)) nin0)
      have f625 := f624.keep K616 (ninS (Nat.ne_of_lt (Nat.lt_of_lt_of_le U607 G610)) nin0)
      have f626 := f609.keep K610 nin0
      have f627 := f626.keep K612 (ninS (Nat.ne_of_lt (Nat.lt_of_lt_of_le U607 G610)) nin0)
      have f628 := f627.keep K614 (ninS (Nat.ne_of_lt (Nat.lt_of_lt_of_le U607 G610)) nin0)
      have f629 := f628.keep K616 (ninS (Nat.ne_of_lt (Nat.lt_of_lt_of_le U607 G610)) nin0)
      refine own_spec X616 153 (a := b607) (argsL := [(.ref b610)]) (rest := [(.ref b607)]) at_150 rfl (ru_ini3 l Z a0 hw n0 h616 hWd [] X616.old b607 b610 .null (0 : Int32) kb610 (.int 0) u0 u1 u2 f621 f625 f629 f617 B_u0.1 B_u0.2 B_u1.1 B_u1.2 B_u2.1 B_u2.2 (own_svb X616 (om 1 rfl))) (ow hw 4 rfl) (ow hw 5 rfl) (ow hw 3 rfl) (ow hw 6 rfl) (by decide) (lenOf pd__28_5bC_29V rfl) rfl rfl rfl (W := 1) rfl (by decide) (by decide) (by decide) (by decide) (allS (om 1 rfl) all0) rfl ?_
      intro T630 h630 v630 X630 K630 hQ630
      obtain ⟨rfl, f631⟩ := hQ630
      show OGo _ _ _ _ T630 (mkF m 153 #[.val (.int pa), .val (.int pb), .val (.int pp), .val (.int u0), .val (.int u1), .val (.int u2), .val (.int 3), .val (.int 0), .val (.ref b599), .unset, .unset, .unset, .unset, .unset, .unset, .unset, .unset] [(.ref b607)])
      refine og_astore X630 155 #[.val (.int pa), .val (.int pb), .val (.int pp), .val (.int u0), .val (.int u1), .val (.int u2), .val (.int 3), .val (.int 0), .val (.ref b599), .val (.ref b607), .unset, .unset, .unset, .unset, .unset, .unset, .unset] at_153 rfl rfl rfl ?_
      refine own_new X630 158 at_155 (ow hw 22 rfl) (ow hw 23 rfl) (ow hw 24 rfl) (by decide) (by decide) rfl ?_
      intro T632 h632 b632 X632 K632 G632 U632 E632 D632
      have f633 : Fld Z h632 b632 "com/example/bote/bote/fields/FieldCursor" "text" "Ljava/lang/String;" .null := D632 (Or.inr (ow hw 31 rfl)) (ty := (.object "java/lang/String")) (by decide)
      have f634 : Fld Z h632 b632 "com/example/bote/bote/fields/FieldCursor" "shape" "Ljava/lang/String;" .null := D632 (Or.inr (ow hw 33 rfl)) (ty := (.object "java/lang/String")) (by decide)
      have f635 : Fld Z h632 b632 "com/example/bote/bote/fields/FieldCursor" "at" "I" (.int 0) := D632 (Or.inl (ow hw 44 rfl)) (ty := .int) (by decide)
      refine og_dup X632 159 at_158 rfl rfl ?_
      refine og_aload X632 161 at_159 rfl rfl rfl ?_
      refine own_ldcO X632 163 (cap := 20) at_161 own_ELne (ow hw 25 rfl) (own_wS hw) (by decide) (by decide) (by decide) (by decide) rfl ?_
      intro T636 h636 a636 X636 K636
      have f637 := E632.keep K636
      have f638 := f633.keep K636 nin0
      have f639 := f634.keep K636 nin0
      have f640 := f635.keep K636 nin0
      refine own_spec X636 166 (a := b632) (argsL := [(.ref b607), (.ref a636)]) (rest := [(.ref b632)]) at_163 rfl (rm4 l Z a0 hw n0 h636 hWd [] X636.old b632 b607 a636 f637 f638 f639 f640 (own_svb X636 (om 0 rfl))) (ow hw 26 rfl) (ow hw 27 rfl) (ow hw 24 rfl) (ow hw 28 rfl) (by decide) (lenOf pd__28Ljava_2flang_2fString_3bLjava_2flang_2fString_3b_29V rfl) rfl rfl rfl (W := 1) rfl (by decide) (by decide) (by decide) (by decide) (allS (om 0 rfl) all0) rfl ?_
      intro T641 h641 v641 X641 K641 hQ641
      obtain ⟨rfl, f642, f643⟩ := hQ641
      show OGo _ _ _ _ T641 (mkF m 166 #[.val (.int pa), .val (.int pb), .val (.int pp), .val (.int u0), .val (.int u1), .val (.int u2), .val (.int 3), .val (.int 0), .val (.ref b599), .val (.ref b607), .unset, .unset, .unset, .unset, .unset, .unset, .unset] [(.ref b632)])
      refine og_astore X641 168 #[.val (.int pa), .val (.int pb), .val (.int pp), .val (.int u0), .val (.int u1), .val (.int u2), .val (.int 3), .val (.int 0), .val (.ref b599), .val (.ref b607), .val (.ref b632), .unset, .unset, .unset, .unset, .unset, .unset] at_166 rfl rfl rfl ?_
      refine og_iconst X641 169 (1 : Int32) at_168 rfl rfl ?_
      refine og_istore X641 171 #[.val (.int pa), .val (.int pb), .val (.int pp), .val (.int u0), .val (.int u1), .val (.int u2), .val (.int 3), .val (.int 0), .val (.ref b599), .val (.ref b607), .val (.ref b632), .val (.int 1), .unset, .unset, .unset, .unset, .unset] at_169 rfl rfl ?_
      refine og_iload X641 173 at_171 rfl rfl ?_
      refine og_iconst X641 174 (1 : Int32) at_173 rfl rfl ?_
      refine og_icmpY X641 202 at_174 (XT.ii_lt_t (by decide)) (by decide) (by decide) ?_
      refine og_iload X641 204 at_202 rfl rfl ?_
      refine og_iconst X641 205 (2 : Int32) at_204 rfl rfl ?_
      refine og_icmpY X641 234 at_205 (XT.ii_lt_t (by decide)) (by decide) (by decide) ?_
      refine og_iload X641 236 at_234 rfl rfl ?_
      refine og_iconst X641 237 (3 : Int32) at_236 rfl rfl ?_
      refine og_icmpY X641 266 at_237 (XT.ii_lt_t (by decide)) (by decide) (by decide) ?_
      refine og_iloadN X641 267 at_266 rfl rfl ?_
      refine og_iconst X641 268 (3 : Int32) at_267 rfl rfl ?_
      refine og_iand X641 269 at_268 rfl ?_
      refine og_istore X641 271 #[.val (.int pa), .val (.int pb), .val (.int pp), .val (.int u0), .val (.int u1), .val (.int u2), .val (.int 3), .val (.int 0), .val (.ref b599), .val (.ref b607), .val (.ref b632), .val (.int 1), .val (.int (pp &&& (3 : Int32))), .unset, .unset, .unset, .unset] at_269 rfl rfl ?_
      refine own_cut X641 341 (fun (w : Int32) => #[.val (.int pa), .val (.int pb), .val (.int pp), .val (.int u0), .val (.int u1), .val (.int u2), .val (.int 3), .val (.int 0), .val (.ref b599), .val (.ref b607), .val (.ref b632), .val (.int 1), .val (.int (pp &&& (3 : Int32))), .val (.int w), .unset, .unset, .unset]) (fun _ => []) (fun w => True) ?_ ?_
      · -- the common way on
        intro T644 h644 X644 K644 w ok644
        show OGo _ _ _ _ T644 (mkF m 341 #[.val (.int pa), .val (.int pb), .val (.int pp), .val (.int u0), .val (.int u1), .val (.int u2), .val (.int 3), .val (.int 0), .val (.ref b599), .val (.ref b607), .val (.ref b632), .val (.int 1), .val (.int (pp &&& (3 : Int32))), .val (.int w), .unset, .unset, .unset] [])
        refine og_iload X644 343 at_341 rfl rfl ?_
        refine og_iload X644 345 at_343 rfl rfl ?_
        refine og_icmpN X644 348 at_345 (XT.ii_ge_f (by decide)) rfl ?_
        refine og_aload X644 350 at_348 rfl rfl rfl ?_
        refine og_iload X644 352 at_350 rfl rfl ?_
        have f645 := f606.keep K607 nin0
        have f646 := f645.keep K610 nin0
        have f647 := f646.keep K612 (ninS (Nat.ne_of_lt (Nat.lt_of_lt_of_le (Nat.lt_of_lt_of_le U599 (Nat.le_trans (Nat.le_trans (Nat.le_trans K601.1 K603.1) K605.1) K607.1)) G610)) nin0)
        have f648 := f647.keep K614 (ninS (Nat.ne_of_lt (Nat.lt_of_lt_of_le (Nat.lt_of_lt_of_le U599 (Nat.le_trans (Nat.le_trans (Nat.le_trans K601.1 K603.1) K605.1) K607.1)) G610)) nin0)
        have f649 := f648.keep K616 (ninS (Nat.ne_of_lt (Nat.lt_of_lt_of_le (Nat.lt_of_lt_of_le U599 (Nat.le_trans (Nat.le_trans (Nat.le_trans K601.1 K603.1) K605.1) K607.1)) G610)) nin0)
        have f650 := f649.keep K630 (ninS (Nat.ne_of_lt (Nat.lt_of_lt_of_le (Nat.lt_of_lt_of_le U599 (Nat.le_trans (Nat.le_trans K601.1 K603.1) K605.1)) G607)) nin0)
        have f651 := f650.keep K632 nin0
        have f652 := f651.keep K636 nin0
        have f653 := f652.keep K641 (ninS (Nat.ne_of_lt (Nat.lt_of_lt_of_le (Nat.lt_of_lt_of_le U599 (Nat.le_trans (Nat.le_trans (Nat.le_trans (Nat.le_trans (Nat.le_trans (Nat.le_trans (Nat.le_trans (Nat.le_trans K601.1 K603.1) K605.1) K607.1) K610.1) K612.1) K614.1) K616.1) K630.1)) G632)) nin0)
        have f654 := f653.keep K644 nin0
        refine own_ldC X644 353 at_352 f654 (by decide) (by decide) rfl rfl ?_
        refine og_iload X644 355 at_353 rfl rfl ?_
        by_cases hc655 : u0 = w
        · -- u0 = w
          refine og_icmpN X644 358 at_355 (XT.ii_ne_f hc655) rfl ?_
          refine og_iconst X644 359 (1 : Int32) at_358 rfl rfl ?_
          refine og_goto X644 363 at_359 (by decide) (by decide) ?_
          refine og_istore X644 365 #[.val (.int pa), .val (.int pb), .val (.int pp), .val (.int u0), .val (.int u1), .val (.int u2), .val (.int 3), .val (.int 0), .val (.ref b599), .val (.ref b607), .val (.ref b632), .val (.int 1), .val (.int (pp &&& (3 : Int32))), .val (.int w), .val (.int 1), .unset, .unset] at_363 rfl rfl ?_
          refine og_aload X644 367 at_365 rfl rfl rfl ?_
          refine og_iload X644 369 at_367 rfl rfl ?_
          have f656 := f637.keep K641
          have f657 := f656.keep K644
          have f658 := f642.keep K644 nin0
          have f659 := f643.keep K644 nin0
          have f660 := f631.keep K632 all0
          have f661 := f660.keep K636 all0
          have f662 := f661.keep K641 (allS (Or.inl (Nat.le_trans (Nat.le_refl _) G632)) all0)
          have f663 := f662.keep K644 all0
          refine own_virt X644 372 (a := b632) (argsL := [(.int w)]) (rest := []) at_369 f657 (fun _ hZ => notFace_of_selects (args := #[]) (mvT hZ (ow hw 41 rfl))) (rm_nx3_0 l Z a0 hw n0 h644 hWd [] X644.old b632 b607 u0 u1 u2 w f658 f659 f663.top ) (ow hw 38 rfl) (ow hw 39 rfl) (ow hw 41 rfl) (ow hw 40 rfl) (ow hw 24 rfl) (ow hw 42 rfl) (by decide) (lenOf pd__28C_29Z rfl) rfl rfl rfl (W := 0) rfl (by decide) (by decide) (by decide) (by decide) all0 rfl ?_
          intro T664 h664 v664 X664 K664 hQ664
          obtain rfl := hQ664
          show OGo _ _ _ _ T664 (mkF m 372 #[.val (.int pa), .val (.int pb), .val (.int pp), .val (.int u0), .val (.int u1), .val (.int u2), .val (.int 3), .val (.int 0), .val (.ref b599), .val (.ref b607), .val (.ref b632), .val (.int 1), .val (.int (pp &&& (3 : Int32))), .val (.int w), .val (.int 1), .unset, .unset] [(.int (own_eq1 u0 w))])
          refine og_istore X664 374 #[.val (.int pa), .val (.int pb), .val (.int pp), .val (.int u0), .val (.int u1), .val (.int u2), .val (.int 3), .val (.int 0), .val (.ref b599), .val (.ref b607), .val (.ref b632), .val (.int 1), .val (.int (pp &&& (3 : Int32))), .val (.int w), .val (.int 1), .val (.int (own_eq1 u0 w)), .unset] at_372 rfl rfl ?_
          refine og_aload X664 376 at_374 rfl rfl rfl ?_
          refine og_iload X664 378 at_376 rfl rfl ?_
          have f665 := f657.keep K664
          have f666 := f658.keep K664 nin0
          have f667 := f659.keep K664 nin0
          have f668 := f663.keep K664 all0
          refine own_virt X664 381 (a := b632) (argsL := [(.int w)]) (rest := []) at_378 f665 (fun _ hZ => notFace_of_selects (args := #[]) (mvT hZ (ow hw 41 rfl))) (rm_nx3_0 l Z a0 hw n0 h664 hWd [] X664.old b632 b607 u0 u1 u2 w f666 f667 f668.top ) (ow hw 38 rfl) (ow hw 39 rfl) (ow hw 41 rfl) (ow hw 40 rfl) (ow hw 24 rfl) (ow hw 42 rfl) (by decide) (lenOf pd__28C_29Z rfl) rfl rfl rfl (W := 0) rfl (by decide) (by decide) (by decide) (by decide) all0 rfl ?_
          intro T669 h669 v669 X669 K669 hQ669
          obtain rfl := hQ669
          show OGo _ _ _ _ T669 (mkF m 381 #[.val (.int pa), .val (.int pb), .val (.int pp), .val (.int u0), .val (.int u1), .val (.int u2), .val (.int 3), .val (.int 0), .val (.ref b599), .val (.ref b607), .val (.ref b632), .val (.int 1), .val (.int (pp &&& (3 : Int32))), .val (.int w), .val (.int 1), .val (.int (own_eq1 u0 w)), .unset] [(.int (own_eq1 u0 w))])
          refine og_istore X669 383 #[.val (.int pa), .val (.int pb), .val (.int pp), .val (.int u0), .val (.int u1), .val (.int u2), .val (.int 3), .val (.int 0), .val (.ref b599), .val (.ref b607), .val (.ref b632), .val (.int 1), .val (.int (pp &&& (3 : Int32))), .val (.int w), .val (.int 1), .val (.int (own_eq1 u0 w)), .val (.int (own_eq1 u0 w))] at_381 rfl rfl ?_
          refine og_iload X669 385 at_383 rfl rfl ?_
          refine og_ifN X669 388 at_385 (XT.i0_eq_f (by decide)) rfl ?_
          refine og_iload X669 390 at_388 rfl rfl ?_
          refine og_iload X669 392 at_390 rfl rfl ?_
          refine og_icmpN X669 395 at_392 (XT.ii_ne_f (by rw [own_eq1, if_pos hc655])) rfl ?_
          refine og_iload X669 397 at_395 rfl rfl ?_
          refine og_iload X669 399 at_397 rfl rfl ?_
          refine og_icmpN X669 402 at_399 (XT.ii_ne_f (by rw [own_eq1, if_pos hc655])) rfl ?_
          refine og_iconst X669 403 (1 : Int32) at_402 rfl rfl ?_
          refine og_goto X669 407 at_403 (by decide) (by decide) ?_
          refine own_retZ X669 at_407 hret rfl (by decide) (by decide) ?_
          exact rfl
        · -- not
          refine og_icmpY X644 362 at_355 (XT.ii_ne_t hc655) (by decide) (by decide) ?_
          refine og_iconst X644 363 (0 : Int32) at_362 rfl rfl ?_
          refine og_istore X644 365 #[.val (.int pa), .val (.int pb), .val (.int pp), .val (.int u0), .val (.int u1), .val (.int u2), .val (.int 3), .val (.int 0), .val (.ref b599), .val (.ref b607), .val (.ref b632), .val (.int 1), .val (.int (pp &&& (3 : Int32))), .val (.int w), .val (.int 0), .unset, .unset] at_363 rfl rfl ?_
          refine og_aload X644 367 at_365 rfl rfl rfl ?_
          refine og_iload X644 369 at_367 rfl rfl ?_
          have f670 := f637.keep K641
          have f671 := f670.keep K644
          have f672 := f642.keep K644 nin0
          have f673 := f643.keep K644 nin0
          have f674 := f631.keep K632 all0
          have f675 := f674.keep K636 all0
          have f676 := f675.keep K641 (allS (Or.inl (Nat.le_trans (Nat.le_refl _) G632)) all0)
          have f677 := f676.keep K644 all0
          refine own_virt X644 372 (a := b632) (argsL := [(.int w)]) (rest := []) at_369 f671 (fun _ hZ => notFace_of_selects (args := #[]) (mvT hZ (ow hw 41 rfl))) (rm_nx3_0 l Z a0 hw n0 h644 hWd [] X644.old b632 b607 u0 u1 u2 w f672 f673 f677.top ) (ow hw 38 rfl) (ow hw 39 rfl) (ow hw 41 rfl) (ow hw 40 rfl) (ow hw 24 rfl) (ow hw 42 rfl) (by decide) (lenOf pd__28C_29Z rfl) rfl rfl rfl (W := 0) rfl (by decide) (by decide) (by decide) (by decide) all0 rfl ?_
          intro T678 h678 v678 X678 K678 hQ678
          obtain rfl := hQ678
          show OGo _ _ _ _ T678 (mkF m 372 #[.val (.int pa), .val (.int pb), .val (.int pp), .val (.int u0), .val (.int u1), .val (.int u2), .val (.int 3), .val (.int 0), .val (.ref b599), .val (.ref b607), .val (.ref b632), .val (.int 1), .val (.int (pp &&& (3 : Int32))), .val (.int w), .val (.int 0), .unset, .unset] [(.int (own_eq1 u0 w))])
          refine og_istore X678 374 #[.val (.int pa), .val (.int pb), .val (.int pp), .val (.int u0), .val (.int u1), .val (.int u2), .val (.int 3), .val (.int 0), .val (.ref b599), .val (.ref b607), .val (.ref b632), .val (.int 1), .val (.int (pp &&& (3 : Int32))), .val (.int w), .val (.int 0), .val (.int (own_eq1 u0 w)), .unset] at_372 rfl rfl ?_
          refine og_aload X678 376 at_374 rfl rfl rfl ?_
          refine og_iload X678 378 at_376 rfl rfl ?_
          have f679 := f671.keep K678
          have f680 := f672.keep K678 nin0
          have f681 := f673.keep K678 nin0
          have f682 := f677.keep K678 all0
          refine own_virt X678 381 (a := b632) (argsL := [(.int w)]) (rest := []) at_378 f679 (fun _ hZ => notFace_of_selects (args := #[]) (mvT hZ (ow hw 41 rfl))) (rm_nx3_0 l Z a0 hw n0 h678 hWd [] X678.old b632 b607 u0 u1 u2 w f680 f681 f682.top ) (ow hw 38 rfl) (ow hw 39 rfl) (ow hw 41 rfl) (ow hw 40 rfl) (ow hw 24 rfl) (ow hw 42 rfl) (by decide) (lenOf pd__28C_29Z rfl) rfl rfl rfl (W := 0) rfl (by decide) (by decide) (by decide) (by decide) all0 rfl ?_
          intro T683 h683 v683 X683 K683 hQ683
          obtain rfl := hQ683
          show OGo _ _ _ _ T683 (mkF m 381 #[.val (.int pa), .val (.int pb), .val (.int pp), .val (.int u0), .val (.int u1), .val (.int u2), .val (.int 3), .val (.int 0), .val (.ref b599), .val (.ref b607), .val (.ref b632), .val (.int 1), .val (.int (pp &&& (3 : Int32))), .val (.int w), .val (.int 0), .val (.int (own_eq1 u0 w)), .unset] [(.int (own_eq1 u0 w))])
          refine og_istore X683 383 #[.val (.int pa), .val (.int pb), .val (.int pp), .val (.int u0), .val (.int u1), .val (.int u2), .val (.int 3), .val (.int 0), .val (.ref b599), .val (.ref b607), .val (.ref b632), .val (.int 1), .val (.int (pp &&& (3 : Int32))), .val (.int w), .val (.int 0), .val (.int (own_eq1 u0 w)), .val (.int (own_eq1 u0 w))] at_381 rfl rfl ?_
          refine og_iload X683 385 at_383 rfl rfl ?_
          refine og_ifN X683 388 at_385 (XT.i0_eq_f (by decide)) rfl ?_
          refine og_iload X683 390 at_388 rfl rfl ?_
          refine og_iload X683 392 at_390 rfl rfl ?_
          refine og_icmpN X683 395 at_392 (XT.ii_ne_f (by rw [own_eq1, if_neg hc655])) rfl ?_
          refine og_iload X683 397 at_395 rfl rfl ?_
          refine og_iload X683 399 at_397 rfl rfl ?_
          refine og_icmpN X683 402 at_399 (XT.ii_ne_f (by rw [own_eq1, if_neg hc655])) rfl ?_
          refine og_iconst X683 403 (1 : Int32) at_402 rfl rfl ?_
          refine og_goto X683 407 at_403 (by decide) (by decide) ?_
          refine own_retZ X683 at_407 hret rfl (by decide) (by decide) ?_
          exact rfl
      · -- the ways to it
        intro J644
        refine og_iload X641 273 at_271 rfl rfl ?_
        by_cases hc684 : (pp &&& (3 : Int32)) = 0
        · -- (pp &&& (3 : Int32)) = 0
          refine og_ifN X641 276 at_273 (XT.i0_ne_f hc684) rfl ?_
          refine og_iloadN X641 277 at_276 rfl rfl ?_
          refine og_bipush X641 279 (16 : Int32) at_277 rfl rfl ?_
          refine og_iushr X641 280 at_279 rfl ?_
          refine og_i2c X641 281 at_280 rfl ?_
          refine og_istore X641 283 #[.val (.int pa), .val (.int pb), .val (.int pp), .val (.int u0), .val (.int u1), .val (.int u2), .val (.int 3), .val (.int 0), .val (.ref b599), .val (.ref b607), .val (.ref b632), .val (.int 1), .val (.int (pp &&& (3 : Int32))), .val (.int (((XT.ushr pp (16 : Int32))).toUInt32.toUInt16.toUInt32.toInt32)), .unset, .unset, .unset] at_281 rfl rfl ?_
          refine og_goto X641 341 at_283 (by decide) (by decide) ?_
          exact J644 _ _ X641 (Keep.refl _ _) (((XT.ushr pp (16 : Int32))).toUInt32.toUInt16.toUInt32.toInt32) trivial
        · -- not
          refine og_ifY X641 286 at_273 (XT.i0_ne_t hc684) (by decide) (by decide) ?_
          refine og_iload X641 288 at_286 rfl rfl ?_
          refine og_iconst X641 289 (1 : Int32) at_288 rfl rfl ?_
          by_cases hc685 : (pp &&& (3 : Int32)) = (1 : Int32)
          · -- (pp &&& (3 : Int32)) = (1 : Int32)
            refine og_icmpN X641 292 at_289 (XT.ii_ne_f hc685) rfl ?_
            refine og_aload X641 294 at_292 rfl rfl rfl ?_
            refine og_iload X641 296 at_294 rfl rfl ?_
            refine og_iconst X641 297 (2 : Int32) at_296 rfl rfl ?_
            refine own_stat X641 300 (argsL := [(.int 0), (.int 2)]) (rest := [(.ref b599)]) at_297 (rm_min0 l Z a0 hw n0 h641 hWd [] X641.old (0 : Int32) (2 : Int32) (by decide) ) (ow hw 34 rfl) (ow hw 35 rfl) (ow hw 36 rfl) (ow hw 37 rfl) (by decide) (lenOf pd__28II_29I rfl) rfl rfl rfl (W := 1) rfl (by decide) (by decide) (by decide) (by decide) all0 rfl ?_
            intro T686 h686 v686 X686 K686 hQ686
            obtain rfl := hQ686
            show OGo _ _ _ _ T686 (mkF m 300 #[.val (.int pa), .val (.int pb), .val (.int pp), .val (.int u0), .val (.int u1), .val (.int u2), .val (.int 3), .val (.int 0), .val (.ref b599), .val (.ref b607), .val (.ref b632), .val (.int 1), .val (.int (pp &&& (3 : Int32))), .unset, .unset, .unset, .unset] [(.int 0), (.ref b599)])
            have f687 := f606.keep K607 nin0
            have f688 := f687.keep K610 nin0
            have f689 := f688.keep K612 (ninS (Nat.ne_of_lt (Nat.lt_of_lt_of_le (Nat.lt_of_lt_of_le U599 (Nat.le_trans (Nat.le_trans (Nat.le_trans K601.1 K603.1) K605.1) K607.1)) G610)) nin0)
            have f690 := f689.keep K614 (ninS (Nat.ne_of_lt (Nat.lt_of_lt_of_le (Nat.lt_of_lt_of_le U599 (Nat.le_trans (Nat.le_trans (Nat.le_trans K601.1 K603.1) K605.1) K607.1)) G610)) nin0)
            have f691 := f690.keep K616 (ninS (Nat.ne_of_lt (Nat.lt_of_lt_of_le (Nat.lt_of_lt_of_le U599 (Nat.le_trans (Nat.le_trans (Nat.le_trans K601.1 K603.1) K605.1) K607.1)) G610)) nin0)
            have f692 := f691.keep K630 (ninS (Nat.ne_of_lt (Nat.lt_of_lt_of_le (Nat.lt_of_lt_of_le U599 (Nat.le_trans (Nat.le_trans K601.1 K603.1) K605.1)) G607)) nin0)
            have f693 := f692.keep K632 nin0
            have f694 := f693.keep K636 nin0
            have f695 := f694.keep K641 (ninS (Nat.ne_of_lt (Nat.lt_of_lt_of_le (Nat.lt_of_lt_of_le U599 (Nat.le_trans (Nat.le_trans (Nat.le_trans (Nat.le_trans (Nat.le_trans (Nat.le_trans (Nat.le_trans (Nat.le_trans K601.1 K603.1) K605.1) K607.1) K610.1) K612.1) K614.1) K616.1) K630.1)) G632)) nin0)
            have f696 := f695.keep K686 nin0
            refine own_ldC X686 301 at_300 f696 (by decide) (by decide) rfl rfl ?_
            refine og_istore X686 303 #[.val (.int pa), .val (.int pb), .val (.int pp), .val (.int u0), .val (.int u1), .val (.int u2), .val (.int 3), .val (.int 0), .val (.ref b599), .val (.ref b607), .val (.ref b632), .val (.int 1), .val (.int (pp &&& (3 : Int32))), .val (.int u0), .unset, .unset, .unset] at_301 rfl rfl ?_
            refine og_goto X686 341 at_303 (by decide) (by decide) ?_
            exact J644 _ _ X686 K686 u0 trivial
          · -- not
            refine og_icmpY X641 306 at_289 (XT.ii_ne_t hc685) (by decide) (by decide) ?_
            refine og_iload X641 308 at_306 rfl rfl ?_
            refine og_iconst X641 309 (2 : Int32) at_308 rfl rfl ?_
            by_cases hc697 : (pp &&& (3 : Int32)) = (2 : Int32)
            · -- (pp &&& (3 : Int32)) = (2 : Int32)
              refine og_icmpN X641 312 at_309 (XT.ii_ne_f hc697) rfl ?_
              refine og_aload X641 314 at_312 rfl rfl rfl ?_
              refine og_iload X641 316 at_314 rfl rfl ?_
              refine og_iconst X641 317 (1 : Int32) at_316 rfl rfl ?_
              refine og_iadd X641 318 at_317 rfl ?_
              show OGo _ _ _ _ T641 (mkF m 318 #[.val (.int pa), .val (.int pb), .val (.int pp), .val (.int u0), .val (.int u1), .val (.int u2), .val (.int 3), .val (.int 0), .val (.ref b599), .val (.ref b607), .val (.ref b632), .val (.int 1), .val (.int (pp &&& (3 : Int32))), .unset, .unset, .unset, .unset] [(.int 1), (.ref b599)])
              refine og_iconst X641 319 (2 : Int32) at_318 rfl rfl ?_
              refine own_stat X641 322 (argsL := [(.int 1), (.int 2)]) (rest := [(.ref b599)]) at_319 (rm_min0 l Z a0 hw n0 h641 hWd [] X641.old (1 : Int32) (2 : Int32) (by decide) ) (ow hw 34 rfl) (ow hw 35 rfl) (ow hw 36 rfl) (ow hw 37 rfl) (by decide) (lenOf pd__28II_29I rfl) rfl rfl rfl (W := 1) rfl (by decide) (by decide) (by decide) (by decide) all0 rfl ?_
              intro T698 h698 v698 X698 K698 hQ698
              obtain rfl := hQ698
              show OGo _ _ _ _ T698 (mkF m 322 #[.val (.int pa), .val (.int pb), .val (.int pp), .val (.int u0), .val (.int u1), .val (.int u2), .val (.int 3), .val (.int 0), .val (.ref b599), .val (.ref b607), .val (.ref b632), .val (.int 1), .val (.int (pp &&& (3 : Int32))), .unset, .unset, .unset, .unset] [(.int 1), (.ref b599)])
              have f699 := f606.keep K607 nin0
              have f700 := f699.keep K610 nin0
              have f701 := f700.keep K612 (ninS (Nat.ne_of_lt (Nat.lt_of_lt_of_le (Nat.lt_of_lt_of_le U599 (Nat.le_trans (Nat.le_trans (Nat.le_trans K601.1 K603.1) K605.1) K607.1)) G610)) nin0)
              have f702 := f701.keep K614 (ninS (Nat.ne_of_lt (Nat.lt_of_lt_of_le (Nat.lt_of_lt_of_le U599 (Nat.le_trans (Nat.le_trans (Nat.le_trans K601.1 K603.1) K605.1) K607.1)) G610)) nin0)
              have f703 := f702.keep K616 (ninS (Nat.ne_of_lt (Nat.lt_of_lt_of_le (Nat.lt_of_lt_of_le U599 (Nat.le_trans (Nat.le_trans (Nat.le_trans K601.1 K603.1) K605.1) K607.1)) G610)) nin0)
              have f704 := f703.keep K630 (ninS (Nat.ne_of_lt (Nat.lt_of_lt_of_le (Nat.lt_of_lt_of_le U599 (Nat.le_trans (Nat.le_trans K601.1 K603.1) K605.1)) G607)) nin0)
              have f705 := f704.keep K632 nin0
              have f706 := f705.keep K636 nin0
              have f707 := f706.keep K641 (ninS (Nat.ne_of_lt (Nat.lt_of_lt_of_le (Nat.lt_of_lt_of_le U599 (Nat.le_trans (Nat.le_trans (Nat.le_trans (Nat.le_trans (Nat.le_trans (Nat.le_trans (Nat.le_trans (Nat.le_trans K601.1 K603.1) K605.1) K607.1) K610.1) K612.1) K614.1) K616.1) K630.1)) G632)) nin0)
              have f708 := f707.keep K698 nin0
              refine own_ldC X698 323 at_322 f708 (by decide) (by decide) rfl rfl ?_
              refine og_istore X698 325 #[.val (.int pa), .val (.int pb), .val (.int pp), .val (.int u0), .val (.int u1), .val (.int u2), .val (.int 3), .val (.int 0), .val (.ref b599), .val (.ref b607), .val (.ref b632), .val (.int 1), .val (.int (pp &&& (3 : Int32))), .val (.int u1), .unset, .unset, .unset] at_323 rfl rfl ?_
              refine og_goto X698 341 at_325 (by decide) (by decide) ?_
              exact J644 _ _ X698 K698 u1 trivial
            · -- not
              refine og_icmpY X641 328 at_309 (XT.ii_ne_t hc697) (by decide) (by decide) ?_
              refine og_aload X641 330 at_328 rfl rfl rfl ?_
              refine og_iload X641 332 at_330 rfl rfl ?_
              refine og_iconst X641 333 (1 : Int32) at_332 rfl rfl ?_
              refine og_isub X641 334 at_333 rfl ?_
              show OGo _ _ _ _ T641 (mkF m 334 #[.val (.int pa), .val (.int pb), .val (.int pp), .val (.int u0), .val (.int u1), .val (.int u2), .val (.int 3), .val (.int 0), .val (.ref b599), .val (.ref b607), .val (.ref b632), .val (.int 1), .val (.int (pp &&& (3 : Int32))), .unset, .unset, .unset, .unset] [(.int (-1 : Int32)), (.ref b599)])
              refine og_iconst X641 335 (0 : Int32) at_334 rfl rfl ?_
              refine own_stat X641 338 (argsL := [(.int (-1 : Int32)), (.int 0)]) (rest := [(.ref b599)]) at_335 (rm_max1 l Z a0 hw n0 h641 hWd [] X641.old (-1 : Int32) (0 : Int32) (by decide) ) (ow hw 56 rfl) (ow hw 57 rfl) (ow hw 36 rfl) (ow hw 58 rfl) (by decide) (lenOf pd__28II_29I rfl) rfl rfl rfl (W := 1) rfl (by decide) (by decide) (by decide) (by decide) all0 rfl ?_
              intro T709 h709 v709 X709 K709 hQ709
              obtain rfl := hQ709
              show OGo _ _ _ _ T709 (mkF m 338 #[.val (.int pa), .val (.int pb), .val (.int pp), .val (.int u0), .val (.int u1), .val (.int u2), .val (.int 3), .val (.int 0), .val (.ref b599), .val (.ref b607), .val (.ref b632), .val (.int 1), .val (.int (pp &&& (3 : Int32))), .unset, .unset, .unset, .unset] [(.int 0), (.ref b599)])
              have f710 := f606.keep K607 nin0
              have f711 := f710.keep K610 nin0
              have f712 := f711.keep K612 (ninS (Nat.ne_of_lt (Nat.lt_of_lt_of_le (Nat.lt_of_lt_of_le U599 (Nat.le_trans (Nat.le_trans (Nat.le_trans K601.1 K603.1) K605.1) K607.1)) G610)) nin0)
              have f713 := f712.keep K614 (ninS (Nat.ne_of_lt (Nat.lt_of_lt_of_le (Nat.lt_of_lt_of_le U599 (Nat.le_trans (Nat.le_trans (Nat.le_trans K601.1 K603.1) K605.1) K607.1)) G610)) nin0)
              have f714 := f713.keep K616 (ninS (Nat.ne_of_lt (Nat.lt_of_lt_of_le (Nat.lt_of_lt_of_le U599 (Nat.le_trans (Nat.le_trans (Nat.le_trans K601.1 K603.1) K605.1) K607.1)) G610)) nin0)
              have f715 := f714.keep K630 (ninS (Nat.ne_of_lt (Nat.lt_of_lt_of_le (Nat.lt_of_lt_of_le U599 (Nat.le_trans (Nat.le_trans K601.1 K603.1) K605.1)) G607)) nin0)
              have f716 := f715.keep K632 nin0
              have f717 := f716.keep K636 nin0
              have f718 := f717.keep K641 (ninS (Nat.ne_of_lt (Nat.lt_of_lt_of_le (Nat.lt_of_lt_of_le U599 (Nat.le_trans (Nat.le_trans (Nat.le_trans (Nat.le_trans (Nat.le_trans (Nat.le_trans (Nat.le_trans (Nat.le_trans K601.1 K603.1) K605.1) K607.1) K610.1) K612.1) K614.1) K616.1) K630.1)) G632)) nin0)
              have f719 := f718.keep K709 nin0
              refine own_ldC X709 339 at_338 f719 (by decide) (by decide) rfl rfl ?_
              refine og_istore X709 341 #[.val (.int pa), .val (.int pb), .val (.int pp), .val (.int u0), .val (.int u1), .val (.int u2), .val (.int 3), .val (.int 0), .val (.ref b599), .val (.ref b607), .val (.ref b632), .val (.int 1), .val (.int (pp &&& (3 : Int32))), .val (.int u0), .unset, .unset, .unset] at_339 rfl rfl ?_
              exact J644 _ _ X709 K709 u0 trivial
    · -- 1
      rw [eQ]
      refine og_iconst X0 36 (3 : Int32) at_35 rfl rfl ?_
      refine own_arr X0 38 at_36 (ow hw 0 rfl) (by decide) (cap := 3) (by decide) (by decide) (by decide) (by decide) rfl ?_
      intro T720 h720 b720 kb720 X720 K720 G720 U720 A720
      have f721 : Arv Z h720 b720 kb720 .char (3 : Int32) [(.int 0), (.int 0), (.int 0)] (.int 0) := A720
      refine og_dup X720 39 at_38 rfl rfl ?_
      refine og_iconst X720 40 (0 : Int32) at_39 rfl rfl ?_
      refine og_iloadN X720 41 at_40 rfl rfl ?_
      refine own_stC X720 42 at_41 f721 (own_nch B_u0.1 B_u0.2) (by decide) (by decide) (i := 0) (by decide) (Nat.le_of_ble_eq_true rfl) (om 0 rfl) rfl ?_
      intro T722 h722 X722 W722 K722 A722
      have f723 : Arv Z h722 b720 kb720 .char (3 : Int32) [(.int u0), (.int 0), (.int 0)] (.int 0) := A722
      refine og_dup X722 43 at_42 rfl rfl ?_
      refine og_iconst X722 44 (1 : Int32) at_43 rfl rfl ?_
      refine og_iload X722 46 at_44 rfl rfl ?_
      refine own_stC X722 47 at_46 f723 (own_nch B_u1.1 B_u1.2) (by decide) (by decide) (i := 1) (by decide) (Nat.le_of_ble_eq_true rfl) (om 0 rfl) rfl ?_
      intro T724 h724 X724 W724 K724 A724
      have f725 : Arv Z h724 b720 kb720 .char (3 : Int32) [(.int u0), (.int u1), (.int 0)] (.int 0) := A724
      refine og_dup X724 48 at_47 rfl rfl ?_
      refine og_iconst X724 49 (2 : Int32) at_48 rfl rfl ?_
      refine og_iload X724 51 at_49 rfl rfl ?_
      refine own_stC X724 52 at_51 f725 (own_nch B_u2.1 B_u2.2) (by decide) (by decide) (i := 2) (by decide) (Nat.le_of_ble_eq_true rfl) (om 0 rfl) rfl ?_
      intro T726 h726 X726 W726 K726 A726
      have f727 : Arv Z h726 b720 kb720 .char (3 : Int32) [(.int u0), (.int u1), (.int u2)] (.int 0) := A726
      refine og_astore X726 54 #[.val (.int pa), .val (.int pb), .val (.int pp), .val (.int u0), .val (.int u1), .val (.int u2), .val (.int 3), .val (.int 1), .val (.ref b720), .unset, .unset, .unset, .unset, .unset, .unset, .unset, .unset] at_52 rfl rfl rfl ?_
      refine og_iload X726 56 at_54 rfl rfl ?_
      refine og_ifY X726 74 at_56 (XT.i0_ne_t (by decide)) (by decide) (by decide) ?_
      refine og_iload X726 76 at_74 rfl rfl ?_
      refine og_iconst X726 77 (1 : Int32) at_76 rfl rfl ?_
      refine og_icmpY X726 99 at_77 (XT.ii_ne_t (by decide)) (by decide) (by decide) ?_
      refine og_iload X726 101 at_99 rfl rfl ?_
      refine og_iconst X726 102 (2 : Int32) at_101 rfl rfl ?_
      refine og_icmpY X726 129 at_102 (XT.ii_ne_t (by decide)) (by decide) (by decide) ?_
      refine own_new X726 132 at_129 (ow hw 1 rfl) (ow hw 2 rfl) (ow hw 3 rfl) (by decide) (by decide) rfl ?_
      intro T728 h728 b728 X728 K728 G728 U728 E728 D728
      have f729 : Fld Z h728 b728 "java/lang/String" "value" "[B" .null := D728 (Or.inr (ow hw 16 rfl)) (ty := (.array .byte)) (by decide)
      have f730 : Fld Z h728 b728 "java/lang/String" "coder" "B" (.int 0) := D728 (Or.inr (ow hw 17 rfl)) (ty := .byte) (by decide)
      refine og_dup X728 133 at_132 rfl rfl ?_
      refine og_iconst X728 134 (3 : Int32) at_133 rfl rfl ?_
      refine own_arr X728 136 at_134 (ow hw 0 rfl) (by decide) (cap := 3) (by decide) (by decide) (by decide) (by decide) rfl ?_
      intro T731 h731 b731 kb731 X731 K731 G731 U731 A731
      have f732 : Arv Z h731 b731 kb731 .char (3 : Int32) [(.int 0), (.int 0), (.int 0)] (.int 0) := A731
      refine og_dup X731 137 at_136 rfl rfl ?_
      refine og_iconst X731 138 (0 : Int32) at_137 rfl rfl ?_
      refine og_iloadN X731 139 at_138 rfl rfl ?_
      refine own_stC X731 140 at_139 f732 (own_nch B_u0.1 B_u0.2) (by decide) (by decide) (i := 0) (by decide) (Nat.le_of_ble_eq_true rfl) (om 0 rfl) rfl ?_
      intro T733 h733 X733 W733 K733 A733
      have f734 : Arv Z h733 b731 kb731 .char (3 : Int32) [(.int u0), (.int 0), (.int 0)] (.int 0) := A733
      refine og_dup X733 141 at_140 rfl rfl ?_
      refine og_iconst X733 142 (1 : Int32) at_141 rfl rfl ?_
      refine og_iload X733 144 at_142 rfl rfl ?_
      refine own_stC X733 145 at_144 f734 (own_nch B_u1.1 B_u1.2) (by decide) (by decide) (i := 1) (by decide) (Nat.le_of_ble_eq_true rfl) (om 0 rfl) rfl ?_
      intro T735 h735 X735 W735 K735 A735
      have f736 : Arv Z h735 b731 kb731 .char (3 : Int32) [(.int u0), (.int u1), (.int 0)] (.int 0) := A735
      refine og_dup X735 146 at_145 rfl rfl ?_
      refine og_iconst X735 147 (2 : Int32) at_146 rfl rfl ?_
      refine og_iload X735 149 at_147 rfl rfl ?_
      refine own_stC X735 150 at_149 f736 (own_nch B_u2.1 B_u2.2) (by decide) (by decide) (i := 2) (by decide) (Nat.le_of_ble_eq_true rfl) (om 0 rfl) rfl ?_
      intro T737 h737 X737 W737 K737 A737
      have f738 : Arv Z h737 b731 kb731 .char (3 : Int32) [(.int u0), (.int u1), (.int u2)] (.int 0) := A737
      have f739 := E728.keep K731
      have f740 := f739.keep K733
      have f741 := f740.keep K735
      have f742 := f741.keep K737
      have f743 := f729.keep K731 nin0
      have f744 := f743.keep K733 (ninS (Nat.ne_of_lt (Nat.lt_of_lt_of_le U728 G731)) nin0)
      have f745 := f744.keep K735 (ninS (Nat.ne_of_lt (Nat.lt_of_lt_of_le U728 G731)) nin0)
      have f746 := f745.keep K737 (ninS (Nat.ne_of_lt (Nat.lt_of_lt_of_le U728 G731)) nin0)
      have f747 := f730.keep K731 nin0
      have f748 := f747.keep K733 (ninS (Nat.ne_of_lt (Nat.lt_of_lt_of_le U728 G731)) nin0)
      have f749 := f748.keep K735 (ninS (Nat.ne_of_lt (Nat.lt_of_lt_of_le U728 G731)) nin0)
      have f750 := f749.keep K737 (ninS (Nat.ne_of_lt (Nat.lt_of_lt_of_le U728 G731)) nin0)
      refine own_spec X737 153 (a := b728) (argsL := [(.ref b731)]) (rest := [(.ref b728)]) at_150 rfl (ru_ini3 l Z a0 hw n0 h737 hWd [] X737.old b728 b731 .null (0 : Int32) kb731 (.int 0) u0 u1 u2 f742 f746 f750 f738 B_u0.1 B_u0.2 B_u1.1 B_u1.2 B_u2.1 B_u2.2 (own_svb X737 (om 1 rfl))) (ow hw 4 rfl) (ow hw 5 rfl) (ow hw 3 rfl) (ow hw 6 rfl) (by decide) (lenOf pd__28_5bC_29V rfl) rfl rfl rfl (W := 1) rfl (by decide) (by decide) (by decide) (by decide) (allS (om 1 rfl) all0) rfl ?_
      intro T751 h751 v751 X751 K751 hQ751
      obtain ⟨rfl, f752⟩ := hQ751
      show OGo _ _ _ _ T751 (mkF m 153 #[.val (.int pa), .val (.int pb), .val (.int pp), .val (.int u0), .val (.int u1), .val (.int u2), .val (.int 3), .val (.int 1), .val (.ref b720), .unset, .unset, .unset, .unset, .unset, .unset, .unset, .unset] [(.ref b728)])
      refine og_astore X751 155 #[.val (.int pa), .val (.int pb), .val (.int pp), .val (.int u0), .val (.int u1), .val (.int u2), .val (.int 3), .val (.int 1), .val (.ref b720), .val (.ref b728), .unset, .unset, .unset, .unset, .unset, .unset, .unset] at_153 rfl rfl rfl ?_
      refine own_new X751 158 at_155 (ow hw 22 rfl) (ow hw 23 rfl) (ow hw 24 rfl) (by decide) (by decide) rfl ?_
      intro T753 h753 b753 X753 K753 G753 U753 E753 D753
      have f754 : Fld Z h753 b753 "com/example/bote/bote/fields/FieldCursor" "text" "Ljava/lang/String;" .null := D753 (Or.inr (ow hw 31 rfl)) (ty := (.object "java/lang/String")) (by decide)
      have f755 : Fld Z h753 b753 "com/example/bote/bote/fields/FieldCursor" "shape" "Ljava/lang/String;" .null := D753 (Or.inr (ow hw 33 rfl)) (ty := (.object "java/lang/String")) (by decide)
      have f756 : Fld Z h753 b753 "com/example/bote/bote/fields/FieldCursor" "at" "I" (.int 0) := D753 (Or.inl (ow hw 44 rfl)) (ty := .int) (by decide)
      refine og_dup X753 159 at_158 rfl rfl ?_
      refine og_aload X753 161 at_159 rfl rfl rfl ?_
      refine own_ldcO X753 163 (cap := 20) at_161 own_ELne (ow hw 25 rfl) (own_wS hw) (by decide) (by decide) (by decide) (by decide) rfl ?_
      intro T757 h757 a757 X757 K757
      have f758 := E753.keep K757
      have f759 := f754.keep K757 nin0
      have f760 := f755.keep K757 nin0
      have f761 := f756.keep K757 nin0
      refine own_spec X757 166 (a := b753) (argsL := [(.ref b728), (.ref a757)]) (rest := [(.ref b753)]) at_163 rfl (rm4 l Z a0 hw n0 h757 hWd [] X757.old b753 b728 a757 f758 f759 f760 f761 (own_svb X757 (om 0 rfl))) (ow hw 26 rfl) (ow hw 27 rfl) (ow hw 24 rfl) (ow hw 28 rfl) (by decide) (lenOf pd__28Ljava_2flang_2fString_3bLjava_2flang_2fString_3b_29V rfl) rfl rfl rfl (W := 1) rfl (by decide) (by decide) (by decide) (by decide) (allS (om 0 rfl) all0) rfl ?_
      intro T762 h762 v762 X762 K762 hQ762
      obtain ⟨rfl, f763, f764⟩ := hQ762
      show OGo _ _ _ _ T762 (mkF m 166 #[.val (.int pa), .val (.int pb), .val (.int pp), .val (.int u0), .val (.int u1), .val (.int u2), .val (.int 3), .val (.int 1), .val (.ref b720), .val (.ref b728), .unset, .unset, .unset, .unset, .unset, .unset, .unset] [(.ref b753)])
      refine og_astore X762 168 #[.val (.int pa), .val (.int pb), .val (.int pp), .val (.int u0), .val (.int u1), .val (.int u2), .val (.int 3), .val (.int 1), .val (.ref b720), .val (.ref b728), .val (.ref b753), .unset, .unset, .unset, .unset, .unset, .unset] at_166 rfl rfl rfl ?_
      refine og_iconst X762 169 (1 : Int32) at_168 rfl rfl ?_
      refine og_istore X762 171 #[.val (.int pa), .val (.int pb), .val (.int pp), .val (.int u0), .val (.int u1), .val (.int u2), .val (.int 3), .val (.int 1), .val (.ref b720), .val (.ref b728), .val (.ref b753), .val (.int 1), .unset, .unset, .unset, .unset, .unset] at_169 rfl rfl ?_
      refine og_iload X762 173 at_171 rfl rfl ?_
      refine og_iconst X762 174 (1 : Int32) at_173 rfl rfl ?_
      refine og_icmpN X762 177 at_174 (XT.ii_lt_f (by decide)) rfl ?_
      refine og_aload X762 179 at_177 rfl rfl rfl ?_
      refine og_iloadN X762 180 at_179 rfl rfl ?_
      have f765 := f758.keep K762
      have f766 := f752.keep K753 all0
      have f767 := f766.keep K757 all0
      have f768 := f767.keep K762 (allS (Or.inl (Nat.le_trans (Nat.le_refl _) G753)) all0)
      refine own_virt X762 183 (a := b753) (argsL := [(.int u0)]) (rest := []) at_180 f765 (fun _ hZ => notFace_of_selects (args := #[]) (mvT hZ (ow hw 91 rfl))) (rm_tk3_0 l Z a0 hw n0 h762 hWd [] X762.old b753 b728 u0 u1 u2 f765 f763 f764 f768.top (own_svb X762 (om 0 rfl))) (ow hw 88 rfl) (ow hw 89 rfl) (ow hw 91 rfl) (ow hw 90 rfl) (ow hw 24 rfl) (ow hw 92 rfl) (by decide) (lenOf pd__28C_29Z rfl) rfl rfl rfl (W := 0) rfl (by decide) (by decide) (by decide) (by decide) (allS (om 0 rfl) all0) rfl ?_
      intro T769 h769 v769 X769 K769 hQ769
      obtain ⟨rfl, f770, f771⟩ := hQ769
      show OGo _ _ _ _ T769 (mkF m 183 #[.val (.int pa), .val (.int pb), .val (.int pp), .val (.int u0), .val (.int u1), .val (.int u2), .val (.int 3), .val (.int 1), .val (.ref b720), .val (.ref b728), .val (.ref b753), .val (.int 1), .unset, .unset, .unset, .unset, .unset] [(.int 1)])
      refine og_istore X769 185 #[.val (.int pa), .val (.int pb), .val (.int pp), .val (.int u0), .val (.int u1), .val (.int u2), .val (.int 3), .val (.int 1), .val (.ref b720), .val (.ref b728), .val (.ref b753), .val (.int 1), .val (.int 1), .unset, .unset, .unset, .unset] at_183 rfl rfl ?_
      refine og_iload X769 187 at_185 rfl rfl ?_
      refine og_ifN X769 190 at_187 (XT.i0_eq_f (by decide)) rfl ?_
      refine og_iload X769 192 at_190 rfl rfl ?_
      refine og_ifN X769 195 at_192 (XT.i0_eq_f (by decide)) rfl ?_
      refine og_iconst X769 196 (1 : Int32) at_195 rfl rfl ?_
      refine og_goto X769 200 at_196 (by decide) (by decide) ?_
      refine og_istore X769 202 #[.val (.int pa), .val (.int pb), .val (.int pp), .val (.int u0), .val (.int u1), .val (.int u2), .val (.int 3), .val (.int 1), .val (.ref b720), .val (.ref b728), .val (.ref b753), .val (.int 1), .val (.int 1), .unset, .unset, .unset, .unset] at_200 rfl rfl ?_
      refine og_iload X769 204 at_202 rfl rfl ?_
      refine og_iconst X769 205 (2 : Int32) at_204 rfl rfl ?_
      refine og_icmpY X769 234 at_205 (XT.ii_lt_t (by decide)) (by decide) (by decide) ?_
      refine og_iload X769 236 at_234 rfl rfl ?_
      refine og_iconst X769 237 (3 : Int32) at_236 rfl rfl ?_
      refine og_icmpY X769 266 at_237 (XT.ii_lt_t (by decide)) (by decide) (by decide) ?_
      refine og_iloadN X769 267 at_266 rfl rfl ?_
      refine og_iconst X769 268 (3 : Int32) at_267 rfl rfl ?_
      refine og_iand X769 269 at_268 rfl ?_
      refine og_istore X769 271 #[.val (.int pa), .val (.int pb), .val (.int pp), .val (.int u0), .val (.int u1), .val (.int u2), .val (.int 3), .val (.int 1), .val (.ref b720), .val (.ref b728), .val (.ref b753), .val (.int 1), .val (.int (pp &&& (3 : Int32))), .unset, .unset, .unset, .unset] at_269 rfl rfl ?_
      refine own_cut X769 341 (fun (w : Int32) => #[.val (.int pa), .val (.int pb), .val (.int pp), .val (.int u0), .val (.int u1), .val (.int u2), .val (.int 3), .val (.int 1), .val (.ref b720), .val (.ref b728), .val (.ref b753), .val (.int 1), .val (.int (pp &&& (3 : Int32))), .val (.int w), .unset, .unset, .unset]) (fun _ => []) (fun w => True) ?_ ?_
      · -- the common way on
        intro T772 h772 X772 K772 w ok772
        show OGo _ _ _ _ T772 (mkF m 341 #[.val (.int pa), .val (.int pb), .val (.int pp), .val (.int u0), .val (.int u1), .val (.int u2), .val (.int 3), .val (.int 1), .val (.ref b720), .val (.ref b728), .val (.ref b753), .val (.int 1), .val (.int (pp &&& (3 : Int32))), .val (.int w), .unset, .unset, .unset] [])
        refine og_iload X772 343 at_341 rfl rfl ?_
        refine og_iload X772 345 at_343 rfl rfl ?_
        refine og_icmpN X772 348 at_345 (XT.ii_ge_f (by decide)) rfl ?_
        refine og_aload X772 350 at_348 rfl rfl rfl ?_
        refine og_iload X772 352 at_350 rfl rfl ?_
        have f773 := f727.keep K728 nin0
        have f774 := f773.keep K731 nin0
        have f775 := f774.keep K733 (ninS (Nat.ne_of_lt (Nat.lt_of_lt_of_le (Nat.lt_of_lt_of_le U720 (Nat.le_trans (Nat.le_trans (Nat.le_trans K722.1 K724.1) K726.1) K728.1)) G731)) nin0)
        have f776 := f775.keep K735 (ninS (Nat.ne_of_lt (Nat.lt_of_lt_of_le (Nat.lt_of_lt_of_le U720 (Nat.le_trans (Nat.le_trans (Nat.le_trans K722.1 K724.1) K726.1) K728.1)) G731)) nin0)
        have f777 := f776.keep K737 (ninS (Nat.ne_of_lt (Nat.lt_of_lt_of_le (Nat.lt_of_lt_of_le U720 (Nat.le_trans (Nat.le_trans (Nat.le_trans K722.1 K724.1) K726.1) K728.1)) G731)) nin0)
        have f778 := f777.keep K751 (ninS (Nat.ne_of_lt (Nat.lt_of_lt_of_le (Nat.lt_of_lt_of_le U720 (Nat.le_trans (Nat.le_trans K722.1 K724.1) K726.1)) G728)) nin0)
        have f779 := f778.keep K753 nin0
        have f780 := f779.keep K757 nin0
        have f781 := f780.keep K762 (ninS (Nat.ne_of_lt (Nat.lt_of_lt_of_le (Nat.lt_of_lt_of_le U720 (Nat.le_trans (Nat.le_trans (Nat.le_trans (Nat.le_trans (Nat.le_trans (Nat.le_trans (Nat.le_trans (Nat.le_trans K722.1 K724.1) K726.1) K728.1) K731.1) K733.1) K735.1) K737.1) K751.1)) G753)) nin0)
        have f782 := f781.keep K769 (ninS (Nat.ne_of_lt (Nat.lt_of_lt_of_le (Nat.lt_of_lt_of_le U720 (Nat.le_trans (Nat.le_trans (Nat.le_trans (Nat.le_trans (Nat.le_trans (Nat.le_trans (Nat.le_trans (Nat.le_trans K722.1 K724.1) K726.1) K728.1) K731.1) K733.1) K735.1) K737.1) K751.1)) G753)) nin0)
        have f783 := f782.keep K772 nin0
        refine own_ldC X772 353 at_352 f783 (by decide) (by decide) rfl rfl ?_
        refine og_iload X772 355 at_353 rfl rfl ?_
        by_cases hc784 : u1 = w
        · -- u1 = w
          refine og_icmpN X772 358 at_355 (XT.ii_ne_f hc784) rfl ?_
          refine og_iconst X772 359 (1 : Int32) at_358 rfl rfl ?_
          refine og_goto X772 363 at_359 (by decide) (by decide) ?_
          refine og_istore X772 365 #[.val (.int pa), .val (.int pb), .val (.int pp), .val (.int u0), .val (.int u1), .val (.int u2), .val (.int 3), .val (.int 1), .val (.ref b720), .val (.ref b728), .val (.ref b753), .val (.int 1), .val (.int (pp &&& (3 : Int32))), .val (.int w), .val (.int 1), .unset, .unset] at_363 rfl rfl ?_
          refine og_aload X772 367 at_365 rfl rfl rfl ?_
          refine og_iload X772 369 at_367 rfl rfl ?_
          have f785 := f765.keep K769
          have f786 := f785.keep K772
          have f787 := f770.keep K772 nin0
          have f788 := f771.keep K772 nin0
          have f789 := f768.keep K769 (allS (Or.inl (Nat.le_trans (Nat.le_refl _) G753)) all0)
          have f790 := f789.keep K772 all0
          refine own_virt X772 372 (a := b753) (argsL := [(.int w)]) (rest := []) at_369 f786 (fun _ hZ => notFace_of_selects (args := #[]) (mvT hZ (ow hw 41 rfl))) (rm_nx3_1 l Z a0 hw n0 h772 hWd [] X772.old b753 b728 u0 u1 u2 w f787 f788 f790.top ) (ow hw 38 rfl) (ow hw 39 rfl) (ow hw 41 rfl) (ow hw 40 rfl) (ow hw 24 rfl) (ow hw 42 rfl) (by decide) (lenOf pd__28C_29Z rfl) rfl rfl rfl (W := 0) rfl (by decide) (by decide) (by decide) (by decide) all0 rfl ?_
          intro T791 h791 v791 X791 K791 hQ791
          obtain rfl := hQ791
          show OGo _ _ _ _ T791 (mkF m 372 #[.val (.int pa), .val (.int pb), .val (.int pp), .val (.int u0), .val (.int u1), .val (.int u2), .val (.int 3), .val (.int 1), .val (.ref b720), .val (.ref b728), .val (.ref b753), .val (.int 1), .val (.int (pp &&& (3 : Int32))), .val (.int w), .val (.int 1), .unset, .unset] [(.int (own_eq1 u1 w))])
          refine og_istore X791 374 #[.val (.int pa), .val (.int pb), .val (.int pp), .val (.int u0), .val (.int u1), .val (.int u2), .val (.int 3), .val (.int 1), .val (.ref b720), .val (.ref b728), .val (.ref b753), .val (.int 1), .val (.int (pp &&& (3 : Int32))), .val (.int w), .val (.int 1), .val (.int (own_eq1 u1 w)), .unset] at_372 rfl rfl ?_
          refine og_aload X791 376 at_374 rfl rfl rfl ?_
          refine og_iload X791 378 at_376 rfl rfl ?_
          have f792 := f786.keep K791
          have f793 := f787.keep K791 nin0
          have f794 := f788.keep K791 nin0
          have f795 := f790.keep K791 all0
          refine own_virt X791 381 (a := b753) (argsL := [(.int w)]) (rest := []) at_378 f792 (fun _ hZ => notFace_of_selects (args := #[]) (mvT hZ (ow hw 41 rfl))) (rm_nx3_1 l Z a0 hw n0 h791 hWd [] X791.old b753 b728 u0 u1 u2 w f793 f794 f795.top ) (ow hw 38 rfl) (ow hw 39 rfl) (ow hw 41 rfl) (ow hw 40 rfl) (ow hw 24 rfl) (ow hw 42 rfl) (by decide) (lenOf pd__28C_29Z rfl) rfl rfl rfl (W := 0) rfl (by decide) (by decide) (by decide) (by decide) all0 rfl ?_
          intro T796 h796 v796 X796 K796 hQ796
          obtain rfl := hQ796
          show OGo _ _ _ _ T796 (mkF m 381 #[.val (.int pa), .val (.int pb), .val (.int pp), .val (.int u0), .val (.int u1), .val (.int u2), .val (.int 3), .val (.int 1), .val (.ref b720), .val (.ref b728), .val (.ref b753), .val (.int 1), .val (.int (pp &&& (3 : Int32))), .val (.int w), .val (.int 1), .val (.int (own_eq1 u1 w)), .unset] [(.int (own_eq1 u1 w))])
          refine og_istore X796 383 #[.val (.int pa), .val (.int pb), .val (.int pp), .val (.int u0), .val (.int u1), .val (.int u2), .val (.int 3), .val (.int 1), .val (.ref b720), .val (.ref b728), .val (.ref b753), .val (.int 1), .val (.int (pp &&& (3 : Int32))), .val (.int w), .val (.int 1), .val (.int (own_eq1 u1 w)), .val (.int (own_eq1 u1 w))] at_381 rfl rfl ?_
          refine og_iload X796 385 at_383 rfl rfl ?_
          refine og_ifN X796 388 at_385 (XT.i0_eq_f (by decide)) rfl ?_
          refine og_iload X796 390 at_388 rfl rfl ?_
          refine og_iload X796 392 at_390 rfl rfl ?_
          refine og_icmpN X796 395 at_392 (XT.ii_ne_f (by rw [own_eq1, if_pos hc784])) rfl ?_
          refine og_iload X796 397 at_395 rfl rfl ?_
          refine og_iload X796 399 at_397 rfl rfl ?_
          refine og_icmpN X796 402 at_399 (XT.ii_ne_f (by rw [own_eq1, if_pos hc784])) rfl ?_
          refine og_iconst X796 403 (1 : Int32) at_402 rfl rfl ?_
          refine og_goto X796 407 at_403 (by decide) (by decide) ?_
          refine own_retZ X796 at_407 hret rfl (by decide) (by decide) ?_
          exact rfl
        · -- not
          refine og_icmpY X772 362 at_355 (XT.ii_ne_t hc784) (by decide) (by decide) ?_
          refine og_iconst X772 363 (0 : Int32) at_362 rfl rfl ?_
          refine og_istore X772 365 #[.val (.int pa), .val (.int pb), .val (.int pp), .val (.int u0), .val (.int u1), .val (.int u2), .val (.int 3), .val (.int 1), .val (.ref b720), .val (.ref b728), .val (.ref b753), .val (.int 1), .val (.int (pp &&& (3 : Int32))), .val (.int w), .val (.int 0), .unset, .unset] at_363 rfl rfl ?_
          refine og_aload X772 367 at_365 rfl rfl rfl ?_
          refine og_iload X772 369 at_367 rfl rfl ?_
          have f797 := f765.keep K769
          have f798 := f797.keep K772
          have f799 := f770.keep K772 nin0
          have f800 := f771.keep K772 nin0
          have f801 := f768.keep K769 (allS (Or.inl (Nat.le_trans (Nat.le_refl _) G753)) all0)
          have f802 := f801.keep K772 all0
          refine own_virt X772 372 (a := b753) (argsL := [(.int w)]) (rest := []) at_369 f798 (fun _ hZ => notFace_of_selects (args := #[]) (mvT hZ (ow hw 41 rfl))) (rm_nx3_1 l Z a0 hw n0 h772 hWd [] X772.old b753 b728 u0 u1 u2 w f799 f800 f802.top ) (ow hw 38 rfl) (ow hw 39 rfl) (ow hw 41 rfl) (ow hw 40 rfl) (ow hw 24 rfl) (ow hw 42 rfl) (by decide) (lenOf pd__28C_29Z rfl) rfl rfl rfl (W := 0) rfl (by decide) (by decide) (by decide) (by decide) all0 rfl ?_
          intro T803 h803 v803 X803 K803 hQ803
          obtain rfl := hQ803
          show OGo _ _ _ _ T803 (mkF m 372 #[.val (.int pa), .val (.int pb), .val (.int pp), .val (.int u0), .val (.int u1), .val (.int u2), .val (.int 3), .val (.int 1), .val (.ref b720), .val (.ref b728), .val (.ref b753), .val (.int 1), .val (.int (pp &&& (3 : Int32))), .val (.int w), .val (.int 0), .unset, .unset] [(.int (own_eq1 u1 w))])
          refine og_istore X803 374 #[.val (.int pa), .val (.int pb), .val (.int pp), .val (.int u0), .val (.int u1), .val (.int u2), .val (.int 3), .val (.int 1), .val (.ref b720), .val (.ref b728), .val (.ref b753), .val (.int 1), .val (.int (pp &&& (3 : Int32))), .val (.int w), .val (.int 0), .val (.int (own_eq1 u1 w)), .unset] at_372 rfl rfl ?_
          refine og_aload X803 376 at_374 rfl rfl rfl ?_
          refine og_iload X803 378 at_376 rfl rfl ?_
          have f804 := f798.keep K803
          have f805 := f799.keep K803 nin0
          have f806 := f800.keep K803 nin0
          have f807 := f802.keep K803 all0
          refine own_virt X803 381 (a := b753) (argsL := [(.int w)]) (rest := []) at_378 f804 (fun _ hZ => notFace_of_selects (args := #[]) (mvT hZ (ow hw 41 rfl))) (rm_nx3_1 l Z a0 hw n0 h803 hWd [] X803.old b753 b728 u0 u1 u2 w f805 f806 f807.top ) (ow hw 38 rfl) (ow hw 39 rfl) (ow hw 41 rfl) (ow hw 40 rfl) (ow hw 24 rfl) (ow hw 42 rfl) (by decide) (lenOf pd__28C_29Z rfl) rfl rfl rfl (W := 0) rfl (by decide) (by decide) (by decide) (by decide) all0 rfl ?_
          intro T808 h808 v808 X808 K808 hQ808
          obtain rfl := hQ808
          show OGo _ _ _ _ T808 (mkF m 381 #[.val (.int pa), .val (.int pb), .val (.int pp), .val (.int u0), .val (.int u1), .val (.int u2), .val (.int 3), .val (.int 1), .val (.ref b720), .val (.ref b728), .val (.ref b753), .val (.int 1), .val (.int (pp &&& (3 : Int32))), .val (.int w), .val (.int 0), .val (.int (own_eq1 u1 w)), .unset] [(.int (own_eq1 u1 w))])
          refine og_istore X808 383 #[.val (.int pa), .val (.int pb), .val (.int pp), .val (.int u0), .val (.int u1), .val (.int u2), .val (.int 3), .val (.int 1), .val (.ref b720), .val (.ref b728), .val (.ref b753), .val (.int 1), .val (.int (pp &&& (3 : Int32))), .val (.int w), .val (.int 0), .val (.int (own_eq1 u1 w)), .val (.int (own_eq1 u1 w))] at_381 rfl rfl ?_
          refine og_iload X808 385 at_383 rfl rfl ?_
          refine og_ifN X808 388 at_385 (XT.i0_eq_f (by decide)) rfl ?_
          refine og_iload X808 390 at_388 rfl rfl ?_
          refine og_iload X808 392 at_390 rfl rfl ?_
          refine og_icmpN X808 395 at_392 (XT.ii_ne_f (by rw [own_eq1, if_neg hc784])) rfl ?_
          refine og_iload X808 397 at_395 rfl rfl ?_
          refine og_iload X808 399 at_397 rfl rfl ?_
          refine og_icmpN X808 402 at_399 (XT.ii_ne_f (by rw [own_eq1, if_neg hc784])) rfl ?_
          refine og_iconst X808 403 (1 : Int32) at_402 rfl rfl ?_
          refine og_goto X808 407 at_403 (by decide) (by decide) ?_
          refine own_retZ X808 at_407 hret rfl (by decide) (by decide) ?_
          exact rfl
      · -- the ways to it
        intro J772
        refine og_iload X769 273 at_271 rfl rfl ?_
        by_cases hc809 : (pp &&& (3 : Int32)) = 0
        · -- (pp &&& (3 : Int32)) = 0
          refine og_ifN X769 276 at_273 (XT.i0_ne_f hc809) rfl ?_
          refine og_iloadN X769 277 at_276 rfl rfl ?_
          refine og_bipush X769 279 (16 : Int32) at_277 rfl rfl ?_
          refine og_iushr X769 280 at_279 rfl ?_
          refine og_i2c X769 281 at_280 rfl ?_
          refine og_istore X769 283 #[.val (.int pa), .val (.int pb), .val (.int pp), .val (.int u0), .val (.int u1), .val (.int u2), .val (.int 3), .val (.int 1), .val (.ref b720), .val (.ref b728), .val (.ref b753), .val (.int 1), .val (.int (pp &&& (3 : Int32))), .val (.int (((XT.ushr pp (16 : Int32))).toUInt32.toUInt16.toUInt32.toInt32)), .unset, .unset, .unset] at_281 rfl rfl ?_
          refine og_goto X769 341 at_283 (by decide) (by decide) ?_
          exact J772 _ _ X769 (Keep.refl _ _) (((XT.ushr pp (16 : Int32))).toUInt32.toUInt16.toUInt32.toInt32) trivial
        · -- not
          refine og_ifY X769 286 at_273 (XT.i0_ne_t hc809) (by decide) (by decide) ?_
          refine og_iload X769 288 at_286 rfl rfl ?_
          refine og_iconst X769 289 (1 : Int32) at_288 rfl rfl ?_
          by_cases hc810 : (pp &&& (3 : Int32)) = (1 : Int32)
          · -- (pp &&& (3 : Int32)) = (1 : Int32)
            refine og_icmpN X769 292 at_289 (XT.ii_ne_f hc810) rfl ?_
            refine og_aload X769 294 at_292 rfl rfl rfl ?_
            refine og_iload X769 296 at_294 rfl rfl ?_
            refine og_iconst X769 297 (2 : Int32) at_296 rfl rfl ?_
            refine own_stat X769 300 (argsL := [(.int 1), (.int 2)]) (rest := [(.ref b720)]) at_297 (rm_min0 l Z a0 hw n0 h769 hWd [] X769.old (1 : Int32) (2 : Int32) (by decide) ) (ow hw 34 rfl) (ow hw 35 rfl) (ow hw 36 rfl) (ow hw 37 rfl) (by decide) (lenOf pd__28II_29I rfl) rfl rfl rfl (W := 1) rfl (by decide) (by decide) (by decide) (by decide) all0 rfl ?_
            intro T811 h811 v811 X811 K811 hQ811
            obtain rfl := hQ811
            show OGo _ _ _ _ T811 (mkF m 300 #[.val (.int pa), .val (.int pb), .val (.int pp), .val (.int u0), .val (.int u1), .val (.int u2), .val (.int 3), .val (.int 1), .val (.ref b720), .val (.ref b728), .val (.ref b753), .val (.int 1), .val (.int (pp &&& (3 : Int32))), .unset, .unset, .unset, .unset] [(.int 1), (.ref b720)])
            have f812 := f727.keep K728 nin0
            have f813 := f812.keep K731 nin0
            have f814 := f813.keep K733 (ninS (Nat.ne_of_lt (Nat.lt_of_lt_of_le (Nat.lt_of_lt_of_le U720 (Nat.le_trans (Nat.le_trans (Nat.le_trans K722.1 K724.1) K726.1) K728.1)) G731)) nin0)
            have f815 := f814.keep K735 (ninS (Nat.ne_of_lt (Nat.lt_of_lt_of_le (Nat.lt_of_lt_of_le U720 (Nat.le_trans (Nat.le_trans (Nat.le_trans K722.1 K724.1) K726.1) K728.1)) G731)) nin0)
            have f816 := f815.keep K737 (ninS (Nat.ne_of_lt (Nat.lt_of_lt_of_le (Nat.lt_of_lt_of_le U720 (Nat.le_trans (Nat.le_trans (Nat.le_trans K722.1 K724.1) K726.1) K728.1)) G731)) nin0)
            have f817 := f816.keep K751 (ninS (Nat.ne_of_lt (Nat.lt_of_lt_of_le (Nat.lt_of_lt_of_le U720 (Nat.le_trans (Nat.le_trans K722.1 K724.1) K726.1)) G728)) nin0)
            have f818 := f817.keep K753 nin0
            have f819 := f818.keep K757 nin0
            have f820 := f819.keep K762 (ninS (Nat.ne_of_lt (Nat.lt_of_lt_of_le (Nat.lt_of_lt_of_le U720 (Nat.le_trans (Nat.le_trans (Nat.le_trans (Nat.le_trans (Nat.le_trans (Nat.le_trans (Nat.le_trans (Nat.le_trans K722.1 K724.1) K726.1) K728.1) K731.1) K733.1) K735.1) K737.1) K751.1)) G753)) nin0)
            have f821 := f820.keep K769 (ninS (Nat.ne_of_lt (Nat.lt_of_lt_of_le (Nat.lt_of_lt_of_le U720 (Nat.le_trans (Nat.le_trans (Nat.le_trans (Nat.le_trans (Nat.le_trans (Nat.le_trans (Nat.le_trans (Nat.le_trans K722.1 K724.1) K726.1) K728.1) K731.1) K733.1) K735.1) K737.1) K751.1)) G753)) nin0)
            have f822 := f821.keep K811 nin0
            refine own_ldC X811 301 at_300 f822 (by decide) (by decide) rfl rfl ?_
            refine og_istore X811 303 #[.val (.int pa), .val (.int pb), .val (.int pp), .val (.int u0), .val (.int u1), .val (.int u2), .val (.int 3), .val (.int 1), .val (.ref b720), .val (.ref b728), .val (.ref b753), .val (.int 1), .val (.int (pp &&& (3 : Int32))), .val (.int u1), .unset, .unset, .unset] at_301 rfl rfl ?_
            refine og_goto X811 341 at_303 (by decide) (by decide) ?_
            exact J772 _ _ X811 K811 u1 trivial
          · -- not
            refine og_icmpY X769 306 at_289 (XT.ii_ne_t hc810) (by decide) (by decide) ?_
            refine og_iload X769 308 at_306 rfl rfl ?_
            refine og_iconst X769 309 (2 : Int32) at_308 rfl rfl ?_
            by_cases hc823 : (pp &&& (3 : Int32)) = (2 : Int32)
            · -- (pp &&& (3 : Int32)) = (2 : Int32)
              refine og_icmpN X769 312 at_309 (XT.ii_ne_f hc823) rfl ?_
              refine og_aload X769 314 at_312 rfl rfl rfl ?_
              refine og_iload X769 316 at_314 rfl rfl ?_
              refine og_iconst X769 317 (1 : Int32) at_316 rfl rfl ?_
              refine og_iadd X769 318 at_317 rfl ?_
              show OGo _ _ _ _ T769 (mkF m 318 #[.val (.int pa), .val (.int pb), .val (.int pp), .val (.int u0), .val (.int u1), .val (.int u2), .val (.int 3), .val (.int 1), .val (.ref b720), .val (.ref b728), .val (.ref b753), .val (.int 1), .val (.int (pp &&& (3 : Int32))), .unset, .unset, .unset, .unset] [(.int 2), (.ref b720)])
              refine og_iconst X769 319 (2 : Int32) at_318 rfl rfl ?_
              refine own_stat X769 322 (argsL := [(.int 2), (.int 2)]) (rest := [(.ref b720)]) at_319 (rm_min0 l Z a0 hw n0 h769 hWd [] X769.old (2 : Int32) (2 : Int32) (by decide) ) (ow hw 34 rfl) (ow hw 35 rfl) (ow hw 36 rfl) (ow hw 37 rfl) (by decide) (lenOf pd__28II_29I rfl) rfl rfl rfl (W := 1) rfl (by decide) (by decide) (by decide) (by decide) all0 rfl ?_
              intro T824 h824 v824 X824 K824 hQ824
              obtain rfl := hQ824
              show OGo _ _ _ _ T824 (mkF m 322 #[.val (.int pa), .val (.int pb), .val (.int pp), .val (.int u0), .val (.int u1), .val (.int u2), .val (.int 3), .val (.int 1), .val (.ref b720), .val (.ref b728), .val (.ref b753), .val (.int 1), .val (.int (pp &&& (3 : Int32))), .unset, .unset, .unset, .unset] [(.int 2), (.ref b720)])
              have f825 := f727.keep K728 nin0
              have f826 := f825.keep K731 nin0
              have f827 := f826.keep K733 (ninS (Nat.ne_of_lt (Nat.lt_of_lt_of_le (Nat.lt_of_lt_of_le U720 (Nat.le_trans (Nat.le_trans (Nat.le_trans K722.1 K724.1) K726.1) K728.1)) G731)) nin0)
              have f828 := f827.keep K735 (ninS (Nat.ne_of_lt (Nat.lt_of_lt_of_le (Nat.lt_of_lt_of_le U720 (Nat.le_trans (Nat.le_trans (Nat.le_trans K722.1 K724.1) K726.1) K728.1)) G731)) nin0)
              have f829 := f828.keep K737 (ninS (Nat.ne_of_lt (Nat.lt_of_lt_of_le (Nat.lt_of_lt_of_le U720 (Nat.le_trans (Nat.le_trans (Nat.le_trans K722.1 K724.1) K726.1) K728.1)) G731)) nin0)
              have f830 := f829.keep K751 (ninS (Nat.ne_of_lt (Nat.lt_of_lt_of_le (Nat.lt_of_lt_of_le U720 (Nat.le_trans (Nat.le_trans K722.1 K724.1) K726.1)) G728)) nin0)
              have f831 := f830.keep K753 nin0
              have f832 := f831.keep K757 nin0
              have f833 := f832.keep K762 (ninS (Nat.ne_of_lt (Nat.lt_of_lt_of_le (Nat.lt_of_lt_of_le U720 (Nat.le_trans (Nat.le_trans (Nat.le_trans (Nat.le_trans (Nat.le_trans (Nat.le_trans (Nat.le_trans (Nat.le_trans K722.1 K724.1) K726.1) K728.1) K731.1) K733.1) K735.1) K737.1) K751.1)) G753)) nin0)
              have f834 := f833.keep K769 (ninS (Nat.ne_of_lt (Nat.lt_of_lt_of_le (Nat.lt_of_lt_of_le U720 (Nat.le_trans (Nat.le_trans (Nat.le_trans (Nat.le_trans (Nat.le_trans (Nat.le_trans (Nat.le_trans (Nat.le_trans K722.1 K724.1) K726.1) K728.1) K731.1) K733.1) K735.1) K737.1) K751.1)) G753)) nin0)
              have f835 := f834.keep K824 nin0
              refine own_ldC X824 323 at_322 f835 (by decide) (by decide) rfl rfl ?_
              refine og_istore X824 325 #[.val (.int pa), .val (.int pb), .val (.int pp), .val (.int u0), .val (.int u1), .val (.int u2), .val (.int 3), .val (.int 1), .val (.ref b720), .val (.ref b728), .val (.ref b753), .val (.int 1), .val (.int (pp &&& (3 : Int32))), .val (.int u2), .unset, .unset, .unset] at_323 rfl rfl ?_
              refine og_goto X824 341 at_325 (by decide) (by decide) ?_
              exact J772 _ _ X824 K824 u2 trivial
            · -- not
              refine og_icmpY X769 328 at_309 (XT.ii_ne_t hc823) (by decide) (by decide) ?_
              refine og_aload X769 330 at_328 rfl rfl rfl ?_
              refine og_iload X769 332 at_330 rfl rfl ?_
              refine og_iconst X769 333 (1 : Int32) at_332 rfl rfl ?_
              refine og_isub X769 334 at_333 rfl ?_
              show OGo _ _ _ _ T769 (mkF m 334 #[.val (.int pa), .val (.int pb), .val (.int pp), .val (.int u0), .val (.int u1), .val (.int u2), .val (.int 3), .val (.int 1), .val (.ref b720), .val (.ref b728), .val (.ref b753), .val (.int 1), .val (.int (pp &&& (3 : Int32))), .unset, .unset, .unset, .unset] [(.int 0), (.ref b720)])
              refine og_iconst X769 335 (0 : Int32) at_334 rfl rfl ?_
              refine own_stat X769 338 (argsL := [(.int 0), (.int 0)]) (rest := [(.ref b720)]) at_335 (rm_max0 l Z a0 hw n0 h769 hWd [] X769.old (0 : Int32) (0 : Int32) (by decide) ) (ow hw 56 rfl) (ow hw 57 rfl) (ow hw 36 rfl) (ow hw 58 rfl) (by decide) (lenOf pd__28II_29I rfl) rfl rfl rfl (W := 1) rfl (by decide) (by decide) (by decide) (by decide) all0 rfl ?_
              intro T836 h836 v836 X836 K836 hQ836
              obtain rfl := hQ836
              show OGo _ _ _ _ T836 (mkF m 338 #[.val (.int pa), .val (.int pb), .val (.int pp), .val (.int u0), .val (.int u1), .val (.int u2), .val (.int 3), .val (.int 1), .val (.ref b720), .val (.ref b728), .val (.ref b753), .val (.int 1), .val (.int (pp &&& (3 : Int32))), .unset, .unset, .unset, .unset] [(.int 0), (.ref b720)])
              have f837 := f727.keep K728 nin0
              have f838 := f837.keep K731 nin0
              have f839 := f838.keep K733 (ninS (Nat.ne_of_lt (Nat.lt_of_lt_of_le (Nat.lt_of_lt_of_le U720 (Nat.le_trans (Nat.le_trans (Nat.le_trans K722.1 K724.1) K726.1) K728.1)) G731)) nin0)
              have f840 := f839.keep K735 (ninS (Nat.ne_of_lt (Nat.lt_of_lt_of_le (Nat.lt_of_lt_of_le U720 (Nat.le_trans (Nat.le_trans (Nat.le_trans K722.1 K724.1) K726.1) K728.1)) G731)) nin0)
              have f841 := f840.keep K737 (ninS (Nat.ne_of_lt (Nat.lt_of_lt_of_le (Nat.lt_of_lt_of_le U720 (Nat.le_trans (Nat.le_trans (Nat.le_trans K722.1 K724.1) K726.1) K728.1)) G731)) nin0)
              have f842 := f841.keep K751 (ninS (Nat.ne_of_lt (Nat.lt_of_lt_of_le (Nat.lt_of_lt_of_le U720 (Nat.le_trans (Nat.le_trans K722.1 K724.1) K726.1)) G728)) nin0)
              have f843 := f842.keep K753 nin0
              have f844 := f843.keep K757 nin0
              have f845 := f844.keep K762 (ninS (Nat.ne_of_lt (Nat.lt_of_lt_of_le (Nat.lt_of_lt_of_le U720 (Nat.le_trans (Nat.le_trans (Nat.le_trans (Nat.le_trans (Nat.le_trans (Nat.le_trans (Nat.le_trans (Nat.le_trans K722.1 K724.1) K726.1) K728.1) K731.1) K733.1) K735.1) K737.1) K751.1)) G753)) nin0)
              have f846 := f845.keep K769 (ninS (Nat.ne_of_lt (Nat.lt_of_lt_of_le (Nat.lt_of_lt_of_le U720 (Nat.le_trans (Nat.le_trans (Nat.le_trans (Nat.le_trans (Nat.le_trans (Nat.le_trans (Nat.le_trans (Nat.le_trans K722.1 K724.1) K726.1) K728.1) K731.1) K733.1) K735.1) K737.1) K751.1)) G753)) nin0)
              have f847 := f846.keep K836 nin0
              refine own_ldC X836 339 at_338 f847 (by decide) (by decide) rfl rfl ?_
              refine og_istore X836 341 #[.val (.int pa), .val (.int pb), .val (.int pp), .val (.int u0), .val (.int u1), .val (.int u2), .val (.int 3), .val (.int 1), .val (.ref b720), .val (.ref b728), .val (.ref b753), .val (.int 1), .val (.int (pp &&& (3 : Int32))), .val (.int u0), .unset, .unset, .unset] at_339 rfl rfl ?_
              exact J772 _ _ X836 K836 u0 trivial
    · -- 2
      rw [eQ]
      refine og_iconst X0 36 (3 : Int32) at_35 rfl rfl ?_
      refine own_arr X0 38 at_36 (ow hw 0 rfl) (by decide) (cap := 3) (by decide) (by decide) (by decide) (by decide) rfl ?_
      intro T848 h848 b848 kb848 X848 K848 G848 U848 A848
      have f849 : Arv Z h848 b848 kb848 .char (3 : Int32) [(.int 0), (.int 0), (.int 0)] (.int 0) := A848
      refine og_dup X848 39 at_38 rfl rfl ?_
      refine og_iconst X848 40 (0 : Int32) at_39 rfl rfl ?_
      refine og_iloadN X848 41 at_40 rfl rfl ?_
      refine own_stC X848 42 at_41 f849 (own_nch B_u0.1 B_u0.2) (by decide) (by decide) (i := 0) (by decide) (Nat.le_of_ble_eq_true rfl) (om 0 rfl) rfl ?_
      intro T850 h850 X850 W850 K850 A850
      have f851 : Arv Z h850 b848 kb848 .char (3 : Int32) [(.int u0), (.int 0), (.int 0)] (.int 0) := A850
      refine og_dup X850 43 at_42 rfl rfl ?_
      refine og_iconst X850 44 (1 : Int32) at_43 rfl rfl ?_
      refine og_iload X850 46 at_44 rfl rfl ?_
      refine own_stC X850 47 at_46 f851 (own_nch B_u1.1 B_u1.2) (by decide) (by decide) (i := 1) (by decide) (Nat.le_of_ble_eq_true rfl) (om 0 rfl) rfl ?_
      intro T852 h852 X852 W852 K852 A852
      have f853 : Arv Z h852 b848 kb848 .char (3 : Int32) [(.int u0), (.int u1), (.int 0)] (.int 0) := A852
      refine og_dup X852 48 at_47 rfl rfl ?_
      refine og_iconst X852 49 (2 : Int32) at_48 rfl rfl ?_
      refine og_iload X852 51 at_49 rfl rfl ?_
      refine own_stC X852 52 at_51 f853 (own_nch B_u2.1 B_u2.2) (by decide) (by decide) (i := 2) (by decide) (Nat.le_of_ble_eq_true rfl) (om 0 rfl) rfl ?_
      intro T854 h854 X854 W854 K854 A854
      have f855 : Arv Z h854 b848 kb848 .char (3 : Int32) [(.int u0), (.int u1), (.int u2)] (.int 0) := A854
      refine og_astore X854 54 #[.val (.int pa), .val (.int pb), .val (.int pp), .val (.int u0), .val (.int u1), .val (.int u2), .val (.int 3), .val (.int 2), .val (.ref b848), .unset, .unset, .unset, .unset, .unset, .unset, .unset, .unset] at_52 rfl rfl rfl ?_
      refine og_iload X854 56 at_54 rfl rfl ?_
      refine og_ifY X854 74 at_56 (XT.i0_ne_t (by decide)) (by decide) (by decide) ?_
      refine og_iload X854 76 at_74 rfl rfl ?_
      refine og_iconst X854 77 (1 : Int32) at_76 rfl rfl ?_
      refine og_icmpY X854 99 at_77 (XT.ii_ne_t (by decide)) (by decide) (by decide) ?_
      refine og_iload X854 101 at_99 rfl rfl ?_
      refine og_iconst X854 102 (2 : Int32) at_101 rfl rfl ?_
      refine og_icmpY X854 129 at_102 (XT.ii_ne_t (by decide)) (by decide) (by decide) ?_
      refine own_new X854 132 at_129 (ow hw 1 rfl) (ow hw 2 rfl) (ow hw 3 rfl) (by decide) (by decide) rfl ?_
      intro T856 h856 b856 X856 K856 G856 U856 E856 D856
      have f857 : Fld Z h856 b856 "java/lang/String" "value" "[B" .null := D856 (Or.inr (ow hw 16 rfl)) (ty := (.array .byte)) (by decide)
      have f858 : Fld Z h856 b856 "java/lang/String" "coder" "B" (.int 0) := D856 (Or.inr (ow hw 17 rfl)) (ty := .byte) (by decide)
      refine og_dup X856 133 at_132 rfl rfl ?_
      refine og_iconst X856 134 (3 : Int32) at_133 rfl rfl ?_
      refine own_arr X856 136 at_134 (ow hw 0 rfl) (by decide) (cap := 3) (by decide) (by decide) (by decide) (by decide) rfl ?_
      intro T859 h859 b859 kb859 X859 K859 G859 U859 A859
      have f860 : Arv Z h859 b859 kb859 .char (3 : Int32) [(.int 0), (.int 0), (.int 0)] (.int 0) := A859
      refine og_dup X859 137 at_136 rfl rfl ?_
      refine og_iconst X859 138 (0 : Int32) at_137 rfl rfl ?_
      refine og_iloadN X859 139 at_138 rfl rfl ?_
      refine own_stC X859 140 at_139 f860 (own_nch B_u0.1 B_u0.2) (by decide) (by decide) (i := 0) (by decide) (Nat.le_of_ble_eq_true rfl) (om 0 rfl) rfl ?_
      intro T861 h861 X861 W861 K861 A861
      have f862 : Arv Z h861 b859 kb859 .char (3 : Int32) [(.int u0), (.int 0), (.int 0)] (.int 0) := A861
      refine og_dup X861 141 at_140 rfl rfl ?_
      refine og_iconst X861 142 (1 : Int32) at_141 rfl rfl ?_
      refine og_iload X861 144 at_142 rfl rfl ?_
      refine own_stC X861 145 at_144 f862 (own_nch B_u1.1 B_u1.2) (by decide) (by decide) (i := 1) (by decide) (Nat.le_of_ble_eq_true rfl) (om 0 rfl) rfl ?_
      intro T863 h863 X863 W863 K863 A863
      have f864 : Arv Z h863 b859 kb859 .char (3 : Int32) [(.int u0), (.int u1), (.int 0)] (.int 0) := A863
      refine og_dup X863 146 at_145 rfl rfl ?_
      refine og_iconst X863 147 (2 : Int32) at_146 rfl rfl ?_
      refine og_iload X863 149 at_147 rfl rfl ?_
      refine own_stC X863 150 at_149 f864 (own_nch B_u2.1 B_u2.2) (by decide) (by decide) (i := 2) (by decide) (Nat.le_of_ble_eq_true rfl) (om 0 rfl) rfl ?_
      intro T865 h865 X865 W865 K865 A865
      have f866 : Arv Z h865 b859 kb859 .char (3 : Int32) [(.int u0), (.int u1), (.int u2)] (.int 0) := A865
      have f867 := E856.keep K859
      have f868 := f867.keep K861
      have f869 := f868.keep K863
      have f870 := f869.keep K865
      have f871 := f857.keep K859 nin0
      have f872 := f871.keep K861 (ninS (Nat.ne_of_lt (Nat.lt_of_lt_of_le U856 G859)) nin0)
      have f873 := f872.keep K863 (ninS (Nat.ne_of_lt (Nat.lt_of_lt_of_le U856 G859)) nin0)
      have f874 := f873.keep K865 (ninS (Nat.ne_of_lt (Nat.lt_of_lt_of_le U856 G859)) nin0)
      have f875 := f858.keep K859 nin0
      have f876 := f875.keep K861 (ninS (Nat.ne_of_lt (Nat.lt_of_lt_of_le U856 G859)) nin0)
      have f877 := f876.keep K863 (ninS (Nat.ne_of_lt (Nat.lt_of_lt_of_le U856 G859)) nin0)
      have f878 := f877.keep K865 (ninS (Nat.ne_of_lt (Nat.lt_of_lt_of_le U856 G859)) nin0)
      refine own_spec X865 153 (a := b856) (argsL := [(.ref b859)]) (rest := [(.ref b856)]) at_150 rfl (ru_ini3 l Z a0 hw n0 h865 hWd [] X865.old b856 b859 .null (0 : Int32) kb859 (.int 0) u0 u1 u2 f870 f874 f878 f866 B_u0.1 B_u0.2 B_u1.1 B_u1.2 B_u2.1 B_u2.2 (own_svb X865 (om 1 rfl))) (ow hw 4 rfl) (ow hw 5 rfl) (ow hw 3 rfl) (ow hw 6 rfl) (by decide) (lenOf pd__28_5bC_29V rfl) rfl rfl rfl (W := 1) rfl (by decide) (by decide) (by decide) (by decide) (allS (om 1 rfl) all0) rfl ?_
      intro T879 h879 v879 X879 K879 hQ879
      obtain ⟨rfl, f880⟩ := hQ879
      show OGo _ _ _ _ T879 (mkF m 153 #[.val (.int pa), .val (.int pb), .val (.int pp), .val (.int u0), .val (.int u1), .val (.int u2), .val (.int 3), .val (.int 2), .val (.ref b848), .unset, .unset, .unset, .unset, .unset, .unset, .unset, .unset] [(.ref b856)])
      refine og_astore X879 155 #[.val (.int pa), .val (.int pb), .val (.int pp), .val (.int u0), .val (.int u1), .val (.int u2), .val (.int 3), .val (.int 2), .val (.ref b848), .val (.ref b856), .unset, .unset, .unset, .unset, .unset, .unset, .unset] at_153 rfl rfl rfl ?_
      refine own_new X879 158 at_155 (ow hw 22 rfl) (ow hw 23 rfl) (ow hw 24 rfl) (by decide) (by decide) rfl ?_
      intro T881 h881 b881 X881 K881 G881 U881 E881 D881
      have f882 : Fld Z h881 b881 "com/example/bote/bote/fields/FieldCursor" "text" "Ljava/lang/String;" .null := D881 (Or.inr (ow hw 31 rfl)) (ty := (.object "java/lang/String")) (by decide)
      have f883 : Fld Z h881 b881 "com/example/bote/bote/fields/FieldCursor" "shape" "Ljava/lang/String;" .null := D881 (Or.inr (ow hw 33 rfl)) (ty := (.object "java/lang/String")) (by decide)
      have f884 : Fld Z h881 b881 "com/example/bote/bote/fields/FieldCursor" "at" "I" (.int 0) := D881 (Or.inl (ow hw 44 rfl)) (ty := .int) (by decide)
      refine og_dup X881 159 at_158 rfl rfl ?_
      refine og_aload X881 161 at_159 rfl rfl rfl ?_
      refine own_ldcO X881 163 (cap := 20) at_161 own_ELne (ow hw 25 rfl) (own_wS hw) (by decide) (by decide) (by decide) (by decide) rfl ?_
      intro T885 h885 a885 X885 K885
      have f886 := E881.keep K885
      have f887 := f882.keep K885 nin0
      have f888 := f883.keep K885 nin0
      have f889 := f884.keep K885 nin0
      refine own_spec X885 166 (a := b881) (argsL := [(.ref b856), (.ref a885)]) (rest := [(.ref b881)]) at_163 rfl (rm4 l Z a0 hw n0 h885 hWd [] X885.old b881 b856 a885 f886 f887 f888 f889 (own_svb X885 (om 0 rfl))) (ow hw 26 rfl) (ow hw 27 rfl) (ow hw 24 rfl) (ow hw 28 rfl) (by decide) (lenOf pd__28Ljava_2flang_2fString_3bLjava_2flang_2fString_3b_29V rfl) rfl rfl rfl (W := 1) rfl (by decide) (by decide) (by decide) (by decide) (allS (om 0 rfl) all0) rfl ?_
      intro T890 h890 v890 X890 K890 hQ890
      obtain ⟨rfl, f891, f892⟩ := hQ890
      show OGo _ _ _ _ T890 (mkF m 166 #[.val (.int pa), .val (.int pb), .val (.int pp), .val (.int u0), .val (.int u1), .val (.int u2), .val (.int 3), .val (.int 2), .val (.ref b848), .val (.ref b856), .unset, .unset, .unset, .unset, .unset, .unset, .unset] [(.ref b881)])
      refine og_astore X890 168 #[.val (.int pa), .val (.int pb), .val (.int pp), .val (.int u0), .val (.int u1), .val (.int u2), .val (.int 3), .val (.int 2), .val (.ref b848), .val (.ref b856), .val (.ref b881), .unset, .unset, .unset, .unset, .unset, .unset] at_166 rfl rfl rfl ?_
      refine og_iconst X890 169 (1 : Int32) at_168 rfl rfl ?_
      refine og_istore X890 171 #[.val (.int pa), .val (.int pb), .val (.int pp), .val (.int u0), .val (.int u1), .val (.int u2), .val (.int 3), .val (.int 2), .val (.ref b848), .val (.ref b856), .val (.ref b881), .val (.int 1), .unset, .unset, .unset, .unset, .unset] at_169 rfl rfl ?_
      refine og_iload X890 173 at_171 rfl rfl ?_
      refine og_iconst X890 174 (1 : Int32) at_173 rfl rfl ?_
      refine og_icmpN X890 177 at_174 (XT.ii_lt_f (by decide)) rfl ?_
      refine og_aload X890 179 at_177 rfl rfl rfl ?_
      refine og_iloadN X890 180 at_179 rfl rfl ?_
      have f893 := f886.keep K890
      have f894 := f880.keep K881 all0
      have f895 := f894.keep K885 all0
      have f896 := f895.keep K890 (allS (Or.inl (Nat.le_trans (Nat.le_refl _) G881)) all0)
      refine own_virt X890 183 (a := b881) (argsL := [(.int u0)]) (rest := []) at_180 f893 (fun _ hZ => notFace_of_selects (args := #[]) (mvT hZ (ow hw 91 rfl))) (rm_tk3_0 l Z a0 hw n0 h890 hWd [] X890.old b881 b856 u0 u1 u2 f893 f891 f892 f896.top (own_svb X890 (om 0 rfl))) (ow hw 88 rfl) (ow hw 89 rfl) (ow hw 91 rfl) (ow hw 90 rfl) (ow hw 24 rfl) (ow hw 92 rfl) (by decide) (lenOf pd__28C_29Z rfl) rfl rfl rfl (W := 0) rfl (by decide) (by decide) (by decide) (by decide) (allS (om 0 rfl) all0) rfl ?_
      intro T897 h897 v897 X897 K897 hQ897
      obtain ⟨rfl, f898, f899⟩ := hQ897
      show OGo _ _ _ _ T897 (mkF m 183 #[.val (.int pa), .val (.int pb), .val (.int pp), .val (.int u0), .val (.int u1), .val (.int u2), .val (.int 3), .val (.int 2), .val (.ref b848), .val (.ref b856), .val (.ref b881), .val (.int 1), .unset, .unset, .unset, .unset, .unset] [(.int 1)])
      refine og_istore X897 185 #[.val (.int pa), .val (.int pb), .val (.int pp), .val (.int u0), .val (.int u1), .val (.int u2), .val (.int 3), .val (.int 2), .val (.ref b848), .val (.ref b856), .val (.ref b881), .val (.int 1), .val (.int 1), .unset, .unset, .unset, .unset] at_183 rfl rfl ?_
      refine og_iload X897 187 at_185 rfl rfl ?_
      refine og_ifN X897 190 at_187 (XT.i0_eq_f (by decide)) rfl ?_
      refine og_iload X897 192 at_190 rfl rfl ?_
      refine og_ifN X897 195 at_192 (XT.i0_eq_f (by decide)) rfl ?_
      refine og_iconst X897 196 (1 : Int32) at_195 rfl rfl ?_
      refine og_goto X897 200 at_196 (by decide) (by decide) ?_
      refine og_istore X897 202 #[.val (.int pa), .val (.int pb), .val (.int pp), .val (.int u0), .val (.int u1), .val (.int u2), .val (.int 3), .val (.int 2), .val (.ref b848), .val (.ref b856), .val (.ref b881), .val (.int 1), .val (.int 1), .unset, .unset, .unset, .unset] at_200 rfl rfl ?_
      refine og_iload X897 204 at_202 rfl rfl ?_
      refine og_iconst X897 205 (2 : Int32) at_204 rfl rfl ?_
      refine og_icmpN X897 208 at_205 (XT.ii_lt_f (by decide)) rfl ?_
      refine og_aload X897 210 at_208 rfl rfl rfl ?_
      refine og_iload X897 212 at_210 rfl rfl ?_
      have f900 := f893.keep K897
      have f901 := f896.keep K897 (allS (Or.inl (Nat.le_trans (Nat.le_refl _) G881)) all0)
      refine own_virt X897 215 (a := b881) (argsL := [(.int u1)]) (rest := []) at_212 f900 (fun _ hZ => notFace_of_selects (args := #[]) (mvT hZ (ow hw 91 rfl))) (rm_tk3_1 l Z a0 hw n0 h897 hWd [] X897.old b881 b856 u0 u1 u2 f900 f898 f899 f901.top (own_svb X897 (om 0 rfl))) (ow hw 88 rfl) (ow hw 89 rfl) (ow hw 91 rfl) (ow hw 90 rfl) (ow hw 24 rfl) (ow hw 92 rfl) (by decide) (lenOf pd__28C_29Z rfl) rfl rfl rfl (W := 0) rfl (by decide) (by decide) (by decide) (by decide) (allS (om 0 rfl) all0) rfl ?_
      intro T902 h902 v902 X902 K902 hQ902
      obtain ⟨rfl, f903, f904⟩ := hQ902
      show OGo _ _ _ _ T902 (mkF m 215 #[.val (.int pa), .val (.int pb), .val (.int pp), .val (.int u0), .val (.int u1), .val (.int u2), .val (.int 3), .val (.int 2), .val (.ref b848), .val (.ref b856), .val (.ref b881), .val (.int 1), .val (.int 1), .unset, .unset, .unset, .unset] [(.int 1)])
      refine og_istore X902 217 #[.val (.int pa), .val (.int pb), .val (.int pp), .val (.int u0), .val (.int u1), .val (.int u2), .val (.int 3), .val (.int 2), .val (.ref b848), .val (.ref b856), .val (.ref b881), .val (.int 1), .val (.int 1), .unset, .unset, .unset, .unset] at_215 rfl rfl ?_
      refine og_iload X902 219 at_217 rfl rfl ?_
      refine og_ifN X902 222 at_219 (XT.i0_eq_f (by decide)) rfl ?_
      refine og_iload X902 224 at_222 rfl rfl ?_
      refine og_ifN X902 227 at_224 (XT.i0_eq_f (by decide)) rfl ?_
      refine og_iconst X902 228 (1 : Int32) at_227 rfl rfl ?_
      refine og_goto X902 232 at_228 (by decide) (by decide) ?_
      refine og_istore X902 234 #[.val (.int pa), .val (.int pb), .val (.int pp), .val (.int u0), .val (.int u1), .val (.int u2), .val (.int 3), .val (.int 2), .val (.ref b848), .val (.ref b856), .val (.ref b881), .val (.int 1), .val (.int 1), .unset, .unset, .unset, .unset] at_232 rfl rfl ?_
      refine og_iload X902 236 at_234 rfl rfl ?_
      refine og_iconst X902 237 (3 : Int32) at_236 rfl rfl ?_
      refine og_icmpY X902 266 at_237 (XT.ii_lt_t (by decide)) (by decide) (by decide) ?_
      refine og_iloadN X902 267 at_266 rfl rfl ?_
      refine og_iconst X902 268 (3 : Int32) at_267 rfl rfl ?_
      refine og_iand X902 269 at_268 rfl ?_
      refine og_istore X902 271 #[.val (.int pa), .val (.int pb), .val (.int pp), .val (.int u0), .val (.int u1), .val (.int u2), .val (.int 3), .val (.int 2), .val (.ref b848), .val (.ref b856), .val (.ref b881), .val (.int 1), .val (.int (pp &&& (3 : Int32))), .unset, .unset, .unset, .unset] at_269 rfl rfl ?_
      refine own_cut X902 341 (fun (w : Int32) => #[.val (.int pa), .val (.int pb), .val (.int pp), .val (.int u0), .val (.int u1), .val (.int u2), .val (.int 3), .val (.int 2), .val (.ref b848), .val (.ref b856), .val (.ref b881), .val (.int 1), .val (.int (pp &&& (3 : Int32))), .val (.int w), .unset, .unset, .unset]) (fun _ => []) (fun w => True) ?_ ?_
      · -- the common way on
        intro T905 h905 X905 K905 w ok905
        show OGo _ _ _ _ T905 (mkF m 341 #[.val (.int pa), .val (.int pb), .val (.int pp), .val (.int u0), .val (.int u1), .val (.int u2), .val (.int 3), .val (.int 2), .val (.ref b848), .val (.ref b856), .val (.ref b881), .val (.int 1), .val (.int (pp &&& (3 : Int32))), .val (.int w), .unset, .unset, .unset] [])
        refine og_iload X905 343 at_341 rfl rfl ?_
        refine og_iload X905 345 at_343 rfl rfl ?_
        refine og_icmpN X905 348 at_345 (XT.ii_ge_f (by decide)) rfl ?_
        refine og_aload X905 350 at_348 rfl rfl rfl ?_
        refine og_iload X905 352 at_350 rfl rfl ?_
        have f906 := f855.keep K856 nin0
        have f907 := f906.keep K859 nin0
        have f908 := f907.keep K861 (ninS (Nat.ne_of_lt (Nat.lt_of_lt_of_le (Nat.lt_of_lt_of_le U848 (Nat.le_trans (Nat.le_trans (Nat.le_trans K850.1 K852.1) K854.1) K856.1)) G859)) nin0)
        have f909 := f908.keep K863 (ninS (Nat.ne_of_lt (Nat.lt_of_lt_of_le (Nat.lt_of_lt_of_le U848 (Nat.le_trans (Nat.le_trans (Nat.le_trans K850.1 K852.1) K854.1) K856.1)) G859)) nin0)
        have f910 := f909.keep K865 (ninS (Nat.ne_of_lt (Nat.lt_of_lt_of_le (Nat.lt_of_lt_of_le U848 (Nat.le_trans (Nat.le_trans (Nat.le_trans K850.1 K852.1) K854.1) K856.1)) G859)) nin0)
        have f911 := f910.keep K879 (ninS (Nat.ne_of_lt (Nat.lt_of_lt_of_le (Nat.lt_of_lt_of_le U848 (Nat.le_trans (Nat.le_trans K850.1 K852.1) K854.1)) G856)) nin0)
        have f912 := f911.keep K881 nin0
        have f913 := f912.keep K885 nin0
        have f914 := f913.keep K890 (ninS (Nat.ne_of_lt (Nat.lt_of_lt_of_le (Nat.lt_of_lt_of_le U848 (Nat.le_trans (Nat.le_trans (Nat.le_trans (Nat.le_trans (Nat.le_trans (Nat.le_trans (Nat.le_trans (Nat.le_trans K850.1 K852.1) K854.1) K856.1) K859.1) K861.1) K863.1) K865.1) K879.1)) G881)) nin0)
        have f915 := f914.keep K897 (ninS (Nat.ne_of_lt (Nat.lt_of_lt_of_le (Nat.lt_of_lt_of_le U848 (Nat.le_trans (Nat.le_trans (Nat.le_trans (Nat.le_trans (Nat.le_trans (Nat.le_trans (Nat.le_trans (Nat.le_trans K850.1 K852.1) K854.1) K856.1) K859.1) K861.1) K863.1) K865.1) K879.1)) G881)) nin0)
        have f916 := f915.keep K902 (ninS (Nat.ne_of_lt (Nat.lt_of_lt_of_le (Nat.lt_of_lt_of_le U848 (Nat.le_trans (Nat.le_trans (Nat.le_trans (Nat.le_trans (Nat.le_trans (Nat.le_trans (Nat.le_trans (Nat.le_trans K850.1 K852.1) K854.1) K856.1) K859.1) K861.1) K863.1) K865.1) K879.1)) G881)) nin0)
        have f917 := f916.keep K905 nin0
        refine own_ldC X905 353 at_352 f917 (by decide) (by decide) rfl rfl ?_
        refine og_iload X905 355 at_353 rfl rfl ?_
        by_cases hc918 : u2 = w
        · -- u2 = w
          refine og_icmpN X905 358 at_355 (XT.ii_ne_f hc918) rfl ?_
          refine og_iconst X905 359 (1 : Int32) at_358 rfl rfl ?_
          refine og_goto X905 363 at_359 (by decide) (by decide) ?_
          refine og_istore X905 365 #[.val (.int pa), .val (.int pb), .val (.int pp), .val (.int u0), .val (.int u1), .val (.int u2), .val (.int 3), .val (.int 2), .val (.ref b848), .val (.ref b856), .val (.ref b881), .val (.int 1), .val (.int (pp &&& (3 : Int32))), .val (.int w), .val (.int 1), .unset, .unset] at_363 rfl rfl ?_
          refine og_aload X905 367 at_365 rfl rfl rfl ?_
          refine og_iload X905 369 at_367 rfl rfl ?_
          have f919 := f900.keep K902
          have f920 := f919.keep K905
          have f921 := f903.keep K905 nin0
          have f922 := f904.keep K905 nin0
          have f923 := f901.keep K902 (allS (Or.inl (Nat.le_trans (Nat.le_refl _) G881)) all0)
          have f924 := f923.keep K905 all0
          refine own_virt X905 372 (a := b881) (argsL := [(.int w)]) (rest := []) at_369 f920 (fun _ hZ => notFace_of_selects (args := #[]) (mvT hZ (ow hw 41 rfl))) (rm_nx3_2 l Z a0 hw n0 h905 hWd [] X905.old b881 b856 u0 u1 u2 w f921 f922 f924.top ) (ow hw 38 rfl) (ow hw 39 rfl) (ow hw 41 rfl) (ow hw 40 rfl) (ow hw 24 rfl) (ow hw 42 rfl) (by decide) (lenOf pd__28C_29Z rfl) rfl rfl rfl (W := 0) rfl (by decide) (by decide) (by decide) (by decide) all0 rfl ?_
          intro T925 h925 v925 X925 K925 hQ925
          obtain rfl := hQ925
          show OGo _ _ _ _ T925 (mkF m 372 #[.val (.int pa), .val (.int pb), .val (.int pp), .val (.int u0), .val (.int u1), .val (.int u2), .val (.int 3), .val (.int 2), .val (.ref b848), .val (.ref b856), .val (.ref b881), .val (.int 1), .val (.int (pp &&& (3 : Int32))), .val (.int w), .val (.int 1), .unset, .unset] [(.int (own_eq1 u2 w))])
          refine og_istore X925 374 #[.val (.int pa), .val (.int pb), .val (.int pp), .val (.int u0), .val (.int u1), .val (.int u2), .val (.int 3), .val (.int 2), .val (.ref b848), .val (.ref b856), .val (.ref b881), .val (.int 1), .val (.int (pp &&& (3 : Int32))), .val (.int w), .val (.int 1), .val (.int (own_eq1 u2 w)), .unset] at_372 rfl rfl ?_
          refine og_aload X925 376 at_374 rfl rfl rfl ?_
          refine og_iload X925 378 at_376 rfl rfl ?_
          have f926 := f920.keep K925
          have f927 := f921.keep K925 nin0
          have f928 := f922.keep K925 nin0
          have f929 := f924.keep K925 all0
          refine own_virt X925 381 (a := b881) (argsL := [(.int w)]) (rest := []) at_378 f926 (fun _ hZ => notFace_of_selects (args := #[]) (mvT hZ (ow hw 41 rfl))) (rm_nx3_2 l Z a0 hw n0 h925 hWd [] X925.old b881 b856 u0 u1 u2 w f927 f928 f929.top ) (ow hw 38 rfl) (ow hw 39 rfl) (ow hw 41 rfl) (ow hw 40 rfl) (ow hw 24 rfl) (ow hw 42 rfl) (by decide) (lenOf pd__28C_29Z rfl) rfl rfl rfl (W := 0) rfl (by decide) (by decide) (by decide) (by decide) all0 rfl ?_
          intro T930 h930 v930 X930 K930 hQ930
          obtain rfl := hQ930
          show OGo _ _ _ _ T930 (mkF m 381 #[.val (.int pa), .val (.int pb), .val (.int pp), .val (.int u0), .val (.int u1), .val (.int u2), .val (.int 3), .val (.int 2), .val (.ref b848), .val (.ref b856), .val (.ref b881), .val (.int 1), .val (.int (pp &&& (3 : Int32))), .val (.int w), .val (.int 1), .val (.int (own_eq1 u2 w)), .unset] [(.int (own_eq1 u2 w))])
          refine og_istore X930 383 #[.val (.int pa), .val (.int pb), .val (.int pp), .val (.int u0), .val (.int u1), .val (.int u2), .val (.int 3), .val (.int 2), .val (.ref b848), .val (.ref b856), .val (.ref b881), .val (.int 1), .val (.int (pp &&& (3 : Int32))), .val (.int w), .val (.int 1), .val (.int (own_eq1 u2 w)), .val (.int (own_eq1 u2 w))] at_381 rfl rfl ?_
          refine og_iload X930 385 at_383 rfl rfl ?_
          refine og_ifN X930 388 at_385 (XT.i0_eq_f (by decide)) rfl ?_
          refine og_iload X930 390 at_388 rfl rfl ?_
          refine og_iload X930 392 at_390 rfl rfl ?_
          refine og_icmpN X930 395 at_392 (XT.ii_ne_f (by rw [own_eq1, if_pos hc918])) rfl ?_
          refine og_iload X930 397 at_395 rfl rfl ?_
          refine og_iload X930 399 at_397 rfl rfl ?_
          refine og_icmpN X930 402 at_399 (XT.ii_ne_f (by rw [own_eq1, if_pos hc918])) rfl ?_
          refine og_iconst X930 403 (1 : Int32) at_402 rfl rfl ?_
          refine og_goto X930 407 at_403 (by decide) (by decide) ?_
          refine own_retZ X930 at_407 hret rfl (by decide) (by decide) ?_
          exact rfl
        · -- not
          refine og_icmpY X905 362 at_355 (XT.ii_ne_t hc918) (by decide) (by decide) ?_
          refine og_iconst X905 363 (0 : Int32) at_362 rfl rfl ?_
          refine og_istore X905 365 #[.val (.int pa), .val (.int pb), .val (.int pp), .val (.int u0), .val (.int u1), .val (.int u2), .val (.int 3), .val (.int 2), .val (.ref b848), .val (.ref b856), .val (.ref b881), .val (.int 1), .val (.int (pp &&& (3 : Int32))), .val (.int w), .val (.int 0), .unset, .unset] at_363 rfl rfl ?_
          refine og_aload X905 367 at_365 rfl rfl rfl ?_
          refine og_iload X905 369 at_367 rfl rfl ?_
          have f931 := f900.keep K902
          have f932 := f931.keep K905
          have f933 := f903.keep K905 nin0
          have f934 := f904.keep K905 nin0
          have f935 := f901.keep K902 (allS (Or.inl (Nat.le_trans (Nat.le_refl _) G881)) all0)
          have f936 := f935.keep K905 all0
          refine own_virt X905 372 (a := b881) (argsL := [(.int w)]) (rest := []) at_369 f932 (fun _ hZ => notFace_of_selects (args := #[]) (mvT hZ (ow hw 41 rfl))) (rm_nx3_2 l Z a0 hw n0 h905 hWd [] X905.old b881 b856 u0 u1 u2 w f933 f934 f936.top ) (ow hw 38 rfl) (ow hw 39 rfl) (ow hw 41 rfl) (ow hw 40 rfl) (ow hw 24 rfl) (ow hw 42 rfl) (by decide) (lenOf pd__28C_29Z rfl) rfl rfl rfl (W := 0) rfl (by decide) (by decide) (by decide) (by decide) all0 rfl ?_
          intro T937 h937 v937 X937 K937 hQ937
          obtain rfl := hQ937
          show OGo _ _ _ _ T937 (mkF m 372 #[.val (.int pa), .val (.int pb), .val (.int pp), .val (.int u0), .val (.int u1), .val (.int u2), .val (.int 3), .val (.int 2), .val (.ref b848), .val (.ref b856), .val (.ref b881), .val (.int 1), .val (.int (pp &&& (3 : Int32))), .val (.int w), .val (.int 0), .unset, .unset] [(.int (own_eq1 u2 w))])
          refine og_istore X937 374 #[.val (.int pa), .val (.int pb), .val (.int pp), .val (.int u0), .val (.int u1), .val (.int u2), .val (.int 3), .val (.int 2), .val (.ref b848), .val (.ref b856), .val (.ref b881), .val (.int 1), .val (.int (pp &&& (3 : Int32))), .val (.int w), .val (.int 0), .val (.int (own_eq1 u2 w)), .unset] at_372 rfl rfl ?_
          refine og_aload X937 376 at_374 rfl rfl rfl ?_
          refine og_iload X937 378 at_376 rfl rfl ?_
          have f938 := f932.keep K937
          have f939 := f933.keep K937 nin0
          have f940 := f934.keep K937 nin0
          have f941 := f936.keep K937 all0
          refine own_virt X937 381 (a := b881) (argsL := [(.int w)]) (rest := []) at_378 f938 (fun _ hZ => notFace_of_selects (args := #[]) (mvT hZ (ow hw 41 rfl))) (rm_nx3_2 l Z a0 hw n0 h937 hWd [] X937.old b881 b856 u0 u1 u2 w f939 f940 f941.top ) (ow hw 38 rfl) (ow hw 39 rfl) (ow hw 41 rfl) (ow hw 40 rfl) (ow hw 24 rfl) (ow hw 42 rfl) (by decide) (lenOf pd__28C_29Z rfl) rfl rfl rfl (W := 0) rfl (by decide) (by decide) (by decide) (by decide) all0 rfl ?_
          intro T942 h942 v942 X942 K942 hQ942
          obtain rfl := hQ942
          show OGo _ _ _ _ T942 (mkF m 381 #[.val (.int pa), .val (.int pb), .val (.int pp), .val (.int u0), .val (.int u1), .val (.int u2), .val (.int 3), .val (.int 2), .val (.ref b848), .val (.ref b856), .val (.ref b881), .val (.int 1), .val (.int (pp &&& (3 : Int32))), .val (.int w), .val (.int 0), .val (.int (own_eq1 u2 w)), .unset] [(.int (own_eq1 u2 w))])
          refine og_istore X942 383 #[.val (.int pa), .val (.int pb), .val (.int pp), .val (.int u0), .val (.int u1), .val (.int u2), .val (.int 3), .val (.int 2), .val (.ref b848), .val (.ref b856), .val (.ref b881), .val (.int 1), .val (.int (pp &&& (3 : Int32))), .val (.int w), .val (.int 0), .val (.int (own_eq1 u2 w)), .val (.int (own_eq1 u2 w))] at_381 rfl rfl ?_
          refine og_iload X942 385 at_383 rfl rfl ?_
          refine og_ifN X942 388 at_385 (XT.i0_eq_f (by decide)) rfl ?_
          refine og_iload X942 390 at_388 rfl rfl ?_
          refine og_iload X942 392 at_390 rfl rfl ?_
          refine og_icmpN X942 395 at_392 (XT.ii_ne_f (by rw [own_eq1, if_neg hc918])) rfl ?_
          refine og_iload X942 397 at_395 rfl rfl ?_
          refine og_iload X942 399 at_397 rfl rfl ?_
          refine og_icmpN X942 402 at_399 (XT.ii_ne_f (by rw [own_eq1, if_neg hc918])) rfl ?_
          refine og_iconst X942 403 (1 : Int32) at_402 rfl rfl ?_
          refine og_goto X942 407 at_403 (by decide) (by decide) ?_
          refine own_retZ X942 at_407 hret rfl (by decide) (by decide) ?_
          exact rfl
      · -- the ways to it
        intro J905
        refine og_iload X902 273 at_271 rfl rfl ?_
        by_cases hc943 : (pp &&& (3 : Int32)) = 0
        · -- (pp &&& (3 : Int32)) = 0
          refine og_ifN X902 276 at_273 (XT.i0_ne_f hc943) rfl ?_
          refine og_iloadN X902 277 at_276 rfl rfl ?_
          refine og_bipush X902 279 (16 : Int32) at_277 rfl rfl ?_
          refine og_iushr X902 280 at_279 rfl ?_
          refine og_i2c X902 281 at_280 rfl ?_
          refine og_istore X902 283 #[.val (.int pa), .val (.int pb), .val (.int pp), .val (.int u0), .val (.int u1), .val (.int u2), .val (.int 3), .val (.int 2), .val (.ref b848), .val (.ref b856), .val (.ref b881), .val (.int 1), .val (.int (pp &&& (3 : Int32))), .val (.int (((XT.ushr pp (16 : Int32))).toUInt32.toUInt16.toUInt32.toInt32)), .unset, .unset, .unset] at_281 rfl rfl ?_
          refine og_goto X902 341 at_283 (by decide) (by decide) ?_
          exact J905 _ _ X902 (Keep.refl _ _) (((XT.ushr pp (16 : Int32))).toUInt32.toUInt16.toUInt32.toInt32) trivial
        · -- not
          refine og_ifY X902 286 at_273 (XT.i0_ne_t hc943) (by decide) (by decide) ?_
          refine og_iload X902 288 at_286 rfl rfl ?_
          refine og_iconst X902 289 (1 : Int32) at_288 rfl rfl ?_
          by_cases hc944 : (pp &&& (3 : Int32)) = (1 : Int32)
          · -- (pp &&& (3 : Int32)) = (1 : Int32)
            refine og_icmpN X902 292 at_289 (XT.ii_ne_f hc944) rfl ?_
            refine og_aload X902 294 at_292 rfl rfl rfl ?_
            refine og_iload X902 296 at_294 rfl rfl ?_
            refine og_iconst X902 297 (2 : Int32) at_296 rfl rfl ?_
            refine own_stat X902 300 (argsL := [(.int 2), (.int 2)]) (rest := [(.ref b848)]) at_297 (rm_min0 l Z a0 hw n0 h902 hWd [] X902.old (2 : Int32) (2 : Int32) (by decide) ) (ow hw 34 rfl) (ow hw 35 rfl) (ow hw 36 rfl) (ow hw 37 rfl) (by decide) (lenOf pd__28II_29I rfl) rfl rfl rfl (W := 1) rfl (by decide) (by decide) (by decide) (by decide) all0 rfl ?_
            intro T945 h945 v945 X945 K945 hQ945
            obtain rfl := hQ945
            show OGo _ _ _ _ T945 (mkF m 300 #[.val (.int pa), .val (.int pb), .val (.int pp), .val (.int u0), .val (.int u1), .val (.int u2), .val (.int 3), .val (.int 2), .val (.ref b848), .val (.ref b856), .val (.ref b881), .val (.int 1), .val (.int (pp &&& (3 : Int32))), .unset, .unset, .unset, .unset] [(.int 2), (.ref b848)])
            have f946 := f855.keep K856 nin0
            have f947 := f946.keep K859 nin0
            have f948 := f947.keep K861 (ninS (Nat.ne_of_lt (Nat.lt_of_lt_of_le (Nat.lt_of_lt_of_le U848 (Nat.le_trans (Nat.le_trans (Nat.le_trans K850.1 K852.1) K854.1) K856.1)) G859)) nin0)
            have f949 := f948.keep K863 (ninS (Nat.ne_of_lt (Nat.lt_of_lt_of_le (Nat.lt_of_lt_of_le U848 (Nat.le_trans (Nat.le_trans (Nat.le_trans K850.1 K852.1) K854.1) K856.1)) G859)) nin0)
            have f950 := f949.keep K865 (ninS (Nat.ne_of_lt (Nat.lt_of_lt_of_le (Nat.lt_of_lt_of_le U848 (Nat.le_trans (Nat.le_trans (Nat.le_trans K850.1 K852.1) K854.1) K856.1)) G859)) nin0)
            have f951 := f950.keep K879 (ninS (Nat.ne_of_lt (Nat.lt_of_lt_of_le (Nat.lt_of_lt_of_le U848 (Nat.le_trans (Nat.le_trans K850.1 K852.1) K854.1)) G856)) nin0)
            have f952 := f951.keep K881 nin0
            have f953 := f952.keep K885 nin0
            have f954 := f953.keep K890 (ninS (Nat.ne_of_lt (Nat.lt_of_lt_of_le (Nat.lt_of_lt_of_le U848 (Nat.le_trans (Nat.le_trans (Nat.le_trans (Nat.le_trans (Nat.le_trans (Nat.le_trans (Nat.le_trans (Nat.le_trans K850.1 K852.1) K854.1) K856.1) K859.1) K861.1) K863.1) K865.1) K879.1)) G881)) nin0)
            have f955 := f954.keep K897 (ninS (Nat.ne_of_lt (Nat.lt_of_lt_of_le (Nat.lt_of_lt_of_le U848 (Nat.le_trans (Nat.le_trans (Nat.le_trans (Nat.le_trans (Nat.le_trans (Nat.le_trans (Nat.le_trans (Nat.le_trans K850.1 K852.1) K854.1) K856.1) K859.1) K861.1) K863.1) K865.1) K879.1)) G881)) nin0)
            have f956 := f955.keep K902 (ninS (Nat.ne_of_lt (Nat.lt_of_lt_of_le (Nat.lt_of_lt_of_le U848 (Nat.le_trans (Nat.le_trans (Nat.le_trans (Nat.le_trans (Nat.le_trans (Nat.le_trans (Nat.le_trans (Nat.le_trans K850.1 K852.1) K854.1) K856.1) K859.1) K861.1) K863.1) K865.1) K879.1)) G881)) nin0)
            have f957 := f956.keep K945 nin0
            refine own_ldC X945 301 at_300 f957 (by decide) (by decide) rfl rfl ?_
            refine og_istore X945 303 #[.val (.int pa), .val (.int pb), .val (.int pp), .val (.int u0), .val (.int u1), .val (.int u2), .val (.int 3), .val (.int 2), .val (.ref b848), .val (.ref b856), .val (.ref b881), .val (.int 1), .val (.int (pp &&& (3 : Int32))), .val (.int u2), .unset, .unset, .unset] at_301 rfl rfl ?_
            refine og_goto X945 341 at_303 (by decide) (by decide) ?_
            exact J905 _ _ X945 K945 u2 trivial
          · -- not
            refine og_icmpY X902 306 at_289 (XT.ii_ne_t hc944) (by decide) (by decide) ?_
            refine og_iload X902 308 at_306 rfl rfl ?_
            refine og_iconst X902 309 (2 : Int32) at_308 rfl rfl ?_
            by_cases hc958 : (pp &&& (3 : Int32)) = (2 : Int32)
            · -- (pp &&& (3 : Int32)) = (2 : Int32)
              refine og_icmpN X902 312 at_309 (XT.ii_ne_f hc958) rfl ?_
              refine og_aload X902 314 at_312 rfl rfl rfl ?_
              refine og_iload X902 316 at_314 rfl rfl ?_
              refine og_iconst X902 317 (1 : Int32) at_316 rfl rfl ?_
              refine og_iadd X902 318 at_317 rfl ?_
              show OGo _ _ _ _ T902 (mkF m 318 #[.val (.int pa), .val (.int pb), .val (.int pp), .val (.int u0), .val (.int u1), .val (.int u2), .val (.int 3), .val (.int 2), .val (.ref b848), .val (.ref b856), .val (.ref b881), .val (.int 1), .val (.int (pp &&& (3 : Int32))), .unset, .unset, .unset, .unset] [(.int 3), (.ref b848)])
              refine og_iconst X902 319 (2 : Int32) at_318 rfl rfl ?_
              refine own_stat X902 322 (argsL := [(.int 3), (.int 2)]) (rest := [(.ref b848)]) at_319 (rm_min1 l Z a0 hw n0 h902 hWd [] X902.old (3 : Int32) (2 : Int32) (by decide) ) (ow hw 34 rfl) (ow hw 35 rfl) (ow hw 36 rfl) (ow hw 37 rfl) (by decide) (lenOf pd__28II_29I rfl) rfl rfl rfl (W := 1) rfl (by decide) (by decide) (by decide) (by decide) all0 rfl ?_
              intro T959 h959 v959 X959 K959 hQ959
              obtain rfl := hQ959
              show OGo _ _ _ _ T959 (mkF m 322 #[.val (.int pa), .val (.int pb), .val (.int pp), .val (.int u0), .val (.int u1), .val (.int u2), .val (.int 3), .val (.int 2), .val (.ref b848), .val (.ref b856), .val (.ref b881), .val (.int 1), .val (.int (pp &&& (3 : Int32))), .unset, .unset, .unset, .unset] [(.int 2), (.ref b848)])
              have f960 := f855.keep K856 nin0
              have f961 := f960.keep K859 nin0
              have f962 := f961.keep K861 (ninS (Nat.ne_of_lt (Nat.lt_of_lt_of_le (Nat.lt_of_lt_of_le U848 (Nat.le_trans (Nat.le_trans (Nat.le_trans K850.1 K852.1) K854.1) K856.1)) G859)) nin0)
              have f963 := f962.keep K863 (ninS (Nat.ne_of_lt (Nat.lt_of_lt_of_le (Nat.lt_of_lt_of_le U848 (Nat.le_trans (Nat.le_trans (Nat.le_trans K850.1 K852.1) K854.1) K856.1)) G859)) nin0)
              have f964 := f963.keep K865 (ninS (Nat.ne_of_lt (Nat.lt_of_lt_of_le (Nat.lt_of_lt_of_le U848 (Nat.le_trans (Nat.le_trans (Nat.le_trans K850.1 K852.1) K854.1) K856.1)) G859)) nin0)
              have f965 := f964.keep K879 (ninS (Nat.ne_of_lt (Nat.lt_of_lt_of_le (Nat.lt_of_lt_of_le U848 (Nat.le_trans (Nat.le_trans K850.1 K852.1) K854.1)) G856)) nin0)
              have f966 := f965.keep K881 nin0
              have f967 := f966.keep K885 nin0
              have f968 := f967.keep K890 (ninS (Nat.ne_of_lt (Nat.lt_of_lt_of_le (Nat.lt_of_lt_of_le U848 (Nat.le_trans (Nat.le_trans (Nat.le_trans (Nat.le_trans (Nat.le_trans (Nat.le_trans (Nat.le_trans (Nat.le_trans K850.1 K852.1) K854.1) K856.1) K859.1) K861.1) K863.1) K865.1) K879.1)) G881)) nin0)
              have f969 := f968.keep K897 (ninS (Nat.ne_of_lt (Nat.lt_of_lt_of_le (Nat.lt_of_lt_of_le U848 (Nat.le_trans (Nat.le_trans (Nat.le_trans (Nat.le_trans (Nat.le_trans (Nat.le_trans (Nat.le_trans (Nat.le_trans K850.1 K852.1) K854.1) K856.1) K859.1) K861.1) K863.1) K865.1) K879.1)) G881)) nin0)
              have f970 := f969.keep K902 (ninS (Nat.ne_of_lt (Nat.lt_of_lt_of_le (Nat.lt_of_lt_of_le U848 (Nat.le_trans (Nat.le_trans (Nat.le_trans (Nat.le_trans (Nat.le_trans (Nat.le_trans (Nat.le_trans (Nat.le_trans K850.1 K852.1) K854.1) K856.1) K859.1) K861.1) K863.1) K865.1) K879.1)) G881)) nin0)
              have f971 := f970.keep K959 nin0
              refine own_ldC X959 323 at_322 f971 (by decide) (by decide) rfl rfl ?_
              refine og_istore X959 325 #[.val (.int pa), .val (.int pb), .val (.int pp), .val (.int u0), .val (.int u1), .val (.int u2), .val (.int 3), .val (.int 2), .val (.ref b848), .val (.ref b856), .val (.ref b881), .val (.int 1), .val (.int (pp &&& (3 : Int32))), .val (.int u2), .unset, .unset, .unset] at_323 rfl rfl ?_
              refine og_goto X959 341 at_325 (by decide) (by decide) ?_
              exact J905 _ _ X959 K959 u2 trivial
            · -- not
              refine og_icmpY X902 328 at_309 (XT.ii_ne_t hc958) (by decide) (by decide) ?_
              refine og_aload X902 330 at_328 rfl rfl rfl ?_
              refine og_iload X902 332 at_330 rfl rfl ?_
              refine og_iconst X902 333 (1 : Int32) at_332 rfl rfl ?_
              refine og_isub X902 334 at_333 rfl ?_
              show OGo _ _ _ _ T902 (mkF m 334 #[.val (.int pa), .val (.int pb), .val (.int pp), .val (.int u0), .val (.int u1), .val (.int u2), .val (.int 3), .val (.int 2), .val (.ref b848), .val (.ref b856), .val (.ref b881), .val (.int 1), .val (.int (pp &&& (3 : Int32))), .unset, .unset, .unset, .unset] [(.int 1), (.ref b848)])
              refine og_iconst X902 335 (0 : Int32) at_334 rfl rfl ?_
              refine own_stat X902 338 (argsL := [(.int 1), (.int 0)]) (rest := [(.ref b848)]) at_335 (rm_max0 l Z a0 hw n0 h902 hWd [] X902.old (1 : Int32) (0 : Int32) (by decide) ) (ow hw 56 rfl) (ow hw 57 rfl) (ow hw 36 rfl) (ow hw 58 rfl) (by decide) (lenOf pd__28II_29I rfl) rfl rfl rfl (W := 1) rfl (by decide) (by decide) (by decide) (by decide) all0 rfl ?_
              intro T972 h972 v972 X972 K972 hQ972
              obtain rfl := hQ972
              show OGo _ _ _ _ T972 (mkF m 338 #[.val (.int pa), .val (.int pb), .val (.int pp), .val (.int u0), .val (.int u1), .val (.int u2), .val (.int 3), .val (.int 2), .val (.ref b848), .val (.ref b856), .val (.ref b881), .val (.int 1), .val (.int (pp &&& (3 : Int32))), .unset, .unset, .unset, .unset] [(.int 1), (.ref b848)])
              have f973 := f855.keep K856 nin0
              have f974 := f973.keep K859 nin0
              have f975 := f974.keep K861 (ninS (Nat.ne_of_lt (Nat.lt_of_lt_of_le (Nat.lt_of_lt_of_le U848 (Nat.le_trans (Nat.le_trans (Nat.le_trans K850.1 K852.1) K854.1) K856.1)) G859)) nin0)
              have f976 := f975.keep K863 (ninS (Nat.ne_of_lt (Nat.lt_of_lt_of_le (Nat.lt_of_lt_of_le U848 (Nat.le_trans (Nat.le_trans (Nat.le_trans K850.1 K852.1) K854.1) K856.1)) G859)) nin0)
              have f977 := f976.keep K865 (ninS (Nat.ne_of_lt (Nat.lt_of_lt_of_le (Nat.lt_of_lt_of_le U848 (Nat.le_trans (Nat.le_trans (Nat.le_trans K850.1 K852.1) K854.1) K856.1)) G859)) nin0)
              have f978 := f977.keep K879 (ninS (Nat.ne_of_lt (Nat.lt_of_lt_of_le (Nat.lt_of_lt_of_le U848 (Nat.le_trans (Nat.le_trans K850.1 K852.1) K854.1)) G856)) nin0)
              have f979 := f978.keep K881 nin0
              have f980 := f979.keep K885 nin0
              have f981 := f980.keep K890 (ninS (Nat.ne_of_lt (Nat.lt_of_lt_of_le (Nat.lt_of_lt_of_le U848 (Nat.le_trans (Nat.le_trans (Nat.le_trans (Nat.le_trans (Nat.le_trans (Nat.le_trans (Nat.le_trans (Nat.le_trans K850.1 K852.1) K854.1) K856.1) K859.1) K861.1) K863.1) K865.1) K879.1)) G881)) nin0)
              have f982 := f981.keep K897 (ninS (Nat.ne_of_lt (Nat.lt_of_lt_of_le (Nat.lt_of_lt_of_le U848 (Nat.le_trans (Nat.le_trans (Nat.le_trans (Nat.le_trans (Nat.le_trans (Nat.le_trans (Nat.le_trans (Nat.le_trans K850.1 K852.1) K854.1) K856.1) K859.1) K861.1) K863.1) K865.1) K879.1)) G881)) nin0)
              have f983 := f982.keep K902 (ninS (Nat.ne_of_lt (Nat.lt_of_lt_of_le (Nat.lt_of_lt_of_le U848 (Nat.le_trans (Nat.le_trans (Nat.le_trans (Nat.le_trans (Nat.le_trans (Nat.le_trans (Nat.le_trans (Nat.le_trans K850.1 K852.1) K854.1) K856.1) K859.1) K861.1) K863.1) K865.1) K879.1)) G881)) nin0)
              have f984 := f983.keep K972 nin0
              refine own_ldC X972 339 at_338 f984 (by decide) (by decide) rfl rfl ?_
              refine og_istore X972 341 #[.val (.int pa), .val (.int pb), .val (.int pp), .val (.int u0), .val (.int u1), .val (.int u2), .val (.int 3), .val (.int 2), .val (.ref b848), .val (.ref b856), .val (.ref b881), .val (.int 1), .val (.int (pp &&& (3 : Int32))), .val (.int u1), .unset, .unset, .unset] at_339 rfl rfl ?_
              exact J905 _ _ X972 K972 u1 trivial
    · -- 3
      rw [eQ]
      refine og_iconst X0 36 (3 : Int32) at_35 rfl rfl ?_
      refine own_arr X0 38 at_36 (ow hw 0 rfl) (by decide) (cap := 3) (by decide) (by decide) (by decide) (by decide) rfl ?_
      intro T985 h985 b985 kb985 X985 K985 G985 U985 A985
      have f986 : Arv Z h985 b985 kb985 .char (3 : Int32) [(.int 0), (.int 0), (.int 0)] (.int 0) := A985
      refine og_dup X985 39 at_38 rfl rfl ?_
      refine og_iconst X985 40 (0 : Int32) at_39 rfl rfl ?_
      refine og_iloadN X985 41 at_40 rfl rfl ?_
      refine own_stC X985 42 at_41 f986 (own_nch B_u0.1 B_u0.2) (by decide) (by decide) (i := 0) (by decide) (Nat.le_of_ble_eq_true rfl) (om 0 rfl) rfl ?_
      intro T987 h987 X987 W987 K987 A987
      have f988 : Arv Z h987 b985 kb985 .char (3 : Int32) [(.int u0), (.int 0), (.int 0)] (.int 0) := A987
      refine og_dup X987 43 at_42 rfl rfl ?_
      refine og_iconst X987 44 (1 : Int32) at_43 rfl rfl ?_
      refine og_iload X987 46 at_44 rfl rfl ?_
      refine own_stC X987 47 at_46 f988 (own_nch B_u1.1 B_u1.2) (by decide) (by decide) (i := 1) (by decide) (Nat.le_of_ble_eq_true rfl) (om 0 rfl) rfl ?_
      intro T989 h989 X989 W989 K989 A989
      have f990 : Arv Z h989 b985 kb985 .char (3 : Int32) [(.int u0), (.int u1), (.int 0)] (.int 0) := A989
      refine og_dup X989 48 at_47 rfl rfl ?_
      refine og_iconst X989 49 (2 : Int32) at_48 rfl rfl ?_
      refine og_iload X989 51 at_49 rfl rfl ?_
      refine own_stC X989 52 at_51 f990 (own_nch B_u2.1 B_u2.2) (by decide) (by decide) (i := 2) (by decide) (Nat.le_of_ble_eq_true rfl) (om 0 rfl) rfl ?_
      intro T991 h991 X991 W991 K991 A991
      have f992 : Arv Z h991 b985 kb985 .char (3 : Int32) [(.int u0), (.int u1), (.int u2)] (.int 0) := A991
      refine og_astore X991 54 #[.val (.int pa), .val (.int pb), .val (.int pp), .val (.int u0), .val (.int u1), .val (.int u2), .val (.int 3), .val (.int 3), .val (.ref b985), .unset, .unset, .unset, .unset, .unset, .unset, .unset, .unset] at_52 rfl rfl rfl ?_
      refine og_iload X991 56 at_54 rfl rfl ?_
      refine og_ifY X991 74 at_56 (XT.i0_ne_t (by decide)) (by decide) (by decide) ?_
      refine og_iload X991 76 at_74 rfl rfl ?_
      refine og_iconst X991 77 (1 : Int32) at_76 rfl rfl ?_
      refine og_icmpY X991 99 at_77 (XT.ii_ne_t (by decide)) (by decide) (by decide) ?_
      refine og_iload X991 101 at_99 rfl rfl ?_
      refine og_iconst X991 102 (2 : Int32) at_101 rfl rfl ?_
      refine og_icmpY X991 129 at_102 (XT.ii_ne_t (by decide)) (by decide) (by decide) ?_
      refine own_new X991 132 at_129 (ow hw 1 rfl) (ow hw 2 rfl) (ow hw 3 rfl) (by decide) (by decide) rfl ?_
      intro T993 h993 b993 X993 K993 G993 U993 E993 D993
      have f994 : Fld Z h993 b993 "java/lang/String" "value" "[B" .null := D993 (Or.inr (ow hw 16 rfl)) (ty := (.array .byte)) (by decide)
      have f995 : Fld Z h993 b993 "java/lang/String" "coder" "B" (.int 0) := D993 (Or.inr (ow hw 17 rfl)) (ty := .byte) (by decide)
      refine og_dup X993 133 at_132 rfl rfl ?_
      refine og_iconst X993 134 (3 : Int32) at_133 rfl rfl ?_
      refine own_arr X993 136 at_134 (ow hw 0 rfl) (by decide) (cap := 3) (by decide) (by decide) (by decide) (by decide) rfl ?_
      intro T996 h996 b996 kb996 X996 K996 G996 U996 A996
      have f997 : Arv Z h996 b996 kb996 .char (3 : Int32) [(.int 0), (.int 0), (.int 0)] (.int 0) := A996
      refine og_dup X996 137 at_136 rfl rfl ?_
      refine og_iconst X996 138 (0 : Int32) at_137 rfl rfl ?_
      refine og_iloadN X996 139 at_138 rfl rfl ?_
      refine own_stC X996 140 at_139 f997 (own_nch B_u0.1 B_u0.2) (by decide) (by decide) (i := 0) (by decide) (Nat.le_of_ble_eq_true rfl) (om 0 rfl) rfl ?_
      intro T998 h998 X998 W998 K998 A998
      have f999 : Arv Z h998 b996 kb996 .char (3 : Int32) [(.int u0), (.int 0), (.int 0)] (.int 0) := A998
      refine og_dup X998 141 at_140 rfl rfl ?_
      refine og_iconst X998 142 (1 : Int32) at_141 rfl rfl ?_
      refine og_iload X998 144 at_142 rfl rfl ?_
      refine own_stC X998 145 at_144 f999 (own_nch B_u1.1 B_u1.2) (by decide) (by decide) (i := 1) (by decide) (Nat.le_of_ble_eq_true rfl) (om 0 rfl) rfl ?_
      intro T1000 h1000 X1000 W1000 K1000 A1000
      have f1001 : Arv Z h1000 b996 kb996 .char (3 : Int32) [(.int u0), (.int u1), (.int 0)] (.int 0) := A1000
      refine og_dup X1000 146 at_145 rfl rfl ?_
      refine og_iconst X1000 147 (2 : Int32) at_146 rfl rfl ?_
      refine og_iload X1000 149 at_147 rfl rfl ?_
      refine own_stC X1000 150 at_149 f1001 (own_nch B_u2.1 B_u2.2) (by decide) (by decide) (i := 2) (by decide) (Nat.le_of_ble_eq_true rfl) (om 0 rfl) rfl ?_
      intro T1002 h1002 X1002 W1002 K1002 A1002
      have f1003 : Arv Z h1002 b996 kb996 .char (3 : Int32) [(.int u0), (.int u1), (.int u2)] (.int 0) := A1002
      have f1004 := E993.keep K996
      have f1005 := f1004.keep K998
      have f1006 := f1005.keep K1000
      have f1007 := f1006.keep K1002
      have f1008 := f994.keep K996 nin0
      have f1009 := f1008.keep K998 (ninS (Nat.ne_of_lt (Nat.lt_of_lt_of_le U993 G996)) nin0)
      have f1010 := f1009.keep K1000 (ninS (Nat.ne_of_lt (Nat.lt_of_lt_of_le U993 G996)) nin0)
      have f1011 := f1010.keep K1002 (ninS (Nat.ne_of_lt (Nat.lt_of_lt_of_le U993 G996)) nin0)
      have f1012 := f995.keep K996 nin0
      have f1013 := f1012.keep K998 (ninS (Nat.ne_of_lt (Nat.lt_of_lt_of_le U993 G996)) nin0)
      have f1014 := f1013.keep K1000 (ninS (Nat.ne_of_lt (Nat.lt_of_lt_of_le U993 G996)) nin0)
      have f1015 := f1014.keep K1002 (ninS (Nat.ne_of_lt (Nat.lt_of_lt_of_le U993 G996)) nin0)
      refine own_spec X1002 153 (a := b993) (argsL := [(.ref b996)]) (rest := [(.ref b993)]) at_150 rfl (ru_ini3 l Z a0 hw n0 h1002 hWd [] X1002.old b993 b996 .null (0 : Int32) kb996 (.int 0) u0 u1 u2 f1007 f1011 f1015 f1003 B_u0.1 B_u0.2 B_u1.1 B_u1.2 B_u2.1 B_u2.2 (own_svb X1002 (om 1 rfl))) (ow hw 4 rfl) (ow hw 5 rfl) (ow hw 3 rfl) (ow hw 6 rfl) (by decide) (lenOf pd__28_5bC_29V rfl) rfl rfl rfl (W := 1) rfl (by decide) (by decide) (by decide) (by decide) (allS (om 1 rfl) all0) rfl ?_
      intro T1016 h1016 v1016 X1016 K1016 hQ1016
      obtain ⟨rfl, f1017⟩ := hQ1016
      show OGo _ _ _ _ T1016 (mkF m 153 #[.val (.int pa), .val (.int pb), .val (.int pp), .val (.int u0), .val (.int u1), .val (.int u2), .val (.int 3), .val (.int 3), .val (.ref b985), .unset, .unset, .unset, .unset, .unset, .unset, .unset, .unset] [(.ref b993)])
      refine og_astore X1016 155 #[.val (.int pa), .val (.int pb), .val (.int pp), .val (.int u0), .val (.int u1), .val (.int u2), .val (.int 3), .val (.int 3), .val (.ref b985), .val (.ref b993), .unset, .unset, .unset, .unset, .unset, .unset, .unset] at_153 rfl rfl rfl ?_
      refine own_new X1016 158 at_155 (ow hw 22 rfl) (ow hw 23 rfl) (ow hw 24 rfl) (by decide) (by decide) rfl ?_
      intro T1018 h1018 b1018 X1018 K1018 G1018 U1018 E1018 D1018
      have f1019 : Fld Z h1018 b1018 "com/example/bote/bote/fields/FieldCursor" "text" "Ljava/lang/String;" .null := D1018 (Or.inr (ow hw 31 rfl)) (ty := (.object "java/lang/String")) (by decide)
      have f1020 : Fld Z h1018 b1018 "com/example/bote/bote/fields/FieldCursor" "shape" "Ljava/lang/String;" .null := D1018 (Or.inr (ow hw 33 rfl)) (ty := (.object "java/lang/String")) (by decide)
      have f1021 : Fld Z h1018 b1018 "com/example/bote/bote/fields/FieldCursor" "at" "I" (.int 0) := D1018 (Or.inl (ow hw 44 rfl)) (ty := .int) (by decide)
      refine og_dup X1018 159 at_158 rfl rfl ?_
      refine og_aload X1018 161 at_159 rfl rfl rfl ?_
      refine own_ldcO X1018 163 (cap := 20) at_161 own_ELne (ow hw 25 rfl) (own_wS hw) (by decide) (by decide) (by decide) (by decide) rfl ?_
      intro T1022 h1022 a1022 X1022 K1022
      have f1023 := E1018.keep K1022
      have f1024 := f1019.keep K1022 nin0
      have f1025 := f1020.keep K1022 nin0
      have f1026 := f1021.keep K1022 nin0
      refine own_spec X1022 166 (a := b1018) (argsL := [(.ref b993), (.ref a1022)]) (rest := [(.ref b1018)]) at_163 rfl (rm4 l Z a0 hw n0 h1022 hWd [] X1022.old b1018 b993 a1022 f1023 f1024 f1025 f1026 (own_svb X1022 (om 0 rfl))) (ow hw 26 rfl) (ow hw 27 rfl) (ow hw 24 rfl) (ow hw 28 rfl) (by decide) (lenOf pd__28Ljava_2flang_2fString_3bLjava_2flang_2fString_3b_29V rfl) rfl rfl rfl (W := 1) rfl (by decide) (by decide) (by decide) (by decide) (allS (om 0 rfl) all0) rfl ?_
      intro T1027 h1027 v1027 X1027 K1027 hQ1027
      obtain ⟨rfl, f1028, f1029⟩ := hQ1027
      show OGo _ _ _ _ T1027 (mkF m 166 #[.val (.int pa), .val (.int pb), .val (.int pp), .val (.int u0), .val (.int u1), .val (.int u2), .val (.int 3), .val (.int 3), .val (.ref b985), .val (.ref b993), .unset, .unset, .unset, .unset, .unset, .unset, .unset] [(.ref b1018)])
      refine og_astore X1027 168 #[.val (.int pa), .val (.int pb), .val (.int pp), .val (.int u0), .val (.int u1), .val (.int u2), .val (.int 3), .val (.int 3), .val (.ref b985), .val (.ref b993), .val (.ref b1018), .unset, .unset, .unset, .unset, .unset, .unset] at_166 rfl rfl rfl ?_
      refine og_iconst X1027 169 (1 : Int32) at_168 rfl rfl ?_
      refine og_istore X1027 171 #[.val (.int pa), .val (.int pb), .val (.int pp), .val (.int u0), .val (.int u1), .val (.int u2), .val (.int 3), .val (.int 3), .val (.ref b985), .val (.ref b993), .val (.ref b1018), .val (.int 1), .unset, .unset, .unset, .unset, .unset] at_169 rfl rfl ?_
      refine og_iload X1027 173 at_171 rfl rfl ?_
      refine og_iconst X1027 174 (1 : Int32) at_173 rfl rfl ?_
      refine og_icmpN X1027 177 at_174 (XT.ii_lt_f (by decide)) rfl ?_
      refine og_aload X1027 179 at_177 rfl rfl rfl ?_
      refine og_iloadN X1027 180 at_179 rfl rfl ?_
      have f1030 := f1023.keep K1027
      have f1031 := f1017.keep K1018 all0
      have f1032 := f1031.keep K1022 all0
      have f1033 := f1032.keep K1027 (allS (Or.inl (Nat.le_trans (Nat.le_refl _) G1018)) all0)
      refine own_virt X1027 183 (a := b1018) (argsL := [(.int u0)]) (rest := []) at_180 f1030 (fun _ hZ => notFace_of_selects (args := #[]) (mvT hZ (ow hw 91 rfl))) (rm_tk3_0 l Z a0 hw n0 h1027 hWd [] X1027.old b1018 b993 u0 u1 u2 f1030 f1028 f1029 f1033.top (own_svb X1027 (om 0 rfl))) (ow hw 88 rfl) (ow hw 89 rfl) (ow hw 91 rfl) (ow hw 90 rfl) (ow hw 24 rfl) (ow hw 92 rfl) (by decide) (lenOf pd__28C_29Z rfl) rfl rfl rfl (W := 0) rfl (by decide) (by decide) (by decide) (by decide) (allS (om 0 rfl) all0) rfl ?_
      intro T1034 h1034 v1034 X1034 K1034 hQ1034
      obtain ⟨rfl, f1035, f1036⟩ := hQ1034
      show OGo _ _ _ _ T1034 (mkF m 183 #[.val (.int pa), .val (.int pb), .val (.int pp), .val (.int u0), .val (.int u1), .val (.int u2), .val (.int 3), .val (.int 3), .val (.ref b985), .val (.ref b993), .val (.ref b1018), .val (.int 1), .unset, .unset, .unset, .unset, .unset] [(.int 1)])
      refine og_istore X1034 185 #[.val (.int pa), .val (.int pb), .val (.int pp), .val (.int u0), .val (.int u1), .val (.int u2), .val (.int 3), .val (.int 3), .val (.ref b985), .val (.ref b993), .val (.ref b1018), .val (.int 1), .val (.int 1), .unset, .unset, .unset, .unset] at_183 rfl rfl ?_
      refine og_iload X1034 187 at_185 rfl rfl ?_
      refine og_ifN X1034 190 at_187 (XT.i0_eq_f (by decide)) rfl ?_
      refine og_iload X1034 192 at_190 rfl rfl ?_
      refine og_ifN X1034 195 at_192 (XT.i0_eq_f (by decide)) rfl ?_
      refine og_iconst X1034 196 (1 : Int32) at_195 rfl rfl ?_
      refine og_goto X1034 200 at_196 (by decide) (by decide) ?_
      refine og_istore X1034 202 #[.val (.int pa), .val (.int pb), .val (.int pp), .val (.int u0), .val (.int u1), .val (.int u2), .val (.int 3), .val (.int 3), .val (.ref b985), .val (.ref b993), .val (.ref b1018), .val (.int 1), .val (.int 1), .unset, .unset, .unset, .unset] at_200 rfl rfl ?_
      refine og_iload X1034 204 at_202 rfl rfl ?_
      refine og_iconst X1034 205 (2 : Int32) at_204 rfl rfl ?_
      refine og_icmpN X1034 208 at_205 (XT.ii_lt_f (by decide)) rfl ?_
      refine og_aload X1034 210 at_208 rfl rfl rfl ?_
      refine og_iload X1034 212 at_210 rfl rfl ?_
      have f1037 := f1030.keep K1034
      have f1038 := f1033.keep K1034 (allS (Or.inl (Nat.le_trans (Nat.le_refl _) G1018)) all0)
      refine own_virt X1034 215 (a := b1018) (argsL := [(.int u1)]) (rest := []) at_212 f1037 (fun _ hZ => notFace_of_selects (args := #[]) (mvT hZ (ow hw 91 rfl))) (rm_tk3_1 l Z a0 hw n0 h1034 hWd [] X1034.old b1018 b993 u0 u1 u2 f1037 f1035 f1036 f1038.top (own_svb X1034 (om 0 rfl))) (ow hw 88 rfl) (ow hw 89 rfl) (ow hw 91 rfl) (ow hw 90 rfl) (ow hw 24 rfl) (ow hw 92 rfl) (by decide) (lenOf pd__28C_29Z rfl) rfl rfl rfl (W := 0) rfl (by decide) (by decide) (by decide) (by decide) (allS (om 0 rfl) all0) rfl ?_
      intro T1039 h1039 v1039 X1039 K1039 hQ1039
      obtain ⟨rfl, f1040, f1041⟩ := hQ1039
      show OGo _ _ _ _ T1039 (mkF m 215 #[.val (.int pa), .val (.int pb), .val (.int pp), .val (.int u0), .val (.int u1), .val (.int u2), .val (.int 3), .val (.int 3), .val (.ref b985), .val (.ref b993), .val (.ref b1018), .val (.int 1), .val (.int 1), .unset, .unset, .unset, .unset] [(.int 1)])
      refine og_istore X1039 217 #[.val (.int pa), .val (.int pb), .val (.int pp), .val (.int u0), .val (.int u1), .val (.int u2), .val (.int 3), .val (.int 3), .val (.ref b985), .val (.ref b993), .val (.ref b1018), .val (.int 1), .val (.int 1), .unset, .unset, .unset, .unset] at_215 rfl rfl ?_
      refine og_iload X1039 219 at_217 rfl rfl ?_
      refine og_ifN X1039 222 at_219 (XT.i0_eq_f (by decide)) rfl ?_
      refine og_iload X1039 224 at_222 rfl rfl ?_
      refine og_ifN X1039 227 at_224 (XT.i0_eq_f (by decide)) rfl ?_
      refine og_iconst X1039 228 (1 : Int32) at_227 rfl rfl ?_
      refine og_goto X1039 232 at_228 (by decide) (by decide) ?_
      refine og_istore X1039 234 #[.val (.int pa), .val (.int pb), .val (.int pp), .val (.int u0), .val (.int u1), .val (.int u2), .val (.int 3), .val (.int 3), .val (.ref b985), .val (.ref b993), .val (.ref b1018), .val (.int 1), .val (.int 1), .unset, .unset, .unset, .unset] at_232 rfl rfl ?_
      refine og_iload X1039 236 at_234 rfl rfl ?_
      refine og_iconst X1039 237 (3 : Int32) at_236 rfl rfl ?_
      refine og_icmpN X1039 240 at_237 (XT.ii_lt_f (by decide)) rfl ?_
      refine og_aload X1039 242 at_240 rfl rfl rfl ?_
      refine og_iload X1039 244 at_242 rfl rfl ?_
      have f1042 := f1037.keep K1039
      have f1043 := f1038.keep K1039 (allS (Or.inl (Nat.le_trans (Nat.le_refl _) G1018)) all0)
      refine own_virt X1039 247 (a := b1018) (argsL := [(.int u2)]) (rest := []) at_244 f1042 (fun _ hZ => notFace_of_selects (args := #[]) (mvT hZ (ow hw 91 rfl))) (rm_tk3_2 l Z a0 hw n0 h1039 hWd [] X1039.old b1018 b993 u0 u1 u2 f1042 f1040 f1041 f1043.top (own_svb X1039 (om 0 rfl))) (ow hw 88 rfl) (ow hw 89 rfl) (ow hw 91 rfl) (ow hw 90 rfl) (ow hw 24 rfl) (ow hw 92 rfl) (by decide) (lenOf pd__28C_29Z rfl) rfl rfl rfl (W := 0) rfl (by decide) (by decide) (by decide) (by decide) (allS (om 0 rfl) all0) rfl ?_
      intro T1044 h1044 v1044 X1044 K1044 hQ1044
      obtain ⟨rfl, f1045, f1046⟩ := hQ1044
      show OGo _ _ _ _ T1044 (mkF m 247 #[.val (.int pa), .val (.int pb), .val (.int pp), .val (.int u0), .val (.int u1), .val (.int u2), .val (.int 3), .val (.int 3), .val (.ref b985), .val (.ref b993), .val (.ref b1018), .val (.int 1), .val (.int 1), .unset, .unset, .unset, .unset] [(.int 1)])
      refine og_istore X1044 249 #[.val (.int pa), .val (.int pb), .val (.int pp), .val (.int u0), .val (.int u1), .val (.int u2), .val (.int 3), .val (.int 3), .val (.ref b985), .val (.ref b993), .val (.ref b1018), .val (.int 1), .val (.int 1), .unset, .unset, .unset, .unset] at_247 rfl rfl ?_
      refine og_iload X1044 251 at_249 rfl rfl ?_
      refine og_ifN X1044 254 at_251 (XT.i0_eq_f (by decide)) rfl ?_
      refine og_iload X1044 256 at_254 rfl rfl ?_
      refine og_ifN X1044 259 at_256 (XT.i0_eq_f (by decide)) rfl ?_
      refine og_iconst X1044 260 (1 : Int32) at_259 rfl rfl ?_
      refine og_goto X1044 264 at_260 (by decide) (by decide) ?_
      refine og_istore X1044 266 #[.val (.int pa), .val (.int pb), .val (.int pp), .val (.int u0), .val (.int u1), .val (.int u2), .val (.int 3), .val (.int 3), .val (.ref b985), .val (.ref b993), .val (.ref b1018), .val (.int 1), .val (.int 1), .unset, .unset, .unset, .unset] at_264 rfl rfl ?_
      refine og_iloadN X1044 267 at_266 rfl rfl ?_
      refine og_iconst X1044 268 (3 : Int32) at_267 rfl rfl ?_
      refine og_iand X1044 269 at_268 rfl ?_
      refine og_istore X1044 271 #[.val (.int pa), .val (.int pb), .val (.int pp), .val (.int u0), .val (.int u1), .val (.int u2), .val (.int 3), .val (.int 3), .val (.ref b985), .val (.ref b993), .val (.ref b1018), .val (.int 1), .val (.int (pp &&& (3 : Int32))), .unset, .unset, .unset, .unset] at_269 rfl rfl ?_
      refine own_cut X1044 341 (fun (w : Int32) => #[.val (.int pa), .val (.int pb), .val (.int pp), .val (.int u0), .val (.int u1), .val (.int u2), .val (.int 3), .val (.int 3), .val (.ref b985), .val (.ref b993), .val (.ref b1018), .val (.int 1), .val (.int (pp &&& (3 : Int32))), .val (.int w), .unset, .unset, .unset]) (fun _ => []) (fun w => True) ?_ ?_
      · -- the common way on
        intro T1047 h1047 X1047 K1047 w ok1047
        show OGo _ _ _ _ T1047 (mkF m 341 #[.val (.int pa), .val (.int pb), .val (.int pp), .val (.int u0), .val (.int u1), .val (.int u2), .val (.int 3), .val (.int 3), .val (.ref b985), .val (.ref b993), .val (.ref b1018), .val (.int 1), .val (.int (pp &&& (3 : Int32))), .val (.int w), .unset, .unset, .unset] [])
        refine og_iload X1047 343 at_341 rfl rfl ?_
        refine og_iload X1047 345 at_343 rfl rfl ?_
        refine og_icmpY X1047 362 at_345 (XT.ii_ge_t (by decide)) (by decide) (by decide) ?_
        refine og_iconst X1047 363 (0 : Int32) at_362 rfl rfl ?_
        refine og_istore X1047 365 #[.val (.int pa), .val (.int pb), .val (.int pp), .val (.int u0), .val (.int u1), .val (.int u2), .val (.int 3), .val (.int 3), .val (.ref b985), .val (.ref b993), .val (.ref b1018), .val (.int 1), .val (.int (pp &&& (3 : Int32))), .val (.int w), .val (.int 0), .unset, .unset] at_363 rfl rfl ?_
        refine og_aload X1047 367 at_365 rfl rfl rfl ?_
        refine og_iload X1047 369 at_367 rfl rfl ?_
        have f1048 := f1042.keep K1044
        have f1049 := f1048.keep K1047
        have f1050 := f1045.keep K1047 nin0
        have f1051 := f1046.keep K1047 nin0
        have f1052 := f1043.keep K1044 (allS (Or.inl (Nat.le_trans (Nat.le_refl _) G1018)) all0)
        have f1053 := f1052.keep K1047 all0
        refine own_virt X1047 372 (a := b1018) (argsL := [(.int w)]) (rest := []) at_369 f1049 (fun _ hZ => notFace_of_selects (args := #[]) (mvT hZ (ow hw 41 rfl))) (rm_nx3_3 l Z a0 hw n0 h1047 hWd [] X1047.old b1018 b993 u0 u1 u2 w f1050 f1051 f1053.top ) (ow hw 38 rfl) (ow hw 39 rfl) (ow hw 41 rfl) (ow hw 40 rfl) (ow hw 24 rfl) (ow hw 42 rfl) (by decide) (lenOf pd__28C_29Z rfl) rfl rfl rfl (W := 0) rfl (by decide) (by decide) (by decide) (by decide) all0 rfl ?_
        intro T1054 h1054 v1054 X1054 K1054 hQ1054
        obtain rfl := hQ1054
        show OGo _ _ _ _ T1054 (mkF m 372 #[.val (.int pa), .val (.int pb), .val (.int pp), .val (.int u0), .val (.int u1), .val (.int u2), .val (.int 3), .val (.int 3), .val (.ref b985), .val (.ref b993), .val (.ref b1018), .val (.int 1), .val (.int (pp &&& (3 : Int32))), .val (.int w), .val (.int 0), .unset, .unset] [(.int 0)])
        refine og_istore X1054 374 #[.val (.int pa), .val (.int pb), .val (.int pp), .val (.int u0), .val (.int u1), .val (.int u2), .val (.int 3), .val (.int 3), .val (.ref b985), .val (.ref b993), .val (.ref b1018), .val (.int 1), .val (.int (pp &&& (3 : Int32))), .val (.int w), .val (.int 0), .val (.int 0), .unset] at_372 rfl rfl ?_
        refine og_aload X1054 376 at_374 rfl rfl rfl ?_
        refine og_iload X1054 378 at_376 rfl rfl ?_
        have f1055 := f1049.keep K1054
        have f1056 := f1050.keep K1054 nin0
        have f1057 := f1051.keep K1054 nin0
        have f1058 := f1053.keep K1054 all0
        refine own_virt X1054 381 (a := b1018) (argsL := [(.int w)]) (rest := []) at_378 f1055 (fun _ hZ => notFace_of_selects (args := #[]) (mvT hZ (ow hw 41 rfl))) (rm_nx3_3 l Z a0 hw n0 h1054 hWd [] X1054.old b1018 b993 u0 u1 u2 w f1056 f1057 f1058.top ) (ow hw 38 rfl) (ow hw 39 rfl) (ow hw 41 rfl) (ow hw 40 rfl) (ow hw 24 rfl) (ow hw 42 rfl) (by decide) (lenOf pd__28C_29Z rfl) rfl rfl rfl (W := 0) rfl (by decide) (by decide) (by decide) (by decide) all0 rfl ?_
        intro T1059 h1059 v1059 X1059 K1059 hQ1059
        obtain rfl := hQ1059
        show OGo _ _ _ _ T1059 (mkF m 381 #[.val (.int pa), .val (.int pb), .val (.int pp), .val (.int u0), .val (.int u1), .val (.int u2), .val (.int 3), .val (.int 3), .val (.ref b985), .val (.ref b993), .val (.ref b1018), .val (.int 1), .val (.int (pp &&& (3 : Int32))), .val (.int w), .val (.int 0), .val (.int 0), .unset] [(.int 0)])
        refine og_istore X1059 383 #[.val (.int pa), .val (.int pb), .val (.int pp), .val (.int u0), .val (.int u1), .val (.int u2), .val (.int 3), .val (.int 3), .val (.ref b985), .val (.ref b993), .val (.ref b1018), .val (.int 1), .val (.int (pp &&& (3 : Int32))), .val (.int w), .val (.int 0), .val (.int 0), .val (.int 0)] at_381 rfl rfl ?_
        refine og_iload X1059 385 at_383 rfl rfl ?_
        refine og_ifN X1059 388 at_385 (XT.i0_eq_f (by decide)) rfl ?_
        refine og_iload X1059 390 at_388 rfl rfl ?_
        refine og_iload X1059 392 at_390 rfl rfl ?_
        refine og_icmpN X1059 395 at_392 (XT.ii_ne_f (by decide)) rfl ?_
        refine og_iload X1059 397 at_395 rfl rfl ?_
        refine og_iload X1059 399 at_397 rfl rfl ?_
        refine og_icmpN X1059 402 at_399 (XT.ii_ne_f (by decide)) rfl ?_
        refine og_iconst X1059 403 (1 : Int32) at_402 rfl rfl ?_
        refine og_goto X1059 407 at_403 (by decide) (by decide) ?_
        refine own_retZ X1059 at_407 hret rfl (by decide) (by decide) ?_
        exact rfl
      · -- the ways to it
        intro J1047
        refine og_iload X1044 273 at_271 rfl rfl ?_
        by_cases hc1060 : (pp &&& (3 : Int32)) = 0
        · -- (pp &&& (3 : Int32)) = 0
          refine og_ifN X1044 276 at_273 (XT.i0_ne_f hc1060) rfl ?_
          refine og_iloadN X1044 277 at_276 rfl rfl ?_
          refine og_bipush X1044 279 (16 : Int32) at_277 rfl rfl ?_
          refine og_iushr X1044 280 at_279 rfl ?_
          refine og_i2c X1044 281 at_280 rfl ?_
          refine og_istore X1044 283 #[.val (.int pa), .val (.int pb), .val (.int pp), .val (.int u0), .val (.int u1), .val (.int u2), .val (.int 3), .val (.int 3), .val (.ref b985), .val (.ref b993), .val (.ref b1018), .val (.int 1), .val (.int (pp &&& (3 : Int32))), .val (.int (((XT.ushr pp (16 : Int32))).toUInt32.toUInt16.toUInt32.toInt32)), .unset, .unset, .unset] at_281 rfl rfl ?_
          refine og_goto X1044 341 at_283 (by decide) (by decide) ?_
          exact J1047 _ _ X1044 (Keep.refl _ _) (((XT.ushr pp (16 : Int32))).toUInt32.toUInt16.toUInt32.toInt32) trivial
        · -- not
          refine og_ifY X1044 286 at_273 (XT.i0_ne_t hc1060) (by decide) (by decide) ?_
          refine og_iload X1044 288 at_286 rfl rfl ?_
          refine og_iconst X1044 289 (1 : Int32) at_288 rfl rfl ?_
          by_cases hc1061 : (pp &&& (3 : Int32)) = (1 : Int32)
          · -- (pp &&& (3 : Int32)) = (1 : Int32)
            refine og_icmpN X1044 292 at_289 (XT.ii_ne_f hc1061) rfl ?_
            refine og_aload X1044 294 at_292 rfl rfl rfl ?_
            refine og_iload X1044 296 at_294 rfl rfl ?_
            refine og_iconst X1044 297 (2 : Int32) at_296 rfl rfl ?_
            refine own_stat X1044 300 (argsL := [(.int 3), (.int 2)]) (rest := [(.ref b985)]) at_297 (rm_min1 l Z a0 hw n0 h1044 hWd [] X1044.old (3 : Int32) (2 : Int32) (by decide) ) (ow hw 34 rfl) (ow hw 35 rfl) (ow hw 36 rfl) (ow hw 37 rfl) (by decide) (lenOf pd__28II_29I rfl) rfl rfl rfl (W := 1) rfl (by decide) (by decide) (by decide) (by decide) all0 rfl ?_
            intro T1062 h1062 v1062 X1062 K1062 hQ1062
            obtain rfl := hQ1062
            show OGo _ _ _ _ T1062 (mkF m 300 #[.val (.int pa), .val (.int pb), .val (.int pp), .val (.int u0), .val (.int u1), .val (.int u2), .val (.int 3), .val (.int 3), .val (.ref b985), .val (.ref b993), .val (.ref b1018), .val (.int 1), .val (.int (pp &&& (3 : Int32))), .unset, .unset, .unset, .unset] [(.int 2), (.ref b985)])
            have f1063 := f992.keep K993 nin0
            have f1064 := f1063.keep K996 nin0
            have f1065 := f1064.keep K998 (ninS (Nat.ne_of_lt (Nat.lt_of_lt_of_le (Nat.lt_of_lt_of_le U985 (Nat.le_trans (Nat.le_trans (Nat.le_trans K987.1 K989.1) K991.1) K993.1)) G996)) nin0)
            have f1066 := f1065.keep K1000 (ninS (Nat.ne_of_lt (Nat.lt_of_lt_of_le (Nat.lt_of_lt_of_le U985 (Nat.le_trans (Nat.le_trans (Nat.le_trans K987.1 K989.1) K991.1) K993.1)) G996)) nin0)
            have f1067 := f1066.keep K1002 (ninS (Nat.ne_of_lt (Nat.lt_of_lt_of_le (Nat.lt_of_lt_of_le U985 (Nat.le_trans (Nat.le_trans (Nat.le_trans K987.1 K989.1) K991.1) K993.1)) G996)) nin0)
            have f1068 := f1067.keep K1016 (ninS (Nat.ne_of_lt (Nat.lt_of_lt_of_le (Nat.lt_of_lt_of_le U985 (Nat.le_trans (Nat.le_trans K987.1 K989.1) K991.1)) G993)) nin0)
            have f1069 := f1068.keep K1018 nin0
            have f1070 := f1069.keep K1022 nin0
            have f1071 := f1070.keep K1027 (ninS (Nat.ne_of_lt (Nat.lt_of_lt_of_le (Nat.lt_of_lt_of_le U985 (Nat.le_trans (Nat.le_trans (Nat.le_trans (Nat.le_trans (Nat.le_trans (Nat.le_trans (Nat.le_trans (Nat.le_trans K987.1 K989.1) K991.1) K993.1) K996.1) K998.1) K1000.1) K1002.1) K1016.1)) G1018)) nin0)
            have f1072 := f1071.keep K1034 (ninS (Nat.ne_of_lt (Nat.lt_of_lt_of_le (Nat.lt_of_lt_of_le U985 (Nat.le_trans (Nat.le_trans (Nat.le_trans (Nat.le_trans (Nat.le_trans (Nat.le_trans (Nat.le_trans (Nat.le_trans K987.1 K989.1) K991.1) K993.1) K996.1) K998.1) K1000.1) K1002.1) K1016.1)) G1018)) nin0)
            have f1073 := f1072.keep K1039 (ninS (Nat.ne_of_lt (Nat.lt_of_lt_of_le (Nat.lt_of_lt_of_le U985 (Nat.le_trans (Nat.le_trans (Nat.le_trans (Nat.le_trans (Nat.le_trans (Nat.le_trans (Nat.le_trans (Nat.le_trans K987.1 K989.1) K991.1) K993.1) K996.1) K998.1) K1000.1) K1002.1) K1016.1)) G1018)) nin0)
            have f1074 := f1073.keep K1044 (ninS (Nat.ne_of_lt (Nat.lt_of_lt_of_le (Nat.lt_of_lt_of_le U985 (Nat.le_trans (Nat.le_trans (Nat.le_trans (Nat.le_trans (Nat.le_trans (Nat.le_trans (Nat.le_trans (Nat.le_trans K987.1 K989.1) K991.1) K993.1) K996.1) K998.1) K1000.1) K1002.1) K1016.1)) G1018)) nin0)
            have f1075 := f1074.keep K1062 nin0
            refine own_ldC X1062 301 at_300 f1075 (by decide) (by decide) rfl rfl ?_
            refine og_istore X1062 303 #[.val (.int pa), .val (.int pb), .val (.int pp), .val (.int u0), .val (.int u1), .val (.int u2), .val (.int 3), .val (.int 3), .val (.ref b985), .val (.ref b993), .val (.ref b1018), .val (.int 1), .val (.int (pp &&& (3 : Int32))), .val (.int u2), .unset, .unset, .unset] at_301 rfl rfl ?_
            refine og_goto X1062 341 at_303 (by decide) (by decide) ?_
            exact J1047 _ _ X1062 K1062 u2 trivial
          · -- not
            refine og_icmpY X1044 306 at_289 (XT.ii_ne_t hc1061) (by decide) (by decide) ?_
            refine og_iload X1044 308 at_306 rfl rfl ?_
            refine og_iconst X1044 309 (2 : Int32) at_308 rfl rfl ?_
            by_cases hc1076 : (pp &&& (3 : Int32)) = (2 : Int32)
            · -- (pp &&& (3 : Int32)) = (2 : Int32)
              refine og_icmpN X1044 312 at_309 (XT.ii_ne_f hc1076) rfl ?_
              refine og_aload X1044 314 at_312 rfl rfl rfl ?_
              refine og_iload X1044 316 at_314 rfl rfl ?_
              refine og_iconst X1044 317 (1 : Int32) at_316 rfl rfl ?_
              refine og_iadd X1044 318 at_317 rfl ?_
              show OGo _ _ _ _ T1044 (mkF m 318 #[.val (.int pa), .val (.int pb), .val (.int pp), .val (.int u0), .val (.int u1), .val (.int u2), .val (.int 3), .val (.int 3), .val (.ref b985), .val (.ref b993), .val (.ref b1018), .val (.int 1), .val (.int (pp &&& (3 : Int32))), .unset, .unset, .unset, .unset] [(.int 4), (.ref b985)])
              refine og_iconst X1044 319 (2 : Int32) at_318 rfl rfl ?_
              refine own_stat X1044 322 (argsL := [(.int 4), (.int 2)]) (rest := [(.ref b985)]) at_319 (rm_min1 l Z a0 hw n0 h1044 hWd [] X1044.old (4 : Int32) (2 : Int32) (by decide) ) (ow hw 34 rfl) (ow hw 35 rfl) (ow hw 36 rfl) (ow hw 37 rfl) (by decide) (lenOf pd__28II_29I rfl) rfl rfl rfl (W := 1) rfl (by decide) (by decide) (by decide) (by decide) all0 rfl ?_
              intro T1077 h1077 v1077 X1077 K1077 hQ1077
              obtain rfl := hQ1077
              show OGo _ _ _ _ T1077 (mkF m 322 #[.val (.int pa), .val (.int pb), .val (.int pp), .val (.int u0), .val (.int u1), .val (.int u2), .val (.int 3), .val (.int 3), .val (.ref b985), .val (.ref b993), .val (.ref b1018), .val (.int 1), .val (.int (pp &&& (3 : Int32))), .unset, .unset, .unset, .unset] [(.int 2), (.ref b985)])
              have f1078 := f992.keep K993 nin0
              have f1079 := f1078.keep K996 nin0
              have f1080 := f1079.keep K998 (ninS (Nat.ne_of_lt (Nat.lt_of_lt_of_le (Nat.lt_of_lt_of_le U985 (Nat.le_trans (Nat.le_trans (Nat.le_trans K987.1 K989.1) K991.1) K993.1)) G996)) nin0)
              have f1081 := f1080.keep K1000 (ninS (Nat.ne_of_lt (Nat.lt_of_lt_of_le (Nat.lt_of_lt_of_le U985 (Nat.le_trans (Nat.le_trans (Nat.le_trans K987.1 K989.1) K991.1) K993.1)) G996)) nin0)
              have f1082 := f1081.keep K1002 (ninS (Nat.ne_of_lt (Nat.lt_of_lt_of_le (Nat.lt_of_lt_of_le U985 (Nat.le_trans (Nat.le_trans (Nat.le_trans K987.1 K989.1) K991.1) K993.1)) G996)) nin0)
              have f1083 := f1082.keep K1016 (ninS (Nat.ne_of_lt (Nat.lt_of_lt_of_le (Nat.lt_of_lt_of_le U985 (Nat.le_trans (Nat.le_trans K987.1 K989.1) K991.1)) G993)) nin0)
              have f1084 := f1083.keep K1018 nin0
              have f1085 := f1084.keep K1022 nin0
              have f1086 := f1085.keep K1027 (ninS (Nat.ne_of_lt (Nat.lt_of_lt_of_le (Nat.lt_of_lt_of_le U985 (Nat.le_trans (Nat.le_trans (Nat.le_trans (Nat.le_trans (Nat.le_trans (Nat.le_trans (Nat.le_trans (Nat.le_trans K987.1 K989.1) K991.1) K993.1) K996.1) K998.1) K1000.1) K1002.1) K1016.1)) G1018)) nin0)
              have f1087 := f1086.keep K1034 (ninS (Nat.ne_of_lt (Nat.lt_of_lt_of_le (Nat.lt_of_lt_of_le U985 (Nat.le_trans (Nat.le_trans (Nat.le_trans (Nat.le_trans (Nat.le_trans (Nat.le_trans (Nat.le_trans (Nat.le_trans K987.1 K989.1) K991.1) K993.1) K996.1) K998.1) K1000.1) K1002.1) K1016.1)) G1018)) nin0)
              have f1088 := f1087.keep K1039 (ninS (Nat.ne_of_lt (Nat.lt_of_lt_of_le (Nat.lt_of_lt_of_le U985 (Nat.le_trans (Nat.le_trans (Nat.le_trans (Nat.le_trans (Nat.le_trans (Nat.le_trans (Nat.le_trans (Nat.le_trans K987.1 K989.1) K991.1) K993.1) K996.1) K998.1) K1000.1) K1002.1) K1016.1)) G1018)) nin0)
              have f1089 := f1088.keep K1044 (ninS (Nat.ne_of_lt (Nat.lt_of_lt_of_le (Nat.lt_of_lt_of_le U985 (Nat.le_trans (Nat.le_trans (Nat.le_trans (Nat.le_trans (Nat.le_trans (Nat.le_trans (Nat.le_trans (Nat.le_trans K987.1 K989.1) K991.1) K993.1) K996.1) K998.1) K1000.1) K1002.1) K1016.1)) G1018)) nin0)
              have f1090 := f1089.keep K1077 nin0
              refine own_ldC X1077 323 at_322 f1090 (by decide) (by decide) rfl rfl ?_
              refine og_istore X1077 325 #[.val (.int pa), .val (.int pb), .val (.int pp), .val (.int u0), .val (.int u1), .val (.int u2), .val (.int 3), .val (.int 3), .val (.ref b985), .val (.ref b993), .val (.ref b1018), .val (.int 1), .val (.int (pp &&& (3 : Int32))), .val (.int u2), .unset, .unset, .unset] at_323 rfl rfl ?_
              refine og_goto X1077 341 at_325 (by decide) (by decide) ?_
              exact J1047 _ _ X1077 K1077 u2 trivial
            · -- not
              refine og_icmpY X1044 328 at_309 (XT.ii_ne_t hc1076) (by decide) (by decide) ?_
              refine og_aload X1044 330 at_328 rfl rfl rfl ?_
              refine og_iload X1044 332 at_330 rfl rfl ?_
              refine og_iconst X1044 333 (1 : Int32) at_332 rfl rfl ?_
              refine og_isub X1044 334 at_333 rfl ?_
              show OGo _ _ _ _ T1044 (mkF m 334 #[.val (.int pa), .val (.int pb), .val (.int pp), .val (.int u0), .val (.int u1), .val (.int u2), .val (.int 3), .val (.int 3), .val (.ref b985), .val (.ref b993), .val (.ref b1018), .val (.int 1), .val (.int (pp &&& (3 : Int32))), .unset, .unset, .unset, .unset] [(.int 2), (.ref b985)])
              refine og_iconst X1044 335 (0 : Int32) at_334 rfl rfl ?_
              refine own_stat X1044 338 (argsL := [(.int 2), (.int 0)]) (rest := [(.ref b985)]) at_335 (rm_max0 l Z a0 hw n0 h1044 hWd [] X1044.old (2 : Int32) (0 : Int32) (by decide) ) (ow hw 56 rfl) (ow hw 57 rfl) (ow hw 36 rfl) (ow hw 58 rfl) (by decide) (lenOf pd__28II_29I rfl) rfl rfl rfl (W := 1) rfl (by decide) (by decide) (by decide) (by decide) all0 rfl ?_
              intro T1091 h1091 v1091 X1091 K1091 hQ1091
              obtain rfl := hQ1091
              show OGo _ _ _ _ T1091 (mkF m 338 #[.val (.int pa), .val (.int pb), .val (.int pp), .val (.int u0), .val (.int u1), .val (.int u2), .val (.int 3), .val (.int 3), .val (.ref b985), .val (.ref b993), .val (.ref b1018), .val (.int 1), .val (.int (pp &&& (3 : Int32))), .unset, .unset, .unset, .unset] [(.int 2), (.ref b985)])
              have f1092 := f992.keep K993 nin0
              have f1093 := f1092.keep K996 nin0
              have f1094 := f1093.keep K998 (ninS (Nat.ne_of_lt (Nat.lt_of_lt_of_le (Nat.lt_of_lt_of_le U985 (Nat.le_trans (Nat.le_trans (Nat.le_trans K987.1 K989.1) K991.1) K993.1)) G996)) nin0)
              have f1095 := f1094.keep K1000 (ninS (Nat.ne_of_lt (Nat.lt_of_lt_of_le (Nat.lt_of_lt_of_le U985 (Nat.le_trans (Nat.le_trans (Nat.le_trans K987.1 K989.1) K991.1) K993.1)) G996)) nin0)
              have f1096 := f1095.keep K1002 (ninS (Nat.ne_of_lt (Nat.lt_of_lt_of_le (Nat.lt_of_lt_of_le U985 (Nat.le_trans (Nat.le_trans (Nat.le_trans K987.1 K989.1) K991.1) K993.1)) G996)) nin0)
              have f1097 := f1096.keep K1016 (ninS (Nat.ne_of_lt (Nat.lt_of_lt_of_le (Nat.lt_of_lt_of_le U985 (Nat.le_trans (Nat.le_trans K987.1 K989.1) K991.1)) G993)) nin0)
              have f1098 := f1097.keep K1018 nin0
              have f1099 := f1098.keep K1022 nin0
              have f1100 := f1099.keep K1027 (ninS (Nat.ne_of_lt (Nat.lt_of_lt_of_le (Nat.lt_of_lt_of_le U985 (Nat.le_trans (Nat.le_trans (Nat.le_trans (Nat.le_trans (Nat.le_trans (Nat.le_trans (Nat.le_trans (Nat.le_trans K987.1 K989.1) K991.1) K993.1) K996.1) K998.1) K1000.1) K1002.1) K1016.1)) G1018)) nin0)
              have f1101 := f1100.keep K1034 (ninS (Nat.ne_of_lt (Nat.lt_of_lt_of_le (Nat.lt_of_lt_of_le U985 (Nat.le_trans (Nat.le_trans (Nat.le_trans (Nat.le_trans (Nat.le_trans (Nat.le_trans (Nat.le_trans (Nat.le_trans K987.1 K989.1) K991.1) K993.1) K996.1) K998.1) K1000.1) K1002.1) K1016.1)) G1018)) nin0)
              have f1102 := f1101.keep K1039 (ninS (Nat.ne_of_lt (Nat.lt_of_lt_of_le (Nat.lt_of_lt_of_le U985 (Nat.le_trans (Nat.le_trans (Nat.le_trans (Nat.le_trans (Nat.le_trans (Nat.le_trans (Nat.le_trans (Nat.le_trans K987.1 K989.1) K991.1) K993.1) K996.1) K998.1) K1000.1) K1002.1) K1016.1)) G1018)) nin0)
              have f1103 := f1102.keep K1044 (ninS (Nat.ne_of_lt (Nat.lt_of_lt_of_le (Nat.lt_of_lt_of_le U985 (Nat.le_trans (Nat.le_trans (Nat.le_trans (Nat.le_trans (Nat.le_trans (Nat.le_trans (Nat.le_trans (Nat.le_trans K987.1 K989.1) K991.1) K993.1) K996.1) K998.1) K1000.1) K1002.1) K1016.1)) G1018)) nin0)
              have f1104 := f1103.keep K1091 nin0
              refine own_ldC X1091 339 at_338 f1104 (by decide) (by decide) rfl rfl ?_
              refine og_istore X1091 341 #[.val (.int pa), .val (.int pb), .val (.int pp), .val (.int u0), .val (.int u1), .val (.int u2), .val (.int 3), .val (.int 3), .val (.ref b985), .val (.ref b993), .val (.ref b1018), .val (.int 1), .val (.int (pp &&& (3 : Int32))), .val (.int u2), .unset, .unset, .unset] at_339 rfl rfl ?_
              exact J1047 _ _ X1091 K1091 u2 trivial
theorem own_held {s : State} {own : String} {i : Nat} (h : constHeld s own i) : Jvm.Lit.constHeld s own i := h
set_option maxRecDepth 65536 in
set_option maxHeartbeats 40000000 in
theorem comes_1 {Post : Tables → Env → Array Value → State → Outcome → State → Prop} (hpost : ∀ tb e args s v u, (limb_1_1.after args s (.returned v) u = true ∧ limb_1_2.after args s (.returned v) u = true ∧ True) → Jvm.ReturnedEndW s (.returned v) u (Jvm.fieldLocs frame_1_writes args s ++ Jvm.arrayLocs frame_1_arrays args s ++ Jvm.staticLocs frame_1_statics s) 24 2176 → Post tb e args s (.returned v) u) :
    ArmFor flags0 classFile x code maxLocals ret World_1 tables_1 room_1 Calls_1 rest_1 Pre_1 Post := by
  intro l hfl _ _ p e ha hc hk s m args below hf hA hF happ hP
  obtain ⟨hcalls, hrest, hpre⟩ := hP
  obtain ⟨-, -, -, hnamed, -, -, -, hat⟩ := (Spec.applies_iff hf).mp happ
  obtain ⟨hg, hn⟩ := and_e (Cond.before_iff.mp (show (Jvm.Cond.and given_1 narrow_1).before args s = true from hpre))
  obtain ⟨hcount, g0⟩ := and_e hg
  obtain ⟨i0, g1⟩ := and_e g0
  obtain ⟨i1, g2⟩ := and_e g1
  have i2 := g2
  obtain ⟨w0, w1, w2, rfl⟩ : ∃ w0 w1 w2 : Value, args = #[w0, w1, w2] := by
    have hs : args.size = 3 := by simpa [Cond.value, given_1] using hcount
    obtain ⟨L⟩ := args
    match L, hs with
    | [w0, w1, w2], _ => exact ⟨w0, w1, w2, rfl⟩
  have hw := fun d (hd : d ∈ tables_1) => atoms_spec (ws := Jvm.Cond.code x code maxLocals ret :: tables_1) hat d (List.mem_cons_of_mem _ hd)
  obtain ⟨hsets, hown0⟩ := atoms_of _ (rest_1_c_eq ▸ (show rest_1_c.before _ s = true from hrest))
  obtain ⟨x0, e0⟩ := is_v i0
  obtain rfl : w0 = (.int x0) := Option.some.inj e0
  obtain ⟨x1, e1⟩ := is_v i1
  obtain rfl : w1 = (.int x1) := Option.some.inj e1
  obtain ⟨x2, e2⟩ := is_v i2
  obtain rfl : w2 = (.int x2) := Option.some.inj e2
  have hEL : EW s #[(.int x0), (.int x1), (.int x2)] own_EL := (EW.cons (ow hw 25 rfl) (by decide) (EW.cons (ow hw 14 rfl) (by decide) EW.nil))
  obtain ⟨r0, f0⟩ := is_v (Cond.before_iff.mp (hsets _ (om 1 rfl)))
  have t0 : own_sti s "java/lang/String" "COMPACT_STRINGS" "Z" = r0 := own_sti_of f0
  have S0 := Sta.start f0 (Or.inl (hsets _ (om 0 rfl)))
  have c0 : ¬ (r0 = (0 : Int32)) := gotF (Cond.eq_ints f0 (Term.int_eval (0))) (not_v (Cond.before_iff.mp (hsets _ (om 2 rfl))))
  obtain ⟨r1, f1, k1⟩ := isR_v (Cond.before_iff.mp (hsets _ (om 8 rfl)))
  have t1 : own_stv s "jdk/internal/util/Preconditions" "SIOOBE_FORMATTER" "Ljava/util/function/BiFunction;" = r1 := own_stv_of f1
  have S1 := Sta.start f1 (Or.inl (hsets _ (om 7 rfl)))
  have hWd : OWorld s #[(.int x0), (.int x1), (.int x2)] := ⟨hEL, ⟨by rw [t0]; exact S0, by rw [t0]; exact c0⟩, ⟨by rw [t1]; exact S1, by rw [t1]; exact k1⟩, Sta.start (Cond.eq_int (hsets _ (om 12 rfl)) rfl) (Or.inl (hsets _ (om 11 rfl))), Sta.start (Cond.eq_int (hsets _ (om 15 rfl)) rfl) (Or.inl (hsets _ (om 14 rfl))), Sta.start (Cond.eq_int (hsets _ (om 18 rfl)) rfl) (Or.inl (hsets _ (om 17 rfl)))⟩
  have hCH : CHv s own_EL s.vm s.heap := CHv.start hEL (fun p hp => own_held (hcalls.1 p hp)) (by have := (hsets _ (om 2 rfl)); exact this) (ow hw 15 rfl) (ow hw 2 rfl)
  obtain ⟨n, o, h1, h2, h3, v, L, rfl, ⟨N, -, hQ⟩, -, hqW, hqN⟩ := rm0 l s _ hw s.heap.size s.heap hWd tables_1 (Old.start s) x0 x1 x2 p e ha hc hk s m _ below hf ((Spec.applies_iff_loose hf).mp happ).1 ⟨rfl, State.Warmed39.refl s, rfl, hCH, fun _ q => nomatch q⟩ trivial
  obtain rfl := hQ
  refine ⟨n, _, h1, h2, h3, hpost _ _ _ _ _ _ ⟨Cond.after_iff.mpr rfl, Cond.after_iff.mpr (eq_i res_at (Term.int_eval (1)) rfl), trivial⟩ ⟨hqW.1, hqW.2.1, hqW.2.2.1, (hqW.2.2.2.sift fun y hy => Or.inr (N y hy)).mono (by decide) (by decide)⟩⟩
theorem main_1_1 : Claimed_1_1 := comes_1 fun _ _ _ _ _ _ h hF => ⟨h.1, hF⟩
theorem main_1_2 : Claimed_1_2 := comes_1 fun _ _ _ _ _ _ h hF => ⟨h.2.1, hF⟩
end Jvm.Pilot.@@N@@
namespace Jvm.Pilot.@@N@@
open Jvm Jvm.ClassFile Sem Op Lib Jvm.Free Jvm.Stand Jvm.Pilot.@@N@@.Jvm.D
/-! MADE BY PROGRAM (witnessworld.py) out of the Statement's table words and the real class files: 21 classes; the members and pool entries that the words name. The judged class is class 1, her method 1. -/
namespace start1
open Jvm.ClassFile
def u (s : String) : CpInfo := .utf8 (stringToUtf16 s)
/-- a pool by its gaps: so many unusable entries, then the entry; so many at the end -/
def gap : Nat → List CpInfo → List CpInfo
  | 0, r => r
  | n + 1, r => .unusable :: gap n r
def poolList (es : List (Nat × CpInfo)) (last : Nat) : List CpInfo := es.foldr (fun e r => gap e.1 (e.2 :: r)) (gap last [])
def pool (es : List (Nat × CpInfo)) (last : Nat) : Array CpInfo := ⟨poolList es last⟩
def fileOf (pool : Array CpInfo) (this : Nat) (attrs : Array Attribute := #[]) (ms : Array MethodInfo := #[]) (fl : Nat := 33) (sup : Nat := 0) (ifs : Array Nat := #[]) (fds : Array FieldInfo := #[]) : ClassFile where
  minorVersion := 0
  majorVersion := 65
  constantPool := pool
  accessFlags := fl
  thisClass := this
  superClass := sup
  interfaces := ifs
  fields := fds
  methods := ms
  attributes := attrs
def plain (name : String) (sup : Option ClassId) : Class where
  name := name
  kind := .ordinary
  loader := none
  accessFlags := 33
  super := sup
  interfaces := #[]
  cf := none
  fields := #[]
  methods := #[]
  instanceTypes := #[]
  staticTypes := #[]
  resolved := #[]
  callSites := []
  init := .initialized
  statics := none
  mirror := none

def pool0 : Array CpInfo := pool [(5, u "<init>"), (0, u "()V"), (1, .class_ 10), (1, u "java/lang/Object")] 113

def k0c0 : Code := { maxStack := 0, maxLocals := 1, code := object_method_1_code, exceptionTable := #[], attributes := #[] }
def k0m0 : Method := { name := "<init>", desc := "()V", sig := { parameters := [], returnType := none }, accessFlags := 1, code := some k0c0 }
/-- java/lang/Object -/
def k0 : Class := { plain "java/lang/Object" none with
  accessFlags := 33
  interfaces := #[]
  cf := some (fileOf pool0 8 #[] #[{ accessFlags := 1, nameIndex := 5, descriptorIndex := 6, attributes := #[] }] 33 0 #[] #[])
  fields := #[]
  methods := #[k0m0]
  instanceTypes := #[]
  staticTypes := #[]
  resolved := Array.replicate 124 none
  statics := none }

def pool1 : Array CpInfo := pool [(2, .class_ 4), (1, u "java/lang/Object"), (0, u "<init>"), (0, u "()V"), (0, .class_ 8), (0, u "java/lang/String"), (0, .methodref 7 10), (0, .nameAndType 5 11), (0, u "([C)V"), (0, .class_ 13), (0, u "com/example/bote/bote/fields/FieldCursor"), (0, .string 15), (0, u "shape"), (0, .methodref 12 17), (0, .nameAndType 5 18), (0, u "(Ljava/lang/String;Ljava/lang/String;)V"), (0, .methodref 12 20), (0, .nameAndType 21 22), (0, u "take"), (0, u "(C)Z"), (0, .methodref 24 25), (0, .class_ 26), (0, .nameAndType 27 28), (0, u "java/lang/Math"), (0, u "min"), (0, u "(II)I"), (0, .methodref 24 30), (0, .nameAndType 31 28), (0, u "max"), (0, .methodref 12 33), (0, .nameAndType 34 22), (0, u "isNext"), (0, .class_ 36), (0, u "com/example/bote/bote/fields/FieldCursorIsNextPinLaw"), (2, u "law"), (0, u "(III)Z")] 5

def k1m0 : Method := { name := "<init>", desc := "()V", sig := { parameters := [], returnType := none }, accessFlags := 1, code := none }
def k1c1 : Code := { maxStack := 6, maxLocals := 17, code := code, exceptionTable := #[], attributes := #[] }
def k1m1 : Method := { name := "law", desc := "(III)Z", sig := { parameters := [.int, .int, .int], returnType := some .boolean }, accessFlags := 9, code := some k1c1 }
/-- com/example/bote/bote/fields/FieldCursorIsNextPinLaw -/
def k1 : Class := { plain "com/example/bote/bote/fields/FieldCursorIsNextPinLaw" (some 0) with
  accessFlags := 49
  interfaces := #[]
  cf := some (fileOf pool1 35 #[] #[{ accessFlags := 1, nameIndex := 5, descriptorIndex := 6, attributes := #[] }, { accessFlags := 9, nameIndex := 39, descriptorIndex := 40, attributes := #[] }] 49 2 #[] #[])
  fields := #[]
  methods := #[k1m0, k1m1]
  instanceTypes := #[]
  staticTypes := #[]
  resolved := Array.replicate 46 none
  statics := none }

def pool2 : Array CpInfo := pool [(1, .class_ 2), (0, u "java/io/Serializable"), (0, .class_ 4), (0, u "java/lang/Object")] 2

/-- java/io/Serializable -/
def k2 : Class := { plain "java/io/Serializable" (some 0) with
  accessFlags := 1537
  interfaces := #[]
  cf := some (fileOf pool2 1 #[] #[] 1537 3 #[] #[])
  fields := #[]
  methods := #[]
  instanceTypes := #[]
  staticTypes := #[]
  resolved := Array.replicate 7 none
  statics := none }

def pool3 : Array CpInfo := pool [(1, .class_ 2), (0, u "java/lang/Comparable"), (0, .class_ 4), (0, u "java/lang/Object")] 7

/-- java/lang/Comparable -/
def k3 : Class := { plain "java/lang/Comparable" (some 0) with
  accessFlags := 1537
  interfaces := #[]
  cf := some (fileOf pool3 1 #[] #[] 1537 3 #[] #[])
  fields := #[]
  methods := #[]
  instanceTypes := #[]
  staticTypes := #[]
  resolved := Array.replicate 12 none
  statics := none }

def pool4 : Array CpInfo := pool [(2, .class_ 4), (1, u "java/lang/CharSequence"), (42, .class_ 48), (0, u "java/lang/CharSequence$1CodePointIterator"), (10, .class_ 60), (0, u "java/lang/CharSequence$1CharIterator"), (5, .class_ 67), (0, u "java/lang/Object")] 63

/-- java/lang/CharSequence -/
def k4 : Class := { plain "java/lang/CharSequence" (some 0) with
  accessFlags := 1537
  interfaces := #[]
  cf := some (fileOf pool4 2 #[.nestMembers #[47, 59]] #[] 1537 66 #[] #[])
  fields := #[]
  methods := #[]
  instanceTypes := #[]
  staticTypes := #[]
  resolved := Array.replicate 131 none
  statics := none }

def pool5 : Array CpInfo := pool [(1, .class_ 2), (0, u "java/lang/constant/Constable"), (0, .class_ 4), (0, u "java/lang/Object")] 6

/-- java/lang/constant/Constable -/
def k5 : Class := { plain "java/lang/constant/Constable" (some 0) with
  accessFlags := 1537
  interfaces := #[]
  cf := some (fileOf pool5 1 #[] #[] 1537 3 #[] #[])
  fields := #[]
  methods := #[]
  instanceTypes := #[]
  staticTypes := #[]
  resolved := Array.replicate 11 none
  statics := none }

def pool6 : Array CpInfo := pool [(1, .class_ 2), (0, u "java/lang/constant/ConstantDesc"), (0, .class_ 4), (0, u "java/lang/Object")] 32

/-- java/lang/constant/ConstantDesc -/
def k6 : Class := { plain "java/lang/constant/ConstantDesc" (some 0) with
  accessFlags := 1537
  interfaces := #[]
  cf := some (fileOf pool6 1 #[] #[] 1537 3 #[] #[])
  fields := #[]
  methods := #[]
  instanceTypes := #[]
  staticTypes := #[]
  resolved := Array.replicate 37 none
  statics := none }

def pool7 : Array CpInfo := pool [(1, .methodref 2 3), (0, .class_ 4), (0, .nameAndType 5 6), (0, u "java/lang/Object"), (0, u "<init>"), (0, u "()V"), (0, .string 8), (0, u ""), (0, .fieldref 10 11), (0, .class_ 12), (0, .nameAndType 13 14), (0, u "java/lang/String"), (0, u "value"), (0, u "[B"), (0, .fieldref 10 16), (0, .nameAndType 17 18), (0, u "coder"), (0, u "B"), (2, u "hash"), (0, u "I"), (2, u "hashIsZero"), (0, u "Z"), (0, .methodref 10 28), (0, .nameAndType 5 29), (0, u "([CIILjava/lang/Void;)V"), (8, .fieldref 10 39), (0, .nameAndType 40 26), (0, u "COMPACT_STRINGS"), (1, .class_ 44), (1, u "java/lang/StringUTF16"), (0, u "compress"), (1, .methodref 42 48), (0, .nameAndType 49 50), (0, u "coderFromArrayLen"), (0, u "([BI)B"), (56, .class_ 109), (1, u "java/lang/StringLatin1"), (32, u "()Z"), (34, .methodref 42 178), (0, .nameAndType 45 179), (0, u "([CII)[B"), (154, u "()I"), (0, .methodref 10 336), (0, .nameAndType 17 337), (0, u "()B"), (25, u "([BI)C"), (27, u "(II)V"), (35, u "(I)C"), (64, .methodref 10 493), (0, .nameAndType 494 142), (0, u "isLatin1"), (0, .methodref 107 496), (0, .nameAndType 497 363), (0, u "charAt"), (0, .methodref 42 496), (2, u "checkIndex"), (5, u "length"), (67, .class_ 576), (0, u "java/lang/CharSequence"), (22, u "CASE_INSENSITIVE_ORDER"), (0, u "Ljava/util/Comparator;"), (409, u "([C)V"), (42, .fieldref 1054 1055), (0, .class_ 1056), (0, .nameAndType 1057 1058), (0, u "jdk/internal/util/Preconditions"), (0, u "SIOOBE_FORMATTER"), (0, u "Ljava/util/function/BiFunction;"), (0, .methodref 1054 1060), (0, .nameAndType 501 1061), (0, u "(IILjava/util/function/BiFunction;)I"), (39, u "serialPersistentFields"), (0, u "[Ljava/io/ObjectStreamField;"), (0, .class_ 1104), (0, u "java/lang/String$CaseInsensitiveComparator"), (1, .class_ 1107), (0, u "java/io/Serializable"), (0, .class_ 1109), (0, u "java/lang/Comparable"), (0, .class_ 1111), (0, u "java/lang/constant/Constable"), (0, .class_ 1113), (0, u "java/lang/constant/ConstantDesc"), (2, u "serialVersionUID"), (0, u "J"), (3, u "REPL"), (0, u "C"), (2, u "LATIN1"), (1, u "UTF16")] 323

def k7m0 : Method := { name := "<init>", desc := "()V", sig := { parameters := [], returnType := none }, accessFlags := 1, code := none }
def k7c1 : Code := { maxStack := 5, maxLocals := 2, code := jdk_42_method_3_code, exceptionTable := #[], attributes := #[] }
def k7m1 : Method := { name := "<init>", desc := "([C)V", sig := { parameters := [(.array .char)], returnType := none }, accessFlags := 1, code := some k7c1 }
def k7c2 : Code := { maxStack := 2, maxLocals := 1, code := jdk_42_method_54_code, exceptionTable := #[], attributes := #[] }
def k7m2 : Method := { name := "length", desc := "()I", sig := { parameters := [], returnType := some .int }, accessFlags := 1, code := some k7c2 }
def k7c3 : Code := { maxStack := 2, maxLocals := 2, code := jdk_42_method_56_code, exceptionTable := #[], attributes := #[] }
def k7m3 : Method := { name := "charAt", desc := "(I)C", sig := { parameters := [.int], returnType := some .char }, accessFlags := 1, code := some k7c3 }
def k7c4 : Code := { maxStack := 4, maxLocals := 6, code := jdk_42_method_149_code, exceptionTable := #[], attributes := #[] }
def k7m4 : Method := { name := "<init>", desc := "([CIILjava/lang/Void;)V", sig := { parameters := [(.array .char), .int, .int, (.object "java/lang/Void")], returnType := none }, accessFlags := 2, code := some k7c4 }
def k7c5 : Code := { maxStack := 1, maxLocals := 1, code := jdk_42_method_152_code, exceptionTable := #[], attributes := #[] }
def k7m5 : Method := { name := "coder", desc := "()B", sig := { parameters := [], returnType := some .byte }, accessFlags := 0, code := some k7c5 }
def k7c6 : Code := { maxStack := 1, maxLocals := 1, code := jdk_42_method_154_code, exceptionTable := #[], attributes := #[] }
def k7m6 : Method := { name := "isLatin1", desc := "()Z", sig := { parameters := [], returnType := some .boolean }, accessFlags := 0, code := some k7c6 }
def k7c7 : Code := { maxStack := 3, maxLocals := 2, code := jdk_42_method_155_code, exceptionTable := #[], attributes := #[] }
def k7m7 : Method := { name := "checkIndex", desc := "(II)V", sig := { parameters := [.int, .int], returnType := none }, accessFlags := 8, code := some k7c7 }
/-- java/lang/String -/
def k7 : Class := { plain "java/lang/String" (some 0) with
  accessFlags := 49
  interfaces := #[2, 3, 4, 5, 6]
  cf := some (fileOf pool7 10 #[.nestMembers #[1103]] #[{ accessFlags := 1, nameIndex := 5, descriptorIndex := 6, attributes := #[] }, { accessFlags := 1, nameIndex := 5, descriptorIndex := 1010, attributes := #[] }, { accessFlags := 1, nameIndex := 507, descriptorIndex := 334, attributes := #[] }, { accessFlags := 1, nameIndex := 497, descriptorIndex := 427, attributes := #[] }, { accessFlags := 2, nameIndex := 5, descriptorIndex := 29, attributes := #[] }, { accessFlags := 0, nameIndex := 17, descriptorIndex := 337, attributes := #[] }, { accessFlags := 0, nameIndex := 494, descriptorIndex := 142, attributes := #[] }, { accessFlags := 8, nameIndex := 501, descriptorIndex := 391, attributes := #[] }] 49 2 #[1106, 1108, 575, 1110, 1112] #[{ accessFlags := 18, nameIndex := 13, descriptorIndex := 14, attributes := #[] }, { accessFlags := 18, nameIndex := 17, descriptorIndex := 18, attributes := #[] }, { accessFlags := 2, nameIndex := 21, descriptorIndex := 22, attributes := #[] }, { accessFlags := 2, nameIndex := 25, descriptorIndex := 26, attributes := #[] }, { accessFlags := 26, nameIndex := 1116, descriptorIndex := 1117, attributes := #[] }, { accessFlags := 24, nameIndex := 40, descriptorIndex := 26, attributes := #[] }, { accessFlags := 26, nameIndex := 1101, descriptorIndex := 1102, attributes := #[] }, { accessFlags := 26, nameIndex := 1121, descriptorIndex := 1122, attributes := #[] }, { accessFlags := 25, nameIndex := 599, descriptorIndex := 600, attributes := #[] }, { accessFlags := 24, nameIndex := 1125, descriptorIndex := 18, attributes := #[] }, { accessFlags := 24, nameIndex := 1127, descriptorIndex := 18, attributes := #[] }])
  fields := #[{ name := "value", type := (.array .byte), accessFlags := 18, slot := 0, constantValue := 0 }, { name := "coder", type := .byte, accessFlags := 18, slot := 1, constantValue := 0 }, { name := "hash", type := .int, accessFlags := 2, slot := 2, constantValue := 0 }, { name := "hashIsZero", type := .boolean, accessFlags := 2, slot := 3, constantValue := 0 }, { name := "serialVersionUID", type := .long, accessFlags := 26, slot := 0, constantValue := 0 }, { name := "COMPACT_STRINGS", type := .boolean, accessFlags := 24, slot := 1, constantValue := 0 }, { name := "serialPersistentFields", type := (.array (.object "java/io/ObjectStreamField")), accessFlags := 26, slot := 2, constantValue := 0 }, { name := "REPL", type := .char, accessFlags := 26, slot := 3, constantValue := 0 }, { name := "CASE_INSENSITIVE_ORDER", type := (.object "java/util/Comparator"), accessFlags := 25, slot := 4, constantValue := 0 }, { name := "LATIN1", type := .byte, accessFlags := 24, slot := 5, constantValue := 0 }, { name := "UTF16", type := .byte, accessFlags := 24, slot := 6, constantValue := 0 }]
  methods := #[k7m0, k7m1, k7m2, k7m3, k7m4, k7m5, k7m6, k7m7]
  instanceTypes := #[(.array .byte), .byte, .int, .boolean]
  staticTypes := #[.long, .boolean, (.array (.object "java/io/ObjectStreamField")), .char, (.object "java/util/Comparator"), .byte, .byte]
  resolved := Array.replicate 1451 none
  statics := some 0 }

def pool8 : Array CpInfo := pool [(1, .methodref 2 3), (0, .class_ 4), (0, .nameAndType 5 6), (0, u "java/lang/Object"), (0, u "<init>"), (0, u "()V"), (0, .fieldref 8 9), (0, .class_ 10), (0, .nameAndType 11 12), (0, u "com/example/bote/bote/fields/FieldCursor"), (0, u "text"), (0, u "Ljava/lang/String;"), (0, .fieldref 8 14), (0, .nameAndType 15 12), (0, u "shape"), (0, .fieldref 8 17), (0, .nameAndType 18 19), (0, u "at"), (0, u "I"), (0, .methodref 21 22), (0, .class_ 23), (0, .nameAndType 24 25), (0, u "java/lang/String"), (0, u "length"), (0, u "()I"), (0, .methodref 21 27), (0, .nameAndType 28 29), (0, u "charAt"), (0, u "(I)C"), (6, u "take"), (0, u "(C)Z"), (0, .methodref 8 39), (0, .nameAndType 40 37), (0, u "isNext"), (44, u "TOKEN_SYMBOLS"), (1, u "(Ljava/lang/String;Ljava/lang/String;)V")] 11

def k8c0 : Code := { maxStack := 2, maxLocals := 3, code := prog_2_method_1_code, exceptionTable := #[], attributes := #[] }
def k8m0 : Method := { name := "<init>", desc := "(Ljava/lang/String;Ljava/lang/String;)V", sig := { parameters := [(.object "java/lang/String"), (.object "java/lang/String")], returnType := none }, accessFlags := 1, code := some k8c0 }
def k8c1 : Code := { maxStack := 2, maxLocals := 2, code := prog_2_method_5_code, exceptionTable := #[], attributes := #[] }
def k8m1 : Method := { name := "isNext", desc := "(C)Z", sig := { parameters := [.char], returnType := some .boolean }, accessFlags := 0, code := some k8c1 }
def k8c2 : Code := { maxStack := 3, maxLocals := 3, code := prog_2_method_6_code, exceptionTable := #[], attributes := #[] }
def k8m2 : Method := { name := "take", desc := "(C)Z", sig := { parameters := [.char], returnType := some .boolean }, accessFlags := 1, code := some k8c2 }
/-- com/example/bote/bote/fields/FieldCursor -/
def k8 : Class := { plain "com/example/bote/bote/fields/FieldCursor" (some 0) with
  accessFlags := 49
  interfaces := #[]
  cf := some (fileOf pool8 8 #[] #[{ accessFlags := 1, nameIndex := 5, descriptorIndex := 87, attributes := #[] }, { accessFlags := 0, nameIndex := 40, descriptorIndex := 37, attributes := #[] }, { accessFlags := 1, nameIndex := 36, descriptorIndex := 37, attributes := #[] }] 49 2 #[] #[{ accessFlags := 26, nameIndex := 85, descriptorIndex := 12, attributes := #[] }, { accessFlags := 18, nameIndex := 11, descriptorIndex := 12, attributes := #[] }, { accessFlags := 18, nameIndex := 15, descriptorIndex := 12, attributes := #[] }, { accessFlags := 2, nameIndex := 18, descriptorIndex := 19, attributes := #[] }])
  fields := #[{ name := "TOKEN_SYMBOLS", type := (.object "java/lang/String"), accessFlags := 26, slot := 0, constantValue := 0 }, { name := "text", type := (.object "java/lang/String"), accessFlags := 18, slot := 0, constantValue := 0 }, { name := "shape", type := (.object "java/lang/String"), accessFlags := 18, slot := 1, constantValue := 0 }, { name := "at", type := .int, accessFlags := 2, slot := 2, constantValue := 0 }]
  methods := #[k8m0, k8m1, k8m2]
  instanceTypes := #[(.object "java/lang/String"), (.object "java/lang/String"), .int]
  staticTypes := #[(.object "java/lang/String")]
  resolved := Array.replicate 99 none
  statics := none }

def pool9 : Array CpInfo := pool [(1, .class_ 2), (0, u "java/lang/Math"), (1, .class_ 6), (1, u "java/lang/Object"), (0, u "<init>"), (0, u "()V"), (89, .class_ 100), (1, u "java/lang/Math$RandomNumberGeneratorHolder"), (71, u "negativeZeroFloatBits"), (0, u "J"), (2, u "negativeZeroDoubleBits"), (21, u "max"), (2, u "min"), (43, u "$assertionsDisabled"), (0, u "Z"), (88, u "(II)I"), (2, u "twoToTheDoubleScaleDown"), (0, u "D"), (4, u "twoToTheDoubleScaleUp"), (9, u "E"), (3, u "PI"), (2, u "TAU"), (2, u "DEGREES_TO_RADIANS"), (0, u "RADIANS_TO_DEGREES")] 94

def k9m0 : Method := { name := "<init>", desc := "()V", sig := { parameters := [], returnType := none }, accessFlags := 2, code := none }
def k9c1 : Code := { maxStack := 2, maxLocals := 2, code := jdk_29_method_65_code, exceptionTable := #[], attributes := #[] }
def k9m1 : Method := { name := "max", desc := "(II)I", sig := { parameters := [.int, .int], returnType := some .int }, accessFlags := 9, code := some k9c1 }
def k9c2 : Code := { maxStack := 2, maxLocals := 2, code := jdk_29_method_69_code, exceptionTable := #[], attributes := #[] }
def k9m2 : Method := { name := "min", desc := "(II)I", sig := { parameters := [.int, .int], returnType := some .int }, accessFlags := 9, code := some k9c2 }
/-- java/lang/Math -/
def k9 : Class := { plain "java/lang/Math" (some 0) with
  accessFlags := 49
  interfaces := #[]
  cf := some (fileOf pool9 1 #[.nestMembers #[98]] #[{ accessFlags := 2, nameIndex := 7, descriptorIndex := 8, attributes := #[] }, { accessFlags := 9, nameIndex := 198, descriptorIndex := 335, attributes := #[] }, { accessFlags := 9, nameIndex := 201, descriptorIndex := 335, attributes := #[] }] 49 4 #[] #[{ accessFlags := 25, nameIndex := 354, descriptorIndex := 339, attributes := #[] }, { accessFlags := 25, nameIndex := 358, descriptorIndex := 339, attributes := #[] }, { accessFlags := 25, nameIndex := 361, descriptorIndex := 339, attributes := #[] }, { accessFlags := 26, nameIndex := 364, descriptorIndex := 339, attributes := #[] }, { accessFlags := 26, nameIndex := 365, descriptorIndex := 339, attributes := #[] }, { accessFlags := 26, nameIndex := 172, descriptorIndex := 173, attributes := #[] }, { accessFlags := 26, nameIndex := 176, descriptorIndex := 173, attributes := #[] }, { accessFlags := 8, nameIndex := 344, descriptorIndex := 339, attributes := #[] }, { accessFlags := 8, nameIndex := 338, descriptorIndex := 339, attributes := #[] }, { accessFlags := 4120, nameIndex := 245, descriptorIndex := 246, attributes := #[] }])
  fields := #[{ name := "E", type := .double, accessFlags := 25, slot := 0, constantValue := 0 }, { name := "PI", type := .double, accessFlags := 25, slot := 1, constantValue := 0 }, { name := "TAU", type := .double, accessFlags := 25, slot := 2, constantValue := 0 }, { name := "DEGREES_TO_RADIANS", type := .double, accessFlags := 26, slot := 3, constantValue := 0 }, { name := "RADIANS_TO_DEGREES", type := .double, accessFlags := 26, slot := 4, constantValue := 0 }, { name := "negativeZeroFloatBits", type := .long, accessFlags := 26, slot := 5, constantValue := 0 }, { name := "negativeZeroDoubleBits", type := .long, accessFlags := 26, slot := 6, constantValue := 0 }, { name := "twoToTheDoubleScaleUp", type := .double, accessFlags := 8, slot := 7, constantValue := 0 }, { name := "twoToTheDoubleScaleDown", type := .double, accessFlags := 8, slot := 8, constantValue := 0 }, { name := "$assertionsDisabled", type := .boolean, accessFlags := 4120, slot := 9, constantValue := 0 }]
  methods := #[k9m0, k9m1, k9m2]
  instanceTypes := #[]
  staticTypes := #[.double, .double, .double, .double, .double, .long, .long, .double, .double, .boolean]
  resolved := Array.replicate 460 none
  statics := none }

def pool10 : Array CpInfo := pool [(3, .class_ 4), (0, u "java/lang/String"), (1, .class_ 8), (1, u "java/lang/Object"), (0, u "<init>"), (0, u "()V"), (0, .methodref 12 13), (0, .class_ 14), (0, .nameAndType 15 16), (0, u "java/lang/StringUTF16"), (0, u "newBytesLength"), (0, u "(I)I"), (3, .integer 1073741823), (23, .fieldref 12 45), (0, .nameAndType 46 47), (0, u "$assertionsDisabled"), (0, u "Z"), (0, .methodref 12 49), (0, .nameAndType 50 51), (0, u "length"), (0, u "([B)I"), (7, .fieldref 12 60), (0, .nameAndType 61 62), (0, u "HI_BYTE_SHIFT"), (0, u "I"), (0, .fieldref 12 64), (0, .nameAndType 65 62), (0, u "LO_BYTE_SHIFT"), (1, .methodref 12 68), (0, .nameAndType 69 70), (0, u "checkIndex"), (0, u "(I[B)V"), (0, .methodref 12 72), (0, .nameAndType 73 74), (0, u "getChar"), (0, u "([BI)C"), (32, .methodref 12 108), (0, .nameAndType 109 110), (0, u "newBytesFor"), (0, u "(I)[B"), (0, .methodref 12 112), (0, .nameAndType 113 114), (0, u "putChar"), (0, u "([BII)V"), (0, .methodref 12 116), (0, .nameAndType 117 118), (0, u "compress"), (0, u "([CI[BII)I"), (0, .methodref 12 120), (0, .nameAndType 121 122), (0, u "toBytes"), (0, u "([CII)[B"), (138, u "coderFromArrayLen"), (0, u "([BI)B"), (106, .class_ 371), (1, u "java/lang/StringUTF16$LinesSpliterator"), (20, u "charAt"), (21, .methodref 3 415), (0, .nameAndType 69 416), (0, u "(II)V"), (13, u "MAX_LENGTH"), (196, .class_ 628), (0, u "java/lang/StringUTF16$CodePointsSpliterator"), (0, .class_ 630), (0, u "java/lang/StringUTF16$CharsSpliterator")] 4

def k10m0 : Method := { name := "<init>", desc := "()V", sig := { parameters := [], returnType := none }, accessFlags := 0, code := none }
def k10c1 : Code := { maxStack := 1, maxLocals := 1, code := jdk_52_method_2_code, exceptionTable := #[], attributes := #[] }
def k10m1 : Method := { name := "newBytesFor", desc := "(I)[B", sig := { parameters := [.int], returnType := some (.array .byte) }, accessFlags := 9, code := some k10c1 }
def k10c2 : Code := { maxStack := 4, maxLocals := 1, code := jdk_52_method_3_code, exceptionTable := #[], attributes := #[] }
def k10m2 : Method := { name := "newBytesLength", desc := "(I)I", sig := { parameters := [.int], returnType := some .int }, accessFlags := 9, code := some k10c2 }
def k10c3 : Code := { maxStack := 4, maxLocals := 3, code := jdk_52_method_4_code, exceptionTable := #[], attributes := #[] }
def k10m3 : Method := { name := "putChar", desc := "([BII)V", sig := { parameters := [(.array .byte), .int, .int], returnType := none }, accessFlags := 8, code := some k10c3 }
def k10c4 : Code := { maxStack := 3, maxLocals := 2, code := jdk_52_method_5_code, exceptionTable := #[], attributes := #[] }
def k10m4 : Method := { name := "getChar", desc := "([BI)C", sig := { parameters := [(.array .byte), .int], returnType := some .char }, accessFlags := 8, code := some k10c4 }
def k10c5 : Code := { maxStack := 2, maxLocals := 1, code := jdk_52_method_6_code, exceptionTable := #[], attributes := #[] }
def k10m5 : Method := { name := "length", desc := "([B)I", sig := { parameters := [(.array .byte)], returnType := some .int }, accessFlags := 9, code := some k10c5 }
def k10c6 : Code := { maxStack := 4, maxLocals := 5, code := jdk_52_method_14_code, exceptionTable := #[], attributes := #[] }
def k10m6 : Method := { name := "toBytes", desc := "([CII)[B", sig := { parameters := [(.array .char), .int, .int], returnType := some (.array .byte) }, accessFlags := 9, code := some k10c6 }
def k10c7 : Code := { maxStack := 2, maxLocals := 2, code := jdk_52_method_15_code, exceptionTable := #[], attributes := #[] }
def k10m7 : Method := { name := "coderFromArrayLen", desc := "([BI)B", sig := { parameters := [(.array .byte), .int], returnType := some .byte }, accessFlags := 8, code := some k10c7 }
def k10c8 : Code := { maxStack := 5, maxLocals := 6, code := jdk_52_method_16_code, exceptionTable := #[], attributes := #[] }
def k10m8 : Method := { name := "compress", desc := "([CII)[B", sig := { parameters := [(.array .char), .int, .int], returnType := some (.array .byte) }, accessFlags := 9, code := some k10c8 }
def k10c9 : Code := { maxStack := 3, maxLocals := 7, code := jdk_52_method_21_code, exceptionTable := #[], attributes := #[] }
def k10m9 : Method := { name := "compress", desc := "([CI[BII)I", sig := { parameters := [(.array .char), .int, (.array .byte), .int, .int], returnType := some .int }, accessFlags := 9, code := some k10c9 }
def k10c10 : Code := { maxStack := 2, maxLocals := 2, code := jdk_52_method_83_code, exceptionTable := #[], attributes := #[] }
def k10m10 : Method := { name := "charAt", desc := "([BI)C", sig := { parameters := [(.array .byte), .int], returnType := some .char }, accessFlags := 9, code := some k10c10 }
def k10c11 : Code := { maxStack := 2, maxLocals := 2, code := jdk_52_method_91_code, exceptionTable := #[], attributes := #[] }
def k10m11 : Method := { name := "checkIndex", desc := "(I[B)V", sig := { parameters := [.int, (.array .byte)], returnType := none }, accessFlags := 9, code := some k10c11 }
/-- java/lang/StringUTF16 -/
def k10 : Class := { plain "java/lang/StringUTF16" (some 0) with
  accessFlags := 48
  interfaces := #[]
  cf := some (fileOf pool10 12 #[.nestMembers #[627, 629, 369]] #[{ accessFlags := 0, nameIndex := 9, descriptorIndex := 10, attributes := #[] }, { accessFlags := 9, nameIndex := 109, descriptorIndex := 110, attributes := #[] }, { accessFlags := 9, nameIndex := 15, descriptorIndex := 16, attributes := #[] }, { accessFlags := 8, nameIndex := 113, descriptorIndex := 114, attributes := #[] }, { accessFlags := 8, nameIndex := 73, descriptorIndex := 74, attributes := #[] }, { accessFlags := 9, nameIndex := 50, descriptorIndex := 51, attributes := #[] }, { accessFlags := 9, nameIndex := 121, descriptorIndex := 122, attributes := #[] }, { accessFlags := 8, nameIndex := 261, descriptorIndex := 262, attributes := #[] }, { accessFlags := 9, nameIndex := 117, descriptorIndex := 122, attributes := #[] }, { accessFlags := 9, nameIndex := 117, descriptorIndex := 118, attributes := #[] }, { accessFlags := 9, nameIndex := 392, descriptorIndex := 74, attributes := #[] }, { accessFlags := 9, nameIndex := 69, descriptorIndex := 70, attributes := #[] }] 48 6 #[] #[{ accessFlags := 26, nameIndex := 61, descriptorIndex := 62, attributes := #[] }, { accessFlags := 26, nameIndex := 65, descriptorIndex := 62, attributes := #[] }, { accessFlags := 24, nameIndex := 430, descriptorIndex := 62, attributes := #[] }, { accessFlags := 4120, nameIndex := 46, descriptorIndex := 47, attributes := #[] }])
  fields := #[{ name := "HI_BYTE_SHIFT", type := .int, accessFlags := 26, slot := 0, constantValue := 0 }, { name := "LO_BYTE_SHIFT", type := .int, accessFlags := 26, slot := 1, constantValue := 0 }, { name := "MAX_LENGTH", type := .int, accessFlags := 24, slot := 2, constantValue := 0 }, { name := "$assertionsDisabled", type := .boolean, accessFlags := 4120, slot := 3, constantValue := 0 }]
  methods := #[k10m0, k10m1, k10m2, k10m3, k10m4, k10m5, k10m6, k10m7, k10m8, k10m9, k10m10, k10m11]
  instanceTypes := #[]
  staticTypes := #[.int, .int, .int, .boolean]
  resolved := Array.replicate 635 none
  statics := some 1 }

def pool11 : Array CpInfo := pool [(2, .class_ 4), (1, u "java/lang/Object"), (0, u "<init>"), (0, u "()V"), (17, .class_ 26), (1, u "jdk/internal/util/Preconditions"), (6, u "checkIndex"), (21, .class_ 56), (0, u "jdk/internal/util/Preconditions$4"), (57, .class_ 115), (0, u "jdk/internal/util/Preconditions$1"), (7, u "SIOOBE_FORMATTER"), (0, u "Ljava/util/function/BiFunction;"), (0, .class_ 126), (0, u "jdk/internal/util/Preconditions$2"), (3, u "AIOOBE_FORMATTER"), (0, .class_ 132), (0, u "jdk/internal/util/Preconditions$3"), (3, u "IOOBE_FORMATTER"), (41, u "(IILjava/util/function/BiFunction;)I")] 15

def k11m0 : Method := { name := "<init>", desc := "()V", sig := { parameters := [], returnType := none }, accessFlags := 1, code := none }
def k11c1 : Code := { maxStack := 3, maxLocals := 3, code := jdk_41_method_11_code, exceptionTable := #[], attributes := #[] }
def k11m1 : Method := { name := "checkIndex", desc := "(IILjava/util/function/BiFunction;)I", sig := { parameters := [.int, .int, (.object "java/util/function/BiFunction")], returnType := some .int }, accessFlags := 9, code := some k11c1 }
/-- jdk/internal/util/Preconditions -/
def k11 : Class := { plain "jdk/internal/util/Preconditions" (some 0) with
  accessFlags := 33
  interfaces := #[]
  cf := some (fileOf pool11 24 #[.nestMembers #[55, 131, 125, 114]] #[{ accessFlags := 1, nameIndex := 5, descriptorIndex := 6, attributes := #[] }, { accessFlags := 9, nameIndex := 33, descriptorIndex := 178, attributes := #[] }] 33 2 #[] #[{ accessFlags := 25, nameIndex := 123, descriptorIndex := 124, attributes := #[] }, { accessFlags := 25, nameIndex := 130, descriptorIndex := 124, attributes := #[] }, { accessFlags := 25, nameIndex := 136, descriptorIndex := 124, attributes := #[] }])
  fields := #[{ name := "SIOOBE_FORMATTER", type := (.object "java/util/function/BiFunction"), accessFlags := 25, slot := 0, constantValue := 0 }, { name := "AIOOBE_FORMATTER", type := (.object "java/util/function/BiFunction"), accessFlags := 25, slot := 1, constantValue := 0 }, { name := "IOOBE_FORMATTER", type := (.object "java/util/function/BiFunction"), accessFlags := 25, slot := 2, constantValue := 0 }]
  methods := #[k11m0, k11m1]
  instanceTypes := #[]
  staticTypes := #[(.object "java/util/function/BiFunction"), (.object "java/util/function/BiFunction"), (.object "java/util/function/BiFunction")]
  resolved := Array.replicate 194 none
  statics := some 2 }

def pool12 : Array CpInfo := pool [(1, .class_ 2), (0, u "java/lang/String"), (1, .class_ 6), (1, u "java/lang/Object"), (0, u "<init>"), (0, u "()V"), (0, .methodref 1 10), (0, .nameAndType 11 12), (0, u "checkIndex"), (0, u "(II)V"), (1, .class_ 16), (1, u "java/lang/StringLatin1"), (36, u "([BI)C"), (67, u "$assertionsDisabled"), (0, u "Z"), (98, .class_ 223), (1, u "java/lang/StringLatin1$LinesSpliterator"), (28, u "charAt"), (137, .class_ 391), (0, u "java/lang/StringLatin1$CharsSpliterator")] 3

def k12m0 : Method := { name := "<init>", desc := "()V", sig := { parameters := [], returnType := none }, accessFlags := 0, code := none }
def k12c1 : Code := { maxStack := 2, maxLocals := 2, code := jdk_43_method_2_code, exceptionTable := #[], attributes := #[] }
def k12m1 : Method := { name := "charAt", desc := "([BI)C", sig := { parameters := [(.array .byte), .int], returnType := some .char }, accessFlags := 9, code := some k12c1 }
/-- java/lang/StringLatin1 -/
def k12 : Class := { plain "java/lang/StringLatin1" (some 0) with
  accessFlags := 48
  interfaces := #[]
  cf := some (fileOf pool12 14 #[.nestMembers #[390, 221]] #[{ accessFlags := 0, nameIndex := 7, descriptorIndex := 8, attributes := #[] }, { accessFlags := 9, nameIndex := 252, descriptorIndex := 53, attributes := #[] }] 48 4 #[] #[{ accessFlags := 4120, nameIndex := 121, descriptorIndex := 122, attributes := #[] }])
  fields := #[{ name := "$assertionsDisabled", type := .boolean, accessFlags := 4120, slot := 0, constantValue := 0 }]
  methods := #[k12m0, k12m1]
  instanceTypes := #[]
  staticTypes := #[.boolean]
  resolved := Array.replicate 395 none
  statics := none }

def pool13 : Array CpInfo := pool [(9, u "<init>"), (6, .class_ 18), (1, u "java/lang/Object"), (0, u "()V"), (1, .class_ 23), (1, u "jdk/internal/util/ArraysSupport"), (0, u "LOG2_ARRAY_LONG_INDEX_SCALE"), (0, u "I"), (2, u "U"), (0, u "Ljdk/internal/misc/Unsafe;"), (8, u "BIG_ENDIAN"), (0, u "Z"), (8, u "LOG2_BYTE_BIT_SIZE"), (4, u "LOG2_ARRAY_INT_INDEX_SCALE"), (54, u "JLA"), (0, u "Ljdk/internal/access/JavaLangAccess;"), (11, u "LOG2_ARRAY_BOOLEAN_INDEX_SCALE"), (9, u "LOG2_ARRAY_BYTE_INDEX_SCALE"), (5, u "LOG2_ARRAY_CHAR_INDEX_SCALE"), (5, u "LOG2_ARRAY_SHORT_INDEX_SCALE"), (18, u "LOG2_ARRAY_FLOAT_INDEX_SCALE"), (24, u "LOG2_ARRAY_DOUBLE_INDEX_SCALE"), (89, u "T_BOOLEAN"), (2, u "T_CHAR"), (1, u "T_FLOAT"), (1, u "T_DOUBLE"), (1, u "T_BYTE"), (1, u "T_SHORT"), (1, u "T_INT"), (1, u "T_LONG"), (1, u "SOFT_MAX_ARRAY_LENGTH")] 83

def k13m0 : Method := { name := "<init>", desc := "()V", sig := { parameters := [], returnType := none }, accessFlags := 2, code := none }
/-- jdk/internal/util/ArraysSupport -/
def k13 : Class := { plain "jdk/internal/util/ArraysSupport" (some 0) with
  accessFlags := 33
  interfaces := #[]
  cf := some (fileOf pool13 21 #[] #[{ accessFlags := 2, nameIndex := 9, descriptorIndex := 19, attributes := #[] }] 33 16 #[] #[{ accessFlags := 24, nameIndex := 28, descriptorIndex := 29, attributes := #[] }, { accessFlags := 26, nameIndex := 38, descriptorIndex := 39, attributes := #[] }, { accessFlags := 25, nameIndex := 121, descriptorIndex := 25, attributes := #[] }, { accessFlags := 25, nameIndex := 131, descriptorIndex := 25, attributes := #[] }, { accessFlags := 25, nameIndex := 137, descriptorIndex := 25, attributes := #[] }, { accessFlags := 25, nameIndex := 143, descriptorIndex := 25, attributes := #[] }, { accessFlags := 25, nameIndex := 53, descriptorIndex := 25, attributes := #[] }, { accessFlags := 25, nameIndex := 24, descriptorIndex := 25, attributes := #[] }, { accessFlags := 25, nameIndex := 162, descriptorIndex := 25, attributes := #[] }, { accessFlags := 25, nameIndex := 187, descriptorIndex := 25, attributes := #[] }, { accessFlags := 26, nameIndex := 48, descriptorIndex := 25, attributes := #[] }, { accessFlags := 25, nameIndex := 277, descriptorIndex := 25, attributes := #[] }, { accessFlags := 25, nameIndex := 280, descriptorIndex := 25, attributes := #[] }, { accessFlags := 25, nameIndex := 282, descriptorIndex := 25, attributes := #[] }, { accessFlags := 25, nameIndex := 284, descriptorIndex := 25, attributes := #[] }, { accessFlags := 25, nameIndex := 286, descriptorIndex := 25, attributes := #[] }, { accessFlags := 25, nameIndex := 288, descriptorIndex := 25, attributes := #[] }, { accessFlags := 25, nameIndex := 290, descriptorIndex := 25, attributes := #[] }, { accessFlags := 25, nameIndex := 292, descriptorIndex := 25, attributes := #[] }, { accessFlags := 26, nameIndex := 108, descriptorIndex := 109, attributes := #[] }, { accessFlags := 25, nameIndex := 294, descriptorIndex := 25, attributes := #[] }])
  fields := #[{ name := "U", type := (.object "jdk/internal/misc/Unsafe"), accessFlags := 24, slot := 0, constantValue := 0 }, { name := "BIG_ENDIAN", type := .boolean, accessFlags := 26, slot := 1, constantValue := 0 }, { name := "LOG2_ARRAY_BOOLEAN_INDEX_SCALE", type := .int, accessFlags := 25, slot := 2, constantValue := 0 }, { name := "LOG2_ARRAY_BYTE_INDEX_SCALE", type := .int, accessFlags := 25, slot := 3, constantValue := 0 }, { name := "LOG2_ARRAY_CHAR_INDEX_SCALE", type := .int, accessFlags := 25, slot := 4, constantValue := 0 }, { name := "LOG2_ARRAY_SHORT_INDEX_SCALE", type := .int, accessFlags := 25, slot := 5, constantValue := 0 }, { name := "LOG2_ARRAY_INT_INDEX_SCALE", type := .int, accessFlags := 25, slot := 6, constantValue := 0 }, { name := "LOG2_ARRAY_LONG_INDEX_SCALE", type := .int, accessFlags := 25, slot := 7, constantValue := 0 }, { name := "LOG2_ARRAY_FLOAT_INDEX_SCALE", type := .int, accessFlags := 25, slot := 8, constantValue := 0 }, { name := "LOG2_ARRAY_DOUBLE_INDEX_SCALE", type := .int, accessFlags := 25, slot := 9, constantValue := 0 }, { name := "LOG2_BYTE_BIT_SIZE", type := .int, accessFlags := 26, slot := 10, constantValue := 0 }, { name := "T_BOOLEAN", type := .int, accessFlags := 25, slot := 11, constantValue := 0 }, { name := "T_CHAR", type := .int, accessFlags := 25, slot := 12, constantValue := 0 }, { name := "T_FLOAT", type := .int, accessFlags := 25, slot := 13, constantValue := 0 }, { name := "T_DOUBLE", type := .int, accessFlags := 25, slot := 14, constantValue := 0 }, { name := "T_BYTE", type := .int, accessFlags := 25, slot := 15, constantValue := 0 }, { name := "T_SHORT", type := .int, accessFlags := 25, slot := 16, constantValue := 0 }, { name := "T_INT", type := .int, accessFlags := 25, slot := 17, constantValue := 0 }, { name := "T_LONG", type := .int, accessFlags := 25, slot := 18, constantValue := 0 }, { name := "JLA", type := (.object "jdk/internal/access/JavaLangAccess"), accessFlags := 26, slot := 19, constantValue := 0 }, { name := "SOFT_MAX_ARRAY_LENGTH", type := .int, accessFlags := 25, slot := 20, constantValue := 0 }]
  methods := #[k13m0]
  instanceTypes := #[]
  staticTypes := #[(.object "jdk/internal/misc/Unsafe"), .boolean, .int, .int, .int, .int, .int, .int, .int, .int, .int, .int, .int, .int, .int, .int, .int, .int, .int, (.object "jdk/internal/access/JavaLangAccess"), .int]
  resolved := Array.replicate 378 none
  statics := none }

def pool14 : Array CpInfo := pool [(1, u "java/lang/Cloneable"), (0, .class_ 1), (0, u "java/lang/Object"), (0, .class_ 3)] 3

/-- java/lang/Cloneable -/
def k14 : Class := { plain "java/lang/Cloneable" (some 0) with
  accessFlags := 1537
  interfaces := #[]
  cf := some (fileOf pool14 2 #[] #[] 1537 4 #[] #[])
  fields := #[]
  methods := #[]
  instanceTypes := #[]
  staticTypes := #[]
  resolved := Array.replicate 8 none
  statics := none }

/-- the primitive byte -/
def k15 : Class := { plain "byte" none with kind := .primitive 'B', accessFlags := 0x411 }
/-- [B -/
def k16 : Class := { plain "[B" (some 0) with kind := .array 15 .byte, interfaces := #[14, 2], accessFlags := 1041 }

/-- the primitive char -/
def k17 : Class := { plain "char" none with kind := .primitive 'C', accessFlags := 0x411 }
/-- [C -/
def k18 : Class := { plain "[C" (some 0) with kind := .array 17 .char, interfaces := #[14, 2], accessFlags := 1041 }

/-- the primitive int -/
def k19 : Class := { plain "int" none with kind := .primitive 'I', accessFlags := 0x411 }
/-- [I -/
def k20 : Class := { plain "[I" (some 0) with kind := .array 19 .int, interfaces := #[14, 2], accessFlags := 1041 }

def heap : Heap := #[{ cls := 7, slots := #[.long 0, .int 1, .null, .int 0, .null, .int 0, .int 0], vm := .statics 7 },
  { cls := 10, slots := #[.int 0, .int 8, .int 0, .int 1], vm := .statics 10 },
  { cls := 11, slots := #[.null, .null, .null], vm := .statics 11 }]
def classes : Array Class := #[k0, k1, k2, k3, k4, k5, k6, k7, k8, k9, k10, k11, k12, k13, k14, k15, k16, k17, k18, k19, k20]
def interned : List (Array UInt16 × Addr) := []
def slotsUsed : Nat := 14
def theMethod : MethodId := ⟨1, 1⟩
def args0 : Array Value := #[.int 5, .int 6, .int 7]
def aboutOver (below : List Frame) : State where
  vm := { classes := classes, interned := interned.toArray }
  heap := heap
  slotsUsed := slotsUsed
  threads := #[{ frames := .invoking theMethod args0 :: below }]
def below0 : List Frame := [.native { method := ⟨0, 0⟩, args := #[] }]
def about1 : State := aboutOver below0
def p0 : Program := .bare "" "" ""
def e0 : Env := launch0.env 0 0 0
theorem w_frames : about1.frames = Frame.invoking theMethod args0 :: below0 := rfl
set_option maxRecDepth 65536 in
theorem w_args : argsFit about1.vm theMethod args0 = true := by decide +kernel
set_option maxRecDepth 65536 in
theorem w_heap : heapFits about1 = true := by decide +kernel
set_option maxRecDepth 65536 in
theorem w_runnable : about1.curStatus? = some .runnable := by decide +kernel
set_option maxRecDepth 65536 in
theorem w_alone : about1.alone = true := by decide +kernel
set_option maxRecDepth 65536 in
theorem w_named : about1.methodNamed? x = some theMethod := by decide +kernel
set_option maxRecDepth 65536 in
theorem w_hears : about1.hears theMethod below0 = true := by decide +kernel
set_option maxRecDepth 65536 in
theorem w_ripe : about1.ripe theMethod args0 below0 = true := by decide +kernel
theorem w_running : about1.status = .running := rfl
set_option maxRecDepth 65536 in
theorem w_room : about1.hasRoom e0.platform room_1 = true :=
  launch0.hasRoom_least _ room_1 (by decide +kernel) (by decide +kernel) (by decide +kernel) (by decide +kernel) (by decide +kernel) (by decide +kernel)
theorem allAtoms_all (ts : List Jvm.Cond) (a : Array Jvm.Value) (st : Jvm.State) : (allAtoms ts).before a st = ts.all (fun c => c.before a st) := by
  induction ts with
  | nil => rfl
  | cons c t ih =>
    show (Jvm.Cond.and c (allAtoms t)).before a st = _
    rw [Jvm.Cond.before_and, ih, List.all_cons]
def words1 : List Jvm.Cond := Jvm.Cond.code x code maxLocals ret :: tables_1
/-- a 'code' word, met by the world's own term for the bytes: nothing is compared byte by byte -/
theorem code_word {y : MethodName} {bytes : ByteArray} {mx : Nat} {rt : Option FieldType} {a : Array Value} {s : State} {m : MethodId} {meth : Method} {c : Code} (h1 : s.methodNamed? y = some m) (h2 : s.vm.method? m = some meth) (h3 : meth.code = some c) (h4 : c.code = bytes)
    (h5 : (c.maxLocals == mx && c.exceptionTable.isEmpty && decide (c.maxStack ≤ mostOperands) && decide (meth.sig.returnType = rt) && !meth.locks && decide (parseMethodDescriptor y.desc = some meth.sig)) = true) : (Jvm.Cond.code y bytes mx rt).before a s = true := by
  simp only [Bool.and_eq_true, beq_iff_eq, Bool.not_eq_true', decide_eq_true_eq] at h5
  obtain ⟨⟨⟨⟨⟨g1, g2⟩, g3⟩, g4⟩, g5⟩, g6⟩ := h5
  simp [Cond.before, Cond.holds, Cond.value, h1, h2, h3, h4, g1, g2, g3, g4, g5, g6]
def isCode : Jvm.Cond → Bool
  | .code _ _ _ _ => true
  | _ => false
theorem all_split {L : List Jvm.Cond} {P : Jvm.Cond → Bool} (h1 : L.all (fun c => isCode c || P c) = true) (h2 : ∀ c ∈ L.filter isCode, P c = true) : L.all P = true := by
  refine List.all_eq_true.mpr fun c hc => ?_
  have h := List.all_eq_true.mp h1 c hc
  rcases Bool.eq_false_or_eq_true (isCode c) with hi | hi
  · exact h2 c (List.mem_filter.mpr ⟨hc, hi⟩)
  · simpa [hi] using h
set_option maxRecDepth 65536 in
theorem w_c0 : (Jvm.Cond.code x code maxLocals ret).before args0 about1 = true := code_word (m := ⟨1, 1⟩) (meth := k1m1) (c := k1c1) (by decide +kernel) rfl rfl rfl (by decide +kernel)
set_option maxRecDepth 65536 in
theorem w_c1 : (Jvm.Cond.code ({ cls := "java/lang/String", name := "<init>", desc := "([C)V" } : Jvm.MethodName) jdk_42_method_3_code (2 : Nat) (Option.none : Option Jvm.ClassFile.FieldType)).before args0 about1 = true := code_word (m := ⟨7, 1⟩) (meth := k7m1) (c := k7c1) (by decide +kernel) rfl rfl rfl (by decide +kernel)
set_option maxRecDepth 65536 in
theorem w_c2 : (Jvm.Cond.code ({ cls := "java/lang/String", name := "<init>", desc := "([CIILjava/lang/Void;)V" } : Jvm.MethodName) jdk_42_method_149_code (6 : Nat) (Option.none : Option Jvm.ClassFile.FieldType)).before args0 about1 = true := code_word (m := ⟨7, 4⟩) (meth := k7m4) (c := k7c4) (by decide +kernel) rfl rfl rfl (by decide +kernel)
set_option maxRecDepth 65536 in
theorem w_c3 : (Jvm.Cond.code ({ cls := "java/lang/Object", name := "<init>", desc := "()V" } : Jvm.MethodName) object_method_1_code (1 : Nat) (Option.none : Option Jvm.ClassFile.FieldType)).before args0 about1 = true := code_word (m := ⟨0, 0⟩) (meth := k0m0) (c := k0c0) (by decide +kernel) rfl rfl rfl (by decide +kernel)
set_option maxRecDepth 65536 in
theorem w_c4 : (Jvm.Cond.code ({ cls := "com/example/bote/bote/fields/FieldCursor", name := "<init>", desc := "(Ljava/lang/String;Ljava/lang/String;)V" } : Jvm.MethodName) prog_2_method_1_code (3 : Nat) (Option.none : Option Jvm.ClassFile.FieldType)).before args0 about1 = true := code_word (m := ⟨8, 0⟩) (meth := k8m0) (c := k8c0) (by decide +kernel) rfl rfl rfl (by decide +kernel)
set_option maxRecDepth 65536 in
theorem w_c5 : (Jvm.Cond.code ({ cls := "java/lang/Math", name := "min", desc := "(II)I" } : Jvm.MethodName) jdk_29_method_69_code (2 : Nat) (Option.some Jvm.ClassFile.FieldType.int)).before args0 about1 = true := code_word (m := ⟨9, 2⟩) (meth := k9m2) (c := k9c2) (by decide +kernel) rfl rfl rfl (by decide +kernel)
set_option maxRecDepth 65536 in
theorem w_c6 : (Jvm.Cond.code ({ cls := "com/example/bote/bote/fields/FieldCursor", name := "isNext", desc := "(C)Z" } : Jvm.MethodName) prog_2_method_5_code (2 : Nat) (Option.some Jvm.ClassFile.FieldType.boolean)).before args0 about1 = true := code_word (m := ⟨8, 1⟩) (meth := k8m1) (c := k8c1) (by decide +kernel) rfl rfl rfl (by decide +kernel)
set_option maxRecDepth 65536 in
theorem w_c7 : (Jvm.Cond.code ({ cls := "java/lang/String", name := "length", desc := "()I" } : Jvm.MethodName) jdk_42_method_54_code (1 : Nat) (Option.some Jvm.ClassFile.FieldType.int)).before args0 about1 = true := code_word (m := ⟨7, 2⟩) (meth := k7m2) (c := k7c2) (by decide +kernel) rfl rfl rfl (by decide +kernel)
set_option maxRecDepth 65536 in
theorem w_c8 : (Jvm.Cond.code ({ cls := "java/lang/String", name := "coder", desc := "()B" } : Jvm.MethodName) jdk_42_method_152_code (1 : Nat) (Option.some Jvm.ClassFile.FieldType.byte)).before args0 about1 = true := code_word (m := ⟨7, 5⟩) (meth := k7m5) (c := k7c5) (by decide +kernel) rfl rfl rfl (by decide +kernel)
set_option maxRecDepth 65536 in
theorem w_c9 : (Jvm.Cond.code ({ cls := "java/lang/Math", name := "max", desc := "(II)I" } : Jvm.MethodName) jdk_29_method_65_code (2 : Nat) (Option.some Jvm.ClassFile.FieldType.int)).before args0 about1 = true := code_word (m := ⟨9, 1⟩) (meth := k9m1) (c := k9c1) (by decide +kernel) rfl rfl rfl (by decide +kernel)
set_option maxRecDepth 65536 in
theorem w_c10 : (Jvm.Cond.code ({ cls := "java/lang/StringUTF16", name := "compress", desc := "([CII)[B" } : Jvm.MethodName) jdk_52_method_16_code (6 : Nat) (Option.some (Jvm.ClassFile.FieldType.array Jvm.ClassFile.FieldType.byte))).before args0 about1 = true := code_word (m := ⟨10, 8⟩) (meth := k10m8) (c := k10c8) (by decide +kernel) rfl rfl rfl (by decide +kernel)
set_option maxRecDepth 65536 in
theorem w_c11 : (Jvm.Cond.code ({ cls := "java/lang/StringUTF16", name := "compress", desc := "([CI[BII)I" } : Jvm.MethodName) jdk_52_method_21_code (7 : Nat) (Option.some Jvm.ClassFile.FieldType.int)).before args0 about1 = true := code_word (m := ⟨10, 9⟩) (meth := k10m9) (c := k10c9) (by decide +kernel) rfl rfl rfl (by decide +kernel)
set_option maxRecDepth 65536 in
theorem w_c12 : (Jvm.Cond.code ({ cls := "java/lang/StringUTF16", name := "toBytes", desc := "([CII)[B" } : Jvm.MethodName) jdk_52_method_14_code (5 : Nat) (Option.some (Jvm.ClassFile.FieldType.array Jvm.ClassFile.FieldType.byte))).before args0 about1 = true := code_word (m := ⟨10, 6⟩) (meth := k10m6) (c := k10c6) (by decide +kernel) rfl rfl rfl (by decide +kernel)
set_option maxRecDepth 65536 in
theorem w_c13 : (Jvm.Cond.code ({ cls := "java/lang/StringUTF16", name := "newBytesFor", desc := "(I)[B" } : Jvm.MethodName) jdk_52_method_2_code (1 : Nat) (Option.some (Jvm.ClassFile.FieldType.array Jvm.ClassFile.FieldType.byte))).before args0 about1 = true := code_word (m := ⟨10, 1⟩) (meth := k10m1) (c := k10c1) (by decide +kernel) rfl rfl rfl (by decide +kernel)
set_option maxRecDepth 65536 in
theorem w_c14 : (Jvm.Cond.code ({ cls := "java/lang/StringUTF16", name := "newBytesLength", desc := "(I)I" } : Jvm.MethodName) jdk_52_method_3_code (1 : Nat) (Option.some Jvm.ClassFile.FieldType.int)).before args0 about1 = true := code_word (m := ⟨10, 2⟩) (meth := k10m2) (c := k10c2) (by decide +kernel) rfl rfl rfl (by decide +kernel)
set_option maxRecDepth 65536 in
theorem w_c15 : (Jvm.Cond.code ({ cls := "java/lang/StringUTF16", name := "putChar", desc := "([BII)V" } : Jvm.MethodName) jdk_52_method_4_code (3 : Nat) (Option.none : Option Jvm.ClassFile.FieldType)).before args0 about1 = true := code_word (m := ⟨10, 3⟩) (meth := k10m3) (c := k10c3) (by decide +kernel) rfl rfl rfl (by decide +kernel)
set_option maxRecDepth 65536 in
theorem w_c16 : (Jvm.Cond.code ({ cls := "java/lang/StringUTF16", name := "getChar", desc := "([BI)C" } : Jvm.MethodName) jdk_52_method_5_code (2 : Nat) (Option.some Jvm.ClassFile.FieldType.char)).before args0 about1 = true := code_word (m := ⟨10, 4⟩) (meth := k10m4) (c := k10c4) (by decide +kernel) rfl rfl rfl (by decide +kernel)
set_option maxRecDepth 65536 in
theorem w_c17 : (Jvm.Cond.code ({ cls := "java/lang/StringUTF16", name := "coderFromArrayLen", desc := "([BI)B" } : Jvm.MethodName) jdk_52_method_15_code (2 : Nat) (Option.some Jvm.ClassFile.FieldType.byte)).before args0 about1 = true := code_word (m := ⟨10, 7⟩) (meth := k10m7) (c := k10c7) (by decide +kernel) rfl rfl rfl (by decide +kernel)
set_option maxRecDepth 65536 in
theorem w_c18 : (Jvm.Cond.code ({ cls := "com/example/bote/bote/fields/FieldCursor", name := "take", desc := "(C)Z" } : Jvm.MethodName) prog_2_method_6_code (3 : Nat) (Option.some Jvm.ClassFile.FieldType.boolean)).before args0 about1 = true := code_word (m := ⟨8, 2⟩) (meth := k8m2) (c := k8c2) (by decide +kernel) rfl rfl rfl (by decide +kernel)
set_option maxRecDepth 65536 in
theorem w_c19 : (Jvm.Cond.code ({ cls := "java/lang/String", name := "charAt", desc := "(I)C" } : Jvm.MethodName) jdk_42_method_56_code (2 : Nat) (Option.some Jvm.ClassFile.FieldType.char)).before args0 about1 = true := code_word (m := ⟨7, 3⟩) (meth := k7m3) (c := k7c3) (by decide +kernel) rfl rfl rfl (by decide +kernel)
set_option maxRecDepth 65536 in
theorem w_c20 : (Jvm.Cond.code ({ cls := "java/lang/String", name := "isLatin1", desc := "()Z" } : Jvm.MethodName) jdk_42_method_154_code (1 : Nat) (Option.some Jvm.ClassFile.FieldType.boolean)).before args0 about1 = true := code_word (m := ⟨7, 6⟩) (meth := k7m6) (c := k7c6) (by decide +kernel) rfl rfl rfl (by decide +kernel)
set_option maxRecDepth 65536 in
theorem w_c21 : (Jvm.Cond.code ({ cls := "java/lang/StringUTF16", name := "charAt", desc := "([BI)C" } : Jvm.MethodName) jdk_52_method_83_code (2 : Nat) (Option.some Jvm.ClassFile.FieldType.char)).before args0 about1 = true := code_word (m := ⟨10, 10⟩) (meth := k10m10) (c := k10c10) (by decide +kernel) rfl rfl rfl (by decide +kernel)
set_option maxRecDepth 65536 in
theorem w_c22 : (Jvm.Cond.code ({ cls := "java/lang/StringUTF16", name := "checkIndex", desc := "(I[B)V" } : Jvm.MethodName) jdk_52_method_91_code (2 : Nat) (Option.none : Option Jvm.ClassFile.FieldType)).before args0 about1 = true := code_word (m := ⟨10, 11⟩) (meth := k10m11) (c := k10c11) (by decide +kernel) rfl rfl rfl (by decide +kernel)
set_option maxRecDepth 65536 in
theorem w_c23 : (Jvm.Cond.code ({ cls := "java/lang/StringUTF16", name := "length", desc := "([B)I" } : Jvm.MethodName) jdk_52_method_6_code (1 : Nat) (Option.some Jvm.ClassFile.FieldType.int)).before args0 about1 = true := code_word (m := ⟨10, 5⟩) (meth := k10m5) (c := k10c5) (by decide +kernel) rfl rfl rfl (by decide +kernel)
set_option maxRecDepth 65536 in
theorem w_c24 : (Jvm.Cond.code ({ cls := "java/lang/String", name := "checkIndex", desc := "(II)V" } : Jvm.MethodName) jdk_42_method_155_code (2 : Nat) (Option.none : Option Jvm.ClassFile.FieldType)).before args0 about1 = true := code_word (m := ⟨7, 7⟩) (meth := k7m7) (c := k7c7) (by decide +kernel) rfl rfl rfl (by decide +kernel)
set_option maxRecDepth 65536 in
theorem w_c25 : (Jvm.Cond.code ({ cls := "jdk/internal/util/Preconditions", name := "checkIndex", desc := "(IILjava/util/function/BiFunction;)I" } : Jvm.MethodName) jdk_41_method_11_code (3 : Nat) (Option.some Jvm.ClassFile.FieldType.int)).before args0 about1 = true := code_word (m := ⟨11, 1⟩) (meth := k11m1) (c := k11c1) (by decide +kernel) rfl rfl rfl (by decide +kernel)
set_option maxRecDepth 65536 in
theorem w_c26 : (Jvm.Cond.code ({ cls := "java/lang/StringLatin1", name := "charAt", desc := "([BI)C" } : Jvm.MethodName) jdk_43_method_2_code (2 : Nat) (Option.some Jvm.ClassFile.FieldType.char)).before args0 about1 = true := code_word (m := ⟨12, 1⟩) (meth := k12m1) (c := k12c1) (by decide +kernel) rfl rfl rfl (by decide +kernel)
def codes1 : List Jvm.Cond := [Jvm.Cond.code x code maxLocals ret, Jvm.Cond.code ({ cls := "java/lang/String", name := "<init>", desc := "([C)V" } : Jvm.MethodName) jdk_42_method_3_code (2 : Nat) (Option.none : Option Jvm.ClassFile.FieldType), Jvm.Cond.code ({ cls := "java/lang/String", name := "<init>", desc := "([CIILjava/lang/Void;)V" } : Jvm.MethodName) jdk_42_method_149_code (6 : Nat) (Option.none : Option Jvm.ClassFile.FieldType), Jvm.Cond.code ({ cls := "java/lang/Object", name := "<init>", desc := "()V" } : Jvm.MethodName) object_method_1_code (1 : Nat) (Option.none : Option Jvm.ClassFile.FieldType), Jvm.Cond.code ({ cls := "com/example/bote/bote/fields/FieldCursor", name := "<init>", desc := "(Ljava/lang/String;Ljava/lang/String;)V" } : Jvm.MethodName) prog_2_method_1_code (3 : Nat) (Option.none : Option Jvm.ClassFile.FieldType), Jvm.Cond.code ({ cls := "java/lang/Math", name := "min", desc := "(II)I" } : Jvm.MethodName) jdk_29_method_69_code (2 : Nat) (Option.some Jvm.ClassFile.FieldType.int), Jvm.Cond.code ({ cls := "com/example/bote/bote/fields/FieldCursor", name := "isNext", desc := "(C)Z" } : Jvm.MethodName) prog_2_method_5_code (2 : Nat) (Option.some Jvm.ClassFile.FieldType.boolean), Jvm.Cond.code ({ cls := "java/lang/String", name := "length", desc := "()I" } : Jvm.MethodName) jdk_42_method_54_code (1 : Nat) (Option.some Jvm.ClassFile.FieldType.int), Jvm.Cond.code ({ cls := "java/lang/String", name := "coder", desc := "()B" } : Jvm.MethodName) jdk_42_method_152_code (1 : Nat) (Option.some Jvm.ClassFile.FieldType.byte), Jvm.Cond.code ({ cls := "java/lang/Math", name := "max", desc := "(II)I" } : Jvm.MethodName) jdk_29_method_65_code (2 : Nat) (Option.some Jvm.ClassFile.FieldType.int), Jvm.Cond.code ({ cls := "java/lang/StringUTF16", name := "compress", desc := "([CII)[B" } : Jvm.MethodName) jdk_52_method_16_code (6 : Nat) (Option.some (Jvm.ClassFile.FieldType.array Jvm.ClassFile.FieldType.byte)), Jvm.Cond.code ({ cls := "java/lang/StringUTF16", name := "compress", desc := "([CI[BII)I" } : Jvm.MethodName) jdk_52_method_21_code (7 : Nat) (Option.some Jvm.ClassFile.FieldType.int), Jvm.Cond.code ({ cls := "java/lang/StringUTF16", name := "toBytes", desc := "([CII)[B" } : Jvm.MethodName) jdk_52_method_14_code (5 : Nat) (Option.some (Jvm.ClassFile.FieldType.array Jvm.ClassFile.FieldType.byte)), Jvm.Cond.code ({ cls := "java/lang/StringUTF16", name := "newBytesFor", desc := "(I)[B" } : Jvm.MethodName) jdk_52_method_2_code (1 : Nat) (Option.some (Jvm.ClassFile.FieldType.array Jvm.ClassFile.FieldType.byte)), Jvm.Cond.code ({ cls := "java/lang/StringUTF16", name := "newBytesLength", desc := "(I)I" } : Jvm.MethodName) jdk_52_method_3_code (1 : Nat) (Option.some Jvm.ClassFile.FieldType.int), Jvm.Cond.code ({ cls := "java/lang/StringUTF16", name := "putChar", desc := "([BII)V" } : Jvm.MethodName) jdk_52_method_4_code (3 : Nat) (Option.none : Option Jvm.ClassFile.FieldType), Jvm.Cond.code ({ cls := "java/lang/StringUTF16", name := "getChar", desc := "([BI)C" } : Jvm.MethodName) jdk_52_method_5_code (2 : Nat) (Option.some Jvm.ClassFile.FieldType.char), Jvm.Cond.code ({ cls := "java/lang/StringUTF16", name := "coderFromArrayLen", desc := "([BI)B" } : Jvm.MethodName) jdk_52_method_15_code (2 : Nat) (Option.some Jvm.ClassFile.FieldType.byte), Jvm.Cond.code ({ cls := "com/example/bote/bote/fields/FieldCursor", name := "take", desc := "(C)Z" } : Jvm.MethodName) prog_2_method_6_code (3 : Nat) (Option.some Jvm.ClassFile.FieldType.boolean), Jvm.Cond.code ({ cls := "java/lang/String", name := "charAt", desc := "(I)C" } : Jvm.MethodName) jdk_42_method_56_code (2 : Nat) (Option.some Jvm.ClassFile.FieldType.char), Jvm.Cond.code ({ cls := "java/lang/String", name := "isLatin1", desc := "()Z" } : Jvm.MethodName) jdk_42_method_154_code (1 : Nat) (Option.some Jvm.ClassFile.FieldType.boolean), Jvm.Cond.code ({ cls := "java/lang/StringUTF16", name := "charAt", desc := "([BI)C" } : Jvm.MethodName) jdk_52_method_83_code (2 : Nat) (Option.some Jvm.ClassFile.FieldType.char), Jvm.Cond.code ({ cls := "java/lang/StringUTF16", name := "checkIndex", desc := "(I[B)V" } : Jvm.MethodName) jdk_52_method_91_code (2 : Nat) (Option.none : Option Jvm.ClassFile.FieldType), Jvm.Cond.code ({ cls := "java/lang/StringUTF16", name := "length", desc := "([B)I" } : Jvm.MethodName) jdk_52_method_6_code (1 : Nat) (Option.some Jvm.ClassFile.FieldType.int), Jvm.Cond.code ({ cls := "java/lang/String", name := "checkIndex", desc := "(II)V" } : Jvm.MethodName) jdk_42_method_155_code (2 : Nat) (Option.none : Option Jvm.ClassFile.FieldType), Jvm.Cond.code ({ cls := "jdk/internal/util/Preconditions", name := "checkIndex", desc := "(IILjava/util/function/BiFunction;)I" } : Jvm.MethodName) jdk_41_method_11_code (3 : Nat) (Option.some Jvm.ClassFile.FieldType.int), Jvm.Cond.code ({ cls := "java/lang/StringLatin1", name := "charAt", desc := "([BI)C" } : Jvm.MethodName) jdk_43_method_2_code (2 : Nat) (Option.some Jvm.ClassFile.FieldType.char)]
set_option maxRecDepth 65536 in
theorem codes_eq : words1.filter isCode = codes1 := rfl
theorem w_codes : ∀ c ∈ words1.filter isCode, c.before args0 about1 = true := by
  rw [codes_eq]
  intro c hc
  simp only [codes1, List.mem_cons, List.not_mem_nil, or_false] at hc
  rcases hc with rfl | rfl | rfl | rfl | rfl | rfl | rfl | rfl | rfl | rfl | rfl | rfl | rfl | rfl | rfl | rfl | rfl | rfl | rfl | rfl | rfl | rfl | rfl | rfl | rfl | rfl | rfl
  · exact w_c0
  · exact w_c1
  · exact w_c2
  · exact w_c3
  · exact w_c4
  · exact w_c5
  · exact w_c6
  · exact w_c7
  · exact w_c8
  · exact w_c9
  · exact w_c10
  · exact w_c11
  · exact w_c12
  · exact w_c13
  · exact w_c14
  · exact w_c15
  · exact w_c16
  · exact w_c17
  · exact w_c18
  · exact w_c19
  · exact w_c20
  · exact w_c21
  · exact w_c22
  · exact w_c23
  · exact w_c24
  · exact w_c25
  · exact w_c26
set_option maxRecDepth 65536 in
theorem w_t1 : (words1.take 24).all (fun c => isCode c || c.before args0 about1) = true := by decide +kernel
set_option maxRecDepth 65536 in
theorem w_t2 : ((words1.drop 24).take 24).all (fun c => isCode c || c.before args0 about1) = true := by decide +kernel
set_option maxRecDepth 65536 in
theorem w_t3 : (((words1.drop 24).drop 24).take 24).all (fun c => isCode c || c.before args0 about1) = true := by decide +kernel
set_option maxRecDepth 65536 in
theorem w_t4 : ((((words1.drop 24).drop 24).drop 24).take 24).all (fun c => isCode c || c.before args0 about1) = true := by decide +kernel
set_option maxRecDepth 65536 in
theorem w_t5 : (((((words1.drop 24).drop 24).drop 24).drop 24).take 24).all (fun c => isCode c || c.before args0 about1) = true := by decide +kernel
set_option maxRecDepth 65536 in
theorem w_t6 : (((((words1.drop 24).drop 24).drop 24).drop 24).drop 24).all (fun c => isCode c || c.before args0 about1) = true := by decide +kernel
theorem w_tables : (allAtoms (Jvm.Cond.code x code maxLocals ret :: tables_1)).before args0 about1 = true := by
  rw [allAtoms_all]
  show words1.all (fun c => c.before args0 about1) = true
  refine all_split ?_ w_codes
  rw [← List.take_append_drop 24 words1, List.all_append, w_t1, ← List.take_append_drop 24 (words1.drop 24), List.all_append, w_t2, ← List.take_append_drop 24 ((words1.drop 24).drop 24), List.all_append, w_t3, ← List.take_append_drop 24 (((words1.drop 24).drop 24).drop 24), List.all_append, w_t4, ← List.take_append_drop 24 ((((words1.drop 24).drop 24).drop 24).drop 24), List.all_append, w_t5, w_t6]
  rfl
set_option maxRecDepth 65536 in
theorem w_rest : rest_1_c.before args0 about1 = true := by decide +kernel
set_option maxRecDepth 65536 in
theorem w_case : (Jvm.Cond.and given_1 narrow_1).before args0 about1 = true := by decide +kernel
set_option maxRecDepth 65536 in
theorem w_consts : constsHeld consts_1 about1 := Jvm.Lit.constsHeldB_iff.mp (by decide +kernel)
theorem w_applies : (headSpec (Jvm.Cond.code x code maxLocals ret :: tables_1) room_1).applies x e0.platform about1 = true :=
  (Spec.applies_iff w_frames).mpr ⟨w_running, w_runnable, w_alone, w_named, w_hears, w_ripe, w_room, w_tables⟩
theorem atStart : AtStart classFile x code maxLocals ret World_1 tables_1 room_1 Calls_1 rest_1 Pre_1 launch0 p0 e0 about1 theMethod args0 below0 :=
  ⟨lists_1, trivial, launch0.admits_env _ _ _, launch0.least_env, fairChoices_fair.cas, fairChoices_fair.clock, w_frames, w_args, w_heap, w_applies, ⟨w_consts, trivial⟩, w_rest, w_case⟩
end start1
theorem witness_1 : WitnessClaimed_1 := ⟨start1.p0, start1.e0, start1.about1, start1.theMethod, start1.args0, start1.below0, start1.atStart⟩
end Jvm.Pilot.@@N@@
