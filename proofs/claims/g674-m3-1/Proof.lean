import JvmDerived
import JvmDerived.Pilot.@@N@@Statement
import JvmDerived.Pilot.@@N@@Code
set_option linter.unusedVariables false
set_option linter.unusedSimpArgs false
/- laws to paste: Road.backV (cut by pick.py; bodies as the Statement names them) -/
namespace Jvm.Pilot.@@N@@
namespace StrChars
open Jvm Sem ClassFile Op Lib Jvm.Stand Jvm.Free.XT Jvm.Free.ALB Jvm.Free.JM Jvm.Free
open Jvm.Lib.Cold (StaticIs)
/-- a char array whose places are chars -/
def Ch (a : Addr) (A : Cell) (U : State) : Prop := Arr .char a A U ∧ Typed .char A
theorem Ch.mv {a : Addr} {A : Cell} {U U' : State} (h : Ch a A U) (hal : U.vm.Alike U'.vm) (hh : U'.heap = U.heap) : Ch a A U' := ⟨h.1.mv hal hh, h.2⟩
theorem Ch.keep {a : Addr} {A : Cell} {U U' : State} (h : Ch a A U) (hal : U.vm.Alike U'.vm) (hk : U'.heap[a]? = some A) : Ch a A U' := ⟨h.1.keep hal hk, h.2⟩
/-- what place i of a char[]'s cell holds -/
def cv (A : Cell) (i : Nat) : Int32 := match A.slots[i]? with | some (.int x) => x | _ => 0
theorem Ch.get {a : Addr} {A : Cell} {U : State} (h : Ch a A U) {i : Nat} (hi : i < A.slots.size) : A.slots[i]? = some (.int (cv A i)) := by
  have e := Array.getElem?_eq_getElem hi
  have f := h.2 i _ e
  unfold cv; rw [e]
  generalize A.slots[i] = v at f
  cases v <;> simp [fits] at f ⊢
/-- the byte that i2b leaves of a char -/
def lo8 (x : Int32) : Int32 := x.toInt8.toInt32
theorem fits_lo8 (y : Int32) : fits .byte (.int (lo8 y)) = true := by
  have h1 := y.toInt8.le_toInt
  have h2 := y.toInt8.toInt_lt
  simp only [lo8, fits, Bool.and_eq_true, decide_eq_true_eq, Int32.le_iff_toInt_le, Int8.toInt_toInt32, show (-128 : Int32).toInt = -128 from by decide, show (127 : Int32).toInt = 127 from by decide]
  omega
/-- A' is A but that each place j of lo .. hi - 1 holds f j -/
def Laid (A A' : Cell) (lo hi : Nat) (f : Nat → Value) : Prop := A'.cls = A.cls ∧ A'.vm = A.vm ∧ A'.slots.size = A.slots.size ∧ ∀ i, A'.slots[i]? = if lo ≤ i ∧ i < hi then some (f i) else A.slots[i]?
theorem Laid.zero (A : Cell) (lo : Nat) (f : Nat → Value) : Laid A A lo (lo + 0) f := ⟨rfl, rfl, rfl, fun i => by rw [if_neg (by omega)]⟩
theorem Laid.step {A Ak : Cell} {lo k : Nat} {f : Nat → Value} {v : Value} (h : Laid A Ak lo k f) (hlo : lo ≤ k) (hk : k < Ak.slots.size) (hv : v = f k) : Laid A (Ak.setSlot k v) lo (k + 1) f := by
  refine ⟨h.1, h.2.1, by simpa [Cell.setSlot] using h.2.2.1, fun i => ?_⟩
  by_cases e : k = i
  · subst e; rw [Cell.slots_setSlot_self v hk, if_pos (by omega), hv]
  · rw [Cell.slots_setSlot_ne v e, h.2.2.2 i]
    by_cases q : lo ≤ i ∧ i < k
    · rw [if_pos q, if_pos (by omega)]
    · rw [if_neg q, if_neg (by omega)]
def U16 : String := "java/lang/StringUTF16"
namespace Cmp5
def yN : MethodName := ⟨"java/lang/StringUTF16", "compress", "([CI[BII)I"⟩
abbrev yB : ByteArray := jdk_52_method_21_code
theorem d0 : decode yB 0 = .ok (.iconst 0, 1) := by decide +kernel
theorem d1 : decode yB 1 = .ok (.istore 5, 2) := by decide +kernel
theorem d3 : decode yB 3 = .ok (.iload 5, 2) := by decide +kernel
theorem d5 : decode yB 5 = .ok (.iload 4, 2) := by decide +kernel
theorem d7 : decode yB 7 = .ok (.if_icmp (.ge) 37, 3) := by decide +kernel
theorem d10 : decode yB 10 = .ok (.aload_n 0, 1) := by decide +kernel
theorem d11 : decode yB 11 = .ok (.iload_n 1, 1) := by decide +kernel
theorem d12 : decode yB 12 = .ok (.caload, 1) := by decide +kernel
theorem d13 : decode yB 13 = .ok (.istore 6, 2) := by decide +kernel
theorem d15 : decode yB 15 = .ok (.iload 6, 2) := by decide +kernel
theorem d17 : decode yB 17 = .ok (.sipush 255, 3) := by decide +kernel
theorem d20 : decode yB 20 = .ok (.if_icmp (.le) 6, 3) := by decide +kernel
theorem d26 : decode yB 26 = .ok (.aload_n 2, 1) := by decide +kernel
theorem d27 : decode yB 27 = .ok (.iload_n 3, 1) := by decide +kernel
theorem d28 : decode yB 28 = .ok (.iload 6, 2) := by decide +kernel
theorem d30 : decode yB 30 = .ok (.i2b, 1) := by decide +kernel
theorem d31 : decode yB 31 = .ok (.bastore, 1) := by decide +kernel
theorem d32 : decode yB 32 = .ok (.iinc 1 1, 3) := by decide +kernel
theorem d35 : decode yB 35 = .ok (.iinc 3 1, 3) := by decide +kernel
theorem d38 : decode yB 38 = .ok (.iinc 5 1, 3) := by decide +kernel
theorem d41 : decode yB 41 = .ok (.goto (-38), 3) := by decide +kernel
theorem d44 : decode yB 44 = .ok (.iload 4, 2) := by decide +kernel
theorem d46 : decode yB 46 = .ok (.ireturn, 1) := by decide +kernel
def site : List Cond := []
def tab : Cond := tabOf yN yB 7 (some .int) site
def P (b : Addr) (A : Cell) (d : Addr) (B : Cell) (o q len : Nat) (args : Array Value) (s : State) : Prop := args = #[.ref b, .int (Int32.ofNat o), .ref d, .int (Int32.ofNat q), .int (Int32.ofNat len)] ∧ Ch b A s ∧ Arr .byte d B s ∧ b ≠ d ∧ o + len ≤ A.slots.size ∧ q + len ≤ B.slots.size ∧ ∀ i, i < len → ¬ 255 < cv A (o + i)
def E (b : Addr) (A : Cell) (d : Addr) (B : Cell) (o q len : Nat) (r : Option Value) (s u : State) : Prop := r = some (.int (Int32.ofNat len)) ∧ ∃ B', Put d B' s u ∧ Laid B B' q (q + len) (fun j => Value.int (lo8 (cv A (o + (j - q)))))
/-- no char of the range above 255: len; the places written hold each char's low byte -/
theorem law (l : Launch) (b : Addr) (A : Cell) (d : Addr) (B : Cell) (o q len : Nat) : Law l yN 5 5 0 0 yB 7 (some .int) site (P b A d B o q len) (E b A d B o q len) (copyLocs d q len) 0 0 := by
  refine Law.of_walk (plainFor_of_name (by decide +kernel)) (by decide +kernel) (by decide +kernel) (by decide) (fun _ _ h => by rw [h.1]; rfl) (fun _ U U' hal hh h => ⟨h.1, h.2.1.mv hal hh, h.2.2.1.mv hal hh, h.2.2.2⟩) (fun r U U' V V' h1 hal h2 h => ⟨h.1, h.2.elim fun B' q => ⟨B', q.1.mv h1 h2, q.2⟩⟩) ?_
  intro p e s m args below meth c s₁ X0 hexec hbytes hml hret hlk hnm hown hh0 W hP
  obtain ⟨rfl, hA, hB, hne, l1, l2, hp⟩ := hP
  have c1 : Steps p.tables e below (s₁.setTop (entryFrame m #[.ref b, .int (Int32.ofNat o), .ref d, .int (Int32.ofNat q), .int (Int32.ofNat len)] 7)) (s₁.setTop (mkF m 0 #[.val (.ref b), .val (.int (Int32.ofNat o)), .val (.ref d), .val (.int (Int32.ofNat q)), .val (.int (Int32.ofNat len)), .unset, .unset] [])) := entry rfl
  have hA0 := hA.1.mv X0.warmed.alike hh0
  have hB0 := hB.mv X0.warmed.alike hh0
  have a31 := hA.1.2.2.2
  have c2 : Steps p.tables e below (s₁.setTop (entryFrame m #[.ref b, .int (Int32.ofNat o), .ref d, .int (Int32.ofNat q), .int (Int32.ofNat len)] 7)) (s₁.setTop (mkF m 3 #[.val (.ref b), .val (.int (Int32.ofNat o)), .val (.ref d), .val (.int (Int32.ofNat q)), .val (.int (Int32.ofNat len)), .val (.int 0), .unset] [])) := c1.trans (by
    refine iconstV X0.here hexec rfl 0 (hb hbytes d0) (by decide) ?_
    refine XS.istore X0.here hexec rfl (hb hbytes d1) rfl rfl ?_
    exact Steps.refl _)
  have loop : ∀ (r i : Nat), i + r = len → ∀ (z : Slot), (z = .unset ∨ ∃ w, z = .val w ∧ w.category = 1) → ∀ (Tl : State) (Bk : Cell), Stand p l e { frames := 0, locals := 0, cells := 0, slots := 0 } s m #[.ref b, .int (Int32.ofNat o), .ref d, .int (Int32.ofNat q), .int (Int32.ofNat len)] below meth c Tl ([] ++ copyLocs d q i) 0 0 → Put d Bk s₁ Tl → Laid B Bk q (q + i) (fun j => Value.int (lo8 (cv A (o + (j - q))))) →
      Steps p.tables e below (s₁.setTop (entryFrame m #[.ref b, .int (Int32.ofNat o), .ref d, .int (Int32.ofNat q), .int (Int32.ofNat len)] 7)) (Tl.setTop (mkF m 3 #[.val (.ref b), .val (.int (Int32.ofNat (o + i))), .val (.ref d), .val (.int (Int32.ofNat (q + i))), .val (.int (Int32.ofNat len)), .val (.int (Int32.ofNat i)), z] [])) → ∃ (T' : State) (B' : Cell) (z' : Slot), Stand p l e { frames := 0, locals := 0, cells := 0, slots := 0 } s m #[.ref b, .int (Int32.ofNat o), .ref d, .int (Int32.ofNat q), .int (Int32.ofNat len)] below meth c T' ([] ++ copyLocs d q len) 0 0 ∧ Put d B' s₁ T' ∧ Laid B B' q (q + len) (fun j => Value.int (lo8 (cv A (o + (j - q))))) ∧
      Steps p.tables e below (s₁.setTop (entryFrame m #[.ref b, .int (Int32.ofNat o), .ref d, .int (Int32.ofNat q), .int (Int32.ofNat len)] 7)) (T'.setTop (mkF m 3 #[.val (.ref b), .val (.int (Int32.ofNat (o + len))), .val (.ref d), .val (.int (Int32.ofNat (q + len))), .val (.int (Int32.ofNat len)), .val (.int (Int32.ofNat len)), z'] [])) := by
    intro r
    induction r with
    | zero =>
      intro i hi z hz Tl Bk Xl pl fl cl
      have hil : i = len := by omega
      rw [hil] at Xl fl cl
      exact ⟨Tl, Bk, z, Xl, pl, fl, cl⟩
    | succ r ih =>
      intro i hi z hz Tl Bk Xl pl fl cl
      have all := X0.warmed.alike.symm.trans Xl.warmed.alike
      have hAl := hA0.keep all (pl.other hne hA0.1)
      have hBk := hB0.like all pl.1 fl.1 fl.2.1 fl.2.2.1
      have hlt : q + i < Bk.slots.size := by rw [fl.2.2.1]; omega
      have c3 : Steps p.tables e below (s₁.setTop (entryFrame m #[.ref b, .int (Int32.ofNat o), .ref d, .int (Int32.ofNat q), .int (Int32.ofNat len)] 7)) (Tl.setTop (mkF m 12 #[.val (.ref b), .val (.int (Int32.ofNat (o + i))), .val (.ref d), .val (.int (Int32.ofNat (q + i))), .val (.int (Int32.ofNat len)), .val (.int (Int32.ofNat i)), z] [.int (Int32.ofNat (o + i)), .ref b])) := cl.trans (by
        refine XS.iload Xl.here hexec rfl (hb hbytes d3) rfl ?_
        refine XS.iload Xl.here hexec rfl (hb hbytes d5) rfl ?_
        refine XS.icmpNo Xl.here hexec rfl (hb hbytes d7) rfl (ii_ge_f (lt32 (by omega) (by omega))) ?_
        refine XS.aloadN Xl.here hexec rfl (hb hbytes d10) rfl rfl ?_
        refine XS.iloadN Xl.here hexec rfl (hb hbytes d11) rfl ?_
        exact Steps.refl _)
      have c4 : Steps p.tables e below (s₁.setTop (entryFrame m #[.ref b, .int (Int32.ofNat o), .ref d, .int (Int32.ofNat q), .int (Int32.ofNat len)] 7)) (Tl.setTop (mkF m 13 #[.val (.ref b), .val (.int (Int32.ofNat (o + i))), .val (.ref d), .val (.int (Int32.ofNat (q + i))), .val (.int (Int32.ofNat len)), .val (.int (Int32.ofNat i)), z] [.int (cv A (o + i))])) := c3.trans (by
        refine Xl.aget hexec hAl rfl (hA.get (i := o + i) (by omega)) rfl rfl (hb hbytes d12) ?_
        exact Steps.refl _)
      have c5 : Steps p.tables e below (s₁.setTop (entryFrame m #[.ref b, .int (Int32.ofNat o), .ref d, .int (Int32.ofNat q), .int (Int32.ofNat len)] 7)) (Tl.setTop (mkF m 15 #[.val (.ref b), .val (.int (Int32.ofNat (o + i))), .val (.ref d), .val (.int (Int32.ofNat (q + i))), .val (.int (Int32.ofNat len)), .val (.int (Int32.ofNat i)), .val (.int (cv A (o + i)))] [])) := c4.trans (by
        refine XS.istoreS Xl.here hexec rfl (hb hbytes d13) rfl rfl hz ?_
        exact Steps.refl _)
      have c6 : Steps p.tables e below (s₁.setTop (entryFrame m #[.ref b, .int (Int32.ofNat o), .ref d, .int (Int32.ofNat q), .int (Int32.ofNat len)] 7)) (Tl.setTop (mkF m 31 #[.val (.ref b), .val (.int (Int32.ofNat (o + i))), .val (.ref d), .val (.int (Int32.ofNat (q + i))), .val (.int (Int32.ofNat len)), .val (.int (Int32.ofNat i)), .val (.int (cv A (o + i)))] [.int (lo8 (cv A (o + i))), .int (Int32.ofNat (q + i)), .ref d])) := c5.trans (by
        refine XS.iload Xl.here hexec rfl (hb hbytes d15) rfl ?_
        refine sipushV Xl.here hexec rfl 255 (hb hbytes d17) (by decide) ?_
        refine XS.icmpYes Xl.here hexec rfl (pc0 := 20) rfl (hb hbytes d20) rfl (ii_le_t (hp i (by omega))) (by decide) rfl ?_
        refine XS.aloadN Xl.here hexec rfl (hb hbytes d26) rfl rfl ?_
        refine XS.iloadN Xl.here hexec rfl (hb hbytes d27) rfl ?_
        refine XS.iload Xl.here hexec rfl (hb hbytes d28) rfl ?_
        refine i2b Xl.here hexec rfl (hb hbytes d30) rfl ?_
        exact Steps.refl _)
      obtain ⟨T7, X7, p7, st7⟩ := Xl.aput hexec hBk rfl hlt rfl (fits_lo8 (cv A (o + i))) (g := (mkF m 31 #[.val (.ref b), .val (.int (Int32.ofNat (o + i))), .val (.ref d), .val (.int (Int32.ofNat (q + i))), .val (.int (Int32.ofNat len)), .val (.int (Int32.ofNat i)), .val (.int (cv A (o + i)))] [.int (lo8 (cv A (o + i))), .int (Int32.ofNat (q + i)), .ref d])) rfl (rest := []) rfl (hb hbytes d31)
      have c8 : Steps p.tables e below (s₁.setTop (entryFrame m #[.ref b, .int (Int32.ofNat o), .ref d, .int (Int32.ofNat q), .int (Int32.ofNat len)] 7)) (T7.setTop (mkF m 32 #[.val (.ref b), .val (.int (Int32.ofNat (o + i))), .val (.ref d), .val (.int (Int32.ofNat (q + i))), .val (.int (Int32.ofNat len)), .val (.int (Int32.ofNat i)), .val (.int (cv A (o + i)))] [])) := c6.trans (st7 _ (Steps.refl _))
      have c9 : Steps p.tables e below (s₁.setTop (entryFrame m #[.ref b, .int (Int32.ofNat o), .ref d, .int (Int32.ofNat q), .int (Int32.ofNat len)] 7)) (T7.setTop (mkF m 3 #[.val (.ref b), .val (.int (Int32.ofNat (o + i) + 1)), .val (.ref d), .val (.int (Int32.ofNat (q + i) + 1)), .val (.int (Int32.ofNat len)), .val (.int (Int32.ofNat i + 1)), .val (.int (cv A (o + i)))] [])) := c8.trans (by
        refine iincV X7.here hexec rfl 1 (hb hbytes d32) (by decide) rfl rfl ?_
        refine iincV X7.here hexec rfl 1 (hb hbytes d35) (by decide) rfl rfl ?_
        refine iincV X7.here hexec rfl 1 (hb hbytes d38) (by decide) rfl rfl ?_
        refine XS.goto X7.here hexec rfl (pc0 := 41) rfl (hb hbytes d41) (by decide) rfl ?_
        exact Steps.refl _)
      have c10 : Steps p.tables e below (s₁.setTop (entryFrame m #[.ref b, .int (Int32.ofNat o), .ref d, .int (Int32.ofNat q), .int (Int32.ofNat len)] 7)) (T7.setTop (mkF m 3 #[.val (.ref b), .val (.int (Int32.ofNat (o + (i + 1)))), .val (.ref d), .val (.int (Int32.ofNat (q + (i + 1)))), .val (.int (Int32.ofNat len)), .val (.int (Int32.ofNat (i + 1))), .val (.int (cv A (o + i)))] [])) := by
        have := c9
        rw [succ32, succ32, succ32] at this
        exact this
      exact ih (i + 1) (by omega) _ (Or.inr ⟨_, rfl, rfl⟩) T7 _ (by rw [copyLocs_step, ← List.append_assoc]; exact X7) (pl.trans p7) (fl.step (by omega) hlt (by simp)) c10
  obtain ⟨T9, B9, z9, X9, p9, f9, g9⟩ := loop len 0 (by omega) .unset (Or.inl rfl) s₁ B (by simpa [copyLocs] using X0) ⟨hB0.1, fun _ _ => rfl, rfl⟩ (Laid.zero _ _ _) c2
  have c11 : Steps p.tables e below (s₁.setTop (entryFrame m #[.ref b, .int (Int32.ofNat o), .ref d, .int (Int32.ofNat q), .int (Int32.ofNat len)] 7)) (T9.setTop (mkF m 46 #[.val (.ref b), .val (.int (Int32.ofNat (o + len))), .val (.ref d), .val (.int (Int32.ofNat (q + len))), .val (.int (Int32.ofNat len)), .val (.int (Int32.ofNat len)), z9] [.int (Int32.ofNat len)])) := g9.trans (by
    refine XS.iload X9.here hexec rfl (hb hbytes d3) rfl ?_
    refine XS.iload X9.here hexec rfl (hb hbytes d5) rfl ?_
    refine XS.icmpYes X9.here hexec rfl (pc0 := 7) rfl (hb hbytes d7) rfl (ii_ge_t (nlt32 (by omega) (Nat.le_refl _))) (by decide) rfl ?_
    refine XS.iload X9.here hexec rfl (hb hbytes d44) rfl ?_
    exact Steps.refl _)
  exact ⟨T9, some (.int (Int32.ofNat len)), _, _, _, X9, by simp, rfl, rfl, (fun h => by cases h), ⟨rfl, B9, p9.from hh0, f9⟩, fun fs hl => c11.trans (X9.ireturnOut hexec hret rfl (Or.inl rfl) (hb hbytes d46) hl)⟩
end Cmp5
namespace Cmp3
def yN : MethodName := ⟨"java/lang/StringUTF16", "compress", "([CII)[B"⟩
abbrev yB : ByteArray := jdk_52_method_16_code
theorem d0 : decode yB 0 = .ok (.iload_n 2, 1) := by decide +kernel
theorem d1 : decode yB 1 = .ok (.newarray .byte, 2) := by decide +kernel
theorem d3 : decode yB 3 = .ok (.astore_n 3, 1) := by decide +kernel
theorem d4 : decode yB 4 = .ok (.aload_n 0, 1) := by decide +kernel
theorem d5 : decode yB 5 = .ok (.iload_n 1, 1) := by decide +kernel
theorem d6 : decode yB 6 = .ok (.aload_n 3, 1) := by decide +kernel
theorem d7 : decode yB 7 = .ok (.iconst 0, 1) := by decide +kernel
theorem d8 : decode yB 8 = .ok (.iload_n 2, 1) := by decide +kernel
theorem d9 : decode yB 9 = .ok (.invokestatic 115, 3) := by decide +kernel
theorem d12 : decode yB 12 = .ok (.istore 4, 2) := by decide +kernel
theorem d14 : decode yB 14 = .ok (.iload 4, 2) := by decide +kernel
theorem d16 : decode yB 16 = .ok (.iload_n 2, 1) := by decide +kernel
theorem d17 : decode yB 17 = .ok (.if_icmp (.eq) 40, 3) := by decide +kernel
theorem d57 : decode yB 57 = .ok (.aload_n 3, 1) := by decide +kernel
theorem d58 : decode yB 58 = .ok (.areturn, 1) := by decide +kernel
def site : List Cond := [.arrayClass .byte, Cmp5.tab] ++ staticW U16 115 Cmp5.yN
def tab : Cond := tabOf yN yB 6 (some (.array .byte)) site
def P (b : Addr) (A : Cell) (o len : Nat) (args : Array Value) (s : State) : Prop := args = #[.ref b, .int (Int32.ofNat o), .int (Int32.ofNat len)] ∧ Ch b A s ∧ o + len ≤ A.slots.size ∧ len ≤ 536870912 ∧ ∀ i, i < len → ¬ 255 < cv A (o + i)
def E (b : Addr) (A : Cell) (o len : Nat) (r : Option Value) (s u : State) : Prop := NewArr .byte "[B" len (fun j => .int (lo8 (cv A (o + j)))) r s u ∧ u.heap.size = s.heap.size + 1
/-- no char of the range above 255: a new byte[] of their low bytes -/
theorem law (l : Launch) (b : Addr) (A : Cell) (o len : Nat) : Law l yN 3 3 1 18 yB 6 (some (.array .byte)) site (P b A o len) (E b A o len) [] 1 len := by
  refine Law.of_walk (plainFor_of_name (by decide +kernel)) (by decide +kernel) (by decide +kernel) (by decide) (fun _ _ h => by rw [h.1]; rfl) (fun _ U U' hal hh h => ⟨h.1, h.2.1.mv hal hh, h.2.2⟩) (fun r U U' V V' h1 hal h2 h => ⟨NewArr.mv r U U' V V' h1 hal h2 h.1, by rw [h1, h2]; exact h.2⟩) ?_
  intro p e s m args below meth c s₁ X0 hexec hbytes hml hret hlk hnm hown hh0 W hP
  obtain ⟨rfl, hA, l1, l2, hp⟩ := hP
  have a31 := hA.1.2.2.2
  have c1 : Steps p.tables e below (s₁.setTop (entryFrame m #[.ref b, .int (Int32.ofNat o), .int (Int32.ofNat len)] 6)) (s₁.setTop (mkF m 0 #[.val (.ref b), .val (.int (Int32.ofNat o)), .val (.int (Int32.ofNat len)), .unset, .unset, .unset] [])) := entry rfl
  have c2 : Steps p.tables e below (s₁.setTop (entryFrame m #[.ref b, .int (Int32.ofNat o), .int (Int32.ofNat len)] 6)) (s₁.setTop (mkF m 1 #[.val (.ref b), .val (.int (Int32.ofNat o)), .val (.int (Int32.ofNat len)), .unset, .unset, .unset] [.int (Int32.ofNat len)])) := c1.trans (by
    refine XS.iloadN X0.here hexec rfl (hb hbytes d0) rfl ?_
    exact Steps.refl _)
  obtain ⟨T3, B3, X3, ba3, bs3, bv3, bh3, bf3, st3⟩ := X0.anew hexec (atype := .byte) (wk W (.arrayClass .byte)) rfl (by show len * 1 ≤ _; omega) (by omega) (g := (mkF m 1 #[.val (.ref b), .val (.int (Int32.ofNat o)), .val (.int (Int32.ofNat len)), .unset, .unset, .unset] [.int (Int32.ofNat len)])) rfl (hb hbytes d1) (rest := []) rfl (Nat.le_refl _) (by show 0 + len ≤ len; omega)
  rw [hh0] at ba3 st3
  have kp3 : XT.Kept s T3 := (XT.Kept.of_eq hh0).push bh3
  have hA3 := hA.keep X3.warmed.alike (kp3 _ _ hA.1.1)
  have hne : b ≠ s.heap.size := hA.1.ne
  have c4 : Steps p.tables e below (s₁.setTop (entryFrame m #[.ref b, .int (Int32.ofNat o), .int (Int32.ofNat len)] 6)) (T3.setTop (mkF m 3 #[.val (.ref b), .val (.int (Int32.ofNat o)), .val (.int (Int32.ofNat len)), .unset, .unset, .unset] [.ref s.heap.size])) := c2.trans (st3 _ (Steps.refl _))
  have c5 : Steps p.tables e below (s₁.setTop (entryFrame m #[.ref b, .int (Int32.ofNat o), .int (Int32.ofNat len)] 6)) (T3.setTop (mkF m 9 #[.val (.ref b), .val (.int (Int32.ofNat o)), .val (.int (Int32.ofNat len)), .val (.ref s.heap.size), .unset, .unset] [.int (Int32.ofNat len), .int 0, .ref s.heap.size, .int (Int32.ofNat o), .ref b])) := c4.trans (by
    refine XS.astoreN X3.here hexec rfl (hb hbytes d3) rfl rfl rfl ?_
    refine XS.aloadN X3.here hexec rfl (hb hbytes d4) rfl rfl ?_
    refine XS.iloadN X3.here hexec rfl (hb hbytes d5) rfl ?_
    refine XS.aloadN X3.here hexec rfl (hb hbytes d6) rfl rfl ?_
    refine iconstV X3.here hexec rfl 0 (hb hbytes d7) (by decide) ?_
    refine XS.iloadN X3.here hexec rfl (hb hbytes d8) rfl ?_
    exact Steps.refl _)
  obtain ⟨v6, T6, X6, E6, g6⟩ := X3.callS hexec (Cmp5.law l b A s.heap.size B3 o 0 len) hown (wks W (staticW U16 115 Cmp5.yN)) (wk W Cmp5.tab) (W := 0) (Nat.le_of_ble_eq_true rfl) (Nat.le_of_ble_eq_true rfl) (Nat.le_refl _) (by show 0 + len + 0 ≤ len; omega) (g := (mkF m 9 #[.val (.ref b), .val (.int (Int32.ofNat o)), .val (.int (Int32.ofNat len)), .val (.ref s.heap.size), .unset, .unset] [.int (Int32.ofNat len), .int (Int32.ofNat 0), .ref s.heap.size, .int (Int32.ofNat o), .ref b])) rfl (by rw [hml]; rfl) c5 (argsL := [.ref b, .int (Int32.ofNat o), .ref s.heap.size, .int (Int32.ofNat 0), .int (Int32.ofNat len)]) (rest := []) rfl rfl (by show 2 * 0 + 0 ≤ _; decide) (hb hbytes d9) (⟨rfl, hA3, ba3, hne, l1, by rw [bs3]; simp, hp⟩)
  obtain ⟨rfl, B6, p6, f6⟩ := E6
  have c7 : Steps p.tables e below (s₁.setTop (entryFrame m #[.ref b, .int (Int32.ofNat o), .int (Int32.ofNat len)] 6)) (T6.setTop (mkF m 12 #[.val (.ref b), .val (.int (Int32.ofNat o)), .val (.int (Int32.ofNat len)), .val (.ref s.heap.size), .unset, .unset] [.int (Int32.ofNat len)])) := g6
  have c8 : Steps p.tables e below (s₁.setTop (entryFrame m #[.ref b, .int (Int32.ofNat o), .int (Int32.ofNat len)] 6)) (T6.setTop (mkF m 58 #[.val (.ref b), .val (.int (Int32.ofNat o)), .val (.int (Int32.ofNat len)), .val (.ref s.heap.size), .val (.int (Int32.ofNat len)), .unset] [.ref s.heap.size])) := c7.trans (by
    refine XS.istore X6.here hexec rfl (hb hbytes d12) rfl rfl ?_
    refine XS.iload X6.here hexec rfl (hb hbytes d14) rfl ?_
    refine XS.iloadN X6.here hexec rfl (hb hbytes d16) rfl ?_
    refine XS.icmpYes X6.here hexec rfl (pc0 := 17) rfl (hb hbytes d17) rfl (ii_eq_t rfl) (by decide) rfl ?_
    refine XS.aloadN X6.here hexec rfl (hb hbytes d57) rfl rfl ?_
    exact Steps.refl _)
  have X8 := X6.wide (L' := []) (cells' := 1) (slots' := len) (fun x hx hlt => by
    simp only [List.nil_append, copyLocs, List.mem_map, List.mem_range] at hx
    obtain ⟨i, -, rfl⟩ := hx
    exact absurd hlt (Nat.lt_irrefl _)) (Nat.le_refl _) (by omega)
  exact ⟨T6, some (.ref s.heap.size), _, _, _, X8, rfl, rfl, rfl, (fun h => by cases h), ⟨⟨rfl, B6, ba3.like (X3.warmed.alike.symm.trans X6.warmed.alike) p6.1 f6.1 f6.2.1 f6.2.2.1, f6.2.1.trans bv3, by rw [X6.warmed.alike.findClass, f6.1]; exact bf3, by rw [f6.2.2.1, bs3]; simp, fun j hj => by rw [f6.2.2.2 j, if_pos (by omega)]; rfl, kp3.put p6 (Nat.le_refl _)⟩, by rw [p6.2.2, bh3, hh0]; simp⟩, fun fs hl => c8.trans (X8.areturnOut hexec rfl hret rfl (hb hbytes d58) hl)⟩
end Cmp3
namespace CodL
def yN : MethodName := ⟨"java/lang/StringUTF16", "coderFromArrayLen", "([BI)B"⟩
abbrev yB : ByteArray := jdk_52_method_15_code
theorem d0 : decode yB 0 = .ok (.iload_n 1, 1) := by decide +kernel
theorem d1 : decode yB 1 = .ok (.aload_n 0, 1) := by decide +kernel
theorem d2 : decode yB 2 = .ok (.arraylength, 1) := by decide +kernel
theorem d3 : decode yB 3 = .ok (.isub, 1) := by decide +kernel
theorem d4 : decode yB 4 = .ok (.bipush 31, 2) := by decide +kernel
theorem d6 : decode yB 6 = .ok (.iushr, 1) := by decide +kernel
theorem d7 : decode yB 7 = .ok (.i2b, 1) := by decide +kernel
theorem d8 : decode yB 8 = .ok (.ireturn, 1) := by decide +kernel
def site : List Cond := []
def tab : Cond := tabOf yN yB 2 (some .byte) site
def P (d : Addr) (B : Cell) (args : Array Value) (s : State) : Prop := args = #[.ref d, .int (Int32.ofNat B.slots.size)] ∧ Arr .byte d B s
def E (r : Option Value) (s u : State) : Prop := XT.PureE (some (.int 0)) r s u
/-- an array as long as the number of chars: LATIN1 -/
theorem law (l : Launch) (d : Addr) (B : Cell) : Law l yN 2 2 0 0 yB 2 (some .byte) site (P d B) E [] 0 0 := by
  refine Law.of_walk (plainFor_of_name (by decide +kernel)) (by decide +kernel) (by decide +kernel) (by decide) (fun _ _ h => by rw [h.1]; rfl) (fun _ U U' hal hh h => ⟨h.1, h.2.mv hal hh⟩) (fun r U U' V V' h1 hal h2 h => XT.PureE.mv r U U' V V' h1 hal h2 h) ?_
  intro p e s m args below meth c s₁ X0 hexec hbytes hml hret hlk hnm hown hh0 W hP
  obtain ⟨rfl, hB⟩ := hP
  have hB0 := hB.mv X0.warmed.alike hh0
  have c1 : Steps p.tables e below (s₁.setTop (entryFrame m #[.ref d, .int (Int32.ofNat B.slots.size)] 2)) (s₁.setTop (mkF m 0 #[.val (.ref d), .val (.int (Int32.ofNat B.slots.size))] [])) := entry rfl
  have c2 : Steps p.tables e below (s₁.setTop (entryFrame m #[.ref d, .int (Int32.ofNat B.slots.size)] 2)) (s₁.setTop (mkF m 2 #[.val (.ref d), .val (.int (Int32.ofNat B.slots.size))] [.ref d, .int (Int32.ofNat B.slots.size)])) := c1.trans (by
    refine XS.iloadN X0.here hexec rfl (hb hbytes d0) rfl ?_
    refine XS.aloadN X0.here hexec rfl (hb hbytes d1) rfl rfl ?_
    exact Steps.refl _)
  have c3 : Steps p.tables e below (s₁.setTop (entryFrame m #[.ref d, .int (Int32.ofNat B.slots.size)] 2)) (s₁.setTop (mkF m 8 #[.val (.ref d), .val (.int (Int32.ofNat B.slots.size))] [.int (lo8 (ushr (Int32.ofNat B.slots.size - Int32.ofNat B.slots.size) 31))])) := c2.trans (by
    refine X0.alen hexec hB0 rfl rfl (hb hbytes d2) ?_
    refine XS.isub X0.here hexec rfl (hb hbytes d3) rfl ?_
    refine bipushV X0.here hexec rfl 31 (hb hbytes d4) (by decide) ?_
    refine iushr X0.here hexec rfl (hb hbytes d6) rfl ?_
    refine i2b X0.here hexec rfl (hb hbytes d7) rfl ?_
    exact Steps.refl _)
  have e0 : lo8 (ushr (Int32.ofNat B.slots.size - Int32.ofNat B.slots.size) 31) = 0 := by rw [Int32.sub_self]; decide
  rw [e0] at c3
  exact ⟨s₁, some (.int 0), _, _, _, X0, rfl, rfl, rfl, (fun h => by cases h), ⟨rfl, hh0⟩, fun fs hl => c3.trans (X0.ireturnOut hexec hret rfl (Or.inr (Or.inr (Or.inl rfl))) (hb hbytes d8) hl)⟩
end CodL
/-- the String at a is Latin-1 over a new byte[] (the heap's one new cell): the low bytes of the len chars of A from o on; every cell but a is kept -/
def Got (a : Addr) (D : Cell) (fV fC : Field) (A : Cell) (o len : Nat) (r : Option Value) (s u : State) : Prop := r = none ∧ ∃ D' V : Cell, Blank "java/lang/String" a D' u ∧ Same D D' [fV.slot, fC.slot] ∧ D'.slots[fV.slot]? = some (.ref s.heap.size) ∧ D'.slots[fC.slot]? = some (.int 0) ∧ Arr .byte s.heap.size V u ∧ V.vm = .none ∧ u.vm.findClass "[B" = some V.cls ∧ V.slots.size = len ∧ (∀ j, j < len → V.slots[j]? = some (.int (lo8 (cv A (o + j))))) ∧ (∀ (y : Addr) (c : Cell), y ≠ a → s.heap[y]? = some c → u.heap[y]? = some c) ∧ u.heap.size = s.heap.size + 1
theorem Got.mv {a : Addr} {D A : Cell} {fV fC : Field} {o len : Nat} : ∀ r (U U' V V' : State), U'.heap = U.heap → V.vm.Alike V'.vm → V'.heap = V.heap → Got a D fV fC A o len r U V → Got a D fV fC A o len r U' V' :=
  fun r U U' V V' h1 hal h2 ⟨e0, D', X, a1, a2, a3, a4, a5, a6, a7, a8, a9, a10, a11⟩ => ⟨e0, D', X, a1.mv hal h2, a2, by rw [h1]; exact a3, a4, by rw [h1]; exact a5.mv hal h2, a6, by rw [hal.findClass]; exact a7, a8, a9, by rw [h1, h2]; exact a10, by rw [h1, h2]; exact a11⟩
namespace New4
def yN : MethodName := ⟨"java/lang/String", "<init>", "([CIILjava/lang/Void;)V"⟩
abbrev yB : ByteArray := jdk_42_method_149_code
theorem d0 : decode yB 0 = .ok (.aload_n 0, 1) := by decide +kernel
theorem d1 : decode yB 1 = .ok (.invokespecial 1, 3) := by decide +kernel
theorem d4 : decode yB 4 = .ok (.iload_n 3, 1) := by decide +kernel
theorem d5 : decode yB 5 = .ok (.ifCond (.ne) 22, 3) := by decide +kernel
theorem d27 : decode yB 27 = .ok (.getstatic 38, 3) := by decide +kernel
theorem d30 : decode yB 30 = .ok (.ifCond (.eq) 28, 3) := by decide +kernel
theorem d33 : decode yB 33 = .ok (.aload_n 1, 1) := by decide +kernel
theorem d34 : decode yB 34 = .ok (.iload_n 2, 1) := by decide +kernel
theorem d35 : decode yB 35 = .ok (.iload_n 3, 1) := by decide +kernel
theorem d36 : decode yB 36 = .ok (.invokestatic 177, 3) := by decide +kernel
theorem d39 : decode yB 39 = .ok (.astore 5, 2) := by decide +kernel
theorem d41 : decode yB 41 = .ok (.aload_n 0, 1) := by decide +kernel
theorem d42 : decode yB 42 = .ok (.aload 5, 2) := by decide +kernel
theorem d44 : decode yB 44 = .ok (.iload_n 3, 1) := by decide +kernel
theorem d45 : decode yB 45 = .ok (.invokestatic 47, 3) := by decide +kernel
theorem d48 : decode yB 48 = .ok (.putfield 15, 3) := by decide +kernel
theorem d51 : decode yB 51 = .ok (.aload_n 0, 1) := by decide +kernel
theorem d52 : decode yB 52 = .ok (.aload 5, 2) := by decide +kernel
theorem d54 : decode yB 54 = .ok (.putfield 9, 3) := by decide +kernel
theorem d57 : decode yB 57 = .ok (.return_, 1) := by decide +kernel
def site : List Cond := [.fieldLink "java/lang/String" 38 "java/lang/String" "COMPACT_STRINGS" "Z", Cmp3.tab, CodL.tab, .laysFinal "java/lang/String" "java/lang/String" "value" "[B", .fieldLink "java/lang/String" 9 "java/lang/String" "value" "[B", .laysFinal "java/lang/String" "java/lang/String" "coder" "B", .fieldLink "java/lang/String" 15 "java/lang/String" "coder" "B"] ++ objW "java/lang/String" 1 ++ staticW "java/lang/String" 177 Cmp3.yN ++ staticW "java/lang/String" 47 CodL.yN
def tab : Cond := tabOf yN yB 6 none site
def P (a : Addr) (D : Cell) (fV fC : Field) (b : Addr) (A : Cell) (z : Int32) (o len : Nat) (args : Array Value) (s : State) : Prop := args = #[.ref a, .ref b, .int (Int32.ofNat o), .int (Int32.ofNat len), .null] ∧ Blank "java/lang/String" a D s ∧ Found "java/lang/String" "value" "[B" fV s ∧ Found "java/lang/String" "coder" "B" fC s ∧ Ch b A s ∧ StaticIs s "java/lang/String" "COMPACT_STRINGS" "Z" (.int z) ∧ ¬ z = 0 ∧ 0 < len ∧ o + len ≤ A.slots.size ∧ len ≤ 536870912 ∧ ∀ i, i < len → ¬ 255 < cv A (o + i)
def E (a : Addr) (D : Cell) (fV fC : Field) (A : Cell) (o len : Nat) (r : Option Value) (s u : State) : Prop := Got a D fV fC A o len r s u
/-- len > 0, no char of the range above 255: a Latin-1 String of their low bytes -/
theorem law (l : Launch) (a : Addr) (D : Cell) (fV fC : Field) (b : Addr) (A : Cell) (z : Int32) (o len : Nat) : Law l yN 5 4 2 35 yB 6 none site (P a D fV fC b A z o len) (E a D fV fC A o len) [⟨a, fC.slot⟩, ⟨a, fV.slot⟩] 1 len := by
  refine Law.of_walk (plainFor_of_name (by decide +kernel)) (by decide +kernel) (by decide +kernel) (by decide) (fun _ _ h => by rw [h.1]; rfl) (fun _ U U' hal hh h => ⟨h.1, h.2.1.mv hal hh, h.2.2.1.al hal, h.2.2.2.1.al hal, h.2.2.2.2.1.mv hal hh, h.2.2.2.2.2.1.there hal hh, h.2.2.2.2.2.2⟩) (fun r U U' V V' h1 hal h2 h => Got.mv r U U' V V' h1 hal h2 h) ?_
  intro p e s m args below meth c s₁ X0 hexec hbytes hml hret hlk hnm hown hh0 W hP
  obtain ⟨rfl, hB, f1, f2, hA, s1, hz, l0, l1, l2, hp⟩ := hP
  have a31 := hA.1.2.2.2
  have c1 : Steps p.tables e below (s₁.setTop (entryFrame m #[.ref a, .ref b, .int (Int32.ofNat o), .int (Int32.ofNat len), .null] 6)) (s₁.setTop (mkF m 0 #[.val (.ref a), .val (.ref b), .val (.int (Int32.ofNat o)), .val (.int (Int32.ofNat len)), .val .null, .unset] [])) := entry rfl
  have c2 : Steps p.tables e below (s₁.setTop (entryFrame m #[.ref a, .ref b, .int (Int32.ofNat o), .int (Int32.ofNat len), .null] 6)) (s₁.setTop (mkF m 1 #[.val (.ref a), .val (.ref b), .val (.int (Int32.ofNat o)), .val (.int (Int32.ofNat len)), .val .null, .unset] [.ref a])) := c1.trans (by
    refine XS.aloadN X0.here hexec rfl (hb hbytes d0) rfl rfl ?_
    exact Steps.refl _)
  obtain ⟨T3, X3, q3, st3⟩ := X0.oinit hexec hown (wks W (objW "java/lang/String" 1)) (g := (mkF m 1 #[.val (.ref a), .val (.ref b), .val (.int (Int32.ofNat o)), .val (.int (Int32.ofNat len)), .val .null, .unset] [.ref a])) rfl (by rw [hml]; rfl) (rest := []) rfl (hb hbytes d1) (W := 0) (by show 2 * 0 + 0 ≤ _; decide) (Nat.le_of_ble_eq_true rfl) (Nat.le_of_ble_eq_true rfl)
  have hh3 := q3.trans hh0
  have c4 : Steps p.tables e below (s₁.setTop (entryFrame m #[.ref a, .ref b, .int (Int32.ofNat o), .int (Int32.ofNat len), .null] 6)) (T3.setTop (mkF m 27 #[.val (.ref a), .val (.ref b), .val (.int (Int32.ofNat o)), .val (.int (Int32.ofNat len)), .val .null, .unset] [])) := (c2.trans (st3 _ (Steps.refl _))).trans (by
    refine XS.iloadN X3.here hexec rfl (hb hbytes d4) rfl ?_
    refine XS.ifYes X3.here hexec rfl (pc0 := 5) rfl (hb hbytes d5) rfl (i0_ne_t (nz32 (by omega) l0)) (by decide) rfl ?_
    exact Steps.refl _)
  obtain ⟨T5, X5, q5, st5⟩ := X3.sget hexec hown (wk W (.fieldLink "java/lang/String" 38 "java/lang/String" "COMPACT_STRINGS" "Z")) s1 (fun _ _ h => by rw [hh3]; exact h) (g := (mkF m 27 #[.val (.ref a), .val (.ref b), .val (.int (Int32.ofNat o)), .val (.int (Int32.ofNat len)), .val .null, .unset] [])) rfl (hb hbytes d27)
  have hh5 := q5.trans hh3
  have c6 : Steps p.tables e below (s₁.setTop (entryFrame m #[.ref a, .ref b, .int (Int32.ofNat o), .int (Int32.ofNat len), .null] 6)) (T5.setTop (mkF m 30 #[.val (.ref a), .val (.ref b), .val (.int (Int32.ofNat o)), .val (.int (Int32.ofNat len)), .val .null, .unset] [.int z])) := c4.trans (st5 _ (Steps.refl _))
  have c7 : Steps p.tables e below (s₁.setTop (entryFrame m #[.ref a, .ref b, .int (Int32.ofNat o), .int (Int32.ofNat len), .null] 6)) (T5.setTop (mkF m 36 #[.val (.ref a), .val (.ref b), .val (.int (Int32.ofNat o)), .val (.int (Int32.ofNat len)), .val .null, .unset] [.int (Int32.ofNat len), .int (Int32.ofNat o), .ref b])) := c6.trans (by
    refine XS.ifNo X5.here hexec rfl (hb hbytes d30) rfl (i0_eq_f hz) ?_
    refine XS.aloadN X5.here hexec rfl (hb hbytes d33) rfl rfl ?_
    refine XS.iloadN X5.here hexec rfl (hb hbytes d34) rfl ?_
    refine XS.iloadN X5.here hexec rfl (hb hbytes d35) rfl ?_
    exact Steps.refl _)
  obtain ⟨v8, T8, X8, E8, g8⟩ := X5.callS hexec (Cmp3.law l b A o len) hown (wks W (staticW "java/lang/String" 177 Cmp3.yN)) (wk W Cmp3.tab) (W := 0) (Nat.le_of_ble_eq_true rfl) (Nat.le_of_ble_eq_true rfl) (Nat.le_refl _) (by show 0 + len ≤ len; omega) (g := (mkF m 36 #[.val (.ref a), .val (.ref b), .val (.int (Int32.ofNat o)), .val (.int (Int32.ofNat len)), .val .null, .unset] [.int (Int32.ofNat len), .int (Int32.ofNat o), .ref b])) rfl (by rw [hml]; rfl) c7 (argsL := [.ref b, .int (Int32.ofNat o), .int (Int32.ofNat len)]) (rest := []) rfl rfl (by show 2 * 0 + 0 ≤ _; decide) (hb hbytes d36) (⟨rfl, hA.mv X5.warmed.alike hh5, l1, l2, hp⟩)
  obtain ⟨e8, z8⟩ := E8
  obtain ⟨rfl, N, n1, n2, n3, n4, n5, n6⟩ := NewArr.mv _ T5 s _ _ hh5.symm (Vm.Alike.refl _) rfl e8
  rw [hh5] at z8
  have hB1 := hB.keep X8.warmed.alike (n6 _ _ hB.1)
  have hne : s.heap.size ≠ a := (Nat.ne_of_lt (Array.getElem?_eq_some_iff.mp hB.1).1).symm
  have c9 : Steps p.tables e below (s₁.setTop (entryFrame m #[.ref a, .ref b, .int (Int32.ofNat o), .int (Int32.ofNat len), .null] 6)) (T8.setTop (mkF m 39 #[.val (.ref a), .val (.ref b), .val (.int (Int32.ofNat o)), .val (.int (Int32.ofNat len)), .val .null, .unset] [.ref s.heap.size])) := g8
  have c10 : Steps p.tables e below (s₁.setTop (entryFrame m #[.ref a, .ref b, .int (Int32.ofNat o), .int (Int32.ofNat len), .null] 6)) (T8.setTop (mkF m 45 #[.val (.ref a), .val (.ref b), .val (.int (Int32.ofNat o)), .val (.int (Int32.ofNat len)), .val .null, .val (.ref s.heap.size)] [.int (Int32.ofNat N.slots.size), .ref s.heap.size, .ref a])) := by
    have hc : Steps p.tables e below (s₁.setTop (entryFrame m #[.ref a, .ref b, .int (Int32.ofNat o), .int (Int32.ofNat len), .null] 6)) (T8.setTop (mkF m 45 #[.val (.ref a), .val (.ref b), .val (.int (Int32.ofNat o)), .val (.int (Int32.ofNat len)), .val .null, .val (.ref s.heap.size)] [.int (Int32.ofNat len), .ref s.heap.size, .ref a])) := c9.trans (by
      refine XS.astore X8.here hexec rfl (hb hbytes d39) rfl rfl rfl ?_
      refine XS.aloadN X8.here hexec rfl (hb hbytes d41) rfl rfl ?_
      refine XS.aload X8.here hexec rfl (hb hbytes d42) rfl rfl ?_
      refine XS.iloadN X8.here hexec rfl (hb hbytes d44) rfl ?_
      exact Steps.refl _)
    rw [n4]; exact hc
  obtain ⟨v11, T11, X11, E11, g11⟩ := X8.callS hexec (CodL.law l s.heap.size N) hown (wks W (staticW "java/lang/String" 47 CodL.yN)) (wk W CodL.tab) (W := 1) (Nat.le_of_ble_eq_true rfl) (Nat.le_of_ble_eq_true rfl) (Nat.le_refl _) (by show 0 + len + 0 ≤ len; omega) (g := (mkF m 45 #[.val (.ref a), .val (.ref b), .val (.int (Int32.ofNat o)), .val (.int (Int32.ofNat len)), .val .null, .val (.ref s.heap.size)] [.int (Int32.ofNat N.slots.size), .ref s.heap.size, .ref a])) rfl (by rw [hml]; rfl) c10 (argsL := [.ref s.heap.size, .int (Int32.ofNat N.slots.size)]) (rest := [.ref a]) rfl rfl (by show 2 * 0 + (1 + 0) ≤ _; decide) (hb hbytes d45) (⟨rfl, n1⟩)
  obtain ⟨rfl, q11⟩ := E11
  have hB11 := hB1.mv (X8.warmed.alike.symm.trans X11.warmed.alike) q11
  have c12 : Steps p.tables e below (s₁.setTop (entryFrame m #[.ref a, .ref b, .int (Int32.ofNat o), .int (Int32.ofNat len), .null] 6)) (T11.setTop (mkF m 48 #[.val (.ref a), .val (.ref b), .val (.int (Int32.ofNat o)), .val (.int (Int32.ofNat len)), .val .null, .val (.ref s.heap.size)] [.int 0, .ref a])) := g11
  obtain ⟨T13, X13, p13, bl13, sl13, st13⟩ := X11.finit hexec hown (wk W (.fieldLink "java/lang/String" 15 "java/lang/String" "coder" "B")) (Or.inr ⟨_, (wk W (.laysFinal "java/lang/String" "java/lang/String" "coder" "B"))⟩) (Or.inl ⟨rfl, hnm⟩) f2 (Or.inl rfl) hB11 (t := .byte) (by decide +kernel) rfl (g := (mkF m 48 #[.val (.ref a), .val (.ref b), .val (.int (Int32.ofNat o)), .val (.int (Int32.ofNat len)), .val .null, .val (.ref s.heap.size)] [.int 0, .ref a])) rfl (rest := []) rfl (hb hbytes d48)
  have c14 : Steps p.tables e below (s₁.setTop (entryFrame m #[.ref a, .ref b, .int (Int32.ofNat o), .int (Int32.ofNat len), .null] 6)) (T13.setTop (mkF m 54 #[.val (.ref a), .val (.ref b), .val (.int (Int32.ofNat o)), .val (.int (Int32.ofNat len)), .val .null, .val (.ref s.heap.size)] [.ref s.heap.size, .ref a])) := (c12.trans (st13 _ (Steps.refl _))).trans (by
    refine XS.aloadN X13.here hexec rfl (hb hbytes d51) rfl rfl ?_
    refine XS.aload X13.here hexec rfl (hb hbytes d52) rfl rfl ?_
    exact Steps.refl _)
  obtain ⟨T15, X15, p15, bl15, sl15, st15⟩ := X13.finit hexec hown (wk W (.fieldLink "java/lang/String" 9 "java/lang/String" "value" "[B")) (Or.inr ⟨_, (wk W (.laysFinal "java/lang/String" "java/lang/String" "value" "[B"))⟩) (Or.inl ⟨rfl, hnm⟩) f1 (Or.inl rfl) bl13 (t := (.array .byte)) (by decide +kernel) rfl (g := (mkF m 54 #[.val (.ref a), .val (.ref b), .val (.int (Int32.ofNat o)), .val (.int (Int32.ofNat len)), .val .null, .val (.ref s.heap.size)] [.ref s.heap.size, .ref a])) rfl (rest := []) rfl (hb hbytes d54)
  have c16 : Steps p.tables e below (s₁.setTop (entryFrame m #[.ref a, .ref b, .int (Int32.ofNat o), .int (Int32.ofNat len), .null] 6)) (T15.setTop (mkF m 57 #[.val (.ref a), .val (.ref b), .val (.int (Int32.ofNat o)), .val (.int (Int32.ofNat len)), .val .null, .val (.ref s.heap.size)] [])) := c14.trans (st15 _ (Steps.refl _))
  have ap := apart (Or.inr ⟨_, (wk W (.laysFinal "java/lang/String" "java/lang/String" "value" "[B"))⟩) (Or.inr ⟨_, (wk W (.laysFinal "java/lang/String" "java/lang/String" "coder" "B"))⟩) f1 f2 (t₁ := .array .byte) (t₂ := .byte) (by decide +kernel) (by decide +kernel) (by decide)
  have al := X8.warmed.alike.symm.trans X15.warmed.alike
  have n7 : T11.heap[s.heap.size]? = some N := by rw [q11]; exact n1.1
  exact ⟨T15, none, _, _, _, X15, by simp, rfl, by omega, (fun _ => rfl), ⟨rfl, _, N, bl15, ((Same.refl D _).set _ (by simp)).set _ (by simp), sl15, (Cell.slots_setSlot_ne _ ap).trans sl13, n1.keep al (p15.other hne (p13.other hne n7)), n2, by rw [al.findClass]; exact n3, n4, n5, fun y c h1 h2 => p15.other h1 (p13.other h1 (by rw [q11]; exact n6 y c h2)), by rw [p15.2.2, p13.2.2, q11]; exact z8⟩, fun fs hl => c16.trans (X15.returnOut hexec hret (hb hbytes d57) hl)⟩
end New4
namespace New1
def yN : MethodName := ⟨"java/lang/String", "<init>", "([C)V"⟩
abbrev yB : ByteArray := jdk_42_method_3_code
theorem d0 : decode yB 0 = .ok (.aload_n 0, 1) := by decide +kernel
theorem d1 : decode yB 1 = .ok (.aload_n 1, 1) := by decide +kernel
theorem d2 : decode yB 2 = .ok (.iconst 0, 1) := by decide +kernel
theorem d3 : decode yB 3 = .ok (.aload_n 1, 1) := by decide +kernel
theorem d4 : decode yB 4 = .ok (.arraylength, 1) := by decide +kernel
theorem d5 : decode yB 5 = .ok (.aconst_null, 1) := by decide +kernel
theorem d6 : decode yB 6 = .ok (.invokespecial 27, 3) := by decide +kernel
theorem d9 : decode yB 9 = .ok (.return_, 1) := by decide +kernel
def site : List Cond := [New4.tab] ++ initW "java/lang/String" 27 New4.yN
def tab : Cond := tabOf yN yB 2 none site
def P (a : Addr) (D : Cell) (fV fC : Field) (b : Addr) (A : Cell) (z : Int32) (args : Array Value) (s : State) : Prop := args = #[.ref a, .ref b] ∧ Blank "java/lang/String" a D s ∧ Found "java/lang/String" "value" "[B" fV s ∧ Found "java/lang/String" "coder" "B" fC s ∧ Ch b A s ∧ StaticIs s "java/lang/String" "COMPACT_STRINGS" "Z" (.int z) ∧ ¬ z = 0 ∧ 0 < A.slots.size ∧ A.slots.size ≤ 536870912 ∧ ∀ i, i < A.slots.size → ¬ 255 < cv A i
def E (a : Addr) (D : Cell) (fV fC : Field) (A : Cell) (r : Option Value) (s u : State) : Prop := Got a D fV fC A 0 A.slots.size r s u
/-- new String(chars), not empty, no char above 255: a Latin-1 String of their low bytes -/
theorem law (l : Launch) (a : Addr) (D : Cell) (fV fC : Field) (b : Addr) (A : Cell) (z : Int32) : Law l yN 2 1 3 52 yB 2 none site (P a D fV fC b A z) (E a D fV fC A) [⟨a, fC.slot⟩, ⟨a, fV.slot⟩] 1 A.slots.size := by
  refine Law.of_walk (plainFor_of_name (by decide +kernel)) (by decide +kernel) (by decide +kernel) (by decide) (fun _ _ h => by rw [h.1]; rfl) (fun _ U U' hal hh h => ⟨h.1, h.2.1.mv hal hh, h.2.2.1.al hal, h.2.2.2.1.al hal, h.2.2.2.2.1.mv hal hh, h.2.2.2.2.2.1.there hal hh, h.2.2.2.2.2.2⟩) (fun r U U' V V' h1 hal h2 h => Got.mv r U U' V V' h1 hal h2 h) ?_
  intro p e s m args below meth c s₁ X0 hexec hbytes hml hret hlk hnm hown hh0 W hP
  obtain ⟨rfl, hB, f1, f2, hA, s1, hz, l0, l2, hp⟩ := hP
  have c1 : Steps p.tables e below (s₁.setTop (entryFrame m #[.ref a, .ref b] 2)) (s₁.setTop (mkF m 0 #[.val (.ref a), .val (.ref b)] [])) := entry rfl
  have c2 : Steps p.tables e below (s₁.setTop (entryFrame m #[.ref a, .ref b] 2)) (s₁.setTop (mkF m 6 #[.val (.ref a), .val (.ref b)] [.null, .int (Int32.ofNat A.slots.size), .int 0, .ref b, .ref a])) := c1.trans (by
    refine XS.aloadN X0.here hexec rfl (hb hbytes d0) rfl rfl ?_
    refine XS.aloadN X0.here hexec rfl (hb hbytes d1) rfl rfl ?_
    refine iconstV X0.here hexec rfl 0 (hb hbytes d2) (by decide) ?_
    refine XS.aloadN X0.here hexec rfl (hb hbytes d3) rfl rfl ?_
    refine X0.alen hexec (hA.1.mv X0.warmed.alike hh0) rfl rfl (hb hbytes d4) ?_
    refine XS.aconstNull X0.here hexec rfl (hb hbytes d5) ?_
    exact Steps.refl _)
  obtain ⟨v3, T3, X3, E3, g3⟩ := X0.callN hexec (New4.law l a D fV fC b A z 0 A.slots.size) rfl hown (wks W (initW "java/lang/String" 27 New4.yN)) (W New4.tab (by simp only [site, List.mem_cons, List.mem_append, true_or, or_true])) (W := 0) (Nat.le_of_ble_eq_true rfl) (Nat.le_of_ble_eq_true rfl) (Nat.le_refl _) (by show 0 + A.slots.size ≤ A.slots.size; omega) (g := (mkF m 6 #[.val (.ref a), .val (.ref b)] [.null, .int (Int32.ofNat A.slots.size), .int (Int32.ofNat 0), .ref b, .ref a])) rfl (by rw [hml]; rfl) c2 (argsL := [.ref b, .int (Int32.ofNat 0), .int (Int32.ofNat A.slots.size), .null]) (rest := []) rfl rfl (by show 2 * 0 + 0 ≤ _; decide) (hb hbytes d6) (⟨rfl, hB.mv X0.warmed.alike hh0, f1.al X0.warmed.alike, f2.al X0.warmed.alike, hA.mv X0.warmed.alike hh0, s1.there X0.warmed.alike hh0, hz, l0, by omega, l2, fun i hi => by rw [Nat.zero_add]; exact hp i hi⟩)
  have e0 := Got.mv _ s₁ s _ _ hh0.symm (Vm.Alike.refl _) rfl E3
  obtain rfl := e0.1
  have c4 : Steps p.tables e below (s₁.setTop (entryFrame m #[.ref a, .ref b] 2)) (T3.setTop (mkF m 9 #[.val (.ref a), .val (.ref b)] [])) := g3
  exact ⟨T3, none, _, _, _, X3, by simp, rfl, by omega, (fun _ => rfl), e0, fun fs hl => c4.trans (X3.returnOut hexec hret (hb hbytes d9) hl)⟩
theorem pays {l : Launch} {R : Room} {p : Program} {e : Env} {below : List Frame} {s : State} {sargs : Array Value} {len W : Nat} (a : Addr) (D : Cell) (fV fC : Field) (b : Addr) (A : Cell) (z : Int32) (htab : tab.before sargs s = true) (hfr : 4 ≤ R.frames) (hlo : W + 65 ≤ R.locals) :
    Back l R p e below s sargs yN len W (fun A₁ a₁ => A₁.cells + 1 ≤ R.cells ∧ A₁.slots + A.slots.size ≤ R.slots ∧ P a D fV fC b A z a₁ A₁.U) (fun A₁ _ v₁ B₁ => E a D fV fC A v₁ A₁.U B₁.U ∧ B₁.locs = A₁.locs ++ [⟨a, fC.slot⟩, ⟨a, fV.slot⟩] ∧ B₁.cells = A₁.cells + 1 ∧ B₁.slots = A₁.slots + A.slots.size) :=
  (law l a D fV fC b A z).pays htab hfr (by omega)
end New1
end StrChars
namespace StrChars.Road
open Jvm Sem ClassFile Op Lib Jvm.Stand Jvm.Free Jvm.Free.XT
open Jvm.Lib.Cold (StaticIs)
abbrev ST : String := "java/lang/String"
/-- every table word that New1's law asks, flat -/
abbrev words : List Jvm.Cond := [.code New1.yN New1.yB 2 none, .initialized ST, .methodLink ST 27 New4.yN, .instanceMethod New4.yN,
  .code New4.yN New4.yB 6 none, .fieldLink ST 38 ST "COMPACT_STRINGS" "Z", .laysFinal ST ST "value" "[B", .fieldLink ST 9 ST "value" "[B", .laysFinal ST ST "coder" "B", .fieldLink ST 15 ST "coder" "B",
  .methodLink ST 1 Lib.objectInit, .instanceMethod Lib.objectInit, .code Lib.objectInit ⟨#[0xb1]⟩ 1 none, .methodLink ST 177 Cmp3.yN, .static Cmp3.yN, .methodLink ST 47 CodL.yN, .static CodL.yN,
  .code Cmp3.yN Cmp3.yB 6 (some (.array .byte)), .initialized U16, .arrayClass .byte, .methodLink U16 115 Cmp5.yN, .static Cmp5.yN, .code Cmp5.yN Cmp5.yB 7 (some .int), .code CodL.yN CodL.yB 2 (some .byte)]
theorem tab_of {a : Array Value} {s : State} (h : ∀ w ∈ words, w.before a s = true) : New1.tab.before a s = true := by
  have h5 : Cmp5.tab.before a s = true := unparts (wk h (.code Cmp5.yN Cmp5.yB 7 (some .int))) (wks h (.initialized Cmp5.yN.cls :: Cmp5.site))
  have hc : CodL.tab.before a s = true := unparts (wk h (.code CodL.yN CodL.yB 2 (some .byte))) (wks h (.initialized CodL.yN.cls :: CodL.site))
  have q5 : ∀ w ∈ Cmp5.tab :: words, w.before a s = true := fun w hw => (List.mem_cons.mp hw).elim (fun e => e ▸ h5) (h w)
  have h3 : Cmp3.tab.before a s = true := unparts (wk q5 (.code Cmp3.yN Cmp3.yB 6 (some (.array .byte)))) (wks q5 (.initialized Cmp3.yN.cls :: Cmp3.site))
  have q3 : ∀ w ∈ Cmp3.tab :: CodL.tab :: words, w.before a s = true := fun w hw => (List.mem_cons.mp hw).elim (fun e => e ▸ h3) fun hw => (List.mem_cons.mp hw).elim (fun e => e ▸ hc) (h w)
  have h4 : New4.tab.before a s = true := unparts (wk q3 (.code New4.yN New4.yB 6 none)) (wks q3 (.initialized New4.yN.cls :: New4.site))
  have q4 : ∀ w ∈ New4.tab :: words, w.before a s = true := fun w hw => (List.mem_cons.mp hw).elim (fun e => e ▸ h4) (h w)
  exact unparts (wk q4 (.code New1.yN New1.yB 2 none)) (wks q4 (.initialized New1.yN.cls :: New1.site))
/-- the words ride from the start Z to the walk's own state -/
theorem moved {Z s : State} {a0 args : Array Value} (hZ : Z.Warmed39 s.vm) (hw : ∀ d ∈ words, d.before a0 Z = true) : ∀ d ∈ words, d.before args s = true := fun d hd => by
  have q := hw d hd
  have t : ∀ d ∈ words, d = .arrayClass .byte ∨ (d.onTables && d.keepsFace) = true := by decide +kernel
  rcases t d hd with rfl | t
  · exact RoadKit.mvA hZ q
  · exact RoadKit.mv hZ q t
/-- WHAT COMES BACK, over the tables of the start Z: h the heap at the call, h' behind it -/
def Q (Z : State) (x : Addr) (A : Cell) (h : Heap) (v : Option Value) (h' : Heap) (L : List Loc) : Prop := v = none ∧ (∀ y ∈ L, y.base = x) ∧ RoadKit.Keep h h' [x] ∧ h'.size = h.size + 1 ∧ RoadKit.Exa Z h' x ST ∧ RoadKit.Fld Z h' x ST "value" "[B" (.ref h.size) ∧ RoadKit.Fld Z h' x ST "coder" "B" (.int 0) ∧
  (∃ V : Cell, RoadKit.Arr Z h' h.size V .byte ∧ V.vm = .none ∧ Z.vm.findClass "[B" = some V.cls ∧ V.slots.size = A.slots.size ∧ ∀ j, j < A.slots.size → V.slots[j]? = some (.int (lo8 (cv A j)))) ∧
  ∀ (O n d : String) (w : Value), RoadKit.Fld Z h x O n d w → RoadKit.slotOf Z O n d ≠ RoadKit.slotOf Z ST "value" "[B" → RoadKit.slotOf Z O n d ≠ RoadKit.slotOf Z ST "coder" "B" → RoadKit.Fld Z h' x O n d w
/-- **new String(chars) AT A CALL, IN THE ROAD'S FORM**: for specialBack behind newO: x the fresh String, b the char[] with the cell A -/
theorem back {p : Program} {l : Launch} {e : Env} {R : Room} {s : State} {args : Array Value} {below : List Frame} {len W : Nat} {Z : State} {a0 : Array Value} {h : Heap} (hZ : Z.Warmed39 s.vm) (hw : ∀ d ∈ words, d.before a0 Z = true) {kI : Nat} (wi : (Jvm.Cond.instantiable ST kI).before a0 Z = true)
    {x b : Addr} {A : Cell} {z : Int32} {v0 c0 : Value} (E : RoadKit.Exa Z h x ST) (V : RoadKit.Fld Z h x ST "value" "[B" v0) (C : RoadKit.Fld Z h x ST "coder" "B" c0) (K : RoadKit.Arr Z h b A .char) (hty : Typed .char A) (S : RoadKit.Sta Z h ST "COMPACT_STRINGS" "Z" (.int z)) (hz : ¬ z = 0)
    (l0 : 0 < A.slots.size) (l2 : A.slots.size ≤ 536870912) (hp : ∀ i, i < A.slots.size → ¬ 255 < cv A i) (hfr : 4 ≤ R.frames) (hlo : W + 65 ≤ R.locals) :
    Back l R p e below s args New1.yN len W (fun P a => a = #[.ref x, .ref b] ∧ P.U.heap = h ∧ P.cells + 1 ≤ R.cells ∧ P.slots + A.slots.size ≤ R.slots)
      (fun P _ v B => ∃ L, Q Z x A h v B.U.heap L ∧ B.locs = P.locs ++ L ∧ B.cells = P.cells + 1 ∧ B.slots = P.slots + A.slots.size) := by
  intro m meth c P g ig mk a X hg hsize hdg hW hn hp'
  obtain ⟨rfl, rfl, r1, r2⟩ := hp'
  have al : Z.vm.Alike P.U.vm := hZ.alike.trans X.warmed.alike
  obtain ⟨D, cfV, kV, iV, fV, hD, gV, stV, knV, obV, asV, slV⟩ := id V
  obtain ⟨D', cfC, kC, iC, fC, hD', gC, stC, -, -, asC, slC⟩ := id C
  cases hD.symm.trans hD'
  obtain ⟨D2, kD, e1, e2, e3, e4, e5⟩ := id E
  cases hD.symm.trans e1
  obtain ⟨c2, k2, i1, i2, i3, -⟩ := Cond.instantiable_spec wi
  cases e2.symm.trans i1
  cases e3.symm.trans i2
  obtain ⟨kU, u1, u2⟩ := al.2.2 _ _ e3
  have hB : Blank ST x D P.U := ⟨hD, ⟨knV, fun q hq => by rw [hq] at obV; cases obV⟩, by rw [al.findClass]; exact e2, kU, u1, by rw [u2]; exact i3, by rw [u2]; exact e5 i3⟩
  have F1 : Found ST "value" "[B" fV P.U := ⟨SBG.found_only al ⟨cfV, kV, iV, gV⟩, stV⟩
  have F2 : Found ST "coder" "B" fC P.U := ⟨SBG.found_only al ⟨cfC, kC, iC, gC⟩, stC⟩
  have hA : Ch b A P.U := ⟨⟨K.1, State.isArrayOf_alike al K.2.1, K.2.2, by omega⟩, hty⟩
  have hS : StaticIs P.U ST "COMPACT_STRINGS" "Z" (.int z) := by
    obtain ⟨cfS, iS, kS, fS, st, cS, t1, t2, t3, t4, t5, t6, t7⟩ := S
    exact StaticIs.there (s := { Z with heap := P.U.heap }) ⟨cfS, iS, kS, fS, st, cS, t1, t2, t3, t4, t5, (fun q => by rw [q] at t6; cases t6), t7⟩ al rfl
  obtain ⟨v, B, X', ⟨⟨hv, E', V', q1, q2, q3, q4, q5, q6, q7, q8, q9, q10, q11⟩, hl, hc, hs⟩, st⟩ := New1.pays x D fV fC b A z (tab_of (moved hZ hw)) hfr hlo m meth c P g ig mk _ X hg hsize hdg hW hn ⟨r1, r2, rfl, hB, F1, F2, hA, hS, hz, l0, l2, hp⟩
  have al' : Z.vm.Alike B.U.vm := hZ.alike.trans X'.warmed.alike
  have hsz : E'.slots.size = D.slots.size := by
    obtain ⟨-, -, -, kB, w1, w2, w3⟩ := q1
    obtain ⟨kB', y1, y2⟩ := al'.2.2 _ _ e3
    rw [q2.2.1] at w1
    cases w1.symm.trans y1
    rw [w3, e5 i3, y2]
  refine ⟨v, B, X', ⟨_, ⟨hv, ?_, ⟨by omega, fun y cy hy hn' => q10 y cy (by simpa using hn') hy, fun y cy hy => ?_⟩, q11, ⟨E', _, q1.1, by rw [q2.2.1]; exact e2, by rw [q2.2.1]; exact e3, by rw [q2.1]; exact obV, fun _ => by rw [hsz]; exact e5 i3⟩,
    ⟨E', cfV, kV, iV, fV, q1.1, gV, stV, by rw [q2.1]; exact knV, by rw [q2.1]; exact obV, by rw [q2.2.1]; exact asV, q3⟩, ⟨E', cfC, kC, iC, fC, q1.1, gC, stC, by rw [q2.1]; exact knV, by rw [q2.1]; exact obV, by rw [q2.2.1]; exact asC, q4⟩,
    ⟨V', ⟨q5.1, State.isArrayOf_alike al'.symm q5.2.1, q5.2.2.1⟩, q6, by rw [← al'.findClass]; exact q7, q8, fun j hj => by have := q9 j hj; rwa [Nat.zero_add] at this⟩, fun O n d w F n1 n2 => ?_⟩, hl, hc, hs⟩, st⟩
  · intro y hy
    simp only [List.mem_cons, List.not_mem_nil, or_false] at hy
    rcases hy with rfl | rfl <;> rfl
  · by_cases q : y = x
    · subst q
      cases hD.symm.trans hy
      exact ⟨E', q1.1, q2.2.1, q2.1, hsz⟩
    · exact ⟨cy, q10 y cy q hy, rfl, rfl, rfl⟩
  · obtain ⟨D3, cf, k, i, f, g1, g2, g3, g4, g5, g6, g7⟩ := F
    cases hD.symm.trans g1
    simp only [RoadKit.slotOf, g2, gV, gC, Option.map_some, Option.getD_some] at n1 n2
    exact ⟨E', cf, k, i, f, q1.1, g2, g3, by rw [q2.1]; exact g4, by rw [q2.1]; exact g5, by rw [q2.2.1]; exact g6, by rw [q2.2.2 f.slot (by simp [n1, n2])]; exact g7⟩
end StrChars.Road
namespace StrChars.Road
open Jvm Sem ClassFile Op Lib Jvm.Stand Jvm.Free Jvm.Free.XT
/-- WHAT COMES BACK, the byte[] as a list of values -/
def QA (Z : State) (x : Addr) (zn : Int32) (cs : List Int32) (h : Heap) (v : Option Value) (h' : Heap) (L : List Loc) : Prop := v = none ∧ (∀ y ∈ L, y.base = x) ∧ RoadKit.Keep h h' [x] ∧ h'.size = h.size + 1 ∧ RoadKit.Exa Z h' x ST ∧ RoadKit.Fld Z h' x ST "value" "[B" (.ref h.size) ∧ RoadKit.Fld Z h' x ST "coder" "B" (.int 0) ∧
  (∃ kb, Z.vm.findClass "[B" = some kb ∧ RoadKit.Arv Z h' h.size kb .byte zn (cs.map fun c => .int (lo8 c)) (.int 0)) ∧
  ∀ (O n d : String) (w : Value), RoadKit.Fld Z h x O n d w → RoadKit.slotOf Z O n d ≠ RoadKit.slotOf Z ST "value" "[B" → RoadKit.slotOf Z O n d ≠ RoadKit.slotOf Z ST "coder" "B" → RoadKit.Fld Z h' x O n d w
/-- **new String(chars) AT A CALL, THE ARRAYS AS LISTS**: the char[] at b holds cs, not empty, no char above 255 -/
theorem backArv {p : Program} {l : Launch} {e : Env} {R : Room} {s : State} {args : Array Value} {below : List Frame} {len W : Nat} {Z : State} {a0 : Array Value} {h : Heap} (hZ : Z.Warmed39 s.vm) (hw : ∀ d ∈ words, d.before a0 Z = true) {kI : Nat} (wi : (Jvm.Cond.instantiable ST kI).before a0 Z = true)
    {x b : Addr} {k : ClassId} {zn z : Int32} {cs : List Int32} {dv v0 c0 : Value} (E : RoadKit.Exa Z h x ST) (V : RoadKit.Fld Z h x ST "value" "[B" v0) (C : RoadKit.Fld Z h x ST "coder" "B" c0) (K : RoadKit.Arv Z h b k .char zn (cs.map Value.int) dv) (S : RoadKit.Sta Z h ST "COMPACT_STRINGS" "Z" (.int z)) (hz : ¬ z = 0)
    (hlen : zn.toNatClampNeg = cs.length) (h0 : 0 < cs.length) (hbig : cs.length ≤ 536870912) (hall : ∀ c ∈ cs, ¬ 255 < c) (hfr : 4 ≤ R.frames) (hlo : W + 65 ≤ R.locals) :
    Back l R p e below s args New1.yN len W (fun P a => a = #[.ref x, .ref b] ∧ P.U.heap = h ∧ P.cells + 1 ≤ R.cells ∧ P.slots + cs.length ≤ R.slots)
      (fun P _ v B => ∃ L, QA Z x zn cs h v B.U.heap L ∧ B.locs = P.locs ++ L ∧ B.cells = P.cells + 1 ∧ B.slots = P.slots + cs.length) := by
  obtain ⟨A, K1, K2, K3, K4, K5, K6⟩ := K
  have e : A.slots.size = cs.length := K3.trans hlen
  have hat : ∀ (i : Nat) (hi : i < cs.length), A.slots[i]? = some (.int cs[i]) := fun i hi => by rw [K5 i (by omega)]; simp [List.getD_eq_getElem?_getD, hi]
  have hcv : ∀ (i : Nat) (hi : i < cs.length), cv A i = cs[i] := fun i hi => by unfold cv; rw [hat i hi]
  have hty : Typed .char A := fun i v hv => by
    have hi : i < A.slots.size := (Array.getElem?_eq_some_iff.mp hv).1
    have q := K5 i hi
    rw [hv] at q
    rw [Option.some.inj q]
    exact K6 i hi
  refine Back.mono (back hZ hw wi E V C K1 hty S hz (by omega) (by omega) (fun i hi => by rw [hcv i (by omega)]; exact hall _ (List.getElem_mem _)) hfr hlo) (fun P a hp => ⟨hp.1, hp.2.1, hp.2.2.1, by rw [e]; exact hp.2.2.2⟩) (fun P a v B hp hq => ?_)
  obtain ⟨L, ⟨q1, q2, q3, q4, q5, q6, q7, ⟨V', v1, v2, v3, v4, v5⟩, q9⟩, hl, hc, hs⟩ := hq
  refine ⟨L, ⟨q1, q2, q3, q4, q5, q6, q7, ⟨V'.cls, v3, V', v1, rfl, by rw [v4, e, hlen], K4, fun i hi => ?_, fun i hi => ?_⟩, q9⟩, hl, hc, by rw [hs, e]⟩
  · have hi' : i < cs.length := by omega
    rw [v5 i (by omega), hcv i hi']; simp [List.getD_eq_getElem?_getD, hi']
  · have hi' : i < cs.length := by omega
    simp only [List.getD_eq_getElem?_getD, List.getElem?_map, List.getElem?_eq_getElem hi', Option.map_some, Option.getD_some]
    exact fits_lo8 _
end StrChars.Road
namespace StrChars.Road
open Jvm Sem ClassFile Op Lib Jvm.Stand Jvm.Free Jvm.Free.XT
/-- WHAT COMES BACK, in the writer's own shape -/
def QV (Z : State) (x : Addr) (N : Int32) (bs : List Int32) (h : Heap) (n0 : Nat) (v : Option Value) (h' : Heap) (L : List Loc) : Prop := v = none ∧ RoadKit.Fr n0 L ∧ RoadKit.Keep h h' [x] ∧ RoadKit.Exa Z h' x ST ∧ RoadKit.Fld Z h' x ST "coder" "B" (.int 0) ∧
  ∃ (t : Addr) (kb : ClassId), n0 ≤ t ∧ h.size ≤ t ∧ ¬ t = x ∧ RoadKit.Fld Z h' x ST "value" "[B" (.ref t) ∧ RoadKit.Arv Z h' t kb .byte N (bs.map Value.int) (.int 0)
/-- **new String(chars) AT A CALL, FOR THE WRITER**: a char[] of n known ints, each 0 to 255 -/
theorem backV {p : Program} {l : Launch} {e : Env} {R : Room} {s : State} {args : Array Value} {below : List Frame} {len W : Nat} {Z : State} {a0 : Array Value} {h : Heap} (hZ : Z.Warmed39 s.vm) (hw : ∀ d ∈ words, d.before a0 Z = true) {kI : Nat} (wi : (Jvm.Cond.instantiable ST kI).before a0 Z = true)
    {x b : Addr} {kC : ClassId} {cs bs : List Int32} {d v0 c0 : Value} {z N : Int32} {n n0 : Nat} (hx0 : n0 ≤ x) (hh0 : n0 ≤ h.size) (E : RoadKit.Exa Z h x ST) (V : RoadKit.Fld Z h x ST "value" "[B" v0) (C : RoadKit.Fld Z h x ST "coder" "B" c0) (K : RoadKit.Arv Z h b kC .char N (cs.map Value.int) d) (S : RoadKit.Sta Z h ST "COMPACT_STRINGS" "Z" (.int z)) (hz : ¬ z = 0)
    (hn : cs.length = n) (hN : N = Int32.ofNat n) (l0 : 0 < n) (l2 : n ≤ 4000) (hp : ∀ c ∈ cs, ¬ c < 0 ∧ ¬ (255 : Int32) < c) (hb : bs = cs.map (fun c => c.toInt8.toInt32)) (hfr : 4 ≤ R.frames) (hlo : W + 65 ≤ R.locals) :
    Back l R p e below s args (⟨"java/lang/String", "<init>", "([C)V"⟩ : MethodName) len W (fun P a => a = #[.ref x, .ref b] ∧ P.U.heap = h ∧ P.cells + 1 ≤ R.cells ∧ P.slots + n ≤ R.slots)
      (fun P _ v B => ∃ L, QV Z x N bs h n0 v B.U.heap L ∧ B.locs = P.locs ++ L ∧ B.cells = P.cells + 1 ∧ B.slots = P.slots + n) := by
  subst hn hN hb
  refine Back.mono (backArv hZ hw wi E V C K S hz (n32 (by omega)) l0 (by omega) (fun c hc => (hp c hc).2) hfr hlo) (fun P a hp => hp) (fun P a v B hp hq => ?_)
  obtain ⟨L, ⟨q1, q2, q3, q4, q5, q6, q7, ⟨kb, v1, v2⟩, q9⟩, hl, hc, hs⟩ := hq
  exact ⟨L, ⟨q1, fun y hy => by rw [q2 y hy]; exact hx0, q3, q5, q7, h.size, kb, hh0, Nat.le_refl _, Nat.ne_of_gt E.lt, q6, by rw [List.map_map]; exact v2⟩, hl, hc, hs⟩
end StrChars.Road
end Jvm.Pilot.@@N@@
namespace Jvm.Pilot.@@N@@
open Jvm Jvm.ClassFile Sem Op Lib Jvm.Free Jvm.Stand Jvm.LawKit Jvm.RoadKit Bundle Jvm.Pilot.@@N@@.Jvm.D
section OwnKit
variable {Z : State} {EL : List (String × Nat)} {a0 : Array Value} {n0 : Nat} {h0 : Heap} {ws : List Addr} {own : String} {bytes : ByteArray} {mx : Nat} {p : Program} {l : Launch} {e : Env} {R : Room} {s : State} {m : MethodId} {args : Array Value} {below : List Frame} {meth : Method} {c : Code} {sv : List Addr} {T : State} {h : Heap} {k n : Nat} {P : Outcome → State → Prop} {pc : Nat} {Ls : Array Slot} {st : List Value}
def OGo (tb : Tables) (e : Env) (below : List Frame) (P : Outcome → State → Prop) (T : State) (g : JFrame) : Prop := ∃ (t : State) (o : Outcome), Steps tb e below (T.setTop g) t ∧ t.status = .running ∧ Ended t below o ∧ P o t
theorem og {tb : Tables} {T' : State} {g g' : JFrame} (st : ∀ t, Steps tb e below (T'.setTop g') t → Steps tb e below (T.setTop g) t) (K : OGo tb e below P T' g') : OGo tb e below P T g := by
  obtain ⟨t, o, h1, h2⟩ := K
  exact ⟨t, o, st t h1, h2⟩
def OEnd (Z : State) (EL : List (String × Nat)) (n0 : Nat) (h0 : Heap) (ws : List Addr) (s : State) (Q : Option Value → Heap → Prop) (k n : Nat) (o : Outcome) (t : State) : Prop :=
  ∃ v L, o = .returned v ∧ (Fr n0 L ∧ Keep h0 t.heap ws ∧ Q v t.heap) ∧ CHr Z EL s.vm s.heap t.vm t.heap ∧ ReturnedEndW s o t L k n ∧ (EL = [] → FrameEnd s o t L k n)
def OIn (Z : State) (EL : List (String × Nat)) (a0 : Array Value) (n0 : Nat) (h0 : Heap) (ws : List Addr) (own : String) (s : State) (m : MethodId) (sv : List Addr) (vm0 : Vm) (locs : List Loc) (h : Heap) : Prop :=
  s.heap = h0 ∧ Old Z n0 h ∧ Keep h0 h ws ∧ (∃ k0, s.Since vm0 k0 ∧ k0 ≤ h.size) ∧ Z.Warmed39 vm0 ∧ vm0.findClass own = some m.cls ∧ EW Z a0 EL ∧ CHr Z EL s.vm s.heap vm0 h ∧ (EL = [] → vm0 = s.vm) ∧ Fr n0 locs ∧ ∀ x ∈ sv, n0 ≤ x ∧ x < h.size ∧ (x ∈ ws ∨ h0.size ≤ x) ∧ Safe Z EL vm0 h x
def OSt (Z : State) (EL : List (String × Nat)) (a0 : Array Value) (n0 : Nat) (h0 : Heap) (ws : List Addr) (own : String) (bytes : ByteArray) (mx : Nat) (p : Program) (l : Launch) (e : Env) (R : Room) (s : State) (m : MethodId) (args : Array Value) (below : List Frame) (meth : Method) (c : Code) (sv : List Addr) (T : State) (h : Heap) (k n : Nat) : Prop :=
  p.tables.exec = Jvm.exec ∧ c.code = bytes ∧ c.maxLocals = mx ∧ T.heap = h ∧ meth.locks = false ∧ ∃ (vm0 : Vm) (locs : List Loc), Stand p l e R (s.setVm vm0) m args below meth c T locs k n ∧ OIn Z EL a0 n0 h0 ws own s m sv vm0 locs h
theorem OSt.here (X : OSt Z EL a0 n0 h0 ws own bytes mx p l e R s m args below meth c sv T h k n) : At T m c below := by obtain ⟨-, -, -, -, -, _, _, Y, -⟩ := X; exact Y.here
theorem OSt.hx (X : OSt Z EL a0 n0 h0 ws own bytes mx p l e R s m args below meth c sv T h k n) : p.tables.exec = Jvm.exec := X.1
theorem OSt.hd (X : OSt Z EL a0 n0 h0 ws own bytes mx p l e R s m args below meth c sv T h k n) {r : Except ClassFile.DecodeError (ClassFile.Instr × Nat)} (hd : decode bytes pc = r) : decode c.code pc = r := hb X.2.1 hd
theorem OSt.old (X : OSt Z EL a0 n0 h0 ws own bytes mx p l e R s m args below meth c sv T h k n) : Old Z n0 h := by obtain ⟨-, -, -, -, -, _, _, -, -, I, -⟩ := X; exact I
theorem OSt.kept (X : OSt Z EL a0 n0 h0 ws own bytes mx p l e R s m args below meth c sv T h k n) : Keep h0 h ws := by obtain ⟨-, -, -, -, -, _, _, -, -, -, I, -⟩ := X; exact I
theorem OSt.more (X : OSt Z EL a0 n0 h0 ws own bytes mx p l e R s m args below meth c sv T h k n) {k' n' : Nat} (hk : k ≤ k') (hn : n ≤ n') : OSt Z EL a0 n0 h0 ws own bytes mx p l e R s m args below meth c sv T h k' n' := by
  obtain ⟨a1, a2, a3, a4, a5, vm0, locs, Y, I⟩ := X
  exact ⟨a1, a2, a3, a4, a5, vm0, locs, Y.more hk hn, I⟩
theorem OSt.less (X : OSt Z EL a0 n0 h0 ws own bytes mx p l e R s m args below meth c sv T h k n) {sv' : List Addr} (q : ∀ x ∈ sv', x ∈ sv) : OSt Z EL a0 n0 h0 ws own bytes mx p l e R s m args below meth c sv' T h k n := by
  obtain ⟨a1, a2, a3, a4, a5, vm0, locs, Y, b1, b2, b3, b4, b5, b6, b7, b8, b9, b10, b11⟩ := X
  exact ⟨a1, a2, a3, a4, a5, vm0, locs, Y, b1, b2, b3, b4, b5, b6, b7, b8, b9, b10, fun x hx => b11 x (q x hx)⟩
theorem OIn.ext {vm0 : Vm} {locs : List Loc} {h' : Heap} (I : OIn Z EL a0 n0 h0 ws own s m sv vm0 locs h) (E : Ext h h') : OIn Z EL a0 n0 h0 ws own s m sv vm0 locs h' := by
  obtain ⟨b1, b2, b3, ⟨k0, b4, b4'⟩, b5, b6, b7, b8, b9, b10, b11⟩ := I
  exact ⟨b1, b2.ext E, b3.ext E, ⟨k0, b4, Nat.le_trans b4' E.1⟩, b5, b6, b7, b8.trans (CHr.ext E b8.1), b9, b10, fun x hx => let q := b11 x hx; ⟨q.1, Nat.lt_of_lt_of_le q.2.1 E.1, q.2.2.1, Safe.ext E b8.1 q.2.2.2⟩⟩
theorem OIn.new {vm0 : Vm} {locs : List Loc} {h' : Heap} (I : OIn Z EL a0 n0 h0 ws own s m sv vm0 locs h) (E : Ext h h') {b : Addr} (h1 : h.size ≤ b) (h2 : b < h'.size) : OIn Z EL a0 n0 h0 ws own s m (b :: sv) vm0 locs h' := by
  have I' := I.ext E
  obtain ⟨b1, b2, b3, -, -, -, -, b8, -⟩ := I
  obtain ⟨c1, c2, c3, c4, c5, c6, c7, c8, c9, c10, c11⟩ := I'
  refine ⟨c1, c2, c3, c4, c5, c6, c7, c8, c9, c10, fun x hx => ?_⟩
  rcases List.mem_cons.mp hx with rfl | hx
  · exact ⟨Nat.le_trans (Nat.le_of_eq b2.1.symm) (Nat.le_trans b2.2.1 h1), h2, Or.inr (Nat.le_trans b3.1 h1), Safe.ext E b8.1 (Safe.new h1)⟩
  · exact c11 x hx
theorem OIn.wr {vm0 : Vm} {locs : List Loc} {h' : Heap} (I : OIn Z EL a0 n0 h0 ws own s m sv vm0 locs h) {a : Addr} {sl : Nat} {v : Value} (ha : a ∈ sv) (W : Wr h h' a sl v) : OIn Z EL a0 n0 h0 ws own s m sv vm0 (locs ++ [⟨a, sl⟩]) h' := by
  obtain ⟨b1, b2, b3, ⟨k0, b4, b4'⟩, b5, b6, b7, b8, b9, b10, b11⟩ := I
  obtain ⟨q1, q2, q3, q4⟩ := b11 a ha
  refine ⟨b1, b2.wr W q1, b3.wr W q3, ⟨k0, b4, by rw [W.size]; exact b4'⟩, b5, b6, b7, b8.trans (CHr.wr W q4 b8.1), b9, b10.app fun y hy => ?_, fun x hx => let r := b11 x hx; ⟨r.1, by rw [W.size]; exact r.2.1, r.2.2.1, Safe.wr W q4 b8.1 r.2.2.2⟩⟩
  cases List.mem_singleton.mp hy; exact q1
theorem OIn.keep {vm0 : Vm} {locs : List Loc} {h' : Heap} (I : OIn Z EL a0 n0 h0 ws own s m sv vm0 locs h) {ws' : List Addr} {L : List Loc} (K : Keep h h' ws') (hs : ∀ x ∈ ws', x ∈ sv) (N : Fr n0 L) : OIn Z EL a0 n0 h0 ws own s m sv vm0 (locs ++ L) h' := by
  obtain ⟨b1, b2, b3, ⟨k0, b4, b4'⟩, b5, b6, b7, b8, b9, b10, b11⟩ := I
  have sf : ∀ x ∈ ws', Safe Z EL vm0 h x := fun x hx => (b11 x (hs x hx)).2.2.2
  exact ⟨b1, b2.keep K fun x hx => (b11 x (hs x hx)).1, b3.trans K fun x hx => (b11 x (hs x hx)).2.2.1, ⟨k0, b4, Nat.le_trans b4' K.1⟩, b5, b6, b7, b8.trans (CHr.keep K sf b8.1), b9, b10.app N, fun x hx => let r := b11 x hx; ⟨r.1, Nat.lt_of_lt_of_le r.2.1 K.1, r.2.2.1, Safe.keep K sf b8.1 r.2.2.2⟩⟩
theorem OIn.call {vm0 : Vm} {locs : List Loc} {h' : Heap} {vm1 : Vm} (I : OIn Z EL a0 n0 h0 ws own s m sv vm0 locs h) {ws' : List Addr} {L : List Loc} (K : Keep h h' ws') (hs : ∀ x ∈ ws', x ∈ sv) (N : Fr n0 L) (C : CHr Z EL vm0 h vm1 h') (S : (s.setVm vm0).Since vm1 h'.size) (hne : EL = [] → vm1 = vm0) : OIn Z EL a0 n0 h0 ws own s m sv vm1 (locs ++ L) h' := by
  obtain ⟨b1, b2, b3, ⟨k0, b4, b4'⟩, b5, b6, b7, b8, b9, b10, b11⟩ := I
  exact ⟨b1, b2.keep K fun x hx => (b11 x (hs x hx)).1, b3.trans K fun x hx => (b11 x (hs x hx)).2.2.1, ⟨_, b4.trans S (Nat.le_trans b4' K.1), Nat.le_refl _⟩, State.Warmed39.trans (t := s.setVm vm0) b5 S.1, by rw [S.1.alike.findClass]; exact b6, b7, b8.trans C, fun q => (hne q).trans (b9 q), b10.app N, fun x hx => let r := b11 x hx; ⟨r.1, Nat.lt_of_lt_of_le r.2.1 K.1, r.2.2.1, C.safe r.2.1 r.2.2.2⟩⟩
theorem og_aload (X : OSt Z EL a0 n0 h0 ws own bytes mx p l e R s m args below meth c sv T h k n) (pc' : Nat) {j : Nat} {v : Value} (hd : decode bytes pc = .ok (.aload j, 2)) (hl : Ls[j]? = some (.val (v))) (hv : v.isRef = true) (hq : pc' = pc + 2) (K : OGo p.tables e below P T (mkF m pc' Ls (v :: st))) : OGo p.tables e below P T (mkF m pc Ls st) := by
  subst hq
  exact og (fun _ q => XS.aload X.here X.hx rfl (X.hd hd) hl hv q) K
theorem og_aloadN (X : OSt Z EL a0 n0 h0 ws own bytes mx p l e R s m args below meth c sv T h k n) (pc' : Nat) {j : Fin 4} {v : Value} (hd : decode bytes pc = .ok (.aload_n j, 1)) (hl : Ls[j.val]? = some (.val (v))) (hv : v.isRef = true) (hq : pc' = pc + 1) (K : OGo p.tables e below P T (mkF m pc' Ls (v :: st))) : OGo p.tables e below P T (mkF m pc Ls st) := by
  subst hq
  exact og (fun _ q => XS.aloadN X.here X.hx rfl (X.hd hd) hl hv q) K
theorem og_iload (X : OSt Z EL a0 n0 h0 ws own bytes mx p l e R s m args below meth c sv T h k n) (pc' : Nat) {j : Nat} {v : Int32} (hd : decode bytes pc = .ok (.iload j, 2)) (hl : Ls[j]? = some (.val (.int v))) (hq : pc' = pc + 2) (K : OGo p.tables e below P T (mkF m pc' Ls (.int v :: st))) : OGo p.tables e below P T (mkF m pc Ls st) := by
  subst hq
  exact og (fun _ q => XS.iload X.here X.hx rfl (X.hd hd) hl q) K
theorem og_iloadN (X : OSt Z EL a0 n0 h0 ws own bytes mx p l e R s m args below meth c sv T h k n) (pc' : Nat) {j : Fin 4} {v : Int32} (hd : decode bytes pc = .ok (.iload_n j, 1)) (hl : Ls[j.val]? = some (.val (.int v))) (hq : pc' = pc + 1) (K : OGo p.tables e below P T (mkF m pc' Ls (.int v :: st))) : OGo p.tables e below P T (mkF m pc Ls st) := by
  subst hq
  exact og (fun _ q => XS.iloadN X.here X.hx rfl (X.hd hd) hl q) K
theorem og_lload (X : OSt Z EL a0 n0 h0 ws own bytes mx p l e R s m args below meth c sv T h k n) (pc' : Nat) {j : Nat} {v : Int64} (hd : decode bytes pc = .ok (.lload j, 2)) (hl : Ls[j]? = some (.val (.long v))) (hq : pc' = pc + 2) (K : OGo p.tables e below P T (mkF m pc' Ls (.long v :: st))) : OGo p.tables e below P T (mkF m pc Ls st) := by
  subst hq
  exact og (fun _ q => XT.lload X.here X.hx rfl (X.hd hd) hl q) K
theorem og_lloadN (X : OSt Z EL a0 n0 h0 ws own bytes mx p l e R s m args below meth c sv T h k n) (pc' : Nat) {j : Fin 4} {v : Int64} (hd : decode bytes pc = .ok (.lload_n j, 1)) (hl : Ls[j.val]? = some (.val (.long v))) (hq : pc' = pc + 1) (K : OGo p.tables e below P T (mkF m pc' Ls (.long v :: st))) : OGo p.tables e below P T (mkF m pc Ls st) := by
  subst hq
  exact og (fun _ q => XT.lloadN X.here X.hx rfl (X.hd hd) hl q) K
theorem og_iconst (X : OSt Z EL a0 n0 h0 ws own bytes mx p l e R s m args below meth c sv T h k n) (pc' : Nat) (v : Int32) {i : Int} (hd : decode bytes pc = .ok (.iconst i, 1)) (hv : Int32.ofInt i = v) (hq : pc' = pc + 1) (K : OGo p.tables e below P T (mkF m pc' Ls (.int v :: st))) : OGo p.tables e below P T (mkF m pc Ls st) := by
  subst hq hv
  exact og (fun _ q => XS.iconst X.here X.hx rfl (X.hd hd) q) K
theorem og_bipush (X : OSt Z EL a0 n0 h0 ws own bytes mx p l e R s m args below meth c sv T h k n) (pc' : Nat) (v : Int32) {i : Int} (hd : decode bytes pc = .ok (.bipush i, 2)) (hv : (Int8.ofInt i).toInt32 = v) (hq : pc' = pc + 2) (K : OGo p.tables e below P T (mkF m pc' Ls (.int v :: st))) : OGo p.tables e below P T (mkF m pc Ls st) := by
  subst hq hv
  exact og (fun _ q => XS.bipush X.here X.hx rfl (X.hd hd) q) K
theorem og_sipush (X : OSt Z EL a0 n0 h0 ws own bytes mx p l e R s m args below meth c sv T h k n) (pc' : Nat) (v : Int32) {i : Int} (hd : decode bytes pc = .ok (.sipush i, 3)) (hv : (Int16.ofInt i).toInt32 = v) (hq : pc' = pc + 3) (K : OGo p.tables e below P T (mkF m pc' Ls (.int v :: st))) : OGo p.tables e below P T (mkF m pc Ls st) := by
  subst hq hv
  exact og (fun _ q => XS.sipush X.here X.hx rfl (X.hd hd) q) K
theorem og_lconst (X : OSt Z EL a0 n0 h0 ws own bytes mx p l e R s m args below meth c sv T h k n) (pc' : Nat) (v : Int64) {i : Fin 2} (hd : decode bytes pc = .ok (.lconst i, 1)) (hv : Int64.ofNat i = v) (hq : pc' = pc + 1) (K : OGo p.tables e below P T (mkF m pc' Ls (.long v :: st))) : OGo p.tables e below P T (mkF m pc Ls st) := by
  subst hq hv
  exact og (fun _ q => XT.lconst X.here X.hx rfl (X.hd hd) q) K
theorem og_aconstNull (X : OSt Z EL a0 n0 h0 ws own bytes mx p l e R s m args below meth c sv T h k n) (pc' : Nat)  (hd : decode bytes pc = .ok (.aconst_null, 1))  (hq : pc' = pc + 1) (K : OGo p.tables e below P T (mkF m pc' Ls (.null :: st))) : OGo p.tables e below P T (mkF m pc Ls st) := by
  subst hq
  exact og (fun _ q => XS.aconstNull X.here X.hx rfl (X.hd hd) q) K
theorem og_iadd (X : OSt Z EL a0 n0 h0 ws own bytes mx p l e R s m args below meth c sv T h k n) (pc' : Nat) {x y : Int32} (hd : decode bytes pc = .ok (.iadd, 1))  (hq : pc' = pc + 1) (K : OGo p.tables e below P T (mkF m pc' Ls (.int (x + y) :: st))) : OGo p.tables e below P T (mkF m pc Ls (.int y :: .int x :: st)) := by
  subst hq
  exact og (fun _ q => XS.iadd X.here X.hx rfl (X.hd hd) rfl q) K
theorem og_isub (X : OSt Z EL a0 n0 h0 ws own bytes mx p l e R s m args below meth c sv T h k n) (pc' : Nat) {x y : Int32} (hd : decode bytes pc = .ok (.isub, 1))  (hq : pc' = pc + 1) (K : OGo p.tables e below P T (mkF m pc' Ls (.int (x - y) :: st))) : OGo p.tables e below P T (mkF m pc Ls (.int y :: .int x :: st)) := by
  subst hq
  exact og (fun _ q => XS.isub X.here X.hx rfl (X.hd hd) rfl q) K
theorem og_iand (X : OSt Z EL a0 n0 h0 ws own bytes mx p l e R s m args below meth c sv T h k n) (pc' : Nat) {x y : Int32} (hd : decode bytes pc = .ok (.iand, 1))  (hq : pc' = pc + 1) (K : OGo p.tables e below P T (mkF m pc' Ls (.int (x &&& y) :: st))) : OGo p.tables e below P T (mkF m pc Ls (.int y :: .int x :: st)) := by
  subst hq
  exact og (fun _ q => XS.iand X.here X.hx rfl (X.hd hd) rfl q) K
theorem og_imul (X : OSt Z EL a0 n0 h0 ws own bytes mx p l e R s m args below meth c sv T h k n) (pc' : Nat) {x y : Int32} (hd : decode bytes pc = .ok (.imul, 1))  (hq : pc' = pc + 1) (K : OGo p.tables e below P T (mkF m pc' Ls (.int (x * y) :: st))) : OGo p.tables e below P T (mkF m pc Ls (.int y :: .int x :: st)) := by
  subst hq
  exact og (fun _ q => XS.imul X.here X.hx rfl (X.hd hd) rfl q) K
theorem og_ixor (X : OSt Z EL a0 n0 h0 ws own bytes mx p l e R s m args below meth c sv T h k n) (pc' : Nat) {x y : Int32} (hd : decode bytes pc = .ok (.ixor, 1))  (hq : pc' = pc + 1) (K : OGo p.tables e below P T (mkF m pc' Ls (.int (x ^^^ y) :: st))) : OGo p.tables e below P T (mkF m pc Ls (.int y :: .int x :: st)) := by
  subst hq
  exact og (fun _ q => XT.ixor X.here X.hx rfl (X.hd hd) rfl q) K
theorem og_ior (X : OSt Z EL a0 n0 h0 ws own bytes mx p l e R s m args below meth c sv T h k n) (pc' : Nat) {x y : Int32} (hd : decode bytes pc = .ok (.ior, 1))  (hq : pc' = pc + 1) (K : OGo p.tables e below P T (mkF m pc' Ls (.int (x ||| y) :: st))) : OGo p.tables e below P T (mkF m pc Ls (.int y :: .int x :: st)) := by
  subst hq
  exact og (fun _ q => XT.ior X.here X.hx rfl (X.hd hd) rfl q) K
theorem og_ishl (X : OSt Z EL a0 n0 h0 ws own bytes mx p l e R s m args below meth c sv T h k n) (pc' : Nat) {x y : Int32} (hd : decode bytes pc = .ok (.ishl, 1))  (hq : pc' = pc + 1) (K : OGo p.tables e below P T (mkF m pc' Ls (.int (x <<< (y &&& 31)) :: st))) : OGo p.tables e below P T (mkF m pc Ls (.int y :: .int x :: st)) := by
  subst hq
  exact og (fun _ q => XT.ishl X.here X.hx rfl (X.hd hd) rfl q) K
theorem og_ishr (X : OSt Z EL a0 n0 h0 ws own bytes mx p l e R s m args below meth c sv T h k n) (pc' : Nat) {x y : Int32} (hd : decode bytes pc = .ok (.ishr, 1))  (hq : pc' = pc + 1) (K : OGo p.tables e below P T (mkF m pc' Ls (.int (x >>> (y &&& 31)) :: st))) : OGo p.tables e below P T (mkF m pc Ls (.int y :: .int x :: st)) := by
  subst hq
  exact og (fun _ q => XT.ishr X.here X.hx rfl (X.hd hd) rfl q) K
theorem og_iushr (X : OSt Z EL a0 n0 h0 ws own bytes mx p l e R s m args below meth c sv T h k n) (pc' : Nat) {x y : Int32} (hd : decode bytes pc = .ok (.iushr, 1))  (hq : pc' = pc + 1) (K : OGo p.tables e below P T (mkF m pc' Ls (.int (Jvm.Free.XT.ushr x y) :: st))) : OGo p.tables e below P T (mkF m pc Ls (.int y :: .int x :: st)) := by
  subst hq
  exact og (fun _ q => XT.iushr X.here X.hx rfl (X.hd hd) rfl q) K
theorem og_idiv (X : OSt Z EL a0 n0 h0 ws own bytes mx p l e R s m args below meth c sv T h k n) (pc' : Nat) {x y : Int32} (hd : decode bytes pc = .ok (.idiv, 1)) (hy : y ≠ 0) (hq : pc' = pc + 1) (K : OGo p.tables e below P T (mkF m pc' Ls (.int (x / y) :: st))) : OGo p.tables e below P T (mkF m pc Ls (.int y :: .int x :: st)) := by
  subst hq
  exact og (fun _ q => XS.idiv X.here X.hx rfl (X.hd hd) rfl hy q) K
theorem og_irem (X : OSt Z EL a0 n0 h0 ws own bytes mx p l e R s m args below meth c sv T h k n) (pc' : Nat) {x y : Int32} (hd : decode bytes pc = .ok (.irem, 1)) (hy : y ≠ 0) (hq : pc' = pc + 1) (K : OGo p.tables e below P T (mkF m pc' Ls (.int (x % y) :: st))) : OGo p.tables e below P T (mkF m pc Ls (.int y :: .int x :: st)) := by
  subst hq
  have q0 : x - x / y * y = x % y := irem_eq_mod x y
  exact og (fun _ q => XS.irem X.here X.hx rfl (X.hd hd) rfl hy (by rw [q0]; exact q)) K
theorem og_ineg (X : OSt Z EL a0 n0 h0 ws own bytes mx p l e R s m args below meth c sv T h k n) (pc' : Nat) {x : Int32} (hd : decode bytes pc = .ok (.ineg, 1))  (hq : pc' = pc + 1) (K : OGo p.tables e below P T (mkF m pc' Ls (.int (-x) :: st))) : OGo p.tables e below P T (mkF m pc Ls (.int x :: st)) := by
  subst hq
  exact og (fun _ q => XS.ineg X.here X.hx rfl (X.hd hd) rfl q) K
theorem og_ladd (X : OSt Z EL a0 n0 h0 ws own bytes mx p l e R s m args below meth c sv T h k n) (pc' : Nat) {x y : Int64} (hd : decode bytes pc = .ok (.ladd, 1))  (hq : pc' = pc + 1) (K : OGo p.tables e below P T (mkF m pc' Ls (.long (x + y) :: st))) : OGo p.tables e below P T (mkF m pc Ls (.long y :: .long x :: st)) := by
  subst hq
  exact og (fun _ q => XT.ladd X.here X.hx rfl (X.hd hd) rfl q) K
theorem og_lsub (X : OSt Z EL a0 n0 h0 ws own bytes mx p l e R s m args below meth c sv T h k n) (pc' : Nat) {x y : Int64} (hd : decode bytes pc = .ok (.lsub, 1))  (hq : pc' = pc + 1) (K : OGo p.tables e below P T (mkF m pc' Ls (.long (x - y) :: st))) : OGo p.tables e below P T (mkF m pc Ls (.long y :: .long x :: st)) := by
  subst hq
  exact og (fun _ q => XT.lsub X.here X.hx rfl (X.hd hd) rfl q) K
theorem og_lmul (X : OSt Z EL a0 n0 h0 ws own bytes mx p l e R s m args below meth c sv T h k n) (pc' : Nat) {x y : Int64} (hd : decode bytes pc = .ok (.lmul, 1))  (hq : pc' = pc + 1) (K : OGo p.tables e below P T (mkF m pc' Ls (.long (x * y) :: st))) : OGo p.tables e below P T (mkF m pc Ls (.long y :: .long x :: st)) := by
  subst hq
  exact og (fun _ q => XT.lmul X.here X.hx rfl (X.hd hd) rfl q) K
theorem og_land (X : OSt Z EL a0 n0 h0 ws own bytes mx p l e R s m args below meth c sv T h k n) (pc' : Nat) {x y : Int64} (hd : decode bytes pc = .ok (.land, 1))  (hq : pc' = pc + 1) (K : OGo p.tables e below P T (mkF m pc' Ls (.long (x &&& y) :: st))) : OGo p.tables e below P T (mkF m pc Ls (.long y :: .long x :: st)) := by
  subst hq
  exact og (fun _ q => XT.land X.here X.hx rfl (X.hd hd) rfl q) K
theorem og_lor (X : OSt Z EL a0 n0 h0 ws own bytes mx p l e R s m args below meth c sv T h k n) (pc' : Nat) {x y : Int64} (hd : decode bytes pc = .ok (.lor, 1))  (hq : pc' = pc + 1) (K : OGo p.tables e below P T (mkF m pc' Ls (.long (x ||| y) :: st))) : OGo p.tables e below P T (mkF m pc Ls (.long y :: .long x :: st)) := by
  subst hq
  exact og (fun _ q => XT.lor X.here X.hx rfl (X.hd hd) rfl q) K
theorem og_lxor (X : OSt Z EL a0 n0 h0 ws own bytes mx p l e R s m args below meth c sv T h k n) (pc' : Nat) {x y : Int64} (hd : decode bytes pc = .ok (.lxor, 1))  (hq : pc' = pc + 1) (K : OGo p.tables e below P T (mkF m pc' Ls (.long (x ^^^ y) :: st))) : OGo p.tables e below P T (mkF m pc Ls (.long y :: .long x :: st)) := by
  subst hq
  exact og (fun _ q => XT.lxor X.here X.hx rfl (X.hd hd) rfl q) K
theorem og_lcmp (X : OSt Z EL a0 n0 h0 ws own bytes mx p l e R s m args below meth c sv T h k n) (pc' : Nat) {x y : Int64} (hd : decode bytes pc = .ok (.lcmp, 1))  (hq : pc' = pc + 1) (K : OGo p.tables e below P T (mkF m pc' Ls (.int (Jvm.Free.XT.cmpL x y) :: st))) : OGo p.tables e below P T (mkF m pc Ls (.long y :: .long x :: st)) := by
  subst hq
  exact og (fun _ q => XT.lcmp X.here X.hx rfl (X.hd hd) rfl q) K
theorem og_i2l (X : OSt Z EL a0 n0 h0 ws own bytes mx p l e R s m args below meth c sv T h k n) (pc' : Nat) {x : Int32} (hd : decode bytes pc = .ok (.i2l, 1))  (hq : pc' = pc + 1) (K : OGo p.tables e below P T (mkF m pc' Ls (.long x.toInt64 :: st))) : OGo p.tables e below P T (mkF m pc Ls (.int x :: st)) := by
  subst hq
  exact og (fun _ q => XT.i2l X.here X.hx rfl (X.hd hd) rfl q) K
theorem og_i2b (X : OSt Z EL a0 n0 h0 ws own bytes mx p l e R s m args below meth c sv T h k n) (pc' : Nat) {x : Int32} (hd : decode bytes pc = .ok (.i2b, 1))  (hq : pc' = pc + 1) (K : OGo p.tables e below P T (mkF m pc' Ls (.int x.toInt8.toInt32 :: st))) : OGo p.tables e below P T (mkF m pc Ls (.int x :: st)) := by
  subst hq
  exact og (fun _ q => XT.i2b X.here X.hx rfl (X.hd hd) rfl q) K
theorem og_i2c (X : OSt Z EL a0 n0 h0 ws own bytes mx p l e R s m args below meth c sv T h k n) (pc' : Nat) {x : Int32} (hd : decode bytes pc = .ok (.i2c, 1))  (hq : pc' = pc + 1) (K : OGo p.tables e below P T (mkF m pc' Ls (.int x.toUInt32.toUInt16.toUInt32.toInt32 :: st))) : OGo p.tables e below P T (mkF m pc Ls (.int x :: st)) := by
  subst hq
  exact og (fun _ q => XT.i2c X.here X.hx rfl (X.hd hd) rfl q) K
theorem og_i2s (X : OSt Z EL a0 n0 h0 ws own bytes mx p l e R s m args below meth c sv T h k n) (pc' : Nat) {x : Int32} (hd : decode bytes pc = .ok (.i2s, 1))  (hq : pc' = pc + 1) (K : OGo p.tables e below P T (mkF m pc' Ls (.int x.toInt16.toInt32 :: st))) : OGo p.tables e below P T (mkF m pc Ls (.int x :: st)) := by
  subst hq
  exact og (fun _ q => XT.i2s X.here X.hx rfl (X.hd hd) rfl q) K
theorem og_l2i (X : OSt Z EL a0 n0 h0 ws own bytes mx p l e R s m args below meth c sv T h k n) (pc' : Nat) {x : Int64} (hd : decode bytes pc = .ok (.l2i, 1))  (hq : pc' = pc + 1) (K : OGo p.tables e below P T (mkF m pc' Ls (.int x.toInt32 :: st))) : OGo p.tables e below P T (mkF m pc Ls (.long x :: st)) := by
  subst hq
  exact og (fun _ q => XT.l2i X.here X.hx rfl (X.hd hd) rfl q) K
theorem og_i2c8 (X : OSt Z EL a0 n0 h0 ws own bytes mx p l e R s m args below meth c sv T h k n) (pc' : Nat) {x : Int32} (hd : decode bytes pc = .ok (.i2c, 1)) (hq : pc' = pc + 1) (K : OGo p.tables e below P T (mkF m pc' Ls (.int (x &&& 255) :: st))) : OGo p.tables e below P T (mkF m pc Ls (.int (x &&& 255) :: st)) := by
  subst hq
  exact og (fun _ q => XT.i2c X.here X.hx rfl (X.hd hd) rfl (by rw [i2c_mask]; exact q)) K
theorem og_dup (X : OSt Z EL a0 n0 h0 ws own bytes mx p l e R s m args below meth c sv T h k n) (pc' : Nat) {x : Value} (hd : decode bytes pc = .ok (.dup, 1)) (hc : x.category = 1) (hq : pc' = pc + 1) (K : OGo p.tables e below P T (mkF m pc' Ls (x :: x :: st))) : OGo p.tables e below P T (mkF m pc Ls (x :: st)) := by
  subst hq
  exact og (fun _ q => XS.dup X.here X.hx rfl (X.hd hd) rfl hc q) K
theorem og_pop (X : OSt Z EL a0 n0 h0 ws own bytes mx p l e R s m args below meth c sv T h k n) (pc' : Nat) {x : Value} (hd : decode bytes pc = .ok (.pop, 1)) (hc : x.category = 1) (hq : pc' = pc + 1) (K : OGo p.tables e below P T (mkF m pc' Ls st)) : OGo p.tables e below P T (mkF m pc Ls (x :: st)) := by
  subst hq
  exact og (fun _ q => XT.pop X.here X.hx rfl (X.hd hd) rfl hc q) K
theorem og_dupX1 (X : OSt Z EL a0 n0 h0 ws own bytes mx p l e R s m args below meth c sv T h k n) (pc' : Nat) {x y : Value} (hd : decode bytes pc = .ok (.dup_x1, 1)) (hc : x.category = 1) (hc' : y.category = 1) (hq : pc' = pc + 1) (K : OGo p.tables e below P T (mkF m pc' Ls (x :: y :: x :: st))) : OGo p.tables e below P T (mkF m pc Ls (x :: y :: st)) := by
  subst hq
  exact og (fun _ q => XT.dupX1 X.here X.hx rfl (X.hd hd) rfl hc hc' q) K
theorem og_dup2 (X : OSt Z EL a0 n0 h0 ws own bytes mx p l e R s m args below meth c sv T h k n) (pc' : Nat) {x y : Value} (hd : decode bytes pc = .ok (.dup2, 1)) (hc : x.category = 1) (hc' : y.category = 1) (hq : pc' = pc + 1) (K : OGo p.tables e below P T (mkF m pc' Ls (x :: y :: x :: y :: st))) : OGo p.tables e below P T (mkF m pc Ls (x :: y :: st)) := by
  subst hq
  exact og (fun _ q => XT.dup2 X.here X.hx rfl (X.hd hd) rfl hc hc' q) K
theorem og_istore (X : OSt Z EL a0 n0 h0 ws own bytes mx p l e R s m args below meth c sv T h k n) (pc' : Nat) (l' : Array Slot) {j : Nat} {x : Int32} (hd : decode bytes pc = .ok (.istore j, 2)) (hl : storeLocals Ls j (.int x) = some l') (hq : pc' = pc + 2) (K : OGo p.tables e below P T (mkF m pc' l' st)) : OGo p.tables e below P T (mkF m pc Ls (.int x :: st)) := by
  subst hq
  exact og (fun _ q => XS.istore X.here X.hx rfl (X.hd hd) rfl hl q) K
theorem og_istoreN (X : OSt Z EL a0 n0 h0 ws own bytes mx p l e R s m args below meth c sv T h k n) (pc' : Nat) (l' : Array Slot) {j : Fin 4} {x : Int32} (hd : decode bytes pc = .ok (.istore_n j, 1)) (hl : storeLocals Ls j.val (.int x) = some l') (hq : pc' = pc + 1) (K : OGo p.tables e below P T (mkF m pc' l' st)) : OGo p.tables e below P T (mkF m pc Ls (.int x :: st)) := by
  subst hq
  exact og (fun _ q => XS.istoreN X.here X.hx rfl (X.hd hd) rfl hl q) K
theorem og_lstore (X : OSt Z EL a0 n0 h0 ws own bytes mx p l e R s m args below meth c sv T h k n) (pc' : Nat) (l' : Array Slot) {j : Nat} {x : Int64} (hd : decode bytes pc = .ok (.lstore j, 2)) (hl : storeLocals Ls j (.long x) = some l') (hq : pc' = pc + 2) (K : OGo p.tables e below P T (mkF m pc' l' st)) : OGo p.tables e below P T (mkF m pc Ls (.long x :: st)) := by
  subst hq
  exact og (fun _ q => XT.lstore X.here X.hx rfl (X.hd hd) rfl hl q) K
theorem og_lstoreN (X : OSt Z EL a0 n0 h0 ws own bytes mx p l e R s m args below meth c sv T h k n) (pc' : Nat) (l' : Array Slot) {j : Fin 4} {x : Int64} (hd : decode bytes pc = .ok (.lstore_n j, 1)) (hl : storeLocals Ls j.val (.long x) = some l') (hq : pc' = pc + 1) (K : OGo p.tables e below P T (mkF m pc' l' st)) : OGo p.tables e below P T (mkF m pc Ls (.long x :: st)) := by
  subst hq
  exact og (fun _ q => XT.lstoreN X.here X.hx rfl (X.hd hd) rfl hl q) K
theorem og_astore (X : OSt Z EL a0 n0 h0 ws own bytes mx p l e R s m args below meth c sv T h k n) (pc' : Nat) (l' : Array Slot) {j : Nat} {x : Value} (hd : decode bytes pc = .ok (.astore j, 2)) (hv : x.isRef = true) (hl : storeLocals Ls j x = some l') (hq : pc' = pc + 2) (K : OGo p.tables e below P T (mkF m pc' l' st)) : OGo p.tables e below P T (mkF m pc Ls (x :: st)) := by
  subst hq
  exact og (fun _ q => XS.astore X.here X.hx rfl (X.hd hd) rfl hv hl q) K
theorem og_astoreN (X : OSt Z EL a0 n0 h0 ws own bytes mx p l e R s m args below meth c sv T h k n) (pc' : Nat) (l' : Array Slot) {j : Fin 4} {x : Value} (hd : decode bytes pc = .ok (.astore_n j, 1)) (hv : x.isRef = true) (hl : storeLocals Ls j.val x = some l') (hq : pc' = pc + 1) (K : OGo p.tables e below P T (mkF m pc' l' st)) : OGo p.tables e below P T (mkF m pc Ls (x :: st)) := by
  subst hq
  exact og (fun _ q => XS.astoreN X.here X.hx rfl (X.hd hd) rfl hv hl q) K
theorem og_iinc (X : OSt Z EL a0 n0 h0 ws own bytes mx p l e R s m args below meth c sv T h k n) (pc' : Nat) (l' : Array Slot) {j : Nat} {i : Int} {x : Int32} (hd : decode bytes pc = .ok (.iinc j i, 3)) (hl : Ls[j]? = some (.val (.int x))) (hl' : storeLocals Ls j (.int (x + Int32.ofInt i)) = some l') (hq : pc' = pc + 3) (K : OGo p.tables e below P T (mkF m pc' l' st)) : OGo p.tables e below P T (mkF m pc Ls st) := by
  subst hq
  exact og (fun _ q => XS.iinc X.here X.hx rfl (X.hd hd) hl hl' q) K
theorem og_goto (X : OSt Z EL a0 n0 h0 ws own bytes mx p l e R s m args below meth c sv T h k n) (pc' : Nat)  {o : Int} (hd : decode bytes pc = .ok (.goto o, 3))  (ho : 0 ≤ (pc : Int) + o) (hp : ((pc : Int) + o).toNat = pc') (K : OGo p.tables e below P T (mkF m pc' Ls st)) : OGo p.tables e below P T (mkF m pc Ls st) := og (fun _ q => XS.goto X.here X.hx rfl rfl (X.hd hd) ho hp q) K
theorem og_ifY (X : OSt Z EL a0 n0 h0 ws own bytes mx p l e R s m args below meth c sv T h k n) (pc' : Nat) {cd : ClassFile.Cond} {x : Int32} {o : Int} (hd : decode bytes pc = .ok (.ifCond cd o, 3)) (hc : ifCond.holds cd x = true) (ho : 0 ≤ (pc : Int) + o) (hp : ((pc : Int) + o).toNat = pc') (K : OGo p.tables e below P T (mkF m pc' Ls st)) : OGo p.tables e below P T (mkF m pc Ls (.int x :: st)) := og (fun _ q => XS.ifYes X.here X.hx rfl rfl (X.hd hd) rfl hc ho hp q) K
theorem og_icmpY (X : OSt Z EL a0 n0 h0 ws own bytes mx p l e R s m args below meth c sv T h k n) (pc' : Nat) {cd : ClassFile.Cond} {x y : Int32} {o : Int} (hd : decode bytes pc = .ok (.if_icmp cd o, 3)) (hc : if_icmp.holds cd x y = true) (ho : 0 ≤ (pc : Int) + o) (hp : ((pc : Int) + o).toNat = pc') (K : OGo p.tables e below P T (mkF m pc' Ls st)) : OGo p.tables e below P T (mkF m pc Ls (.int y :: .int x :: st)) := og (fun _ q => XS.icmpYes X.here X.hx rfl rfl (X.hd hd) rfl hc ho hp q) K
theorem og_nullY (X : OSt Z EL a0 n0 h0 ws own bytes mx p l e R s m args below meth c sv T h k n) (pc' : Nat)  {o : Int} (hd : decode bytes pc = .ok (.ifnull o, 3))  (ho : 0 ≤ (pc : Int) + o) (hp : ((pc : Int) + o).toNat = pc') (K : OGo p.tables e below P T (mkF m pc' Ls st)) : OGo p.tables e below P T (mkF m pc Ls (.null :: st)) := og (fun _ q => XS.ifnullYes X.here X.hx rfl rfl (X.hd hd) rfl ho hp q) K
theorem og_nonnullY (X : OSt Z EL a0 n0 h0 ws own bytes mx p l e R s m args below meth c sv T h k n) (pc' : Nat) {b : Addr} {o : Int} (hd : decode bytes pc = .ok (.ifnonnull o, 3))  (ho : 0 ≤ (pc : Int) + o) (hp : ((pc : Int) + o).toNat = pc') (K : OGo p.tables e below P T (mkF m pc' Ls st)) : OGo p.tables e below P T (mkF m pc Ls (.ref b :: st)) := og (fun _ q => XT.ifnonnullYes X.here X.hx rfl rfl (X.hd hd) rfl ho hp q) K
theorem og_acmpY (X : OSt Z EL a0 n0 h0 ws own bytes mx p l e R s m args below meth c sv T h k n) (pc' : Nat) {cd : ClassFile.ACond} {x y : Value} {o : Int} (hd : decode bytes pc = .ok (.if_acmp cd o, 3)) (hx' : x.isRef = true) (hy' : y.isRef = true) (hc : Jvm.Free.XT.acmp cd x y = true) (ho : 0 ≤ (pc : Int) + o) (hp : ((pc : Int) + o).toNat = pc') (K : OGo p.tables e below P T (mkF m pc' Ls st)) : OGo p.tables e below P T (mkF m pc Ls (y :: x :: st)) := og (fun _ q => XT.acmpYes X.here X.hx rfl rfl (X.hd hd) rfl hx' hy' hc ho hp q) K
theorem og_ifN (X : OSt Z EL a0 n0 h0 ws own bytes mx p l e R s m args below meth c sv T h k n) (pc' : Nat) {cd : ClassFile.Cond} {o : Int} {x : Int32} (hd : decode bytes pc = .ok (.ifCond cd o, 3)) (hc : ifCond.holds cd x = false) (hq : pc' = pc + 3) (K : OGo p.tables e below P T (mkF m pc' Ls st)) : OGo p.tables e below P T (mkF m pc Ls (.int x :: st)) := by
  subst hq
  exact og (fun _ q => XS.ifNo X.here X.hx rfl (X.hd hd) rfl hc q) K
theorem og_icmpN (X : OSt Z EL a0 n0 h0 ws own bytes mx p l e R s m args below meth c sv T h k n) (pc' : Nat) {cd : ClassFile.Cond} {o : Int} {x y : Int32} (hd : decode bytes pc = .ok (.if_icmp cd o, 3)) (hc : if_icmp.holds cd x y = false) (hq : pc' = pc + 3) (K : OGo p.tables e below P T (mkF m pc' Ls st)) : OGo p.tables e below P T (mkF m pc Ls (.int y :: .int x :: st)) := by
  subst hq
  exact og (fun _ q => XS.icmpNo X.here X.hx rfl (X.hd hd) rfl hc q) K
theorem og_nullN (X : OSt Z EL a0 n0 h0 ws own bytes mx p l e R s m args below meth c sv T h k n) (pc' : Nat) {o : Int} {b : Addr} (hd : decode bytes pc = .ok (.ifnull o, 3))  (hq : pc' = pc + 3) (K : OGo p.tables e below P T (mkF m pc' Ls st)) : OGo p.tables e below P T (mkF m pc Ls (.ref b :: st)) := by
  subst hq
  exact og (fun _ q => XS.ifnullNo X.here X.hx rfl (X.hd hd) rfl q) K
theorem og_nonnullN (X : OSt Z EL a0 n0 h0 ws own bytes mx p l e R s m args below meth c sv T h k n) (pc' : Nat) {o : Int} (hd : decode bytes pc = .ok (.ifnonnull o, 3))  (hq : pc' = pc + 3) (K : OGo p.tables e below P T (mkF m pc' Ls st)) : OGo p.tables e below P T (mkF m pc Ls (.null :: st)) := by
  subst hq
  exact og (fun _ q => XT.ifnonnullNo X.here X.hx rfl (X.hd hd) rfl q) K
theorem og_acmpN (X : OSt Z EL a0 n0 h0 ws own bytes mx p l e R s m args below meth c sv T h k n) (pc' : Nat) {cd : ClassFile.ACond} {o : Int} {x y : Value} (hd : decode bytes pc = .ok (.if_acmp cd o, 3)) (hx' : x.isRef = true) (hy' : y.isRef = true) (hc : Jvm.Free.XT.acmp cd x y = false) (hq : pc' = pc + 3) (K : OGo p.tables e below P T (mkF m pc' Ls st)) : OGo p.tables e below P T (mkF m pc Ls (y :: x :: st)) := by
  subst hq
  exact og (fun _ q => XT.acmpNo X.here X.hx rfl (X.hd hd) rfl hx' hy' hc q) K
theorem own_nc8 (y : Int32) : nar .char (y &&& 255) = y &&& 255 := i2c_mask y
theorem own_u16 (u : UInt16) : (u.toUInt32.toInt32).toInt = u.toNat := by
  have hu := u.toNat_lt
  show ((u.toUInt32).toBitVec).toInt = _
  have hm : (u.toUInt32).toBitVec.toNat = u.toNat := by
    show (u.toUInt32).toNat = _
    simp
  rw [BitVec.toInt_eq_toNat_cond, hm, if_pos (by omega)]
theorem own_ncc (y : Int32) : nar .char (y.toUInt32.toUInt16.toUInt32.toInt32) = y.toUInt32.toUInt16.toUInt32.toInt32 := by
  have e : (y.toUInt32.toUInt16.toUInt32.toInt32).toUInt32.toUInt16 = y.toUInt32.toUInt16 := UInt16.toUInt16_toUInt32 _
  show ((y.toUInt32.toUInt16.toUInt32.toInt32).toUInt32.toUInt16).toUInt32.toInt32 = _
  rw [e]
theorem own_lat16 (y : Int32) : ¬ y.toUInt32.toUInt16.toUInt32.toInt32 < 0 ∧ ¬ (65535 : Int32) < y.toUInt32.toUInt16.toUInt32.toInt32 := by
  have h2 := (y.toUInt32.toUInt16).toNat_lt
  have e1 : (0 : Int32).toInt = 0 := (by decide)
  have e2 : (65535 : Int32).toInt = 65535 := (by decide)
  rw [Int32.lt_iff_toInt_lt, Int32.lt_iff_toInt_lt, own_u16, e1, e2]
  omega
theorem own_lat8 (x : Int32) : ¬ (x &&& 255) < 0 ∧ ¬ (255 : Int32) < (x &&& 255) := by
  have t : ∀ k : Fin 256, ¬ (Int32.ofNat k.val) < 0 ∧ ¬ (255 : Int32) < (Int32.ofNat k.val) := by decide +kernel
  have h : (x &&& 255).toBitVec.toNat < 256 := by
    simp only [Int32.toBitVec_and, BitVec.toNat_and]
    exact Nat.lt_succ_of_le Nat.and_le_right
  have e : (x &&& 255) = Int32.ofNat (x &&& 255).toBitVec.toNat := by
    apply Int32.toBitVec_inj.mp
    show _ = BitVec.ofNat 32 _
    rw [BitVec.ofNat_toNat]; simp
  rw [e]
  exact t ⟨_, h⟩
theorem own_up8 {c : Int32} (h : ¬ (255 : Int32) < c) : ¬ (65535 : Int32) < c := fun q => h (by rw [Int32.lt_iff_toInt_lt] at q ⊢; have e1 : (65535 : Int32).toInt = 65535 := rfl; have e2 : (255 : Int32).toInt = 255 := rfl; omega)
def own_stv (Z : State) (C n d : String) : Value := ((Term.static C n d).eval #[] Z none [] Z).getD .null
def own_sti (Z : State) (C n d : String) : Int32 := match (Term.static C n d).eval #[] Z none [] Z with | some (.int z) => z | _ => 0
theorem own_stv_of {Z : State} {C n d : String} {v : Value} {a : Array Value} (h : (Term.static C n d).eval a Z none [] Z = some v) : own_stv Z C n d = v := by
  have q : (Term.static C n d).eval #[] Z none [] Z = some v := h
  simp [own_stv, q]
theorem own_sti_of {Z : State} {C n d : String} {v : Int32} {a : Array Value} (h : (Term.static C n d).eval a Z none [] Z = some (.int v)) : own_sti Z C n d = v := by
  have q : (Term.static C n d).eval #[] Z none [] Z = some (.int v) := h
  simp [own_sti, q]
theorem own_l0 {P : Int32 → Prop} : ∀ c ∈ ([] : List Int32), P c := fun _ q => nomatch q
theorem own_lS {P : Int32 → Prop} {y : Int32} {M : List Int32} (q : P y) (r : ∀ x ∈ M, P x) : ∀ x ∈ y :: M, P x := fun x z => (List.mem_cons.mp z).elim (fun u => u ▸ q) (r x)
def own_N (x : Int32) : Nat := x.toBitVec.toNat
theorem own_N_lt (x : Int32) : own_N x < 4294967296 := x.toBitVec.isLt
theorem own_N_inj {x y : Int32} : own_N x = own_N y ↔ x = y := ⟨fun h => Int32.toBitVec_inj.mp (BitVec.eq_of_toNat_eq h), fun h => by rw [h]⟩
theorem own_N_and {x m : Int32} (k : Nat) (hm : m.toBitVec.toNat = 2 ^ k - 1) : own_N (x &&& m) = own_N x % 2 ^ k := by
  unfold own_N; rw [Int32.toBitVec_and, BitVec.toNat_and, hm, Nat.and_two_pow_sub_one_eq_mod]
theorem own_N_ushr {x j : Int32} (k : Nat) (hj : (j &&& 31).toUInt32.toNat = k) (hk : k < 32) : own_N (XT.ushr x j) = own_N x / 2 ^ k := by
  show (x.toUInt32 >>> (j &&& 31).toUInt32).toNat = x.toUInt32.toNat / 2 ^ k
  rw [UInt32.toNat_shiftRight, hj, Nat.mod_eq_of_lt hk, Nat.shiftRight_eq_div_pow]
theorem own_N3 (x : Int32) : own_N (x &&& 3) = own_N x % 4 := own_N_and 2 rfl
theorem own_N255 (x : Int32) : own_N (x &&& 255) = own_N x % 256 := own_N_and 8 rfl
theorem own_nbb (y : Int32) : (y.toInt8.toInt32).toInt8.toInt32 = y.toInt8.toInt32 := by simp
theorem own_zb {z : Int32} (h : z = 0 ∨ z = 1) : narrow .boolean (.int z) = .int z ∧ fits .boolean (.int z) = true := by rcases h with rfl | rfl <;> exact ⟨rfl, rfl⟩
theorem own_xor0 {a b : Int32} : a ^^^ b = 0 ↔ a = b := by
  rw [← Int32.toBitVec_inj, ← Int32.toBitVec_inj, Int32.toBitVec_xor]
  exact BitVec.xor_eq_zero_iff
theorem own_xor_ushr_and (x y j k : Int32) : XT.ushr (x ^^^ y) j &&& k = (XT.ushr x j &&& k) ^^^ (XT.ushr y j &&& k) := by
  apply Int32.toBitVec_inj.mp
  show ((x ^^^ y).toUInt32 >>> (j &&& 31).toUInt32).toBitVec &&& k.toBitVec = ((x.toUInt32 >>> (j &&& 31).toUInt32).toBitVec &&& k.toBitVec) ^^^ ((y.toUInt32 >>> (j &&& 31).toUInt32).toBitVec &&& k.toBitVec)
  have e : (x ^^^ y).toUInt32 = x.toUInt32 ^^^ y.toUInt32 := rfl
  rw [e, UInt32.toBitVec_shiftRight, UInt32.toBitVec_shiftRight, UInt32.toBitVec_shiftRight, UInt32.toBitVec_xor]
  ext i hi
  simp [Bool.and_xor_distrib_right]
theorem own_nch {c : Int32} (h0 : ¬ c < 0) (h1 : ¬ (65535 : Int32) < c) : nar .char c = c := by
  rw [Int32.lt_iff_toInt_lt] at h0 h1
  have e0 : (0 : Int32).toInt = 0 := rfl
  have e1 : (65535 : Int32).toInt = 65535 := rfl
  rw [e0] at h0; rw [e1] at h1
  have hn : c.toUInt32.toNat = c.toInt.toNat := by
    have : c.toInt = (c.toBitVec).toInt := rfl
    have h2 : (c.toBitVec).toInt = if 2 * c.toBitVec.toNat < 2 ^ 32 then (c.toBitVec.toNat : Int) else (c.toBitVec.toNat : Int) - 2 ^ 32 := BitVec.toInt_eq_toNat_cond _
    have h3 : c.toUInt32.toNat = c.toBitVec.toNat := rfl
    have := c.toBitVec.isLt
    split at h2 <;> omega
  apply Int32.toInt_inj.mp
  show (c.toUInt32.toUInt16.toUInt32.toInt32).toInt = _
  rw [own_u16]
  show ((c.toUInt32.toUInt16.toNat : Nat) : Int) = _
  have h4 : c.toUInt32.toUInt16.toNat = c.toUInt32.toNat % 65536 := by simp
  rw [h4, hn]; omega
theorem own_fitC {c : Int32} (h0 : ¬ c < 0) (h1 : ¬ (65535 : Int32) < c) : narrow .char (.int c) = .int c := by
  show Value.int (nar .char c) = _
  rw [own_nch h0 h1]
theorem own_lc {x : Int64} (h1 : ¬ x < -128) (h2 : ¬ 127 < x) : ¬ (x.toInt32 + 128) < 0 ∧ (x.toInt32 + 128) < 256 ∧ ((x.toInt32 + 128) - 128).toInt64 = x := by
  rw [Int64.lt_iff_toInt_lt] at h1 h2
  have e1 : (-128 : Int64).toInt = -128 := rfl
  have e2 : (127 : Int64).toInt = 127 := rfl
  rw [e1] at h1; rw [e2] at h2
  have hx : x.toInt32.toInt = x.toInt := by rw [Int64.toInt_toInt32]; exact Int.bmod_eq_of_le (by omega) (by omega)
  have hs : (x.toInt32 + 128).toInt = x.toInt + 128 := by
    rw [Int32.toInt_add, hx]; show (x.toInt + 128).bmod _ = _; exact Int.bmod_eq_of_le (by omega) (by omega)
  refine ⟨?_, ?_, ?_⟩
  · rw [Int32.lt_iff_toInt_lt, hs]; show ¬ _ < (0 : Int); omega
  · rw [Int32.lt_iff_toInt_lt, hs]; show _ < (256 : Int); omega
  · apply Int64.toInt_inj.mp
    rw [Int32.toInt_toInt64, Int32.toInt_sub, hs]
    show (x.toInt + 128 - 128).bmod _ = _
    rw [show x.toInt + 128 - 128 = x.toInt by omega]
    exact Int.bmod_eq_of_le (by omega) (by omega)
theorem own_and3 (y : Int32) : y &&& 3 = 0 ∨ y &&& 3 = 1 ∨ y &&& 3 = 2 ∨ y &&& 3 = 3 := by
  have c0 : own_N 0 = 0 := rfl
  have c1 : own_N 1 = 1 := rfl
  have c2 : own_N 2 = 2 := rfl
  have c3 : own_N 3 = 3 := rfl
  simp only [← own_N_inj, own_N3, c0, c1, c2, c3]
  omega
def own_sta (Z : State) (C n d : String) : Addr := match own_stv Z C n d with | .ref a => a | _ => 0
theorem own_sta_of {Z : State} {C n d : String} {v : Addr} {a : Array Value} (h : (Term.static C n d).eval a Z none [] Z = some (.ref v)) : own_sta Z C n d = v := by
  unfold own_sta; rw [own_stv_of h]
theorem own_new (X : OSt Z EL a0 n0 h0 ws own bytes mx p l e R s m args below meth c sv T h k n) (pc' : Nat) {C : String} {index z : Nat} (hd : decode bytes pc = .ok (.new index, 3)) (w : (Cond.classLink own index C).before a0 Z = true) (wi : (Cond.instantiable C z).before a0 Z = true) (wz : (Cond.initialized C).before a0 Z = true) (hc : k + 1 ≤ R.cells) (hl : n + z ≤ R.slots) (hq : pc' = pc + 3)
    (K : ∀ (T' : State) (h' : Heap) (b : Addr), OSt Z EL a0 n0 h0 ws own bytes mx p l e R s m args below meth c (b :: sv) T' h' (k + 1) (n + z) → Keep h h' [] → h.size ≤ b → b < h'.size → Exa Z h' b C → (∀ {O nm d : String} {ty : FieldType}, Laid Z a0 C O nm d → parseFieldDescriptor d = some ty → Fld Z h' b O nm d (defaultValue ty)) → OGo p.tables e below P T' (mkF m pc' Ls (.ref b :: st))) : OGo p.tables e below P T (mkF m pc Ls st) := by
  subst hq
  obtain ⟨hx, hby, hml, eT, hlk, vm0, locs, Y, I⟩ := X
  obtain ⟨T', h', Y', e', E, A, D, -, stp⟩ := newO Y hx (show Z.Warmed39 (s.setVm vm0).vm from I.2.2.2.2.1) (show (s.setVm vm0).vm.findClass own = _ from I.2.2.2.2.2.1) w wi wz eT (g := mkF m pc Ls st) rfl (hb hby hd) hc hl
  exact og stp (K T' h' h.size ⟨hx, hby, hml, e', hlk, vm0, locs, Y', I.new E (Nat.le_refl _) A.lt⟩ ((Keep.refl _ _).ext E) (Nat.le_refl _) A.lt A D)
theorem own_arr (X : OSt Z EL a0 n0 h0 ws own bytes mx p l e R s m args below meth c sv T h k n) (pc' : Nat) {aty : ArrayType} {z : Int32} (hd : decode bytes pc = .ok (.newarray aty, 2)) (w : (Cond.arrayClass (newarray.typeOf aty)).before a0 Z = true) (hz : ¬ z < 0) {cap : Nat} (hcap : z.toNatClampNeg = cap) (hbig : cap * 8 ≤ 536870912) (hc : k + 1 ≤ R.cells) (hl : n + cap ≤ R.slots) (hq : pc' = pc + 2)
    (K : ∀ (T' : State) (h' : Heap) (b : Addr) (kb : ClassId), OSt Z EL a0 n0 h0 ws own bytes mx p l e R s m args below meth c (b :: sv) T' h' (k + 1) (n + cap) → Keep h h' [] → h.size ≤ b → b < h'.size → Arv Z h' b kb (newarray.typeOf aty) z (List.replicate cap (defaultValue (newarray.typeOf aty))) (defaultValue (newarray.typeOf aty)) → OGo p.tables e below P T' (mkF m pc' Ls (.ref b :: st))) : OGo p.tables e below P T (mkF m pc Ls (.int z :: st)) := by
  subst hq
  obtain ⟨hx, hby, hml, eT, hlk, vm0, locs, Y, I⟩ := X
  obtain ⟨T', h', kb, Y', e', E, A, stp⟩ := newP Y hx (show Z.Warmed39 (s.setVm vm0).vm from I.2.2.2.2.1) w eT (g := mkF m pc Ls (.int z :: st)) rfl (hb hby hd) rfl hz (cap := cap) (Nat.le_of_eq hcap) hbig hc hl
  have V := (Arv.new A hz).pad (pad_rep [] (defaultValue (newarray.typeOf aty)) cap)
  rw [List.nil_append] at V
  exact og stp (K T' h' h.size kb ⟨hx, hby, hml, e', hlk, vm0, locs, Y', I.new E (Nat.le_refl _) A.lt⟩ ((Keep.refl _ _).ext E) (Nat.le_refl _) A.lt V)
theorem own_anew (X : OSt Z EL a0 n0 h0 ws own bytes mx p l e R s m args below meth c sv T h k n) (pc' : Nat) {C : String} {index : Nat} {z : Int32} (hd : decode bytes pc = .ok (.anewarray index, 3)) (w : (Cond.classLink own index C).before a0 Z = true) (w2 : (Cond.arrayOver (.object C)).before a0 Z = true) (hz : ¬ z < 0) {cap : Nat} (hcap : z.toNatClampNeg = cap) (hbig : cap * 8 ≤ 536870912) (hc : k + 1 ≤ R.cells) (hl : n + cap ≤ R.slots) (hq : pc' = pc + 3)
    (K : ∀ (T' : State) (h' : Heap) (b : Addr) (kb : ClassId), OSt Z EL a0 n0 h0 ws own bytes mx p l e R s m args below meth c (b :: sv) T' h' (k + 1) (n + cap) → Keep h h' [] → h.size ≤ b → b < h'.size → Arv Z h' b kb (.object C) z (List.replicate cap .null) .null → Ovr Z kb C → OGo p.tables e below P T' (mkF m pc' Ls (.ref b :: st))) : OGo p.tables e below P T (mkF m pc Ls (.int z :: st)) := by
  subst hq
  obtain ⟨hx, hby, hml, eT, hlk, vm0, locs, Y, I⟩ := X
  obtain ⟨T', h', kb, Y', e', E, A, O, stp⟩ := newR Y hx (show Z.Warmed39 (s.setVm vm0).vm from I.2.2.2.2.1) (show (s.setVm vm0).vm.findClass own = _ from I.2.2.2.2.2.1) w w2 eT (g := mkF m pc Ls (.int z :: st)) rfl (hb hby hd) rfl hz (cap := cap) (Nat.le_of_eq hcap) hbig hc hl
  have V := (Arv.new A hz).pad (pad_rep [] (defaultValue (.object C)) cap)
  rw [List.nil_append] at V
  exact og stp (K T' h' h.size kb ⟨hx, hby, hml, e', hlk, vm0, locs, Y', I.new E (Nat.le_refl _) A.lt⟩ ((Keep.refl _ _).ext E) (Nat.le_refl _) A.lt V O)
theorem own_put (X : OSt Z EL a0 n0 h0 ws own bytes mx p l e R s m args below meth c sv T h k n) (pc' : Nat) {R0 O nm d host C : String} {index kk : Nat} {ty : FieldType} {a : Addr} {v old : Value} (hd : decode bytes pc = .ok (.putfield index, 3)) (w : (Cond.fieldLink own index R0 nm d).before a0 Z = true ∨ (Cond.fieldLinkNest own index R0 nm d host).before a0 Z = true) (via : Via Z R0 O nm d)
    (F : Fld Z h a O nm d old) (E : Exa Z h a C) (L : (Cond.lays C O nm d).before a0 Z = true ∨ ((Cond.laysFinal C O nm d).before a0 Z = true ∧ own = O ∧ meth.name = "<init>")) (wi : (Cond.instantiable C kk).before a0 Z = true) (hty : parseFieldDescriptor d = some ty) (hn : narrow ty v = v) (hf : fits ty v = true) (ha : a ∈ sv) (hq : pc' = pc + 3)
    (K : ∀ (T' : State) (h' : Heap), OSt Z EL a0 n0 h0 ws own bytes mx p l e R s m args below meth c sv T' h' k n → Wr h h' a (RoadKit.slotOf Z O nm d) v → Keep h h' [a] → Fld Z h' a O nm d v → OGo p.tables e below P T' (mkF m pc' Ls st)) : OGo p.tables e below P T (mkF m pc Ls (v :: .ref a :: st)) := by
  subst hq
  obtain ⟨hx, hby, hml, eT, hlk, vm0, locs, Y, I⟩ := X
  obtain ⟨T', h', Y', e', W, stp⟩ := putF Y hx (show Z.Warmed39 (s.setVm vm0).vm from I.2.2.2.2.1) (show (s.setVm vm0).vm.findClass own = _ from I.2.2.2.2.2.1) w via eT F E L wi hty hn hf (g := mkF m pc Ls (v :: .ref a :: st)) rfl rfl (hb hby hd)
  exact og stp (K T' h' ⟨hx, hby, hml, e', hlk, vm0, _, Y', I.wr ha W⟩ W (Keep.of_wr W) (F.same W))
theorem own_get (X : OSt Z EL a0 n0 h0 ws own bytes mx p l e R s m args below meth c sv T h k n) (pc' : Nat) {R0 O nm d host : String} {index : Nat} {a : Addr} {v : Value} (hd : decode bytes pc = .ok (.getfield index, 3)) (w : (Cond.fieldLink own index R0 nm d).before a0 Z = true ∨ (Cond.fieldLinkNest own index R0 nm d host).before a0 Z = true) (via : Via Z R0 O nm d) (F : Fld Z h a O nm d v) (hq : pc' = pc + 3)
    (K : ∀ (T' : State), OSt Z EL a0 n0 h0 ws own bytes mx p l e R s m args below meth c sv T' h k n → OGo p.tables e below P T' (mkF m pc' Ls (v :: st))) : OGo p.tables e below P T (mkF m pc Ls (.ref a :: st)) := by
  subst hq
  obtain ⟨hx, hby, hml, eT, hlk, vm0, locs, Y, I⟩ := X
  obtain ⟨T', Y', e', stp⟩ := getF Y hx (show Z.Warmed39 (s.setVm vm0).vm from I.2.2.2.2.1) (show (s.setVm vm0).vm.findClass own = _ from I.2.2.2.2.2.1) w via eT F (g := mkF m pc Ls (.ref a :: st)) rfl rfl (hb hby hd)
  exact og stp (K T' ⟨hx, hby, hml, e', hlk, vm0, _, Y', I⟩)
theorem own_getS (X : OSt Z EL a0 n0 h0 ws own bytes mx p l e R s m args below meth c sv T h k n) (pc' : Nat) {R0 O nm d host : String} {index : Nat} {v : Value} (hd : decode bytes pc = .ok (.getstatic index, 3)) (w : (Cond.fieldLink own index R0 nm d).before a0 Z = true ∨ (Cond.fieldLinkNest own index R0 nm d host).before a0 Z = true) (via : Via Z R0 O nm d) (F : Sta Z Z.heap O nm d v) (hq : pc' = pc + 3)
    (K : ∀ (T' : State), OSt Z EL a0 n0 h0 ws own bytes mx p l e R s m args below meth c sv T' h k n → OGo p.tables e below P T' (mkF m pc' Ls (v :: st))) : OGo p.tables e below P T (mkF m pc Ls st) := by
  subst hq
  have O1 := X.old
  obtain ⟨hx, hby, hml, eT, hlk, vm0, locs, Y, I⟩ := X
  obtain ⟨T', Y', e', stp⟩ := getS2 Y hx (show Z.Warmed39 (s.setVm vm0).vm from I.2.2.2.2.1) (show (s.setVm vm0).vm.findClass own = _ from I.2.2.2.2.2.1) w via eT (F.ext O1.2) (g := mkF m pc Ls st) rfl (hb hby hd)
  exact og stp (K T' ⟨hx, hby, hml, e', hlk, vm0, _, Y', I⟩)
theorem own_cast (X : OSt Z EL a0 n0 h0 ws own bytes mx p l e R s m args below meth c sv T h k n) (pc' : Nat) {C : String} {index : Nat} {a : Addr} (hd : decode bytes pc = .ok (.checkcast index, 3)) (w : (Cond.classLink own index C).before a0 Z = true) (F : Ins Z h a C true) (hq : pc' = pc + 3)
    (K : ∀ (T' : State), OSt Z EL a0 n0 h0 ws own bytes mx p l e R s m args below meth c sv T' h k n → OGo p.tables e below P T' (mkF m pc' Ls (.ref a :: st))) : OGo p.tables e below P T (mkF m pc Ls (.ref a :: st)) := by
  subst hq
  obtain ⟨hx, hby, hml, eT, hlk, vm0, locs, Y, I⟩ := X
  obtain ⟨T', Y', e', stp⟩ := castY Y hx (show Z.Warmed39 (s.setVm vm0).vm from I.2.2.2.2.1) (show (s.setVm vm0).vm.findClass own = _ from I.2.2.2.2.2.1) w eT F (g := mkF m pc Ls (.ref a :: st)) rfl rfl (hb hby hd)
  exact og stp (K T' ⟨hx, hby, hml, e', hlk, vm0, _, Y', I⟩)
theorem own_instY (X : OSt Z EL a0 n0 h0 ws own bytes mx p l e R s m args below meth c sv T h k n) (pc' : Nat) {C : String} {index : Nat} {a : Addr} (hd : decode bytes pc = .ok (.instanceof index, 3)) (w : (Cond.classLink own index C).before a0 Z = true) (F : Ins Z h a C true) (hq : pc' = pc + 3)
    (K : ∀ (T' : State), OSt Z EL a0 n0 h0 ws own bytes mx p l e R s m args below meth c sv T' h k n → OGo p.tables e below P T' (mkF m pc' Ls (.int 1 :: st))) : OGo p.tables e below P T (mkF m pc Ls (.ref a :: st)) := by
  subst hq
  obtain ⟨hx, hby, hml, eT, hlk, vm0, locs, Y, I⟩ := X
  obtain ⟨T', Y', e', stp⟩ := instY Y hx (show Z.Warmed39 (s.setVm vm0).vm from I.2.2.2.2.1) (show (s.setVm vm0).vm.findClass own = _ from I.2.2.2.2.2.1) w eT F (g := mkF m pc Ls (.ref a :: st)) rfl rfl (hb hby hd)
  exact og stp (K T' ⟨hx, hby, hml, e', hlk, vm0, _, Y', I⟩)
theorem own_instN (X : OSt Z EL a0 n0 h0 ws own bytes mx p l e R s m args below meth c sv T h k n) (pc' : Nat) {C C' : String} {index : Nat} {a : Addr} (hd : decode bytes pc = .ok (.instanceof index, 3)) (w : (Cond.classLink own index C).before a0 Z = true) (F : Ins Z h0 a C false) (E : Exa Z h0 a C') (hq : pc' = pc + 3)
    (K : ∀ (T' : State), OSt Z EL a0 n0 h0 ws own bytes mx p l e R s m args below meth c sv T' h k n → OGo p.tables e below P T' (mkF m pc' Ls (.int 0 :: st))) : OGo p.tables e below P T (mkF m pc Ls (.ref a :: st)) := by
  subst hq
  obtain ⟨hx, hby, hml, eT, hlk, vm0, locs, Y, I⟩ := X
  have e0 : (s.setVm vm0).heap = h0 := I.1
  obtain ⟨T', Y', e', stp⟩ := instN Y hx (show Z.Warmed39 (s.setVm vm0).vm from I.2.2.2.2.1) (show (s.setVm vm0).vm.findClass own = _ from I.2.2.2.2.2.1) w eT (by rw [e0]; exact F) (by rw [e0]; exact E) (g := mkF m pc Ls (.ref a :: st)) rfl rfl (hb hby hd)
  exact og stp (K T' ⟨hx, hby, hml, e', hlk, vm0, _, Y', I⟩)
theorem own_obj0 (X : OSt Z EL a0 n0 h0 ws own bytes mx p l e R s m args below meth c sv T h k n) (pc' : Nat) {index : Nat} {a : Addr} (hd : decode bytes pc = .ok (.invokespecial index, 3)) (w1 : (Cond.methodLink own index Lib.objectInit).before a0 Z = true) (w2 : (Cond.instanceMethod Lib.objectInit).before a0 Z = true) (w3 : (Cond.code Lib.objectInit ⟨#[0xb1]⟩ 1 none).before a0 Z = true) (hsz : Ls.size = mx) {W : Nat} (hW : (st.map fun v => v.category).sum = W) (hf : 1 ≤ R.frames) (hl : W + 12 ≤ R.locals) (hq : pc' = pc + 3)
    (K : ∀ (T' : State), OSt Z EL a0 n0 h0 ws own bytes mx p l e R s m args below meth c sv T' h k n → OGo p.tables e below P T' (mkF m pc' Ls st)) : OGo p.tables e below P T (mkF m pc Ls (.ref a :: st)) := by
  subst hq
  obtain ⟨hx, hby, hml, eT, hlk, vm0, locs, Y, I⟩ := X
  obtain ⟨T', Y', e', stp⟩ := initO Y hx (show Z.Warmed39 (s.setVm vm0).vm from I.2.2.2.2.1) (show (s.setVm vm0).vm.findClass own = _ from I.2.2.2.2.2.1) w1 w2 w3 eT (g := mkF m pc Ls (.ref a :: st)) rfl (by rw [hml]; exact hsz) rfl (hb hby hd) hf (W := W) (by show 2 * 0 + _ ≤ _; rw [hW]; omega) hl
  exact og stp (K T' ⟨hx, hby, hml, e', hlk, vm0, _, Y', I⟩)
theorem own_inb {cl : Cell} {z j : Int32} (S : cl.slots.size = z.toNatClampNeg) (h1 : ¬ j < 0) (h2 : j < z) : ¬ (j < 0 ∨ cl.slots.size ≤ j.toNatClampNeg) := inb_of S ⟨h1, h2⟩
theorem own_stC (X : OSt Z EL a0 n0 h0 ws own bytes mx p l e R s m args below meth c sv T h k n) (pc' : Nat) {a : Addr} {kb : ClassId} {z j x x' : Int32} {vs : List Value} {dv : Value} (hd : decode bytes pc = .ok (.castore, 1)) (A : Arv Z h a kb .char z vs dv) (hx' : nar .char x = x') (h1 : ¬ j < 0) (h2 : j < z) {i : Nat} (hi : j.toNatClampNeg = i) (hl : i < vs.length) (ha : a ∈ sv) (hq : pc' = pc + 1)
    (K : ∀ (T' : State) (h' : Heap), OSt Z EL a0 n0 h0 ws own bytes mx p l e R s m args below meth c sv T' h' k n → Wr h h' a j.toNatClampNeg (.int x') → Keep h h' [a] → Arv Z h' a kb .char z (vs.set i (.int x')) dv → OGo p.tables e below P T' (mkF m pc' Ls st)) : OGo p.tables e below P T (mkF m pc Ls (.int x :: .int j :: .ref a :: st)) := by
  subst hq hx'
  obtain ⟨hx, hby, hml, eT, hlk, vm0, locs, Y, I⟩ := X
  obtain ⟨cl, Ar, q, S, N, Hs, G⟩ := A
  obtain ⟨T', h', Y', e', W, stp⟩ := stC Y hx (show Z.Warmed39 (s.setVm vm0).vm from I.2.2.2.2.1) eT Ar (j := j) (x := x) (own_inb S h1 h2) (g := mkF m pc Ls (.int x :: .int j :: .ref a :: st)) rfl rfl (hb hby hd)
  exact og stp (K T' h' ⟨hx, hby, hml, e', hlk, vm0, _, Y', I.wr ha W⟩ W (Keep.of_wr W) (Arv.set Ar q S N Hs G (fits_nar_char _) W i hi hl))
theorem own_stB (X : OSt Z EL a0 n0 h0 ws own bytes mx p l e R s m args below meth c sv T h k n) (pc' : Nat) {a : Addr} {kb : ClassId} {z j x x' : Int32} {vs : List Value} {dv : Value} (hd : decode bytes pc = .ok (.bastore, 1)) (A : Arv Z h a kb .byte z vs dv) (hx' : x.toInt8.toInt32 = x') (h1 : ¬ j < 0) (h2 : j < z) {i : Nat} (hi : j.toNatClampNeg = i) (hl : i < vs.length) (ha : a ∈ sv) (hq : pc' = pc + 1)
    (K : ∀ (T' : State) (h' : Heap), OSt Z EL a0 n0 h0 ws own bytes mx p l e R s m args below meth c sv T' h' k n → Wr h h' a j.toNatClampNeg (.int x') → Keep h h' [a] → Arv Z h' a kb .byte z (vs.set i (.int x')) dv → OGo p.tables e below P T' (mkF m pc' Ls st)) : OGo p.tables e below P T (mkF m pc Ls (.int x :: .int j :: .ref a :: st)) := by
  subst hq hx'
  obtain ⟨hx, hby, hml, eT, hlk, vm0, locs, Y, I⟩ := X
  obtain ⟨cl, Ar, q, S, N, Hs, G⟩ := A
  obtain ⟨T', h', Y', e', W, stp⟩ := stB Y hx (show Z.Warmed39 (s.setVm vm0).vm from I.2.2.2.2.1) eT Ar (j := j) (x := x) (own_inb S h1 h2) (g := mkF m pc Ls (.int x :: .int j :: .ref a :: st)) rfl rfl (hb hby hd)
  exact og stp (K T' h' ⟨hx, hby, hml, e', hlk, vm0, _, Y', I.wr ha W⟩ W (Keep.of_wr W) (Arv.set Ar q S N Hs G (fits_nar_byte _) W i hi hl))
theorem own_stR (X : OSt Z EL a0 n0 h0 ws own bytes mx p l e R s m args below meth c sv T h k n) (pc' : Nat) {a : Addr} {kb : ClassId} {ty : FieldType} {z j : Int32} {v : Value} {vs : List Value} {dv : Value} (hd : decode bytes pc = .ok (.aastore, 1)) (A : Arv Z h a kb ty z vs dv) (hty : ty.isReference = true) (hf : fits ty v = true) (F : Sto Z h a v) (h1 : ¬ j < 0) (h2 : j < z) {i : Nat} (hi : j.toNatClampNeg = i) (hl : i < vs.length) (ha : a ∈ sv) (hq : pc' = pc + 1)
    (K : ∀ (T' : State) (h' : Heap), OSt Z EL a0 n0 h0 ws own bytes mx p l e R s m args below meth c sv T' h' k n → Wr h h' a j.toNatClampNeg v → Keep h h' [a] → Arv Z h' a kb ty z (vs.set i v) dv → OGo p.tables e below P T' (mkF m pc' Ls st)) : OGo p.tables e below P T (mkF m pc Ls (v :: .int j :: .ref a :: st)) := by
  subst hq
  obtain ⟨hx, hby, hml, eT, hlk, vm0, locs, Y, I⟩ := X
  obtain ⟨cl, Ar, q, S, N, Hs, G⟩ := A
  obtain ⟨T', h', Y', e', W, stp⟩ := stR Y hx (show Z.Warmed39 (s.setVm vm0).vm from I.2.2.2.2.1) eT Ar (j := j) (v := v) (own_inb S h1 h2) hty F (g := mkF m pc Ls (v :: .int j :: .ref a :: st)) rfl rfl (hb hby hd)
  exact og stp (K T' h' ⟨hx, hby, hml, e', hlk, vm0, _, Y', I.wr ha W⟩ W (Keep.of_wr W) (Arv.set Ar q S N Hs G hf W i hi hl))
theorem own_len (X : OSt Z EL a0 n0 h0 ws own bytes mx p l e R s m args below meth c sv T h k n) (pc' : Nat) {a : Addr} {kb : ClassId} {ty : FieldType} {z : Int32} {vs : List Value} {dv : Value} (hd : decode bytes pc = .ok (.arraylength, 1)) (A : Arv Z h a kb ty z vs dv) (hq : pc' = pc + 1) (K : OGo p.tables e below P T (mkF m pc' Ls (.int z :: st))) : OGo p.tables e below P T (mkF m pc Ls (.ref a :: st)) := by
  subst hq
  obtain ⟨hx, hby, hml, eT, hlk, vm0, locs, Y, I⟩ := X
  obtain ⟨cl, Ar, q, S, N, Hs, G⟩ := A
  refine og (fun _ r => Y.arraylength hx (by rw [eT]; exact Ar.1) (State.isArrayOf_alike (show Z.Warmed39 (s.setVm vm0).vm from I.2.2.2.2.1).alike Ar.2.1) (g := mkF m pc Ls (.ref a :: st)) rfl rfl (hb hby hd) _ r) ?_
  rw [len_of S N]; exact K
theorem own_ldC (X : OSt Z EL a0 n0 h0 ws own bytes mx p l e R s m args below meth c sv T h k n) (pc' : Nat) {a : Addr} {kb : ClassId} {z j : Int32} {v : Value} {vs : List Value} {dv : Value} (hd : decode bytes pc = .ok (.caload, 1)) (A : Arv Z h a kb .char z vs dv) (h1 : ¬ j < 0) (h2 : j < z) (hv : vs.getD j.toNatClampNeg dv = v) (hq : pc' = pc + 1) (K : OGo p.tables e below P T (mkF m pc' Ls (v :: st))) : OGo p.tables e below P T (mkF m pc Ls (.int j :: .ref a :: st)) := by
  subst hq
  obtain ⟨hx, hby, hml, eT, hlk, vm0, locs, Y, I⟩ := X
  obtain ⟨cl, Ar, q, S, N, Hs, G⟩ := A
  exact og (fun _ r => Y.caload hx (j := j) (v := v) (by rw [eT]; exact Ar.1) (State.isArrayOf_alike (show Z.Warmed39 (s.setVm vm0).vm from I.2.2.2.2.1).alike Ar.2.1) Ar.2.2 (own_inb S h1 h2) (Hs.at (own_inb S h1 h2) hv) (g := mkF m pc Ls (.int j :: .ref a :: st)) rfl rfl (hb hby hd) _ r) K
theorem own_ldB (X : OSt Z EL a0 n0 h0 ws own bytes mx p l e R s m args below meth c sv T h k n) (pc' : Nat) {a : Addr} {kb : ClassId} {z j : Int32} {v : Value} {vs : List Value} {dv : Value} (hd : decode bytes pc = .ok (.baload, 1)) (A : Arv Z h a kb .byte z vs dv) (h1 : ¬ j < 0) (h2 : j < z) (hv : vs.getD j.toNatClampNeg dv = v) (hq : pc' = pc + 1) (K : OGo p.tables e below P T (mkF m pc' Ls (v :: st))) : OGo p.tables e below P T (mkF m pc Ls (.int j :: .ref a :: st)) := by
  subst hq
  obtain ⟨hx, hby, hml, eT, hlk, vm0, locs, Y, I⟩ := X
  obtain ⟨cl, Ar, q, S, N, Hs, G⟩ := A
  exact og (fun _ r => Y.baloadBytes hx (j := j) (v := v) (by rw [eT]; exact Ar.1) (State.isArrayOf_alike (show Z.Warmed39 (s.setVm vm0).vm from I.2.2.2.2.1).alike Ar.2.1) Ar.2.2 (own_inb S h1 h2) (Hs.at (own_inb S h1 h2) hv) (g := mkF m pc Ls (.int j :: .ref a :: st)) rfl rfl (hb hby hd) _ r) K
theorem own_ldR (X : OSt Z EL a0 n0 h0 ws own bytes mx p l e R s m args below meth c sv T h k n) (pc' : Nat) {a : Addr} {kb : ClassId} {ty : FieldType} {z j : Int32} {v : Value} {vs : List Value} {dv : Value} (hd : decode bytes pc = .ok (.aaload, 1)) (A : Arv Z h a kb ty z vs dv) (hty : ty.isReference = true) (h1 : ¬ j < 0) (h2 : j < z) (hv : vs.getD j.toNatClampNeg dv = v) (hq : pc' = pc + 1) (K : OGo p.tables e below P T (mkF m pc' Ls (v :: st))) : OGo p.tables e below P T (mkF m pc Ls (.int j :: .ref a :: st)) := by
  subst hq
  obtain ⟨hx, hby, hml, eT, hlk, vm0, locs, Y, I⟩ := X
  obtain ⟨cl, Ar, q, S, N, Hs, G⟩ := A
  exact og (fun _ r => Y.aaload hx (j := j) (v := v) (by rw [eT]; exact Ar.1) (State.isArrayOf_alike (show Z.Warmed39 (s.setVm vm0).vm from I.2.2.2.2.1).alike Ar.2.1) hty Ar.2.2 (own_inb S h1 h2) (Hs.at (own_inb S h1 h2) hv) (g := mkF m pc Ls (.int j :: .ref a :: st)) rfl rfl (hb hby hd) _ r) K
theorem own_ldcI (X : OSt Z EL a0 n0 h0 ws own bytes mx p l e R s m args below meth c sv T h k n) (pc' : Nat) {index : Nat} {v : Int32} (hd : decode bytes pc = .ok (.ldc index, 2)) (w : (Cond.constant own index v).before a0 Z = true) (hq : pc' = pc + 2) (K : OGo p.tables e below P T (mkF m pc' Ls (.int v :: st))) : OGo p.tables e below P T (mkF m pc Ls st) := by
  subst hq
  obtain ⟨hx, hby, hml, eT, hlk, vm0, locs, Y, I⟩ := X
  exact og (fun _ r => Y.ldcInt hx (show (s.setVm vm0).vm.findClass own = _ from I.2.2.2.2.2.1) (mvT (show Z.Warmed39 (s.setVm vm0).vm from I.2.2.2.2.1) w) (g := mkF m pc Ls st) rfl (hb hby hd) _ r) K
theorem own_instNull (X : OSt Z EL a0 n0 h0 ws own bytes mx p l e R s m args below meth c sv T h k n) (pc' : Nat) {index : Nat} (hd : decode bytes pc = .ok (.instanceof index, 3)) (hq : pc' = pc + 3) (K : OGo p.tables e below P T (mkF m pc' Ls (.int 0 :: st))) : OGo p.tables e below P T (mkF m pc Ls (.null :: st)) := by
  subst hq
  obtain ⟨hx, hby, hml, eT, hlk, vm0, locs, Y, I⟩ := X
  exact og (fun _ r => Y.instanceofNull hx (g := mkF m pc Ls (.null :: st)) rfl rfl (hb hby hd) _ r) K
theorem own_castNull (X : OSt Z EL a0 n0 h0 ws own bytes mx p l e R s m args below meth c sv T h k n) (pc' : Nat) {index : Nat} (hd : decode bytes pc = .ok (.checkcast index, 3)) (hq : pc' = pc + 3) (K : OGo p.tables e below P T (mkF m pc' Ls (.null :: st))) : OGo p.tables e below P T (mkF m pc Ls (.null :: st)) := by
  subst hq
  obtain ⟨hx, hby, hml, eT, hlk, vm0, locs, Y, I⟩ := X
  exact og (fun _ r => Y.checkcastNull hx (g := mkF m pc Ls (.null :: st)) rfl rfl (hb hby hd) _ r) K
theorem own_instNo (X : OSt Z EL a0 n0 h0 ws own bytes mx p l e R s m args below meth c sv T h k n) (pc' : Nat) {C C' : String} {index : Nat} {a : Addr} (hd : decode bytes pc = .ok (.instanceof index, 3)) (w : (Cond.classLink own index C).before a0 Z = true) (E : Exa Z h a C') (F : ∃ c t, Z.vm.findClass C' = some c ∧ Z.vm.findClass C = some t ∧ Z.vm.assignable c t = false) (hq : pc' = pc + 3)
    (K : ∀ (T' : State), OSt Z EL a0 n0 h0 ws own bytes mx p l e R s m args below meth c sv T' h k n → OGo p.tables e below P T' (mkF m pc' Ls (.int 0 :: st))) : OGo p.tables e below P T (mkF m pc Ls (.ref a :: st)) := by
  subst hq
  obtain ⟨hx, hby, hml, eT, hlk, vm0, locs, Y, I⟩ := X
  obtain ⟨T', Y', e', stp⟩ := instNo Y hx (show Z.Warmed39 (s.setVm vm0).vm from I.2.2.2.2.1) (show (s.setVm vm0).vm.findClass own = _ from I.2.2.2.2.2.1) w eT E F (g := mkF m pc Ls (.ref a :: st)) rfl rfl (hb hby hd)
  exact og stp (K T' ⟨hx, hby, hml, e', hlk, vm0, _, Y', I⟩)
theorem own_nsRoot {O C : String} {kk : Nat} (w : (Cond.noSuperclass O).before a0 Z = true) (wk : (Cond.instantiable C kk).before a0 Z = true) (hn : O ≠ C) : NS Z O C := by
  obtain ⟨c, k, h1, h2, h3, -, -⟩ := Cond.noSuperclass_spec w
  obtain ⟨t, k2, g1, -⟩ := Cond.instantiable_spec wk
  have ne := ids_ne h1 g1 hn
  refine ⟨c, t, h1, g1, fun fuel => ?_⟩
  cases fuel with
  | zero => rfl
  | succ f => simp [Vm.isSubclassAux, ne, h2, h3]
theorem own_nsNo {C S K' : String} {kk : Nat} (w : (Cond.superclass C S).before a0 Z = true) (wk : (Cond.instantiable K' kk).before a0 Z = true) (N : NS Z C K') (hn : C ≠ K') : ∃ c t, Z.vm.findClass C = some c ∧ Z.vm.findClass K' = some t ∧ Z.vm.assignable c t = false := by
  obtain ⟨c, t, h0, g0, n3⟩ := N
  obtain ⟨p, k, kp, h1, h2, h3, h4, h5, -, h7⟩ := Cond.superclass_spec h0 w
  obtain ⟨t', k2, g1, g2, g3, g4, -⟩ := Cond.instantiable_spec wk
  cases g0.symm.trans g1
  have ne := ids_ne h0 g0 hn
  have g5 : k2.isInterface = false := by
    cases hi : k2.isInterface with
    | false => rfl
    | true => rw [hi] at g4; simp at g4
  refine ⟨c, t, h0, g0, ?_⟩
  show Z.vm.assignableAux (255 + 1) c t = false
  simp [Vm.assignableAux, ne, h2, g2, h5, g3, g5, Vm.isSubclass, n3]
theorem own_ldc2L (X : OSt Z EL a0 n0 h0 ws own bytes mx p l e R s m args below meth c sv T h k n) (pc' : Nat) {index : Nat} {v : Int64} (hd : decode bytes pc = .ok (.ldc2_w index, 3)) (w : (Cond.constantLong own index v).before a0 Z = true) (hq : pc' = pc + 3) (K : OGo p.tables e below P T (mkF m pc' Ls (.long v :: st))) : OGo p.tables e below P T (mkF m pc Ls st) := by
  subst hq
  obtain ⟨hx, hby, hml, eT, hlk, vm0, locs, Y, I⟩ := X
  exact og (fun _ r => Y.ldc2Long hx (show (s.setVm vm0).vm.findClass own = _ from I.2.2.2.2.2.1) (mvT (show Z.Warmed39 (s.setVm vm0).vm from I.2.2.2.2.1) w) (g := mkF m pc Ls st) rfl (hb hby hd) _ r) K
theorem own_ldBox (X : OSt Z EL a0 n0 h0 ws own bytes mx p l e R s m args below meth c sv T h k n) (pc' : Nat) {a : Addr} {cl : Cell} {C d : String} {z j : Int32} {val : Int32 → Value} (hd : decode bytes pc = .ok (.aaload, 1)) (B : Bxs Z a cl C d z val) (h1 : ¬ j < 0) (h2 : j < z) (hq : pc' = pc + 1) (K : ∀ b : Addr, Exa Z h b C → Fld Z h b C "value" d (val j) → OGo p.tables e below P T (mkF m pc' Ls (.ref b :: st))) : OGo p.tables e below P T (mkF m pc Ls (.int j :: .ref a :: st)) := by
  subst hq
  have O1 := X.old
  obtain ⟨hx, hby, hml, eT, hlk, vm0, locs, Y, I⟩ := X
  obtain ⟨A, S, N, F⟩ := B
  obtain ⟨b, q1, q2, q3⟩ := F j (own_inb S h1 h2)
  exact og (fun _ r => Y.aaload hx (j := j) (v := .ref b) (by rw [eT]; exact (A.ext O1.2).1) (State.isArrayOf_alike (show Z.Warmed39 (s.setVm vm0).vm from I.2.2.2.2.1).alike A.2.1) rfl A.2.2 (own_inb S h1 h2) q1 (g := mkF m pc Ls (.int j :: .ref a :: st)) rfl rfl (hb hby hd) _ r) (K b (q2.ext O1.2) (q3.ext O1.2))
def OMet (l : Launch) (Z : State) (EL : List (String × Nat)) (n0 : Nat) (y : MethodName) (wc : List Jvm.Cond) (rm : Room) (as' : Array Value) (h0 : Heap) (ws : List Addr) (Q : Option Value → Heap → Prop) : Prop :=
  MetFree l y (head1 wc rm) (fun a U => a = as' ∧ Z.Warmed39 U.vm ∧ U.heap = h0 ∧ CHv Z EL U.vm h0 ∧ ∀ x ∈ ws, Safe Z EL U.vm h0 x) (fun _ _ _ _ _ => True) (fun _ U o U' => OEnd Z EL n0 h0 ws U Q rm.cells rm.slots o U')
theorem own_enter {y : MethodName} {ret : Option FieldType} {wc : List Jvm.Cond} {rm : Room} {as' : Array Value} {Q : Option Value → Heap → Prop} (Ls : Array Slot) (hn : plainFor y = true) (ef : ∀ m, entryFrame m as' mx = mkF m 0 Ls []) (hEL : EW Z a0 EL) (O : Old Z n0 h0) (hlt : ∀ x ∈ ws, n0 ≤ x ∧ x < h0.size)
    (K : ∀ (p : Program) (e : Env) (s : State) (m : MethodId) (below : List Frame) (meth : Method) (c : Code) (T : State), OSt Z EL a0 n0 h0 ws y.cls bytes mx p l e rm s m as' below meth c ws T h0 0 0 → meth.name = y.name → meth.sig.returnType = ret → OGo p.tables e below (OEnd Z EL n0 h0 ws s Q rm.cells rm.slots) T (mkF m 0 Ls [])) :
    OMet l Z EL n0 y (Jvm.Cond.code y bytes mx ret :: wc) rm as' h0 ws Q := by
  refine MetFree.of_bodySF hn hisR ?_
  intro p e s m args below meth c s₁ Bd hml hP _
  obtain ⟨rfl, hZ, hh, hC, hS⟩ := hP
  have Y : Stand p l e rm (s.setVm s.vm) m args below meth c s₁ [] 0 0 := Stand.of_body Bd
  have hown := findClass_of_methodNamed Bd.named
  have e0 : s₁.heap = h0 := by rw [← hh, Bd.state]; rfl
  obtain ⟨t, o, g1, g2⟩ := K p e s m below meth c s₁ ⟨Bd.exec, Bd.bytes, hml, e0, Bd.notSynchronized, s.vm, [], Y, hh, O, Keep.refl _ _, ⟨_, (State.WarmedH.refl s).since _, Nat.le_refl _⟩, hZ, hown, hEL, by rw [hh]; exact CHr.refl hC, fun _ => rfl, Fr.nil _, fun x hx => ⟨(hlt x hx).1, (hlt x hx).2, Or.inl hx, hS x hx⟩⟩ (name_of_methodNamed Bd.named Bd.method).1 Bd.returns
  exact ⟨t, o, castTop (ef m) g1, g2⟩
theorem own_leave (X : OSt Z EL a0 n0 h0 ws own bytes mx p l e R s m args below meth c sv T h k n) {v : Option Value} {Q : Option Value → Heap → Prop} {k' n' : Nat} (hv : meth.sig.returnType = none → v = none) (hk : k ≤ k') (hn : n ≤ n') (hQ : Q v h) :
    ∃ fs, (∀ (f : JFrame) (acts : List Action), f.method = m → f.locked = none → f.entered = [] → (doReturn e (T.setTop f) acts v).1 = T.setFrames fs) ∧ (T.setFrames fs).status = .running ∧ Ended (T.setFrames fs) below (.returned v) ∧ OEnd Z EL n0 h0 ws s Q k' n' (.returned v) (T.setFrames fs) := by
  obtain ⟨hx, hby, hml, eT, hlk, vm0, locs, Y, b1, b2, b3, ⟨k0, b4, b4'⟩, b5, b6, b7, b8, b9, b10, b11⟩ := X.more hk hn
  obtain ⟨fs, h1, h2, h3, hW, hs⟩ := Y.leave hv hlk
  have C := CHv.at Y b5 b7 b8.1
  obtain ⟨q1, q2, q3⟩ := b4.ended (U := T.setFrames fs) hW (by show k0 ≤ T.heap.size; rw [eT]; exact b4') hs
  refine ⟨fs, h1, h2, h3, v, locs, rfl, ⟨b10, by show Keep h0 T.heap ws; rw [eT]; exact b3, by show Q v T.heap; rw [eT]; exact hQ⟩, by show CHr Z EL s.vm s.heap T.vm T.heap; rw [eT]; exact b8.trans C, ⟨⟨v, rfl⟩, q1, q2, q3⟩, fun hnil => ?_⟩
  have := b9 hnil
  subst this
  exact ⟨⟨v, rfl⟩, hW, hs⟩
theorem own_retV (X : OSt Z EL a0 n0 h0 ws own bytes mx p l e R s m args below meth c sv T h k n) {Q : Option Value → Heap → Prop} {k' n' : Nat} (hd : decode bytes pc = .ok (.return_, 1)) (hret : meth.sig.returnType = none) (hk : k ≤ k') (hn : n ≤ n') (hQ : Q none h) : OGo p.tables e below (OEnd Z EL n0 h0 ws s Q k' n') T (mkF m pc Ls []) := by
  obtain ⟨fs, h1, h2, h3, h4⟩ := own_leave X (fun _ => rfl) hk hn hQ
  have X' := X
  obtain ⟨hx, hby, hml, eT, hlk, vm0, locs, Y, -⟩ := X'
  exact ⟨_, _, Y.returnOut hx hret (hb hby hd) h1, h2, h3, h4⟩
theorem own_ret (X : OSt Z EL a0 n0 h0 ws own bytes mx p l e R s m args below meth c sv T h k n) {Q : Option Value → Heap → Prop} {k' n' : Nat} {t : FieldType} {w : Value} {i : Instr} (hd : decode bytes pc = .ok (i, 1)) (hret : meth.sig.returnType = some t) (hnw : narrow t w = w)
    (hi : (i = .ireturn ∧ (t = .int ∨ t = .boolean ∨ t = .byte ∨ t = .char ∨ t = .short) ∧ ∃ z, w = .int z) ∨ (i = .lreturn ∧ t = .long ∧ ∃ z, w = .long z) ∨ (i = .dreturn ∧ t = .double ∧ ∃ z, w = .double z) ∨ (i = .freturn ∧ t = .float ∧ ∃ z, w = .float z) ∨ (i = .areturn ∧ t.isReference = true ∧ w.isRef = true))
    (hk : k ≤ k') (hn : n ≤ n') (hQ : Q (some w) h) : OGo p.tables e below (OEnd Z EL n0 h0 ws s Q k' n') T (mkF m pc Ls (w :: st)) := by
  obtain ⟨fs, h1, h2, h3, h4⟩ := own_leave X (fun q => by rw [hret] at q; cases q) hk hn hQ
  have X' := X
  obtain ⟨hx, hby, hml, eT, hlk, vm0, locs, Y, -⟩ := X'
  exact ⟨_, _, retOut Y hx hret hnw hi (hb hby hd) h1, h2, h3, h4⟩
theorem own_retI (X : OSt Z EL a0 n0 h0 ws own bytes mx p l e R s m args below meth c sv T h k n) {Q : Option Value → Heap → Prop} {k' n' : Nat} {z : Int32} (hd : decode bytes pc = .ok (.ireturn, 1)) (hret : meth.sig.returnType = some .int) (hk : k ≤ k') (hn : n ≤ n') (hQ : Q (some (.int z)) h) : OGo p.tables e below (OEnd Z EL n0 h0 ws s Q k' n') T (mkF m pc Ls (.int z :: st)) :=
  own_ret X hd hret rfl (Or.inl ⟨rfl, Or.inl rfl, z, rfl⟩) hk hn hQ
theorem own_retZ (X : OSt Z EL a0 n0 h0 ws own bytes mx p l e R s m args below meth c sv T h k n) {Q : Option Value → Heap → Prop} {k' n' : Nat} {z : Int32} (hd : decode bytes pc = .ok (.ireturn, 1)) (hret : meth.sig.returnType = some .boolean) (hz : narrow .boolean (.int z) = .int z) (hk : k ≤ k') (hn : n ≤ n') (hQ : Q (some (.int z)) h) : OGo p.tables e below (OEnd Z EL n0 h0 ws s Q k' n') T (mkF m pc Ls (.int z :: st)) :=
  own_ret X hd hret hz (Or.inl ⟨rfl, Or.inr (Or.inl rfl), z, rfl⟩) hk hn hQ
theorem own_retC (X : OSt Z EL a0 n0 h0 ws own bytes mx p l e R s m args below meth c sv T h k n) {Q : Option Value → Heap → Prop} {k' n' : Nat} {z : Int32} (hd : decode bytes pc = .ok (.ireturn, 1)) (hret : meth.sig.returnType = some .char) (hz : narrow .char (.int z) = .int z) (hk : k ≤ k') (hn : n ≤ n') (hQ : Q (some (.int z)) h) : OGo p.tables e below (OEnd Z EL n0 h0 ws s Q k' n') T (mkF m pc Ls (.int z :: st)) :=
  own_ret X hd hret hz (Or.inl ⟨rfl, Or.inr (Or.inr (Or.inr (Or.inl rfl))), z, rfl⟩) hk hn hQ
theorem own_retY (X : OSt Z EL a0 n0 h0 ws own bytes mx p l e R s m args below meth c sv T h k n) {Q : Option Value → Heap → Prop} {k' n' : Nat} {z : Int32} (hd : decode bytes pc = .ok (.ireturn, 1)) (hret : meth.sig.returnType = some .byte) (hz : narrow .byte (.int z) = .int z) (hk : k ≤ k') (hn : n ≤ n') (hQ : Q (some (.int z)) h) : OGo p.tables e below (OEnd Z EL n0 h0 ws s Q k' n') T (mkF m pc Ls (.int z :: st)) :=
  own_ret X hd hret hz (Or.inl ⟨rfl, Or.inr (Or.inr (Or.inl rfl)), z, rfl⟩) hk hn hQ
theorem own_retL (X : OSt Z EL a0 n0 h0 ws own bytes mx p l e R s m args below meth c sv T h k n) {Q : Option Value → Heap → Prop} {k' n' : Nat} {z : Int64} (hd : decode bytes pc = .ok (.lreturn, 1)) (hret : meth.sig.returnType = some .long) (hk : k ≤ k') (hn : n ≤ n') (hQ : Q (some (.long z)) h) : OGo p.tables e below (OEnd Z EL n0 h0 ws s Q k' n') T (mkF m pc Ls (.long z :: st)) :=
  own_ret X hd hret rfl (Or.inr (Or.inl ⟨rfl, rfl, z, rfl⟩)) hk hn hQ
theorem own_narR {t : FieldType} {w : Value} (ht : t.isReference = true) (hw : w.isRef = true) : narrow t w = w := by
  rcases ref_cases hw with rfl | ⟨a, rfl⟩ <;> cases t <;> first | rfl | cases ht
theorem own_retA (X : OSt Z EL a0 n0 h0 ws own bytes mx p l e R s m args below meth c sv T h k n) {Q : Option Value → Heap → Prop} {k' n' : Nat} {t : FieldType} {w : Value} (hd : decode bytes pc = .ok (.areturn, 1)) (hret : meth.sig.returnType = some t) (ht : t.isReference = true) (hw : w.isRef = true) (hk : k ≤ k') (hn : n ≤ n') (hQ : Q (some w) h) : OGo p.tables e below (OEnd Z EL n0 h0 ws s Q k' n') T (mkF m pc Ls (w :: st)) :=
  own_ret X hd hret (own_narR ht hw) (Or.inr (Or.inr (Or.inr (Or.inr ⟨rfl, ht, hw⟩)))) hk hn hQ
theorem own_payN {vm0 : Vm} {y : MethodName} {maxL : Nat} {ret : Option FieldType} {rm : Room} {len W : Nat} {as' : Array Value} {ws' : List Addr} {Q : Option Value → Heap → Prop} {bc : ByteArray} (hnil : EL = []) (hM : OMet l Z EL n0 y [Jvm.Cond.code y bc maxL ret] rm as' h ws' Q) (hZ : Z.Warmed39 vm0) (wc : (Cond.code y bc maxL ret).before a0 Z = true) (wz : (Cond.initialized y.cls).before a0 Z = true) (hf : rm.frames + 1 ≤ R.frames) (hl : W + (maxL + 11) + rm.locals ≤ R.locals) (hEL : EW Z a0 EL) (H : CHv Z EL vm0 h) (hS : ∀ x ∈ ws', x < h.size ∧ Safe Z EL vm0 h x) :
    Back l R p e below (s.setVm vm0) args y len W (fun A a => a = as' ∧ A.U.heap = h ∧ A.cells + rm.cells ≤ R.cells ∧ A.slots + rm.slots ≤ R.slots)
      (fun A _ v B => ∃ L, (Fr n0 L ∧ Keep h B.U.heap ws' ∧ Q v B.U.heap) ∧ B.locs = A.locs ++ L ∧ B.cells = A.cells + rm.cells ∧ B.slots = A.slots + rm.slots) :=
  Back.of_free (bytes := bc) (maxL := maxL) (ret := ret) (E := fun _ _ o t L k n => k = rm.cells ∧ n = rm.slots ∧ ∃ v, o = .returned v ∧ (Fr n0 L ∧ Keep h t.heap ws' ∧ Q v t.heap)) hM hf hl
    (fun m meth c A a Y hp => have hU : Z.Warmed39 A.U.vm := wtrans (s := s.setVm vm0) hZ Y.warmed
      ⟨by show (Cond.and _ .tt).before a A.U = true; rw [Cond.before_and, mv hU wc]; rfl, mv hU wc, mv hU wz, hp.2.2.1, hp.2.2.2⟩)
    (fun m meth c A a g mk Y hp => ⟨hp.1, wtrans (s := s.setVm vm0) hZ Y.warmed, hp.2.1, (CHv.at Y hZ hEL H).1, fun x hx => (CHv.at Y hZ hEL H).safe (hS x hx).1 (hS x hx).2⟩) (fun _ _ _ _ _ _ _ _ _ => trivial)
    (fun _ _ _ _ ⟨v, L, h1, h2, _, _, h3⟩ => ⟨L, _, _, h3 hnil, rfl, rfl, v, h1, h2⟩)
    (fun m meth c A a g mk v t L k n Y hp _ _ ⟨e1, e2, v', e3, e4⟩ => by cases e3; subst e1 e2; exact ⟨L, e4, rfl, rfl, rfl⟩)
theorem own_payW {vm0 : Vm} {y : MethodName} {maxL : Nat} {ret : Option FieldType} {rm : Room} {len W : Nat} {as' : Array Value} {ws' : List Addr} {Q : Option Value → Heap → Prop} {bc : ByteArray} (hM : OMet l Z EL n0 y [Jvm.Cond.code y bc maxL ret] rm as' h ws' Q) (hZ : Z.Warmed39 vm0) (wc : (Cond.code y bc maxL ret).before a0 Z = true) (wz : (Cond.initialized y.cls).before a0 Z = true) (hf : rm.frames + 1 ≤ R.frames) (hl : W + (maxL + 11) + rm.locals ≤ R.locals) (hEL : EW Z a0 EL) (H : CHv Z EL vm0 h) (hS : ∀ x ∈ ws', x < h.size ∧ Safe Z EL vm0 h x) :
    BackS l R p e below (s.setVm vm0) args y len W (fun A a => a = as' ∧ A.U.heap = h ∧ A.cells + rm.cells ≤ R.cells ∧ A.slots + rm.slots ≤ R.slots)
      (fun A _ v B => ∃ L, (Fr n0 L ∧ Keep h B.U.heap ws' ∧ Q v B.U.heap) ∧ B.locs = A.locs ++ L ∧ B.cells = A.cells + rm.cells ∧ B.slots = A.slots + rm.slots ∧ CHr Z EL vm0 h B.U.vm B.U.heap) :=
  BackS.of_freeW (bytes := bc) (maxL := maxL) (ret := ret) (E := fun _ first o t L k n => k = rm.cells ∧ n = rm.slots ∧ (∃ v, o = .returned v ∧ (Fr n0 L ∧ Keep h t.heap ws' ∧ Q v t.heap)) ∧ CHr Z EL first.vm first.heap t.vm t.heap) hM hf hl
    (fun m meth c A a Y hp => have hU : Z.Warmed39 A.U.vm := wtrans (s := s.setVm vm0) hZ Y.warmed
      ⟨by show (Cond.and _ .tt).before a A.U = true; rw [Cond.before_and, mv hU wc]; rfl, mv hU wc, mv hU wz, hp.2.2.1, hp.2.2.2⟩)
    (fun m meth c A a g mk Y hp => ⟨hp.1, wtrans (s := s.setVm vm0) hZ Y.warmed, hp.2.1, (CHv.at Y hZ hEL H).1, fun x hx => (CHv.at Y hZ hEL H).safe (hS x hx).1 (hS x hx).2⟩) (fun _ _ _ _ _ _ _ _ _ => trivial)
    (fun _ _ _ _ ⟨v, L, h1, h2, h3, h4, _⟩ => ⟨L, _, _, h4, rfl, rfl, ⟨v, h1, h2⟩, h3⟩)
    (fun m meth c A a g mk v t L k n Y hp _ _ ⟨e1, e2, ⟨v', e3, e4⟩, e5⟩ => by
      cases e3; subst e1 e2
      refine ⟨L, e4, rfl, rfl, rfl, (CHv.at Y hZ hEL H).trans ?_⟩
      rw [← hp.2.1]; exact e5)
theorem own_stat (X : OSt Z EL a0 n0 h0 ws own bytes mx p l e R s m args below meth c sv T h k n) (pc' : Nat) {y : MethodName} {index maxL W : Nat} {ret : Option FieldType} {rm : Room} {as' : Array Value} {ws' : List Addr} {Q : Option Value → Heap → Prop} {bc : ByteArray} {argsL rest : List Value} (hd : decode bytes pc = .ok (.invokestatic index, 3)) (hM : OMet l Z EL n0 y [Jvm.Cond.code y bc maxL ret] rm as' h ws' Q) (w1 : (Cond.methodLink own index y).before a0 Z = true) (w2 : (Cond.static y).before a0 Z = true) (wz : (Cond.initialized y.cls).before a0 Z = true) (wc : (Cond.code y bc maxL ret).before a0 Z = true) (hy : y.cls ≠ "java/lang/invoke/MethodHandle" ∧ y.cls ≠ "java/lang/invoke/VarHandle")
    (hlen : ∀ sig, parseMethodDescriptor y.desc = some sig → argsL.length = sig.parameters.length) (hst : st = argsL.reverse ++ rest) (has : argsL.toArray = as') (hsz : Ls.size = mx) (hW : (rest.map fun v => v.category).sum = W) (hf : rm.frames + 1 ≤ R.frames) (hl : W + (maxL + 11) + rm.locals ≤ R.locals) (hc : k + rm.cells ≤ R.cells) (hs : n + rm.slots ≤ R.slots) (hsv : ∀ x ∈ ws', x ∈ sv) (hq : pc' = pc + 3)
    (K : ∀ (T' : State) (h' : Heap) (v : Option Value), OSt Z EL a0 n0 h0 ws own bytes mx p l e R s m args below meth c sv T' h' (k + rm.cells) (n + rm.slots) → Keep h h' ws' → Q v h' → OGo p.tables e below P T' (mkF m pc' Ls (v.toList ++ rest))) : OGo p.tables e below P T (mkF m pc Ls st) := by
  subst hq
  obtain ⟨hx, hby, hml, eT, hlk, vm0, locs, Y, I⟩ := X
  have I0 := I
  obtain ⟨b1, b2, b3, b4, b5, b6, b7, b8, b9, b10, b11⟩ := I0
  have hS : ∀ x ∈ ws', x < h.size ∧ Safe Z EL vm0 h x := fun x hx => ⟨(b11 x (hsv x hx)).2.1, (b11 x (hsv x hx)).2.2.2⟩
  have hZ : Z.Warmed39 (s.setVm vm0).vm := b5
  have hW' : 2 * (mkF m pc Ls st).monitorRoom + (rest.map fun v => v.category).sum ≤ W := by show 2 * 0 + _ ≤ _; rw [hW]; omega
  by_cases hnil : EL = []
  · obtain ⟨v, vm₁, ⟨U, L', k', n'⟩, -, Y', ⟨L, ⟨q1, q2, q3⟩, l1, l2, l3⟩, stp⟩ := Jvm.LawKit.callS Y hx (y := y) (show (s.setVm vm0).vm.findClass own = _ from b6) (mvT hZ w1) (mvT hZ w2) (mvT hZ wz) (mvT hZ wc) hy (own_payN hnil hM b5 wc wz hf hl b7 b8.1 hS) (g := mkF m pc Ls st) rfl (by rw [hml]; exact hsz) (argsL := argsL) (rest := rest) hlen hst hW' (hb hby hd) (fun _ _ => ⟨has, eT, hc, hs⟩)
    dsimp only [Pt.U, Pt.locs, Pt.cells, Pt.slots] at Y' l1 l2 l3 q1 q2 q3 stp
    subst l1 l2 l3
    exact og stp (K U U.heap v ⟨hx, hby, hml, rfl, hlk, vm0, _, Y', I.keep q2 hsv q1⟩ q2 q3)
  · obtain ⟨v, vm₁, ⟨U, L', k', n'⟩, -, Y', S', g', ⟨L, ⟨q1, q2, q3⟩, l1, l2, l3, C⟩, stp⟩ := callSS Y hx (y := y) (show (s.setVm vm0).vm.findClass own = _ from b6) (mvT hZ w1) (mvT hZ w2) (mvT hZ wz) (mvT hZ wc) hy (own_payW hM b5 wc wz hf hl b7 b8.1 hS) (g := mkF m pc Ls st) rfl (by rw [hml]; exact hsz) (argsL := argsL) (rest := rest) hlen hst hW' (hb hby hd) (fun _ _ => ⟨has, eT, hc, hs⟩)
    dsimp only [Pt.U, Pt.locs, Pt.cells, Pt.slots] at Y' l1 l2 l3 q1 q2 q3 stp S' g' C
    subst l1 l2 l3
    exact og (fun _ q => stp.trans q) (K U U.heap v ⟨hx, hby, hml, rfl, hlk, U.vm, _, Y', I.call q2 hsv q1 C S' (fun q => absurd q hnil)⟩ q2 q3)
theorem own_spec (X : OSt Z EL a0 n0 h0 ws own bytes mx p l e R s m args below meth c sv T h k n) (pc' : Nat) {y : MethodName} {index maxL W : Nat} {rm : Room} {as' : Array Value} {ws' : List Addr} {Q : Option Value → Heap → Prop} {bc : ByteArray} {a : Addr} {argsL rest : List Value} (hd : decode bytes pc = .ok (.invokespecial index, 3)) (hy1 : y.name = "<init>") (hM : OMet l Z EL n0 y [Jvm.Cond.code y bc maxL none] rm as' h ws' Q) (w1 : (Cond.methodLink own index y).before a0 Z = true) (w2 : (Cond.instanceMethod y).before a0 Z = true) (wz : (Cond.initialized y.cls).before a0 Z = true) (wc : (Cond.code y bc maxL none).before a0 Z = true) (hy : y.cls ≠ "java/lang/invoke/MethodHandle" ∧ y.cls ≠ "java/lang/invoke/VarHandle")
    (hlen : ∀ sig, parseMethodDescriptor y.desc = some sig → argsL.length = sig.parameters.length) (hst : st = argsL.reverse ++ .ref a :: rest) (has : (.ref a :: argsL).toArray = as') (hsz : Ls.size = mx) (hW : (rest.map fun v => v.category).sum = W) (hf : rm.frames + 1 ≤ R.frames) (hl : W + (maxL + 11) + rm.locals ≤ R.locals) (hc : k + rm.cells ≤ R.cells) (hs : n + rm.slots ≤ R.slots) (hsv : ∀ x ∈ ws', x ∈ sv) (hq : pc' = pc + 3)
    (K : ∀ (T' : State) (h' : Heap) (v : Option Value), OSt Z EL a0 n0 h0 ws own bytes mx p l e R s m args below meth c sv T' h' (k + rm.cells) (n + rm.slots) → Keep h h' ws' → Q v h' → OGo p.tables e below P T' (mkF m pc' Ls (v.toList ++ rest))) : OGo p.tables e below P T (mkF m pc Ls st) := by
  subst hq
  obtain ⟨hx, hby, hml, eT, hlk, vm0, locs, Y, I⟩ := X
  have I0 := I
  obtain ⟨b1, b2, b3, b4, b5, b6, b7, b8, b9, b10, b11⟩ := I0
  have hS : ∀ x ∈ ws', x < h.size ∧ Safe Z EL vm0 h x := fun x hx => ⟨(b11 x (hsv x hx)).2.1, (b11 x (hsv x hx)).2.2.2⟩
  have hZ : Z.Warmed39 (s.setVm vm0).vm := b5
  have hW' : 2 * (mkF m pc Ls st).monitorRoom + (rest.map fun v => v.category).sum ≤ W := by show 2 * 0 + _ ≤ _; rw [hW]; omega
  by_cases hnil : EL = []
  · obtain ⟨v, vm₁, ⟨U, L', k', n'⟩, -, Y', ⟨L, ⟨q1, q2, q3⟩, l1, l2, l3⟩, stp⟩ := Y.specialBack hx (y := y) hy1 (show (s.setVm vm0).vm.findClass own = _ from b6) (mvT hZ w1) (mvT hZ w2) (mvT hZ wc) hy (own_payN hnil hM b5 wc wz hf hl b7 b8.1 hS) (g := mkF m pc Ls st) rfl (by rw [hml]; exact hsz) (Steps.refl _) (a := a) (argsL := argsL) (rest := rest) hlen hst hW' (hb hby hd) (fun _ _ => ⟨has, eT, hc, hs⟩)
    dsimp only [Pt.U, Pt.locs, Pt.cells, Pt.slots] at Y' l1 l2 l3 q1 q2 q3 stp
    subst l1 l2 l3
    exact og (fun _ q => stp.trans q) (K U U.heap v ⟨hx, hby, hml, rfl, hlk, vm0, _, Y', I.keep q2 hsv q1⟩ q2 q3)
  · obtain ⟨v, vm₁, ⟨U, L', k', n'⟩, -, Y', S', g', ⟨L, ⟨q1, q2, q3⟩, l1, l2, l3, C⟩, stp⟩ := Y.specialBackS hx (y := y) hy1 (show (s.setVm vm0).vm.findClass own = _ from b6) (mvT hZ w1) (mvT hZ w2) (mvT hZ wc) hy (own_payW hM b5 wc wz hf hl b7 b8.1 hS) (g := mkF m pc Ls st) rfl (by rw [hml]; exact hsz) (Steps.refl _) (a := a) (argsL := argsL) (rest := rest) hlen hst hW' (hb hby hd) (fun _ _ => ⟨has, eT, hc, hs⟩)
    dsimp only [Pt.U, Pt.locs, Pt.cells, Pt.slots] at Y' l1 l2 l3 q1 q2 q3 stp S' g' C
    subst l1 l2 l3
    exact og (fun _ q => stp.trans q) (K U U.heap v ⟨hx, hby, hml, rfl, hlk, U.vm, _, Y', I.call q2 hsv q1 C S' (fun q => absurd q hnil)⟩ q2 q3)
theorem own_virt (X : OSt Z EL a0 n0 h0 ws own bytes mx p l e R s m args below meth c sv T h k n) (pc' : Nat) {y z : MethodName} {C : String} {index maxL W : Nat} {ret : Option FieldType} {rm : Room} {as' : Array Value} {ws' : List Addr} {Q : Option Value → Heap → Prop} {bc : ByteArray} {a : Addr} {argsL rest : List Value} (hd : decode bytes pc = .ok (.invokevirtual index, 3)) (E : Exa Z h a C) (hnf : ∀ vm0, Z.Warmed39 (s.setVm vm0).vm → NotFace (s.setVm vm0) y) (hM : OMet l Z EL n0 z [Jvm.Cond.code z bc maxL ret] rm as' h ws' Q) (w1 : (Cond.methodLink own index y).before a0 Z = true) (w2 : (Cond.declares y).before a0 Z = true) (w3 : (Cond.selects C y z).before a0 Z = true) (w4 : (Cond.instanceMethod z).before a0 Z = true) (wz : (Cond.initialized z.cls).before a0 Z = true) (wc : (Cond.code z bc maxL ret).before a0 Z = true) (hy : y.cls ≠ "java/lang/invoke/MethodHandle" ∧ y.cls ≠ "java/lang/invoke/VarHandle")
    (hlen : ∀ sig, parseMethodDescriptor y.desc = some sig → argsL.length = sig.parameters.length) (hst : st = argsL.reverse ++ .ref a :: rest) (has : (.ref a :: argsL).toArray = as') (hsz : Ls.size = mx) (hW : (rest.map fun v => v.category).sum = W) (hf : rm.frames + 1 ≤ R.frames) (hl : W + (maxL + 11) + rm.locals ≤ R.locals) (hc : k + rm.cells ≤ R.cells) (hs : n + rm.slots ≤ R.slots) (hsv : ∀ x ∈ ws', x ∈ sv) (hq : pc' = pc + 3)
    (K : ∀ (T' : State) (h' : Heap) (v : Option Value), OSt Z EL a0 n0 h0 ws own bytes mx p l e R s m args below meth c sv T' h' (k + rm.cells) (n + rm.slots) → Keep h h' ws' → Q v h' → OGo p.tables e below P T' (mkF m pc' Ls (v.toList ++ rest))) : OGo p.tables e below P T (mkF m pc Ls st) := by
  subst hq
  obtain ⟨hx, hby, hml, eT, hlk, vm0, locs, Y, I⟩ := X
  have I0 := I
  obtain ⟨b1, b2, b3, b4, b5, b6, b7, b8, b9, b10, b11⟩ := I0
  have hS : ∀ x ∈ ws', x < h.size ∧ Safe Z EL vm0 h x := fun x hx => ⟨(b11 x (hsv x hx)).2.1, (b11 x (hsv x hx)).2.2.2⟩
  have hZ : Z.Warmed39 (s.setVm vm0).vm := b5
  have hW' : 2 * (mkF m pc Ls st).monitorRoom + (rest.map fun v => v.category).sum ≤ W := by show 2 * 0 + _ ≤ _; rw [hW]; omega
  obtain ⟨cq, kq, qa, qb, qc⟩ := isOf (s := s.setVm vm0) hZ eT E
  by_cases hnil : EL = []
  · obtain ⟨v, vm₁, ⟨U, L', k', n'⟩, -, Y', ⟨L, ⟨q1, q2, q3⟩, l1, l2, l3⟩, stp⟩ := Y.virtualBack hx (y := y) (z := z) (show (s.setVm vm0).vm.findClass own = _ from b6) (mvT hZ w1) (mvT hZ w2) (hnf vm0 hZ) (mvT hZ w3) (mvT hZ w4) hy (own_payN hnil hM b5 wc wz hf hl b7 b8.1 hS) qa qc (g := mkF m pc Ls st) rfl (by rw [hml]; exact hsz) (Steps.refl _) (argsL := argsL) (rest := rest) hlen hst hW' (hb hby hd) (fun _ _ => ⟨has, eT, hc, hs⟩)
    dsimp only [Pt.U, Pt.locs, Pt.cells, Pt.slots] at Y' l1 l2 l3 q1 q2 q3 stp
    subst l1 l2 l3
    exact og (fun _ q => stp.trans q) (K U U.heap v ⟨hx, hby, hml, rfl, hlk, vm0, _, Y', I.keep q2 hsv q1⟩ q2 q3)
  · obtain ⟨v, vm₁, ⟨U, L', k', n'⟩, -, Y', S', g', ⟨L, ⟨q1, q2, q3⟩, l1, l2, l3, C⟩, stp⟩ := Y.virtualBackS hx (y := y) (z := z) (show (s.setVm vm0).vm.findClass own = _ from b6) (mvT hZ w1) (mvT hZ w2) (hnf vm0 hZ) (mvT hZ w3) (mvT hZ w4) hy (own_payW hM b5 wc wz hf hl b7 b8.1 hS) qa qc (g := mkF m pc Ls st) rfl (by rw [hml]; exact hsz) (Steps.refl _) (argsL := argsL) (rest := rest) hlen hst hW' (hb hby hd) (fun _ _ => ⟨has, eT, hc, hs⟩)
    dsimp only [Pt.U, Pt.locs, Pt.cells, Pt.slots] at Y' l1 l2 l3 q1 q2 q3 stp S' g' C
    subst l1 l2 l3
    exact og (fun _ q => stp.trans q) (K U U.heap v ⟨hx, hby, hml, rfl, hlk, U.vm, _, Y', I.call q2 hsv q1 C S' (fun q => absurd q hnil)⟩ q2 q3)
theorem own_priv (X : OSt Z EL a0 n0 h0 ws own bytes mx p l e R s m args below meth c sv T h k n) (pc' : Nat) {y : MethodName} {C : String} {index maxL W : Nat} {ret : Option FieldType} {rm : Room} {as' : Array Value} {ws' : List Addr} {Q : Option Value → Heap → Prop} {bc : ByteArray} {a : Addr} {argsL rest : List Value} (hd : decode bytes pc = .ok (.invokevirtual index, 3)) (E : Exa Z h a C) (hM : OMet l Z EL n0 y [Jvm.Cond.code y bc maxL ret] rm as' h ws' Q) (w1 : (Cond.methodLink own index y).before a0 Z = true) (w2 : (Cond.instanceMethod y).before a0 Z = true) (w3 : (Cond.selects y.cls y y).before a0 Z = true) (w4 : (Cond.privateMethod y).before a0 Z = true) (wz : (Cond.initialized y.cls).before a0 Z = true) (wc : (Cond.code y bc maxL ret).before a0 Z = true) (hy : y.cls ≠ "java/lang/invoke/MethodHandle" ∧ y.cls ≠ "java/lang/invoke/VarHandle")
    (hlen : ∀ sig, parseMethodDescriptor y.desc = some sig → argsL.length = sig.parameters.length) (hst : st = argsL.reverse ++ .ref a :: rest) (has : (.ref a :: argsL).toArray = as') (hsz : Ls.size = mx) (hW : (rest.map fun v => v.category).sum = W) (hf : rm.frames + 1 ≤ R.frames) (hl : W + (maxL + 11) + rm.locals ≤ R.locals) (hc : k + rm.cells ≤ R.cells) (hs : n + rm.slots ≤ R.slots) (hsv : ∀ x ∈ ws', x ∈ sv) (hq : pc' = pc + 3)
    (K : ∀ (T' : State) (h' : Heap) (v : Option Value), OSt Z EL a0 n0 h0 ws own bytes mx p l e R s m args below meth c sv T' h' (k + rm.cells) (n + rm.slots) → Keep h h' ws' → Q v h' → OGo p.tables e below P T' (mkF m pc' Ls (v.toList ++ rest))) : OGo p.tables e below P T (mkF m pc Ls st) := by
  subst hq
  obtain ⟨hx, hby, hml, eT, hlk, vm0, locs, Y, I⟩ := X
  have I0 := I
  obtain ⟨b1, b2, b3, b4, b5, b6, b7, b8, b9, b10, b11⟩ := I0
  have hS : ∀ x ∈ ws', x < h.size ∧ Safe Z EL vm0 h x := fun x hx => ⟨(b11 x (hsv x hx)).2.1, (b11 x (hsv x hx)).2.2.2⟩
  have hZ : Z.Warmed39 (s.setVm vm0).vm := b5
  have hW' : 2 * (mkF m pc Ls st).monitorRoom + (rest.map fun v => v.category).sum ≤ W := by show 2 * 0 + _ ≤ _; rw [hW]; omega
  obtain ⟨cq, q0, q0'⟩ := E.cell
  by_cases hnil : EL = []
  · obtain ⟨v, vm₁, ⟨U, L', k', n'⟩, -, Y', ⟨L, ⟨q1, q2, q3⟩, l1, l2, l3⟩, stp⟩ := Y.privateBack hx (y := y) (show (s.setVm vm0).vm.findClass own = _ from b6) (mvT hZ w1) (mvT hZ w2) (mvT hZ w3) (Cond.privateMethod_at (mvP hZ w4 (args := #[]))) (mvT hZ wc) hy (own_payN hnil hM b5 wc wz hf hl b7 b8.1 hS) (g := mkF m pc Ls st) rfl (by rw [hml]; exact hsz) (Steps.refl _) (a := a) (by rw [eT]; exact q0) q0' (argsL := argsL) (rest := rest) hlen hst hW' (hb hby hd) (fun _ _ => ⟨has, eT, hc, hs⟩)
    dsimp only [Pt.U, Pt.locs, Pt.cells, Pt.slots] at Y' l1 l2 l3 q1 q2 q3 stp
    subst l1 l2 l3
    exact og (fun _ q => stp.trans q) (K U U.heap v ⟨hx, hby, hml, rfl, hlk, vm0, _, Y', I.keep q2 hsv q1⟩ q2 q3)
  · obtain ⟨v, vm₁, ⟨U, L', k', n'⟩, -, Y', S', g', ⟨L, ⟨q1, q2, q3⟩, l1, l2, l3, C⟩, stp⟩ := Y.privateBackS hx (y := y) (show (s.setVm vm0).vm.findClass own = _ from b6) (mvT hZ w1) (mvT hZ w2) (mvT hZ w3) (Cond.privateMethod_at (mvP hZ w4 (args := #[]))) (mvT hZ wc) hy (own_payW hM b5 wc wz hf hl b7 b8.1 hS) (g := mkF m pc Ls st) rfl (by rw [hml]; exact hsz) (Steps.refl _) (a := a) (by rw [eT]; exact q0) q0' (argsL := argsL) (rest := rest) hlen hst hW' (hb hby hd) (fun _ _ => ⟨has, eT, hc, hs⟩)
    dsimp only [Pt.U, Pt.locs, Pt.cells, Pt.slots] at Y' l1 l2 l3 q1 q2 q3 stp S' g' C
    subst l1 l2 l3
    exact og (fun _ q => stp.trans q) (K U U.heap v ⟨hx, hby, hml, rfl, hlk, U.vm, _, Y', I.call q2 hsv q1 C S' (fun q => absurd q hnil)⟩ q2 q3)
theorem own_specB (X : OSt Z EL a0 n0 h0 ws own bytes mx p l e R s m args below meth c sv T h k n) (pc' : Nat) {y : MethodName} {index maxL W rc rs : Nat} {as' : Array Value} {ws' : List Addr} {Q : Option Value → Heap → List Loc → Prop} {bc : ByteArray} {a : Addr} {argsL rest : List Value} (hd : decode bytes pc = .ok (.invokespecial index, 3)) (hy1 : y.name = "<init>")
    (hK : ∀ vm0, Z.Warmed39 (s.setVm vm0).vm → Back l R p e below (s.setVm vm0) args y 3 W (fun A a => a = as' ∧ A.U.heap = h ∧ A.cells + rc ≤ R.cells ∧ A.slots + rs ≤ R.slots) (fun A _ v B => ∃ L, Q v B.U.heap L ∧ B.locs = A.locs ++ L ∧ B.cells = A.cells + rc ∧ B.slots = A.slots + rs)) (hQ : ∀ v h' L, Q v h' L → Fr n0 L ∧ Keep h h' ws')
    (w1 : (Cond.methodLink own index y).before a0 Z = true) (w2 : (Cond.instanceMethod y).before a0 Z = true) (wc : (Cond.code y bc maxL none).before a0 Z = true) (hy : y.cls ≠ "java/lang/invoke/MethodHandle" ∧ y.cls ≠ "java/lang/invoke/VarHandle")
    (hlen : ∀ sig, parseMethodDescriptor y.desc = some sig → argsL.length = sig.parameters.length) (hst : st = argsL.reverse ++ .ref a :: rest) (has : (.ref a :: argsL).toArray = as') (hsz : Ls.size = mx) (hW : (rest.map fun v => v.category).sum = W) (hc : k + rc ≤ R.cells) (hs : n + rs ≤ R.slots) (hsv : ∀ x ∈ ws', x ∈ sv) (hq : pc' = pc + 3)
    (K : ∀ (T' : State) (h' : Heap) (v : Option Value) (L : List Loc), OSt Z EL a0 n0 h0 ws own bytes mx p l e R s m args below meth c sv T' h' (k + rc) (n + rs) → Keep h h' ws' → Q v h' L → OGo p.tables e below P T' (mkF m pc' Ls (v.toList ++ rest))) : OGo p.tables e below P T (mkF m pc Ls st) := by
  subst hq
  obtain ⟨hx, hby, hml, eT, hlk, vm0, locs, Y, I⟩ := X
  have hZ : Z.Warmed39 (s.setVm vm0).vm := I.2.2.2.2.1
  have hW' : 2 * (mkF m pc Ls st).monitorRoom + (rest.map fun v => v.category).sum ≤ W := by show 2 * 0 + _ ≤ _; rw [hW]; omega
  obtain ⟨v, vm₁, ⟨U, L', k', n'⟩, -, Y', ⟨L, q, l1, l2, l3⟩, stp⟩ := Y.specialBack hx (y := y) hy1 (show (s.setVm vm0).vm.findClass own = _ from I.2.2.2.2.2.1) (mvT hZ w1) (mvT hZ w2) (mvT hZ wc) hy (hK vm0 hZ) (g := mkF m pc Ls st) rfl (by rw [hml]; exact hsz) (Steps.refl _) (a := a) (argsL := argsL) (rest := rest) hlen hst hW' (hb hby hd) (fun _ _ => ⟨has, eT, hc, hs⟩)
  dsimp only [Pt.U, Pt.locs, Pt.cells, Pt.slots] at Y' l1 l2 l3 q stp
  subst l1 l2 l3
  exact og (fun _ q => stp.trans q) (K U U.heap v L ⟨hx, hby, hml, rfl, hlk, vm0, _, Y', I.keep (hQ _ _ _ q).2 hsv (hQ _ _ _ q).1⟩ (hQ _ _ _ q).2 q)
theorem own_virtB (X : OSt Z EL a0 n0 h0 ws own bytes mx p l e R s m args below meth c sv T h k n) (pc' : Nat) {y z : MethodName} {C : String} {index W rc rs : Nat} {as' : Array Value} {ws' : List Addr} {Q : Option Value → Heap → List Loc → Prop} {a : Addr} {argsL rest : List Value} (hd : decode bytes pc = .ok (.invokevirtual index, 3)) (E : Exa Z h a C) (hnf : ∀ vm0, Z.Warmed39 (s.setVm vm0).vm → NotFace (s.setVm vm0) y)
    (hK : ∀ vm0, Z.Warmed39 (s.setVm vm0).vm → Back l R p e below (s.setVm vm0) args z 3 W (fun A a => a = as' ∧ A.U.heap = h ∧ A.cells + rc ≤ R.cells ∧ A.slots + rs ≤ R.slots) (fun A _ v B => ∃ L, Q v B.U.heap L ∧ B.locs = A.locs ++ L ∧ B.cells = A.cells + rc ∧ B.slots = A.slots + rs)) (hQ : ∀ v h' L, Q v h' L → Fr n0 L ∧ Keep h h' ws')
    (w1 : (Cond.methodLink own index y).before a0 Z = true) (w2 : (Cond.declares y).before a0 Z = true) (w3 : (Cond.selects C y z).before a0 Z = true) (w4 : (Cond.instanceMethod z).before a0 Z = true) (hy : y.cls ≠ "java/lang/invoke/MethodHandle" ∧ y.cls ≠ "java/lang/invoke/VarHandle")
    (hlen : ∀ sig, parseMethodDescriptor y.desc = some sig → argsL.length = sig.parameters.length) (hst : st = argsL.reverse ++ .ref a :: rest) (has : (.ref a :: argsL).toArray = as') (hsz : Ls.size = mx) (hW : (rest.map fun v => v.category).sum = W) (hc : k + rc ≤ R.cells) (hs : n + rs ≤ R.slots) (hsv : ∀ x ∈ ws', x ∈ sv) (hq : pc' = pc + 3)
    (K : ∀ (T' : State) (h' : Heap) (v : Option Value) (L : List Loc), OSt Z EL a0 n0 h0 ws own bytes mx p l e R s m args below meth c sv T' h' (k + rc) (n + rs) → Keep h h' ws' → Q v h' L → OGo p.tables e below P T' (mkF m pc' Ls (v.toList ++ rest))) : OGo p.tables e below P T (mkF m pc Ls st) := by
  subst hq
  obtain ⟨hx, hby, hml, eT, hlk, vm0, locs, Y, I⟩ := X
  have hZ : Z.Warmed39 (s.setVm vm0).vm := I.2.2.2.2.1
  have hW' : 2 * (mkF m pc Ls st).monitorRoom + (rest.map fun v => v.category).sum ≤ W := by show 2 * 0 + _ ≤ _; rw [hW]; omega
  obtain ⟨cq, kq, qa, qb, qc⟩ := isOf (s := s.setVm vm0) hZ eT E
  obtain ⟨v, vm₁, ⟨U, L', k', n'⟩, -, Y', ⟨L, q, l1, l2, l3⟩, stp⟩ := Y.virtualBack hx (y := y) (z := z) (show (s.setVm vm0).vm.findClass own = _ from I.2.2.2.2.2.1) (mvT hZ w1) (mvT hZ w2) (hnf vm0 hZ) (mvT hZ w3) (mvT hZ w4) hy (hK vm0 hZ) qa qc (g := mkF m pc Ls st) rfl (by rw [hml]; exact hsz) (Steps.refl _) (argsL := argsL) (rest := rest) hlen hst hW' (hb hby hd) (fun _ _ => ⟨has, eT, hc, hs⟩)
  dsimp only [Pt.U, Pt.locs, Pt.cells, Pt.slots] at Y' l1 l2 l3 q stp
  subst l1 l2 l3
  exact og (fun _ q => stp.trans q) (K U U.heap v L ⟨hx, hby, hml, rfl, hlk, vm0, _, Y', I.keep (hQ _ _ _ q).2 hsv (hQ _ _ _ q).1⟩ (hQ _ _ _ q).2 q)
theorem own_svb (X : OSt Z EL a0 n0 h0 ws own bytes mx p l e R s m args below meth c sv T h k n) {a : Addr} (ha : a ∈ sv) : n0 ≤ a ∧ a < h.size := by
  obtain ⟨-, -, -, -, -, _, _, -, -, -, -, -, -, -, -, -, -, -, q⟩ := X
  exact ⟨(q a ha).1, (q a ha).2.1⟩
theorem own_fitR {t : FieldType} {w : Value} (ht : t.isReference = true) (hw : w.isRef = true) : fits t w = true := by
  rcases ref_cases hw with rfl | ⟨a, rfl⟩ <;> cases t <;> first | rfl | cases ht
theorem own_sto {a y : Addr} {kb : ClassId} {ty : FieldType} {z : Int32} {vs : List Value} {dv : Value} {C : String} (A : Arv Z h a kb ty z vs dv) (O : Ovr Z kb C) (i : Ins Z h y C true) : Sto Z h a (.ref y) := by
  obtain ⟨cl, Ar, q, -⟩ := A
  exact Sto.ofV Ar q O i
theorem own_face (X : OSt Z EL a0 n0 h0 ws own bytes mx p l e R s m args below meth c sv T h k n) (pc' : Nat) {y z : MethodName} {C : String} {index count maxL W : Nat} {ret : Option FieldType} {rm : Room} {as' : Array Value} {ws' : List Addr} {Q : Option Value → Heap → Prop} {bc : ByteArray} {a : Addr} {argsL rest : List Value} (hd : decode bytes pc = .ok (.invokeinterface index count, 5)) (E : Exa Z h a C) (hM : OMet l Z EL n0 z [Jvm.Cond.code z bc maxL ret] rm as' h ws' Q) (w1 : (Cond.methodLink own index y).before a0 Z = true) (w2 : (Cond.declares y).before a0 Z = true) (w3 : (Cond.interfaceMethod y.cls y.cls y.name y.desc).before a0 Z = true) (w4 : (Cond.selects C y z).before a0 Z = true) (w5 : (Cond.instanceMethod z).before a0 Z = true) (w6 : (Cond.publicMethod z).before a0 Z = true) (w7 : (Cond.unhidden C y.name y.desc).before a0 Z = true) (w8 : (Cond.castable C y.cls).before a0 Z = true) (wz : (Cond.initialized z.cls).before a0 Z = true) (wc : (Cond.code z bc maxL ret).before a0 Z = true) (hy : y.cls ≠ "java/lang/invoke/MethodHandle" ∧ y.cls ≠ "java/lang/invoke/VarHandle")
    (hlen : ∀ sig, parseMethodDescriptor y.desc = some sig → argsL.length = sig.parameters.length) (hst : st = argsL.reverse ++ .ref a :: rest) (has : (.ref a :: argsL).toArray = as') (hsz : Ls.size = mx) (hW : (rest.map fun v => v.category).sum = W) (hf : rm.frames + 1 ≤ R.frames) (hl : W + (maxL + 11) + rm.locals ≤ R.locals) (hc : k + rm.cells ≤ R.cells) (hs : n + rm.slots ≤ R.slots) (hsv : ∀ x ∈ ws', x ∈ sv) (hq : pc' = pc + 5)
    (K : ∀ (T' : State) (h' : Heap) (v : Option Value), OSt Z EL a0 n0 h0 ws own bytes mx p l e R s m args below meth c sv T' h' (k + rm.cells) (n + rm.slots) → Keep h h' ws' → Q v h' → OGo p.tables e below P T' (mkF m pc' Ls (v.toList ++ rest))) : OGo p.tables e below P T (mkF m pc Ls st) := by
  subst hq
  obtain ⟨hx, hby, hml, eT, hlk, vm0, locs, Y, I⟩ := X
  have I0 := I
  obtain ⟨b1, b2, b3, b4, b5, b6, b7, b8, b9, b10, b11⟩ := I0
  have hS : ∀ x ∈ ws', x < h.size ∧ Safe Z EL vm0 h x := fun x hx => ⟨(b11 x (hsv x hx)).2.1, (b11 x (hsv x hx)).2.2.2⟩
  have hZ : Z.Warmed39 (s.setVm vm0).vm := b5
  have hW' : 2 * (mkF m pc Ls st).monitorRoom + (rest.map fun v => v.category).sum ≤ W := by show 2 * 0 + _ ≤ _; rw [hW]; omega
  obtain ⟨cq, kq, qa, qb, qc⟩ := isOf (s := s.setVm vm0) hZ eT E
  by_cases hnil : EL = []
  · obtain ⟨v, vm₁, ⟨U, L', k', n'⟩, -, Y', ⟨L, ⟨q1, q2, q3⟩, l1, l2, l3⟩, stp⟩ := Y.interfaceBack hx (xi := y) (y := z) (show (s.setVm vm0).vm.findClass own = _ from b6) (mvT hZ w1 (by first | rfl | decide | simp [Cond.onTables, Cond.keepsFace, Cond.keeps, Cond.steady, Cond.faceAtom, hy.1, hy.2])) (mvT hZ w2 (by first | rfl | decide | simp [Cond.onTables, Cond.keepsFace, Cond.keeps, Cond.steady, Cond.faceAtom, hy.1, hy.2])) (mvT hZ w3 (by first | rfl | decide | simp [Cond.onTables, Cond.keepsFace, Cond.keeps, Cond.steady, Cond.faceAtom, hy.1, hy.2])) (mvT hZ w4 (by first | rfl | decide | simp [Cond.onTables, Cond.keepsFace, Cond.keeps, Cond.steady, Cond.faceAtom, hy.1, hy.2])) (mvT hZ w5 (by first | rfl | decide | simp [Cond.onTables, Cond.keepsFace, Cond.keeps, Cond.steady, Cond.faceAtom, hy.1, hy.2])) (mvT hZ w6 (by first | rfl | decide | simp [Cond.onTables, Cond.keepsFace, Cond.keeps, Cond.steady, Cond.faceAtom, hy.1, hy.2])) (mvT hZ w7 (by first | rfl | decide | simp [Cond.onTables, Cond.keepsFace, Cond.keeps, Cond.steady, Cond.faceAtom, hy.1, hy.2])) (mvT hZ w8 (by first | rfl | decide | simp [Cond.onTables, Cond.keepsFace, Cond.keeps, Cond.steady, Cond.faceAtom, hy.1, hy.2])) hy (own_payN hnil hM b5 wc wz hf hl b7 b8.1 hS) qa qb qc (g := mkF m pc Ls st) rfl (by rw [hml]; exact hsz) (Steps.refl _) (argsL := argsL) (rest := rest) hlen hst hW' (hb hby hd) (fun _ _ => ⟨has, eT, hc, hs⟩)
    dsimp only [Pt.U, Pt.locs, Pt.cells, Pt.slots] at Y' l1 l2 l3 q1 q2 q3 stp
    subst l1 l2 l3
    exact og (fun _ q => stp.trans q) (K U U.heap v ⟨hx, hby, hml, rfl, hlk, vm0, _, Y', I.keep q2 hsv q1⟩ q2 q3)
  · obtain ⟨v, vm₁, ⟨U, L', k', n'⟩, -, Y', S', g', ⟨L, ⟨q1, q2, q3⟩, l1, l2, l3, C⟩, stp⟩ := Y.interfaceBackS hx (xi := y) (y := z) (show (s.setVm vm0).vm.findClass own = _ from b6) (mvT hZ w1 (by first | rfl | decide | simp [Cond.onTables, Cond.keepsFace, Cond.keeps, Cond.steady, Cond.faceAtom, hy.1, hy.2])) (mvT hZ w2 (by first | rfl | decide | simp [Cond.onTables, Cond.keepsFace, Cond.keeps, Cond.steady, Cond.faceAtom, hy.1, hy.2])) (mvT hZ w3 (by first | rfl | decide | simp [Cond.onTables, Cond.keepsFace, Cond.keeps, Cond.steady, Cond.faceAtom, hy.1, hy.2])) (mvT hZ w4 (by first | rfl | decide | simp [Cond.onTables, Cond.keepsFace, Cond.keeps, Cond.steady, Cond.faceAtom, hy.1, hy.2])) (mvT hZ w5 (by first | rfl | decide | simp [Cond.onTables, Cond.keepsFace, Cond.keeps, Cond.steady, Cond.faceAtom, hy.1, hy.2])) (mvT hZ w6 (by first | rfl | decide | simp [Cond.onTables, Cond.keepsFace, Cond.keeps, Cond.steady, Cond.faceAtom, hy.1, hy.2])) (mvT hZ w7 (by first | rfl | decide | simp [Cond.onTables, Cond.keepsFace, Cond.keeps, Cond.steady, Cond.faceAtom, hy.1, hy.2])) (mvT hZ w8 (by first | rfl | decide | simp [Cond.onTables, Cond.keepsFace, Cond.keeps, Cond.steady, Cond.faceAtom, hy.1, hy.2])) hy (own_payW hM b5 wc wz hf hl b7 b8.1 hS) qa qb qc (g := mkF m pc Ls st) rfl (by rw [hml]; exact hsz) (Steps.refl _) (argsL := argsL) (rest := rest) hlen hst hW' (hb hby hd) (fun _ _ => ⟨has, eT, hc, hs⟩)
    dsimp only [Pt.U, Pt.locs, Pt.cells, Pt.slots] at Y' l1 l2 l3 q1 q2 q3 stp S' g' C
    subst l1 l2 l3
    exact og (fun _ q => stp.trans q) (K U U.heap v ⟨hx, hby, hml, rfl, hlk, U.vm, _, Y', I.call q2 hsv q1 C S' (fun q => absurd q hnil)⟩ q2 q3)
theorem own_ldcO (X : OSt Z EL a0 n0 h0 ws own bytes mx p l e R s m args below meth c sv T h k n) (pc' : Nat) {index cap : Nat} {text : String} (hd : decode bytes pc = .ok (.ldc index, 2)) (hne : EL ≠ []) (w : (Cond.stringLink own index text).before a0 Z = true) (wS : ∀ a ∈ Bundle.stringAtoms, a.before a0 Z = true) (hcap : 4 * text.toList.length ≤ cap) (hbig : cap ≤ 536870912) (hc : k + 2 ≤ R.cells) (hl : n + (cap + 4) ≤ R.slots) (hq : pc' = pc + 2)
    (K : ∀ (T' : State) (h' : Heap) (a : Addr), OSt Z EL a0 n0 h0 ws own bytes mx p l e R s m args below meth c sv T' h' (k + 2) (n + (cap + 4)) → Keep h h' [] → OGo p.tables e below P T' (mkF m pc' Ls (.ref a :: st))) : OGo p.tables e below P T (mkF m pc Ls st) := by
  subst hq
  obtain ⟨hx, hby, hml, eT, hlk, vm0, locs, Y, I⟩ := X
  have I0 := I
  obtain ⟨b1, b2, b3, ⟨k0, b4, b4'⟩, b5, b6, b7, b8, b9, b10, b11⟩ := I0
  obtain ⟨a, T', h', k1, Y', e', E, S', hk', hZ', hown', C, -, stp⟩ := ldcOH Y hx b5 b6 w wS eT b4 b4' b7 b8.1 (g := mkF m pc Ls st) rfl (hb hby hd) hcap hbig hc hl
  have hZ' : Z.Warmed39 T'.vm := hZ'
  refine og stp (K T' h' a ⟨hx, hby, hml, e', hlk, T'.vm, locs, Y', b1, b2.ext E, b3.ext E, ⟨k1, S', hk'⟩, hZ', hown', b7, b8.trans C, fun q => absurd q hne, b10, fun x hx => ?_⟩ ((Keep.refl _ _).ext E))
  exact ⟨(b11 x hx).1, Nat.lt_of_lt_of_le (b11 x hx).2.1 E.1, (b11 x hx).2.2.1, C.safe (b11 x hx).2.1 (b11 x hx).2.2.2⟩
theorem own_ldcR (X : OSt Z EL a0 n0 h0 ws own bytes mx p l e R s m args below meth c sv T h k n) (pc' : Nat) {index cap : Nat} {text : String} {vs : List Value} {z : Int32} (hd : decode bytes pc = .ok (.ldc index, 2)) (hmem : (own, index) ∈ EL) (w : (Cond.stringLink own index text).before a0 Z = true) (wS : ∀ a ∈ Bundle.stringAtoms, a.before a0 Z = true) (ht : (∀ c ∈ text.toList, c.toNat < 256) ∧ text.toList.map (fun c => Value.int (Jvm.Lit.byteI c.toNat.toUInt16)) = vs) (hz : ¬ z < 0) (hlz : z.toNatClampNeg = vs.length) (hcap : 4 * text.toList.length ≤ cap) (hbig : cap ≤ 536870912) (hc : k + 2 ≤ R.cells) (hl : n + (cap + 4) ≤ R.slots) (hq : pc' = pc + 2)
    (K : ∀ (T' : State) (h' : Heap) (a b : Addr) (kb : ClassId), OSt Z EL a0 n0 h0 ws own bytes mx p l e R s m args below meth c sv T' h' (k + 2) (n + (cap + 4)) → Keep h h' [] → Exa Z h' a "java/lang/String" → Fld Z h' a "java/lang/String" "coder" "B" (.int 0) → Fld Z h' a "java/lang/String" "value" "[B" (.ref b) → Arv Z h' b kb .byte z vs (.int 0) → (∀ x ∈ sv, x ≠ a ∧ x ≠ b) → OGo p.tables e below P T' (mkF m pc' Ls (.ref a :: st))) : OGo p.tables e below P T (mkF m pc Ls st) := by
  subst hq
  obtain ⟨hx, hby, hml, eT, hlk, vm0, locs, Y, I⟩ := X
  have I0 := I
  obtain ⟨b1, b2, b3, ⟨k0, b4, b4'⟩, b5, b6, b7, b8, b9, b10, b11⟩ := I0
  obtain ⟨a, T', h', k1, b, kb, Y', e', E, S', hk', hZ', hown', r1, r2, r3, r4, r5, r6, C, -, far, stp⟩ := ldcCH Y hx b5 b6 w wS eT b4 b4' b7 hmem b8.1 ht hz hlz (g := mkF m pc Ls st) rfl (hb hby hd) hcap hbig hc hl
  have hZ' : Z.Warmed39 T'.vm := hZ'
  have sf : ∀ x ∈ sv, Safe Z EL T'.vm h' x := fun x hx => C.safe (b11 x hx).2.1 (b11 x hx).2.2.2
  refine og stp (K T' h' a b kb ⟨hx, hby, hml, e', hlk, T'.vm, locs, Y', b1, b2.ext E, b3.ext E, ⟨k1, S', hk'⟩, hZ', hown', b7, b8.trans C, fun q => ?_, b10, fun x hx => ?_⟩ ((Keep.refl _ _).ext E) r1 r2 r3 r4 fun x hx => far x (sf x hx))
  · rw [q] at hmem; cases hmem
  · exact ⟨(b11 x hx).1, Nat.lt_of_lt_of_le (b11 x hx).2.1 E.1, (b11 x hx).2.2.1, sf x hx⟩
theorem own_n0 (X : OSt Z EL a0 n0 h0 ws own bytes mx p l e R s m args below meth c sv T h k n) : n0 ≤ h.size := X.old.1 ▸ X.old.2.1
theorem own_svE (X : OSt Z EL a0 n0 h0 ws own bytes mx p l e R s m args below meth c sv T h k n) {r : Addr} {C : String} (E : Exa Z h r C) (h1 : C ≠ "java/lang/String") (h2 : C ≠ "[B") (hn : n0 ≤ r) (hg : h0.size ≤ r) : OSt Z EL a0 n0 h0 ws own bytes mx p l e R s m args below meth c (r :: sv) T h k n := by
  obtain ⟨a1, a2, a3, a4, a5, vm0, locs, Y, b1, b2, b3, b4, b5, b6, b7, b8, b9, b10, b11⟩ := X
  refine ⟨a1, a2, a3, a4, a5, vm0, locs, Y, b1, b2, b3, b4, b5, b6, b7, b8, b9, b10, fun x hx => ?_⟩
  rcases List.mem_cons.mp hx with rfl | hx
  · exact ⟨hn, E.lt, Or.inr hg, Safe.exa b5.alike E h1 h2⟩
  · exact b11 x hx
theorem own_svA (X : OSt Z EL a0 n0 h0 ws own bytes mx p l e R s m args below meth c sv T h k n) {r : Addr} {kb : ClassId} {ty : FieldType} {z : Int32} {vs : List Value} {dv : Value} (A : Arv Z h r kb ty z vs dv) (h1 : ty ≠ .byte) (hn : n0 ≤ r) (hg : h0.size ≤ r) : OSt Z EL a0 n0 h0 ws own bytes mx p l e R s m args below meth c (r :: sv) T h k n := by
  obtain ⟨a1, a2, a3, a4, a5, vm0, locs, Y, b1, b2, b3, b4, b5, b6, b7, b8, b9, b10, b11⟩ := X
  refine ⟨a1, a2, a3, a4, a5, vm0, locs, Y, b1, b2, b3, b4, b5, b6, b7, b8, b9, b10, fun x hx => ?_⟩
  rcases List.mem_cons.mp hx with rfl | hx
  · exact ⟨hn, A.lt, Or.inr hg, Safe.arv b5.alike A h1⟩
  · exact b11 x hx
theorem own_arr0 {args : Array Value} {C nm d AK B : String} (w1 : (Jvm.Cond.exactly (Term.static C nm d) AK).before args Z = true) (w2 : (Jvm.Cond.arrayOf (Term.static C nm d) (.object B)).before args Z = true) (w3 : (Jvm.Cond.eq (.length (Term.static C nm d)) (.int 0)).before args Z = true) (hi : (Jvm.Cond.initializedFor C nm d).before args Z = true ∨ ((Jvm.Cond.initialized C).before args Z = true ∧ (Jvm.Cond.laysStatic C nm d).before args Z = true)) :
    Sta Z Z.heap C nm d (.ref (own_sta Z C nm d)) ∧ ∃ ck : ClassId, Arv Z Z.heap (own_sta Z C nm d) ck (.object B) 0 [] .null := by
  obtain ⟨a, f⟩ := exa_v (Cond.before_iff.mp w1)
  obtain ⟨c, A⟩ := Arr.start f (Cond.before_iff.mp w2)
  rw [own_sta_of f]
  have hl : (Term.length (Term.static C nm d)).eval args Z none [] Z = some (.int 0) := Cond.eq_int w3 rfl
  have hA := A.fin (Vm.Alike.refl _)
  have hl2 : (if c.slots.size < 2 ^ 31 then some (Value.int c.slots.size.toInt32) else none) = some (.int 0) := by
    rw [← hl]; simp [Term.eval] at f ⊢; simp [f, hA]
  have q : c.slots.size < 2 ^ 31 := by
    by_cases q : c.slots.size < 2 ^ 31
    · exact q
    · rw [if_neg q] at hl2; cases hl2
  rw [if_pos q] at hl2
  have e : c.slots.size.toInt32 = 0 := by simpa using hl2
  have e0 : c.slots.size = 0 := by
    have := len_toInt q
    rw [e] at this
    have z : (0 : Int32).toInt = 0 := rfl
    omega
  exact ⟨Sta.start f hi, c.cls, c, A, rfl, by rw [e0]; rfl, by decide, fun k hk => by omega, fun k hk => by omega⟩
end OwnKit
def own_EL : List (String × Nat) := []
def OWorld (Z : State) (a0 : Array Value) : Prop := EW Z a0 own_EL ∧ (Sta Z Z.heap "java/lang/String" "COMPACT_STRINGS" "Z" (.int (own_sti Z "java/lang/String" "COMPACT_STRINGS" "Z")) ∧ ¬ (own_sti Z "java/lang/String" "COMPACT_STRINGS" "Z") = 0) ∧ (Sta Z Z.heap "java/util/ArrayList" "DEFAULTCAPACITY_EMPTY_ELEMENTDATA" "[Ljava/lang/Object;" (.ref (own_sta Z "java/util/ArrayList" "DEFAULTCAPACITY_EMPTY_ELEMENTDATA" "[Ljava/lang/Object;")) ∧ ∃ ck : ClassId, Arv Z Z.heap (own_sta Z "java/util/ArrayList" "DEFAULTCAPACITY_EMPTY_ELEMENTDATA" "[Ljava/lang/Object;") ck (.object "java/lang/Object") 0 [] .null)
theorem ef_rm9 (a : Addr) (m : MethodId) : entryFrame m #[(.ref a)] 1 = mkF m 0 #[.val (.ref a)] [] := by first | (simp [entryFrame, mkF, argsToLocals, Value.category, maxLocals]; done) | rfl
theorem pn_java_util_AbstractCollection__init____V : plainFor (⟨"java/util/AbstractCollection", "<init>", "()V"⟩ : MethodName) = true := by first | exact plainFor_of_name (by first | (simp [plainName, overriddenIn]; done) | decide +kernel) | decide +kernel
theorem d9_0 : decode jdk_22_method_1_code 0 = .ok (.aload_n 0, 1) := by decide +kernel
theorem d9_1 : decode jdk_22_method_1_code 1 = .ok (.invokespecial 1, 3) := by decide +kernel
theorem d9_4 : decode jdk_22_method_1_code 4 = .ok (.return_, 1) := by decide +kernel
theorem ef_rm8 (a : Addr) (x : Int32) (y : Value) (z : Int32) (m : MethodId) : entryFrame m #[(.ref a)] 1 = mkF m 0 #[.val (.ref a)] [] := by first | (simp [entryFrame, mkF, argsToLocals, Value.category, maxLocals]; done) | rfl
theorem pn_java_util_AbstractList__init____V : plainFor (⟨"java/util/AbstractList", "<init>", "()V"⟩ : MethodName) = true := by first | exact plainFor_of_name (by first | (simp [plainName, overriddenIn]; done) | decide +kernel) | decide +kernel
theorem d8_0 : decode jdk_39_method_1_code 0 = .ok (.aload_n 0, 1) := by decide +kernel
theorem d8_1 : decode jdk_39_method_1_code 1 = .ok (.invokespecial 1, 3) := by decide +kernel
theorem pd__28_29V : parseMethodDescriptor "()V" = some ⟨[], none⟩ := by decide +kernel
theorem d8_4 : decode jdk_39_method_1_code 4 = .ok (.aload_n 0, 1) := by decide +kernel
theorem d8_5 : decode jdk_39_method_1_code 5 = .ok (.iconst 0, 1) := by decide +kernel
theorem d8_6 : decode jdk_39_method_1_code 6 = .ok (.putfield 7, 3) := by decide +kernel
theorem d8_9 : decode jdk_39_method_1_code 9 = .ok (.return_, 1) := by decide +kernel
theorem ef_rm7 (a : Addr) (x : Int32) (y : Value) (z : Int32) (m : MethodId) : entryFrame m #[(.ref a)] 1 = mkF m 0 #[.val (.ref a)] [] := by first | (simp [entryFrame, mkF, argsToLocals, Value.category, maxLocals]; done) | rfl
theorem pn_java_util_ArrayList__init____V : plainFor (⟨"java/util/ArrayList", "<init>", "()V"⟩ : MethodName) = true := by first | exact plainFor_of_name (by first | (simp [plainName, overriddenIn]; done) | decide +kernel) | decide +kernel
theorem d7_0 : decode jdk_38_method_2_code 0 = .ok (.aload_n 0, 1) := by decide +kernel
theorem d7_1 : decode jdk_38_method_2_code 1 = .ok (.invokespecial 1, 3) := by decide +kernel
theorem d7_4 : decode jdk_38_method_2_code 4 = .ok (.aload_n 0, 1) := by decide +kernel
theorem d7_5 : decode jdk_38_method_2_code 5 = .ok (.getstatic 39, 3) := by decide +kernel
theorem d7_8 : decode jdk_38_method_2_code 8 = .ok (.putfield 9, 3) := by decide +kernel
theorem d7_11 : decode jdk_38_method_2_code 11 = .ok (.return_, 1) := by decide +kernel
theorem ef_rm24 (x : Int32) (y : Int32) (m : MethodId) : entryFrame m #[(.int x), (.int y)] 2 = mkF m 0 #[.val (.int x), .val (.int y)] [] := by first | (simp [entryFrame, mkF, argsToLocals, Value.category, maxLocals]; done) | rfl
theorem pn_java_lang_Math_max__II_I : plainFor (⟨"java/lang/Math", "max", "(II)I"⟩ : MethodName) = true := by first | exact plainFor_of_name (by first | (simp [plainName, overriddenIn]; done) | decide +kernel) | decide +kernel
theorem d24_0 : decode jdk_29_method_65_code 0 = .ok (.iload_n 0, 1) := by decide +kernel
theorem d24_1 : decode jdk_29_method_65_code 1 = .ok (.iload_n 1, 1) := by decide +kernel
theorem d24_2 : decode jdk_29_method_65_code 2 = .ok (.if_icmp .lt 7, 3) := by decide +kernel
theorem d24_5 : decode jdk_29_method_65_code 5 = .ok (.iload_n 0, 1) := by decide +kernel
theorem d24_6 : decode jdk_29_method_65_code 6 = .ok (.goto 4, 3) := by decide +kernel
theorem d24_10 : decode jdk_29_method_65_code 10 = .ok (.ireturn, 1) := by decide +kernel
theorem ef_rm23 (a : Addr) (x : Int32) (m : MethodId) : entryFrame m #[(.ref a), (.int (1 : Int32))] 4 = mkF m 0 #[.val (.ref a), .val (.int (1 : Int32)), .unset, .unset] [] := by first | (simp [entryFrame, mkF, argsToLocals, Value.category, maxLocals]; done) | rfl
theorem pn_java_util_ArrayList_grow__I__Ljava_lang_Object_ : plainFor (⟨"java/util/ArrayList", "grow", "(I)[Ljava/lang/Object;"⟩ : MethodName) = true := by first | exact plainFor_of_name (by first | (simp [plainName, overriddenIn]; done) | decide +kernel) | decide +kernel
theorem d23_0 : decode jdk_38_method_6_code 0 = .ok (.aload_n 0, 1) := by decide +kernel
theorem d23_1 : decode jdk_38_method_6_code 1 = .ok (.getfield 9, 3) := by decide +kernel
theorem d23_4 : decode jdk_38_method_6_code 4 = .ok (.arraylength, 1) := by decide +kernel
theorem d23_5 : decode jdk_38_method_6_code 5 = .ok (.istore_n 2, 1) := by decide +kernel
theorem d23_6 : decode jdk_38_method_6_code 6 = .ok (.iload_n 2, 1) := by decide +kernel
theorem d23_7 : decode jdk_38_method_6_code 7 = .ok (.ifCond .gt 13, 3) := by decide +kernel
theorem d23_10 : decode jdk_38_method_6_code 10 = .ok (.aload_n 0, 1) := by decide +kernel
theorem d23_11 : decode jdk_38_method_6_code 11 = .ok (.getfield 9, 3) := by decide +kernel
theorem d23_14 : decode jdk_38_method_6_code 14 = .ok (.getstatic 39, 3) := by decide +kernel
theorem d23_17 : decode jdk_38_method_6_code 17 = .ok (.if_acmp .eq 28, 3) := by decide +kernel
theorem d23_45 : decode jdk_38_method_6_code 45 = .ok (.aload_n 0, 1) := by decide +kernel
theorem d23_46 : decode jdk_38_method_6_code 46 = .ok (.bipush 10, 2) := by decide +kernel
theorem d23_48 : decode jdk_38_method_6_code 48 = .ok (.iload_n 1, 1) := by decide +kernel
theorem d23_49 : decode jdk_38_method_6_code 49 = .ok (.invokestatic 79, 3) := by decide +kernel
theorem pd__28II_29I : parseMethodDescriptor "(II)I" = some ⟨[.int, .int], some .int⟩ := by decide +kernel
theorem d23_52 : decode jdk_38_method_6_code 52 = .ok (.anewarray 7, 3) := by decide +kernel
theorem d23_55 : decode jdk_38_method_6_code 55 = .ok (.dup_x1, 1) := by decide +kernel
theorem d23_56 : decode jdk_38_method_6_code 56 = .ok (.putfield 9, 3) := by decide +kernel
theorem d23_59 : decode jdk_38_method_6_code 59 = .ok (.areturn, 1) := by decide +kernel
theorem ef_rm22 (a : Addr) (x : Int32) (m : MethodId) : entryFrame m #[(.ref a)] 1 = mkF m 0 #[.val (.ref a)] [] := by first | (simp [entryFrame, mkF, argsToLocals, Value.category, maxLocals]; done) | rfl
theorem pn_java_util_ArrayList_grow____Ljava_lang_Object_ : plainFor (⟨"java/util/ArrayList", "grow", "()[Ljava/lang/Object;"⟩ : MethodName) = true := by first | exact plainFor_of_name (by first | (simp [plainName, overriddenIn]; done) | decide +kernel) | decide +kernel
theorem d22_0 : decode jdk_38_method_7_code 0 = .ok (.aload_n 0, 1) := by decide +kernel
theorem d22_1 : decode jdk_38_method_7_code 1 = .ok (.aload_n 0, 1) := by decide +kernel
theorem d22_2 : decode jdk_38_method_7_code 2 = .ok (.getfield 48, 3) := by decide +kernel
theorem d22_5 : decode jdk_38_method_7_code 5 = .ok (.iconst 1, 1) := by decide +kernel
theorem d22_6 : decode jdk_38_method_7_code 6 = .ok (.iadd, 1) := by decide +kernel
theorem d22_7 : decode jdk_38_method_7_code 7 = .ok (.invokevirtual 69, 3) := by decide +kernel
theorem pd__28I_29_5bLjava_2flang_2fObject_3b : parseMethodDescriptor "(I)[Ljava/lang/Object;" = some ⟨[.int], some (.array (.object "java/lang/Object"))⟩ := by decide +kernel
theorem d22_10 : decode jdk_38_method_7_code 10 = .ok (.areturn, 1) := by decide +kernel
theorem ef_rm21 (a : Addr) (x : Int32) (m : MethodId) : entryFrame m #[(.ref a), .null, (.ref (own_sta Z "java/util/ArrayList" "DEFAULTCAPACITY_EMPTY_ELEMENTDATA" "[Ljava/lang/Object;")), (.int (0 : Int32))] 4 = mkF m 0 #[.val (.ref a), .val .null, .val (.ref (own_sta Z "java/util/ArrayList" "DEFAULTCAPACITY_EMPTY_ELEMENTDATA" "[Ljava/lang/Object;")), .val (.int (0 : Int32))] [] := by first | (simp [entryFrame, mkF, argsToLocals, Value.category, maxLocals]; done) | rfl
theorem pn_java_util_ArrayList_add__Ljava_lang_Object__Ljava_lang_Object_I_V : plainFor (⟨"java/util/ArrayList", "add", "(Ljava/lang/Object;[Ljava/lang/Object;I)V"⟩ : MethodName) = true := by first | exact plainFor_of_name (by first | (simp [plainName, overriddenIn]; done) | decide +kernel) | decide +kernel
theorem d21_0 : decode jdk_38_method_24_code 0 = .ok (.iload_n 3, 1) := by decide +kernel
theorem d21_1 : decode jdk_38_method_24_code 1 = .ok (.aload_n 2, 1) := by decide +kernel
theorem d21_2 : decode jdk_38_method_24_code 2 = .ok (.arraylength, 1) := by decide +kernel
theorem d21_3 : decode jdk_38_method_24_code 3 = .ok (.if_icmp .ne 8, 3) := by decide +kernel
theorem d21_6 : decode jdk_38_method_24_code 6 = .ok (.aload_n 0, 1) := by decide +kernel
theorem d21_7 : decode jdk_38_method_24_code 7 = .ok (.invokevirtual 129, 3) := by decide +kernel
theorem pd__28_29_5bLjava_2flang_2fObject_3b : parseMethodDescriptor "()[Ljava/lang/Object;" = some ⟨[], some (.array (.object "java/lang/Object"))⟩ := by decide +kernel
theorem d21_10 : decode jdk_38_method_24_code 10 = .ok (.astore_n 2, 1) := by decide +kernel
theorem d21_11 : decode jdk_38_method_24_code 11 = .ok (.aload_n 2, 1) := by decide +kernel
theorem d21_12 : decode jdk_38_method_24_code 12 = .ok (.iload_n 3, 1) := by decide +kernel
theorem d21_13 : decode jdk_38_method_24_code 13 = .ok (.aload_n 1, 1) := by decide +kernel
theorem d21_14 : decode jdk_38_method_24_code 14 = .ok (.aastore, 1) := by decide +kernel
theorem d21_15 : decode jdk_38_method_24_code 15 = .ok (.aload_n 0, 1) := by decide +kernel
theorem d21_16 : decode jdk_38_method_24_code 16 = .ok (.iload_n 3, 1) := by decide +kernel
theorem d21_17 : decode jdk_38_method_24_code 17 = .ok (.iconst 1, 1) := by decide +kernel
theorem d21_18 : decode jdk_38_method_24_code 18 = .ok (.iadd, 1) := by decide +kernel
theorem d21_19 : decode jdk_38_method_24_code 19 = .ok (.putfield 48, 3) := by decide +kernel
theorem d21_22 : decode jdk_38_method_24_code 22 = .ok (.return_, 1) := by decide +kernel
theorem ef_rm20 (a : Addr) (x : Int32) (m : MethodId) : entryFrame m #[(.ref a), .null] 2 = mkF m 0 #[.val (.ref a), .val .null] [] := by first | (simp [entryFrame, mkF, argsToLocals, Value.category, maxLocals]; done) | rfl
theorem pn_java_util_ArrayList_add__Ljava_lang_Object__Z : plainFor (⟨"java/util/ArrayList", "add", "(Ljava/lang/Object;)Z"⟩ : MethodName) = true := by first | exact plainFor_of_name (by first | (simp [plainName, overriddenIn]; done) | decide +kernel) | decide +kernel
theorem d20_0 : decode jdk_38_method_25_code 0 = .ok (.aload_n 0, 1) := by decide +kernel
theorem d20_1 : decode jdk_38_method_25_code 1 = .ok (.dup, 1) := by decide +kernel
theorem d20_2 : decode jdk_38_method_25_code 2 = .ok (.getfield 63, 3) := by decide +kernel
theorem d20_5 : decode jdk_38_method_25_code 5 = .ok (.iconst 1, 1) := by decide +kernel
theorem d20_6 : decode jdk_38_method_25_code 6 = .ok (.iadd, 1) := by decide +kernel
theorem d20_7 : decode jdk_38_method_25_code 7 = .ok (.putfield 63, 3) := by decide +kernel
theorem d20_10 : decode jdk_38_method_25_code 10 = .ok (.aload_n 0, 1) := by decide +kernel
theorem d20_11 : decode jdk_38_method_25_code 11 = .ok (.aload_n 1, 1) := by decide +kernel
theorem d20_12 : decode jdk_38_method_25_code 12 = .ok (.aload_n 0, 1) := by decide +kernel
theorem d20_13 : decode jdk_38_method_25_code 13 = .ok (.getfield 9, 3) := by decide +kernel
theorem d20_16 : decode jdk_38_method_25_code 16 = .ok (.aload_n 0, 1) := by decide +kernel
theorem d20_17 : decode jdk_38_method_25_code 17 = .ok (.getfield 48, 3) := by decide +kernel
theorem d20_20 : decode jdk_38_method_25_code 20 = .ok (.invokevirtual 131, 3) := by decide +kernel
theorem pd__28Ljava_2flang_2fObject_3b_5bLjava_2flang_2fObject_3bI_29V : parseMethodDescriptor "(Ljava/lang/Object;[Ljava/lang/Object;I)V" = some ⟨[(.object "java/lang/Object"), (.array (.object "java/lang/Object")), .int], none⟩ := by decide +kernel
theorem d20_23 : decode jdk_38_method_25_code 23 = .ok (.iconst 1, 1) := by decide +kernel
theorem d20_24 : decode jdk_38_method_25_code 24 = .ok (.ireturn, 1) := by decide +kernel
theorem ef_rm26 (a : Addr) (x : Int32) (m : MethodId) : entryFrame m #[(.ref a)] 1 = mkF m 0 #[.val (.ref a)] [] := by first | (simp [entryFrame, mkF, argsToLocals, Value.category, maxLocals]; done) | rfl
theorem pn_java_util_ArrayList_size___I : plainFor (⟨"java/util/ArrayList", "size", "()I"⟩ : MethodName) = true := by first | exact plainFor_of_name (by first | (simp [plainName, overriddenIn]; done) | decide +kernel) | decide +kernel
theorem d26_0 : decode jdk_38_method_8_code 0 = .ok (.aload_n 0, 1) := by decide +kernel
theorem d26_1 : decode jdk_38_method_8_code 1 = .ok (.getfield 48, 3) := by decide +kernel
theorem d26_4 : decode jdk_38_method_8_code 4 = .ok (.ireturn, 1) := by decide +kernel
theorem ef_rm27 (a : Addr) (m : MethodId) : entryFrame m #[(.ref a), (.ref a)] 4 = mkF m 0 #[.val (.ref a), .val (.ref a), .unset, .unset] [] := by first | (simp [entryFrame, mkF, argsToLocals, Value.category, maxLocals]; done) | rfl
theorem pn_java_util_ArrayList_equals__Ljava_lang_Object__Z : plainFor (⟨"java/util/ArrayList", "equals", "(Ljava/lang/Object;)Z"⟩ : MethodName) = true := by first | exact plainFor_of_name (by first | (simp [plainName, overriddenIn]; done) | decide +kernel) | decide +kernel
theorem d27_0 : decode jdk_38_method_32_code 0 = .ok (.aload_n 1, 1) := by decide +kernel
theorem d27_1 : decode jdk_38_method_32_code 1 = .ok (.aload_n 0, 1) := by decide +kernel
theorem d27_2 : decode jdk_38_method_32_code 2 = .ok (.if_acmp .ne 5, 3) := by decide +kernel
theorem d27_5 : decode jdk_38_method_32_code 5 = .ok (.iconst 1, 1) := by decide +kernel
theorem d27_6 : decode jdk_38_method_32_code 6 = .ok (.ireturn, 1) := by decide +kernel
theorem ef_rm19 (a : Addr) (m : MethodId) : entryFrame m #[(.ref a), (.ref a)] 3 = mkF m 0 #[.val (.ref a), .val (.ref a), .unset] [] := by first | (simp [entryFrame, mkF, argsToLocals, Value.category, maxLocals]; done) | rfl
theorem pn_java_lang_String_equals__Ljava_lang_Object__Z : plainFor (⟨"java/lang/String", "equals", "(Ljava/lang/Object;)Z"⟩ : MethodName) = true := by first | exact plainFor_of_name (by first | (simp [plainName, overriddenIn]; done) | decide +kernel) | decide +kernel
theorem d19_0 : decode jdk_42_method_66_code 0 = .ok (.aload_n 0, 1) := by decide +kernel
theorem d19_1 : decode jdk_42_method_66_code 1 = .ok (.aload_n 1, 1) := by decide +kernel
theorem d19_2 : decode jdk_42_method_66_code 2 = .ok (.if_acmp .ne 5, 3) := by decide +kernel
theorem d19_5 : decode jdk_42_method_66_code 5 = .ok (.iconst 1, 1) := by decide +kernel
theorem d19_6 : decode jdk_42_method_66_code 6 = .ok (.ireturn, 1) := by decide +kernel
theorem ef_rm11 (a : Addr) (m : MethodId) : entryFrame m #[(.ref a)] 1 = mkF m 0 #[.val (.ref a)] [] := by first | (simp [entryFrame, mkF, argsToLocals, Value.category, maxLocals]; done) | rfl
theorem pn_java_lang_Record__init____V : plainFor (⟨"java/lang/Record", "<init>", "()V"⟩ : MethodName) = true := by first | exact plainFor_of_name (by first | (simp [plainName, overriddenIn]; done) | decide +kernel) | decide +kernel
theorem d11_0 : decode jdk_30_method_1_code 0 = .ok (.aload_n 0, 1) := by decide +kernel
theorem d11_1 : decode jdk_30_method_1_code 1 = .ok (.invokespecial 1, 3) := by decide +kernel
theorem d11_4 : decode jdk_30_method_1_code 4 = .ok (.return_, 1) := by decide +kernel
theorem ef_rm10 (a : Addr) (p0 : Addr) (p1 : Int64) (p2 : Int64) (p3 : Int32) (p4 : Int64) (p5 : Int32) (p6 : Addr) (m : MethodId) : entryFrame m #[(.ref a), (.ref p0), (.long p1), (.long p2), (.int p3), (.long p4), (.int p5), (.ref p6)] 11 = mkF m 0 #[.val (.ref a), .val (.ref p0), .val (.long p1), .second, .val (.long p2), .second, .val (.int p3), .val (.long p4), .second, .val (.int p5), .val (.ref p6)] [] := by first | (simp [entryFrame, mkF, argsToLocals, Value.category, maxLocals]; done) | rfl
theorem pn_com_example_synlock_synlock_Holds_Grant__init___Ljava_lang_String_JJIJZLjava_util_List__V : plainFor (⟨"com/example/synlock/synlock/Holds$Grant", "<init>", "(Ljava/lang/String;JJIJZLjava/util/List;)V"⟩ : MethodName) = true := by first | exact plainFor_of_name (by first | (simp [plainName, overriddenIn]; done) | decide +kernel) | decide +kernel
theorem d10_0 : decode prog_3_method_2_code 0 = .ok (.aload_n 0, 1) := by decide +kernel
theorem d10_1 : decode prog_3_method_2_code 1 = .ok (.invokespecial 1, 3) := by decide +kernel
theorem d10_4 : decode prog_3_method_2_code 4 = .ok (.aload_n 0, 1) := by decide +kernel
theorem d10_5 : decode prog_3_method_2_code 5 = .ok (.aload_n 1, 1) := by decide +kernel
theorem d10_6 : decode prog_3_method_2_code 6 = .ok (.putfield 7, 3) := by decide +kernel
theorem d10_9 : decode prog_3_method_2_code 9 = .ok (.aload_n 0, 1) := by decide +kernel
theorem d10_10 : decode prog_3_method_2_code 10 = .ok (.lload_n 2, 1) := by decide +kernel
theorem d10_11 : decode prog_3_method_2_code 11 = .ok (.putfield 13, 3) := by decide +kernel
theorem d10_14 : decode prog_3_method_2_code 14 = .ok (.aload_n 0, 1) := by decide +kernel
theorem d10_15 : decode prog_3_method_2_code 15 = .ok (.lload 4, 2) := by decide +kernel
theorem d10_17 : decode prog_3_method_2_code 17 = .ok (.putfield 17, 3) := by decide +kernel
theorem d10_20 : decode prog_3_method_2_code 20 = .ok (.aload_n 0, 1) := by decide +kernel
theorem d10_21 : decode prog_3_method_2_code 21 = .ok (.iload 6, 2) := by decide +kernel
theorem d10_23 : decode prog_3_method_2_code 23 = .ok (.putfield 20, 3) := by decide +kernel
theorem d10_26 : decode prog_3_method_2_code 26 = .ok (.aload_n 0, 1) := by decide +kernel
theorem d10_27 : decode prog_3_method_2_code 27 = .ok (.lload 7, 2) := by decide +kernel
theorem d10_29 : decode prog_3_method_2_code 29 = .ok (.putfield 24, 3) := by decide +kernel
theorem d10_32 : decode prog_3_method_2_code 32 = .ok (.aload_n 0, 1) := by decide +kernel
theorem d10_33 : decode prog_3_method_2_code 33 = .ok (.iload 9, 2) := by decide +kernel
theorem d10_35 : decode prog_3_method_2_code 35 = .ok (.putfield 27, 3) := by decide +kernel
theorem d10_38 : decode prog_3_method_2_code 38 = .ok (.aload_n 0, 1) := by decide +kernel
theorem d10_39 : decode prog_3_method_2_code 39 = .ok (.aload 10, 2) := by decide +kernel
theorem d10_41 : decode prog_3_method_2_code 41 = .ok (.putfield 31, 3) := by decide +kernel
theorem d10_44 : decode prog_3_method_2_code 44 = .ok (.return_, 1) := by decide +kernel
theorem ef_rm_rel0 (a : Addr) (x : Int32) (m : MethodId) : entryFrame m #[(.ref a)] 1 = mkF m 0 #[.val (.ref a)] [] := by first | (simp [entryFrame, mkF, argsToLocals, Value.category, maxLocals]; done) | rfl
theorem pn_com_example_synlock_synlock_Holds_Grant_releasedOnce___Lcom_example_synlock_synlock_Holds_Grant_ : plainFor (⟨"com/example/synlock/synlock/Holds$Grant", "releasedOnce", "()Lcom/example/synlock/synlock/Holds$Grant;"⟩ : MethodName) = true := by first | exact plainFor_of_name (by first | (simp [plainName, overriddenIn]; done) | decide +kernel) | decide +kernel
theorem d12_0 : decode prog_3_method_6_code 0 = .ok (.aload_n 0, 1) := by decide +kernel
theorem d12_1 : decode prog_3_method_6_code 1 = .ok (.getfield 20, 3) := by decide +kernel
theorem d12_4 : decode prog_3_method_6_code 4 = .ok (.iconst 1, 1) := by decide +kernel
theorem d12_5 : decode prog_3_method_6_code 5 = .ok (.if_icmp .ne 7, 3) := by decide +kernel
theorem d12_8 : decode prog_3_method_6_code 8 = .ok (.aconst_null, 1) := by decide +kernel
theorem d12_9 : decode prog_3_method_6_code 9 = .ok (.goto 40, 3) := by decide +kernel
theorem d12_49 : decode prog_3_method_6_code 49 = .ok (.areturn, 1) := by decide +kernel
theorem ef_rm_rel1 (a : Addr) (p0 : Addr) (p1 : Int64) (p2 : Int64) (p3 : Int32) (p4 : Int64) (p5 : Int32) (p6 : Addr) (m : MethodId) : entryFrame m #[(.ref a)] 1 = mkF m 0 #[.val (.ref a)] [] := by first | (simp [entryFrame, mkF, argsToLocals, Value.category, maxLocals]; done) | rfl
theorem d12_12 : decode prog_3_method_6_code 12 = .ok (.new 8, 3) := by decide +kernel
theorem d12_15 : decode prog_3_method_6_code 15 = .ok (.dup, 1) := by decide +kernel
theorem d12_16 : decode prog_3_method_6_code 16 = .ok (.aload_n 0, 1) := by decide +kernel
theorem d12_17 : decode prog_3_method_6_code 17 = .ok (.getfield 7, 3) := by decide +kernel
theorem d12_20 : decode prog_3_method_6_code 20 = .ok (.aload_n 0, 1) := by decide +kernel
theorem d12_21 : decode prog_3_method_6_code 21 = .ok (.getfield 13, 3) := by decide +kernel
theorem d12_24 : decode prog_3_method_6_code 24 = .ok (.aload_n 0, 1) := by decide +kernel
theorem d12_25 : decode prog_3_method_6_code 25 = .ok (.getfield 17, 3) := by decide +kernel
theorem d12_28 : decode prog_3_method_6_code 28 = .ok (.aload_n 0, 1) := by decide +kernel
theorem d12_29 : decode prog_3_method_6_code 29 = .ok (.getfield 20, 3) := by decide +kernel
theorem d12_32 : decode prog_3_method_6_code 32 = .ok (.iconst 1, 1) := by decide +kernel
theorem d12_33 : decode prog_3_method_6_code 33 = .ok (.isub, 1) := by decide +kernel
theorem d12_34 : decode prog_3_method_6_code 34 = .ok (.aload_n 0, 1) := by decide +kernel
theorem d12_35 : decode prog_3_method_6_code 35 = .ok (.getfield 24, 3) := by decide +kernel
theorem d12_38 : decode prog_3_method_6_code 38 = .ok (.aload_n 0, 1) := by decide +kernel
theorem d12_39 : decode prog_3_method_6_code 39 = .ok (.getfield 27, 3) := by decide +kernel
theorem d12_42 : decode prog_3_method_6_code 42 = .ok (.aload_n 0, 1) := by decide +kernel
theorem d12_43 : decode prog_3_method_6_code 43 = .ok (.getfield 31, 3) := by decide +kernel
theorem d12_46 : decode prog_3_method_6_code 46 = .ok (.invokespecial 41, 3) := by decide +kernel
theorem pd__28Ljava_2flang_2fString_3bJJIJZLjava_2futil_2fList_3b_29V : parseMethodDescriptor "(Ljava/lang/String;JJIJZLjava/util/List;)V" = some ⟨[(.object "java/lang/String"), .long, .long, .int, .long, .boolean, (.object "java/util/List")], none⟩ := by decide +kernel
theorem ef_rm18 (a : Addr) (y : Addr) (m : MethodId) : entryFrame m #[(.ref a)] 1 = mkF m 0 #[.val (.ref a)] [] := by first | (simp [entryFrame, mkF, argsToLocals, Value.category, maxLocals]; done) | rfl
theorem pn_com_example_synlock_synlock_Holds_Grant_owner___Ljava_lang_String_ : plainFor (⟨"com/example/synlock/synlock/Holds$Grant", "owner", "()Ljava/lang/String;"⟩ : MethodName) = true := by first | exact plainFor_of_name (by first | (simp [plainName, overriddenIn]; done) | decide +kernel) | decide +kernel
theorem d18_0 : decode prog_3_method_14_code 0 = .ok (.aload_n 0, 1) := by decide +kernel
theorem d18_1 : decode prog_3_method_14_code 1 = .ok (.getfield 7, 3) := by decide +kernel
theorem d18_4 : decode prog_3_method_14_code 4 = .ok (.areturn, 1) := by decide +kernel
theorem ef_rm14 (a : Addr) (y : Int64) (m : MethodId) : entryFrame m #[(.ref a)] 1 = mkF m 0 #[.val (.ref a)] [] := by first | (simp [entryFrame, mkF, argsToLocals, Value.category, maxLocals]; done) | rfl
theorem pn_com_example_synlock_synlock_Holds_Grant_sentNanos___J : plainFor (⟨"com/example/synlock/synlock/Holds$Grant", "sentNanos", "()J"⟩ : MethodName) = true := by first | exact plainFor_of_name (by first | (simp [plainName, overriddenIn]; done) | decide +kernel) | decide +kernel
theorem d14_0 : decode prog_3_method_15_code 0 = .ok (.aload_n 0, 1) := by decide +kernel
theorem d14_1 : decode prog_3_method_15_code 1 = .ok (.getfield 13, 3) := by decide +kernel
theorem d14_4 : decode prog_3_method_15_code 4 = .ok (.lreturn, 1) := by decide +kernel
theorem ef_rm15 (a : Addr) (y : Int64) (m : MethodId) : entryFrame m #[(.ref a)] 1 = mkF m 0 #[.val (.ref a)] [] := by first | (simp [entryFrame, mkF, argsToLocals, Value.category, maxLocals]; done) | rfl
theorem pn_com_example_synlock_synlock_Holds_Grant_leaseNanos___J : plainFor (⟨"com/example/synlock/synlock/Holds$Grant", "leaseNanos", "()J"⟩ : MethodName) = true := by first | exact plainFor_of_name (by first | (simp [plainName, overriddenIn]; done) | decide +kernel) | decide +kernel
theorem d15_0 : decode prog_3_method_16_code 0 = .ok (.aload_n 0, 1) := by decide +kernel
theorem d15_1 : decode prog_3_method_16_code 1 = .ok (.getfield 17, 3) := by decide +kernel
theorem d15_4 : decode prog_3_method_16_code 4 = .ok (.lreturn, 1) := by decide +kernel
theorem ef_rm13 (a : Addr) (y : Int32) (m : MethodId) : entryFrame m #[(.ref a)] 1 = mkF m 0 #[.val (.ref a)] [] := by first | (simp [entryFrame, mkF, argsToLocals, Value.category, maxLocals]; done) | rfl
theorem pn_com_example_synlock_synlock_Holds_Grant_holds___I : plainFor (⟨"com/example/synlock/synlock/Holds$Grant", "holds", "()I"⟩ : MethodName) = true := by first | exact plainFor_of_name (by first | (simp [plainName, overriddenIn]; done) | decide +kernel) | decide +kernel
theorem d13_0 : decode prog_3_method_17_code 0 = .ok (.aload_n 0, 1) := by decide +kernel
theorem d13_1 : decode prog_3_method_17_code 1 = .ok (.getfield 20, 3) := by decide +kernel
theorem d13_4 : decode prog_3_method_17_code 4 = .ok (.ireturn, 1) := by decide +kernel
theorem ef_rm16 (a : Addr) (y : Int64) (m : MethodId) : entryFrame m #[(.ref a)] 1 = mkF m 0 #[.val (.ref a)] [] := by first | (simp [entryFrame, mkF, argsToLocals, Value.category, maxLocals]; done) | rfl
theorem pn_com_example_synlock_synlock_Holds_Grant_token___J : plainFor (⟨"com/example/synlock/synlock/Holds$Grant", "token", "()J"⟩ : MethodName) = true := by first | exact plainFor_of_name (by first | (simp [plainName, overriddenIn]; done) | decide +kernel) | decide +kernel
theorem d16_0 : decode prog_3_method_18_code 0 = .ok (.aload_n 0, 1) := by decide +kernel
theorem d16_1 : decode prog_3_method_18_code 1 = .ok (.getfield 24, 3) := by decide +kernel
theorem d16_4 : decode prog_3_method_18_code 4 = .ok (.lreturn, 1) := by decide +kernel
theorem ef_rm17 (a : Addr) (y : Int32) (m : MethodId) : entryFrame m #[(.ref a)] 1 = mkF m 0 #[.val (.ref a)] [] := by first | (simp [entryFrame, mkF, argsToLocals, Value.category, maxLocals]; done) | rfl
theorem pn_com_example_synlock_synlock_Holds_Grant_renewed___Z : plainFor (⟨"com/example/synlock/synlock/Holds$Grant", "renewed", "()Z"⟩ : MethodName) = true := by first | exact plainFor_of_name (by first | (simp [plainName, overriddenIn]; done) | decide +kernel) | decide +kernel
theorem d17_0 : decode prog_3_method_19_code 0 = .ok (.aload_n 0, 1) := by decide +kernel
theorem d17_1 : decode prog_3_method_19_code 1 = .ok (.getfield 27, 3) := by decide +kernel
theorem d17_4 : decode prog_3_method_19_code 4 = .ok (.ireturn, 1) := by decide +kernel
theorem ef_rm25 (a : Addr) (y : Addr) (m : MethodId) : entryFrame m #[(.ref a)] 1 = mkF m 0 #[.val (.ref a)] [] := by first | (simp [entryFrame, mkF, argsToLocals, Value.category, maxLocals]; done) | rfl
theorem pn_com_example_synlock_synlock_Holds_Grant_listeners___Ljava_util_List_ : plainFor (⟨"com/example/synlock/synlock/Holds$Grant", "listeners", "()Ljava/util/List;"⟩ : MethodName) = true := by first | exact plainFor_of_name (by first | (simp [plainName, overriddenIn]; done) | decide +kernel) | decide +kernel
theorem d25_0 : decode prog_3_method_20_code 0 = .ok (.aload_n 0, 1) := by decide +kernel
theorem d25_1 : decode prog_3_method_20_code 1 = .ok (.getfield 31, 3) := by decide +kernel
theorem d25_4 : decode prog_3_method_20_code 4 = .ok (.areturn, 1) := by decide +kernel
theorem ef_rm0 (pc : Int32) (ps : Int64) (pl : Int64) (ph : Int32) (pt : Int64) (pf : Int32) (m : MethodId) : entryFrame m #[(.int pc), (.long ps), (.long pl), (.int ph), (.long pt), (.int pf)] maxLocals = mkF m 0 #[.val (.int pc), .val (.long ps), .second, .val (.long pl), .second, .val (.int ph), .val (.long pt), .second, .val (.int pf), .unset, .unset, .unset, .unset, .unset, .unset, .unset, .unset] [] := by first | (simp [entryFrame, mkF, argsToLocals, Value.category, maxLocals]; done) | rfl
theorem pn_com_example_synlock_synlock_GrantReleasedOncePinLaw_law__IJJIJI_Z : plainFor (⟨"com/example/synlock/synlock/GrantReleasedOncePinLaw", "law", "(IJJIJI)Z"⟩ : MethodName) = true := by first | exact plainFor_of_name (by first | (simp [plainName, overriddenIn]; done) | decide +kernel) | decide +kernel
theorem own_wV {Z : State} {a0 : Array Value} (hw : ∀ d ∈ tables_1, d.before a0 Z = true) : ∀ d ∈ StrChars.Road.words, d.before a0 Z = true := fun d hd => hw d ((by decide +kernel : ∀ d ∈ StrChars.Road.words, d ∈ tables_1) d hd)
theorem pd__28_5bC_29V : parseMethodDescriptor "([C)V" = some ⟨[(.array .char)], none⟩ := by decide +kernel
theorem pd__28_29Lcom_2fexample_2fsynlock_2fsynlock_2fHolds_24Grant_3b : parseMethodDescriptor "()Lcom/example/synlock/synlock/Holds$Grant;" = some ⟨[], some (.object "com/example/synlock/synlock/Holds$Grant")⟩ := by decide +kernel
theorem pd__28_29I : parseMethodDescriptor "()I" = some ⟨[], some .int⟩ := by decide +kernel
theorem pd__28_29J : parseMethodDescriptor "()J" = some ⟨[], some .long⟩ := by decide +kernel
theorem pd__28_29Z : parseMethodDescriptor "()Z" = some ⟨[], some .boolean⟩ := by decide +kernel
theorem pd__28_29Ljava_2flang_2fString_3b : parseMethodDescriptor "()Ljava/lang/String;" = some ⟨[], some (.object "java/lang/String")⟩ := by decide +kernel
theorem pd__28Ljava_2flang_2fObject_3b_29Z : parseMethodDescriptor "(Ljava/lang/Object;)Z" = some ⟨[(.object "java/lang/Object")], some .boolean⟩ := by decide +kernel
theorem pd__28_29Ljava_2futil_2fList_3b : parseMethodDescriptor "()Ljava/util/List;" = some ⟨[], some (.object "java/util/List")⟩ := by decide +kernel
set_option maxRecDepth 65536 in
set_option maxHeartbeats 40000000 in
theorem rm9 (l : Launch) (Z : State) (a0 : Array Value) (hw : ∀ d ∈ tables_1, d.before a0 Z = true) (n0 : Nat) (h0 : Heap) (hWd : OWorld Z a0) (wc : List Jvm.Cond) (O0 : Old Z n0 h0) (a : Addr)  :
    OMet l Z own_EL n0 (⟨"java/util/AbstractCollection", "<init>", "()V"⟩ : MethodName) (Jvm.Cond.code (⟨"java/util/AbstractCollection", "<init>", "()V"⟩ : MethodName) jdk_22_method_1_code 1 none :: wc) ({ frames := 1, cells := 0, slots := 0, locals := 12 } : Room) #[(.ref a)] h0 [] (fun vq hq => vq = none) := by
  refine own_enter #[.val (.ref a)] pn_java_util_AbstractCollection__init____V (ef_rm9 a) hWd.1 O0 all0 ?_
  intro p e s m below meth c T0 X0 hnm hret
  refine og_aloadN X0 1 d9_0 rfl rfl rfl ?_
  refine own_obj0 X0 4 (a := a) d9_1 (hw _ (List.mem_of_getElem? (i := 48) rfl)) (hw _ (List.mem_of_getElem? (i := 12) rfl)) (hw _ (List.mem_of_getElem? (i := 13) rfl)) rfl (W := 0) rfl (by decide) (by decide) rfl ?_
  intro T1 X2
  refine own_retV X2 d9_4 hret (by decide) (by decide) ?_
  exact rfl
set_option maxRecDepth 65536 in
set_option maxHeartbeats 40000000 in
theorem rm8 (l : Launch) (Z : State) (a0 : Array Value) (hw : ∀ d ∈ tables_1, d.before a0 Z = true) (n0 : Nat) (h0 : Heap) (hWd : OWorld Z a0) (wc : List Jvm.Cond) (O0 : Old Z n0 h0) (a : Addr) (x : Int32) (y : Value) (z : Int32) (q0 : Exa Z h0 a "java/util/ArrayList") (q1 : Fld Z h0 a "java/util/AbstractList" "modCount" "I" (.int x)) (q2 : Fld Z h0 a "java/util/ArrayList" "elementData" "[Ljava/lang/Object;" y) (q3 : Fld Z h0 a "java/util/ArrayList" "size" "I" (.int z)) (g0 : n0 ≤ a ∧ a < h0.size) :
    OMet l Z own_EL n0 (⟨"java/util/AbstractList", "<init>", "()V"⟩ : MethodName) (Jvm.Cond.code (⟨"java/util/AbstractList", "<init>", "()V"⟩ : MethodName) jdk_39_method_1_code 1 none :: wc) ({ frames := 2, cells := 0, slots := 0, locals := 24 } : Room) #[(.ref a)] h0 [a] (fun vq hq => vq = none ∧ Fld Z hq a "java/util/AbstractList" "modCount" "I" (.int (0 : Int32)) ∧ Fld Z hq a "java/util/ArrayList" "elementData" "[Ljava/lang/Object;" y ∧ Fld Z hq a "java/util/ArrayList" "size" "I" (.int z)) := by
  refine own_enter #[.val (.ref a)] pn_java_util_AbstractList__init____V (ef_rm8 a x y z) hWd.1 O0 (allS g0 all0) ?_
  intro p e s m below meth c T0 X0 hnm hret
  refine og_aloadN X0 1 d8_0 rfl rfl rfl ?_
  refine own_spec X0 4 (a := a) (argsL := []) (rest := []) d8_1 rfl (rm9 l Z a0 hw n0 h0 hWd [] X0.old a  ) (hw _ (List.mem_of_getElem? (i := 42) rfl)) (hw _ (List.mem_of_getElem? (i := 43) rfl)) (hw _ (List.mem_of_getElem? (i := 46) rfl)) (hw _ (List.mem_of_getElem? (i := 47) rfl)) (by decide) (lenOf pd__28_29V rfl) rfl rfl rfl (W := 0) rfl (by decide) (by decide) (by decide) (by decide) all0 rfl ?_
  intro T1 h1 v1 X1 K1 hQ1
  obtain rfl := hQ1
  show OGo _ _ _ _ T1 (mkF m 4 #[.val (.ref a)] [])
  refine og_aloadN X1 5 d8_4 rfl rfl rfl ?_
  refine og_iconst X1 6 (0 : Int32) d8_5 rfl rfl ?_
  have f2 := q1.keep K1 nin0
  have f3 := q0.keep K1
  have f4 := q2.keep K1 nin0
  have f5 := q3.keep K1 nin0
  refine own_put X1 9 d8_6 (host := "") (Or.inl (hw _ (List.mem_of_getElem? (i := 49) rfl))) Via.refl f2 f3 (Or.inl (hw _ (List.mem_of_getElem? (i := 50) rfl))) (hw _ (List.mem_of_getElem? (i := 31) rfl)) (ty := .int) (by decide) rfl rfl (List.mem_of_getElem? (i := 0) rfl) rfl ?_
  intro T6 h6 X6 W6 K6 F6
  have f7 := Fld.other W6 f4 (Or.inr (slot_ne (Or.inl (hw _ (List.mem_of_getElem? (i := 53) rfl))) (Or.inl (hw _ (List.mem_of_getElem? (i := 50) rfl))) (by decide) (t := (.array (.object "java/lang/Object"))) (t' := .int) (by decide) (by decide)))
  have f8 := Fld.other W6 f5 (Or.inr (slot_ne (Or.inl (hw _ (List.mem_of_getElem? (i := 133) rfl))) (Or.inl (hw _ (List.mem_of_getElem? (i := 50) rfl))) (by decide) (t := .int) (t' := .int) (by decide) (by decide)))
  refine own_retV X6 d8_9 hret (by decide) (by decide) ?_
  exact ⟨rfl, F6, f7, f8⟩
set_option maxRecDepth 65536 in
set_option maxHeartbeats 40000000 in
theorem rm7 (l : Launch) (Z : State) (a0 : Array Value) (hw : ∀ d ∈ tables_1, d.before a0 Z = true) (n0 : Nat) (h0 : Heap) (hWd : OWorld Z a0) (wc : List Jvm.Cond) (O0 : Old Z n0 h0) (a : Addr) (x : Int32) (y : Value) (z : Int32) (q0 : Exa Z h0 a "java/util/ArrayList") (q1 : Fld Z h0 a "java/util/AbstractList" "modCount" "I" (.int x)) (q2 : Fld Z h0 a "java/util/ArrayList" "elementData" "[Ljava/lang/Object;" y) (q3 : Fld Z h0 a "java/util/ArrayList" "size" "I" (.int z)) (g0 : n0 ≤ a ∧ a < h0.size) :
    OMet l Z own_EL n0 (⟨"java/util/ArrayList", "<init>", "()V"⟩ : MethodName) (Jvm.Cond.code (⟨"java/util/ArrayList", "<init>", "()V"⟩ : MethodName) jdk_38_method_2_code 1 none :: wc) ({ frames := 3, cells := 0, slots := 0, locals := 36 } : Room) #[(.ref a)] h0 [a] (fun vq hq => vq = none ∧ Fld Z hq a "java/util/AbstractList" "modCount" "I" (.int (0 : Int32)) ∧ Fld Z hq a "java/util/ArrayList" "elementData" "[Ljava/lang/Object;" (.ref (own_sta Z "java/util/ArrayList" "DEFAULTCAPACITY_EMPTY_ELEMENTDATA" "[Ljava/lang/Object;")) ∧ Fld Z hq a "java/util/ArrayList" "size" "I" (.int z)) := by
  refine own_enter #[.val (.ref a)] pn_java_util_ArrayList__init____V (ef_rm7 a x y z) hWd.1 O0 (allS g0 all0) ?_
  intro p e s m below meth c T0 X0 hnm hret
  refine og_aloadN X0 1 d7_0 rfl rfl rfl ?_
  refine own_spec X0 4 (a := a) (argsL := []) (rest := []) d7_1 rfl (rm8 l Z a0 hw n0 h0 hWd [] X0.old a x y z q0 q1 q2 q3 (own_svb X0 (List.mem_of_getElem? (i := 0) rfl))) (hw _ (List.mem_of_getElem? (i := 36) rfl)) (hw _ (List.mem_of_getElem? (i := 37) rfl)) (hw _ (List.mem_of_getElem? (i := 40) rfl)) (hw _ (List.mem_of_getElem? (i := 41) rfl)) (by decide) (lenOf pd__28_29V rfl) rfl rfl rfl (W := 0) rfl (by decide) (by decide) (by decide) (by decide) (allS (List.mem_of_getElem? (i := 0) rfl) all0) rfl ?_
  intro T1 h1 v1 X1 K1 hQ1
  obtain ⟨rfl, f2, f3, f4⟩ := hQ1
  show OGo _ _ _ _ T1 (mkF m 4 #[.val (.ref a)] [])
  refine og_aloadN X1 5 d7_4 rfl rfl rfl ?_
  refine own_getS X1 8 d7_5 (host := "") (Or.inl (hw _ (List.mem_of_getElem? (i := 51) rfl))) Via.refl hWd.2.2.1 rfl ?_
  intro T5 X6
  have f7 := q0.keep K1
  refine own_put X6 11 d7_8 (host := "") (Or.inl (hw _ (List.mem_of_getElem? (i := 52) rfl))) Via.refl f3 f7 (Or.inl (hw _ (List.mem_of_getElem? (i := 53) rfl))) (hw _ (List.mem_of_getElem? (i := 31) rfl)) (ty := (.array (.object "java/lang/Object"))) (by decide) rfl rfl (List.mem_of_getElem? (i := 0) rfl) rfl ?_
  intro T8 h8 X8 W8 K8 F8
  have f9 := Fld.other W8 f2 (Or.inr (slot_ne (Or.inl (hw _ (List.mem_of_getElem? (i := 50) rfl))) (Or.inl (hw _ (List.mem_of_getElem? (i := 53) rfl))) (by decide) (t := .int) (t' := (.array (.object "java/lang/Object"))) (by decide) (by decide)))
  have f10 := Fld.other W8 f4 (Or.inr (slot_ne (Or.inl (hw _ (List.mem_of_getElem? (i := 133) rfl))) (Or.inl (hw _ (List.mem_of_getElem? (i := 53) rfl))) (by decide) (t := .int) (t' := (.array (.object "java/lang/Object"))) (by decide) (by decide)))
  refine own_retV X8 d7_11 hret (by decide) (by decide) ?_
  exact ⟨rfl, f9, F8, f10⟩
set_option maxRecDepth 65536 in
set_option maxHeartbeats 40000000 in
theorem rm24 (l : Launch) (Z : State) (a0 : Array Value) (hw : ∀ d ∈ tables_1, d.before a0 Z = true) (n0 : Nat) (h0 : Heap) (hWd : OWorld Z a0) (wc : List Jvm.Cond) (O0 : Old Z n0 h0) (x : Int32) (y : Int32) (q0 : ¬ x < y) :
    OMet l Z own_EL n0 (⟨"java/lang/Math", "max", "(II)I"⟩ : MethodName) (Jvm.Cond.code (⟨"java/lang/Math", "max", "(II)I"⟩ : MethodName) jdk_29_method_65_code 2 (some .int) :: wc) ({ frames := 0, cells := 0, slots := 0, locals := 0 } : Room) #[(.int x), (.int y)] h0 [] (fun vq hq => vq = some (.int x)) := by
  refine own_enter #[.val (.int x), .val (.int y)] pn_java_lang_Math_max__II_I (ef_rm24 x y) hWd.1 O0 all0 ?_
  intro p e s m below meth c T0 X0 hnm hret
  refine og_iloadN X0 1 d24_0 rfl rfl ?_
  refine og_iloadN X0 2 d24_1 rfl rfl ?_
  refine og_icmpN X0 5 d24_2 (XT.ii_lt_f q0) rfl ?_
  refine og_iloadN X0 6 d24_5 rfl rfl ?_
  refine og_goto X0 10 d24_6 (by decide) (by decide) ?_
  refine own_retI X0 d24_10 hret (by decide) (by decide) ?_
  exact rfl
set_option maxRecDepth 65536 in
set_option maxHeartbeats 40000000 in
theorem rm23 (l : Launch) (Z : State) (a0 : Array Value) (hw : ∀ d ∈ tables_1, d.before a0 Z = true) (n0 : Nat) (h0 : Heap) (hWd : OWorld Z a0) (wc : List Jvm.Cond) (O0 : Old Z n0 h0) (a : Addr) (x : Int32) (q0 : Exa Z h0 a "java/util/ArrayList") (q1 : Fld Z h0 a "java/util/AbstractList" "modCount" "I" (.int x)) (q2 : Fld Z h0 a "java/util/ArrayList" "elementData" "[Ljava/lang/Object;" (.ref (own_sta Z "java/util/ArrayList" "DEFAULTCAPACITY_EMPTY_ELEMENTDATA" "[Ljava/lang/Object;"))) (q3 : Fld Z h0 a "java/util/ArrayList" "size" "I" (.int (0 : Int32))) (g0 : n0 ≤ a ∧ a < h0.size) :
    OMet l Z own_EL n0 (⟨"java/util/ArrayList", "grow", "(I)[Ljava/lang/Object;"⟩ : MethodName) (Jvm.Cond.code (⟨"java/util/ArrayList", "grow", "(I)[Ljava/lang/Object;"⟩ : MethodName) jdk_38_method_6_code 4 (some (.array (.object "java/lang/Object"))) :: wc) ({ frames := 1, cells := 1, slots := 10, locals := 14 } : Room) #[(.ref a), (.int (1 : Int32))] h0 [a] (fun vq hq => ∃ (r : Addr) (kb : ClassId), vq = some (.ref r) ∧ h0.size ≤ r ∧ Fld Z hq a "java/util/AbstractList" "modCount" "I" (.int x) ∧ Fld Z hq a "java/util/ArrayList" "size" "I" (.int (0 : Int32)) ∧ Arv Z hq r kb (.object "java/lang/Object") (10 : Int32) [.null, .null, .null, .null, .null, .null, .null, .null, .null, .null] .null) := by
  refine own_enter #[.val (.ref a), .val (.int (1 : Int32)), .unset, .unset] pn_java_util_ArrayList_grow__I__Ljava_lang_Object_ (ef_rm23 a x) hWd.1 O0 (allS g0 all0) ?_
  intro p e s m below meth c T0 X0 hnm hret
  refine og_aloadN X0 1 d23_0 rfl rfl rfl ?_
  refine own_get X0 4 d23_1 (host := "") (Or.inl (hw _ (List.mem_of_getElem? (i := 52) rfl))) Via.refl q2 rfl ?_
  intro T1 X2
  obtain ⟨ck3, oA3⟩ := hWd.2.2.2
  have f4 := oA3.ext X2.old.2
  refine own_len X2 5 d23_4 f4 rfl ?_
  refine og_istoreN X2 6 #[.val (.ref a), .val (.int (1 : Int32)), .val (.int (0 : Int32)), .unset] d23_5 rfl rfl ?_
  refine og_iloadN X2 7 d23_6 rfl rfl ?_
  refine og_ifN X2 10 d23_7 (XT.i0_gt_f (by decide)) rfl ?_
  refine og_aloadN X2 11 d23_10 rfl rfl rfl ?_
  refine own_get X2 14 d23_11 (host := "") (Or.inl (hw _ (List.mem_of_getElem? (i := 52) rfl))) Via.refl q2 rfl ?_
  intro T5 X6
  refine own_getS X6 17 d23_14 (host := "") (Or.inl (hw _ (List.mem_of_getElem? (i := 51) rfl))) Via.refl hWd.2.2.1 rfl ?_
  intro T7 X8
  refine og_acmpY X8 45 d23_17 rfl rfl (XT.aa_eq_t rfl) (by decide) (by decide) ?_
  refine og_aloadN X8 46 d23_45 rfl rfl rfl ?_
  refine og_bipush X8 48 (10 : Int32) d23_46 rfl rfl ?_
  refine og_iloadN X8 49 d23_48 rfl rfl ?_
  refine own_stat X8 52 (argsL := [(.int (10 : Int32)), (.int (1 : Int32))]) (rest := [(.ref a)]) d23_49 (rm24 l Z a0 hw n0 h0 hWd [] X8.old (10 : Int32) (1 : Int32) (by decide) ) (hw _ (List.mem_of_getElem? (i := 149) rfl)) (hw _ (List.mem_of_getElem? (i := 150) rfl)) (hw _ (List.mem_of_getElem? (i := 151) rfl)) (hw _ (List.mem_of_getElem? (i := 152) rfl)) (by decide) (lenOf pd__28II_29I rfl) rfl rfl rfl (W := 1) rfl (by decide) (by decide) (by decide) (by decide) all0 rfl ?_
  intro T9 h9 v9 X9 K9 hQ9
  obtain rfl := hQ9
  show OGo _ _ _ _ T9 (mkF m 52 #[.val (.ref a), .val (.int (1 : Int32)), .val (.int (0 : Int32)), .unset] [(.int (10 : Int32)), (.ref a)])
  refine own_anew X9 55 d23_52 (hw _ (List.mem_of_getElem? (i := 153) rfl)) (hw _ (List.mem_of_getElem? (i := 154) rfl)) (by decide) (cap := 10) (by decide) (by decide) (by decide) (by decide) rfl ?_
  intro T10 h10 b10 kb10 X10 K10 G10 U10 A10 O10
  have f11 : Arv Z h10 b10 kb10 (.object "java/lang/Object") (10 : Int32) [.null, .null, .null, .null, .null, .null, .null, .null, .null, .null] .null := A10
  refine og_dupX1 X10 56 d23_55 rfl rfl rfl ?_
  have f12 := q2.keep K9 nin0
  have f13 := f12.keep K10 nin0
  have f14 := q0.keep K9
  have f15 := f14.keep K10
  have f16 := q1.keep K9 nin0
  have f17 := f16.keep K10 nin0
  have f18 := q3.keep K9 nin0
  have f19 := f18.keep K10 nin0
  refine own_put X10 59 d23_56 (host := "") (Or.inl (hw _ (List.mem_of_getElem? (i := 52) rfl))) Via.refl f13 f15 (Or.inl (hw _ (List.mem_of_getElem? (i := 53) rfl))) (hw _ (List.mem_of_getElem? (i := 31) rfl)) (ty := (.array (.object "java/lang/Object"))) (by decide) rfl rfl (List.mem_of_getElem? (i := 1) rfl) rfl ?_
  intro T20 h20 X20 W20 K20 F20
  have f21 := Fld.other W20 f17 (Or.inr (slot_ne (Or.inl (hw _ (List.mem_of_getElem? (i := 50) rfl))) (Or.inl (hw _ (List.mem_of_getElem? (i := 53) rfl))) (by decide) (t := .int) (t' := (.array (.object "java/lang/Object"))) (by decide) (by decide)))
  have f22 := Fld.other W20 f19 (Or.inr (slot_ne (Or.inl (hw _ (List.mem_of_getElem? (i := 133) rfl))) (Or.inl (hw _ (List.mem_of_getElem? (i := 53) rfl))) (by decide) (t := .int) (t' := (.array (.object "java/lang/Object"))) (by decide) (by decide)))
  have f23 := f11.keep K20 (ninS (Nat.ne_of_gt (Nat.lt_of_lt_of_le (Nat.lt_of_lt_of_le q0.lt K9.1) G10)) nin0)
  refine own_retA X20 d23_59 hret rfl rfl (by decide) (by decide) ?_
  exact ⟨b10, kb10, rfl, (Nat.le_trans K9.1 G10), f21, f22, f23⟩
set_option maxRecDepth 65536 in
set_option maxHeartbeats 40000000 in
theorem rm22 (l : Launch) (Z : State) (a0 : Array Value) (hw : ∀ d ∈ tables_1, d.before a0 Z = true) (n0 : Nat) (h0 : Heap) (hWd : OWorld Z a0) (wc : List Jvm.Cond) (O0 : Old Z n0 h0) (a : Addr) (x : Int32) (q0 : Exa Z h0 a "java/util/ArrayList") (q1 : Fld Z h0 a "java/util/AbstractList" "modCount" "I" (.int x)) (q2 : Fld Z h0 a "java/util/ArrayList" "elementData" "[Ljava/lang/Object;" (.ref (own_sta Z "java/util/ArrayList" "DEFAULTCAPACITY_EMPTY_ELEMENTDATA" "[Ljava/lang/Object;"))) (q3 : Fld Z h0 a "java/util/ArrayList" "size" "I" (.int (0 : Int32))) (g0 : n0 ≤ a ∧ a < h0.size) :
    OMet l Z own_EL n0 (⟨"java/util/ArrayList", "grow", "()[Ljava/lang/Object;"⟩ : MethodName) (Jvm.Cond.code (⟨"java/util/ArrayList", "grow", "()[Ljava/lang/Object;"⟩ : MethodName) jdk_38_method_7_code 1 (some (.array (.object "java/lang/Object"))) :: wc) ({ frames := 2, cells := 1, slots := 10, locals := 29 } : Room) #[(.ref a)] h0 [a] (fun vq hq => ∃ (r : Addr) (kb : ClassId), vq = some (.ref r) ∧ h0.size ≤ r ∧ Fld Z hq a "java/util/AbstractList" "modCount" "I" (.int x) ∧ Fld Z hq a "java/util/ArrayList" "size" "I" (.int (0 : Int32)) ∧ Arv Z hq r kb (.object "java/lang/Object") (10 : Int32) [.null, .null, .null, .null, .null, .null, .null, .null, .null, .null] .null) := by
  refine own_enter #[.val (.ref a)] pn_java_util_ArrayList_grow____Ljava_lang_Object_ (ef_rm22 a x) hWd.1 O0 (allS g0 all0) ?_
  intro p e s m below meth c T0 X0 hnm hret
  refine og_aloadN X0 1 d22_0 rfl rfl rfl ?_
  refine og_aloadN X0 2 d22_1 rfl rfl rfl ?_
  refine own_get X0 5 d22_2 (host := "") (Or.inl (hw _ (List.mem_of_getElem? (i := 132) rfl))) Via.refl q3 rfl ?_
  intro T1 X2
  refine og_iconst X2 6 (1 : Int32) d22_5 rfl rfl ?_
  refine og_iadd X2 7 d22_6 rfl ?_
  show OGo _ _ _ _ T1 (mkF m 7 #[.val (.ref a)] [(.int (1 : Int32)), (.ref a)])
  refine own_priv X2 10 (a := a) (argsL := [(.int (1 : Int32))]) (rest := []) d22_7 q0 (rm23 l Z a0 hw n0 h0 hWd [] X2.old a x q0 q1 q2 q3 (own_svb X2 (List.mem_of_getElem? (i := 0) rfl))) (hw _ (List.mem_of_getElem? (i := 144) rfl)) (hw _ (List.mem_of_getElem? (i := 145) rfl)) (hw _ (List.mem_of_getElem? (i := 147) rfl)) (hw _ (List.mem_of_getElem? (i := 146) rfl)) (hw _ (List.mem_of_getElem? (i := 32) rfl)) (hw _ (List.mem_of_getElem? (i := 148) rfl)) (by decide) (lenOf pd__28I_29_5bLjava_2flang_2fObject_3b rfl) rfl rfl rfl (W := 0) rfl (by decide) (by decide) (by decide) (by decide) (allS (List.mem_of_getElem? (i := 0) rfl) all0) rfl ?_
  intro T3 h3 v3 X3 K3 hQ3
  obtain ⟨r3, kb3, rfl, ge_r3, f4, f5, f6⟩ := hQ3
  show OGo _ _ _ _ T3 (mkF m 10 #[.val (.ref a)] [(.ref r3)])
  refine own_retA X3 d22_10 hret rfl rfl (by decide) (by decide) ?_
  exact ⟨r3, kb3, rfl, ge_r3, f4, f5, f6⟩
set_option maxRecDepth 65536 in
set_option maxHeartbeats 40000000 in
theorem rm21 (l : Launch) (Z : State) (a0 : Array Value) (hw : ∀ d ∈ tables_1, d.before a0 Z = true) (n0 : Nat) (h0 : Heap) (hWd : OWorld Z a0) (wc : List Jvm.Cond) (O0 : Old Z n0 h0) (a : Addr) (x : Int32) (q0 : Exa Z h0 a "java/util/ArrayList") (q1 : Fld Z h0 a "java/util/AbstractList" "modCount" "I" (.int x)) (q2 : Fld Z h0 a "java/util/ArrayList" "elementData" "[Ljava/lang/Object;" (.ref (own_sta Z "java/util/ArrayList" "DEFAULTCAPACITY_EMPTY_ELEMENTDATA" "[Ljava/lang/Object;"))) (q3 : Fld Z h0 a "java/util/ArrayList" "size" "I" (.int (0 : Int32))) (g0 : n0 ≤ a ∧ a < h0.size) :
    OMet l Z own_EL n0 (⟨"java/util/ArrayList", "add", "(Ljava/lang/Object;[Ljava/lang/Object;I)V"⟩ : MethodName) (Jvm.Cond.code (⟨"java/util/ArrayList", "add", "(Ljava/lang/Object;[Ljava/lang/Object;I)V"⟩ : MethodName) jdk_38_method_24_code 4 none :: wc) ({ frames := 3, cells := 1, slots := 10, locals := 41 } : Room) #[(.ref a), .null, (.ref (own_sta Z "java/util/ArrayList" "DEFAULTCAPACITY_EMPTY_ELEMENTDATA" "[Ljava/lang/Object;")), (.int (0 : Int32))] h0 [a] (fun vq hq => vq = none ∧ Fld Z hq a "java/util/AbstractList" "modCount" "I" (.int x) ∧ Fld Z hq a "java/util/ArrayList" "size" "I" (.int (1 : Int32))) := by
  refine own_enter #[.val (.ref a), .val .null, .val (.ref (own_sta Z "java/util/ArrayList" "DEFAULTCAPACITY_EMPTY_ELEMENTDATA" "[Ljava/lang/Object;")), .val (.int (0 : Int32))] pn_java_util_ArrayList_add__Ljava_lang_Object__Ljava_lang_Object_I_V (ef_rm21 a x) hWd.1 O0 (allS g0 all0) ?_
  intro p e s m below meth c T0 X0 hnm hret
  refine og_iloadN X0 1 d21_0 rfl rfl ?_
  refine og_aloadN X0 2 d21_1 rfl rfl rfl ?_
  obtain ⟨ck1, oA1⟩ := hWd.2.2.2
  have f2 := oA1.ext X0.old.2
  refine own_len X0 3 d21_2 f2 rfl ?_
  refine og_icmpN X0 6 d21_3 (XT.ii_ne_f (by decide)) rfl ?_
  refine og_aloadN X0 7 d21_6 rfl rfl rfl ?_
  refine own_priv X0 10 (a := a) (argsL := []) (rest := []) d21_7 q0 (rm22 l Z a0 hw n0 h0 hWd [] X0.old a x q0 q1 q2 q3 (own_svb X0 (List.mem_of_getElem? (i := 0) rfl))) (hw _ (List.mem_of_getElem? (i := 139) rfl)) (hw _ (List.mem_of_getElem? (i := 140) rfl)) (hw _ (List.mem_of_getElem? (i := 142) rfl)) (hw _ (List.mem_of_getElem? (i := 141) rfl)) (hw _ (List.mem_of_getElem? (i := 32) rfl)) (hw _ (List.mem_of_getElem? (i := 143) rfl)) (by decide) (lenOf pd__28_29_5bLjava_2flang_2fObject_3b rfl) rfl rfl rfl (W := 0) rfl (by decide) (by decide) (by decide) (by decide) (allS (List.mem_of_getElem? (i := 0) rfl) all0) rfl ?_
  intro T3 h3 v3 X3 K3 hQ3
  obtain ⟨r3, kb3, rfl, ge_r3, f4, f5, f6⟩ := hQ3
  show OGo _ _ _ _ T3 (mkF m 10 #[.val (.ref a), .val .null, .val (.ref (own_sta Z "java/util/ArrayList" "DEFAULTCAPACITY_EMPTY_ELEMENTDATA" "[Ljava/lang/Object;")), .val (.int (0 : Int32))] [(.ref r3)])
  refine og_astoreN X3 11 #[.val (.ref a), .val .null, .val (.ref r3), .val (.int (0 : Int32))] d21_10 rfl rfl rfl ?_
  refine og_aloadN X3 12 d21_11 rfl rfl rfl ?_
  refine og_iloadN X3 13 d21_12 rfl rfl ?_
  refine og_aloadN X3 14 d21_13 rfl rfl rfl ?_
  have X8 := own_svA X3 f6 (by decide) (Nat.le_trans (own_n0 X0) ge_r3) ge_r3
  refine own_stR X8 15 d21_14 f6 rfl rfl (Or.inl rfl) (by decide) (by decide) (i := 0) (by decide) (Nat.le_of_ble_eq_true rfl) (List.mem_of_getElem? (i := 0) rfl) rfl ?_
  intro T7 h7 X7 W7 K7 A7
  have f9 : Arv Z h7 r3 kb3 (.object "java/lang/Object") (10 : Int32) [.null, .null, .null, .null, .null, .null, .null, .null, .null, .null] .null := A7
  refine og_aloadN X7 16 d21_15 rfl rfl rfl ?_
  refine og_iloadN X7 17 d21_16 rfl rfl ?_
  refine og_iconst X7 18 (1 : Int32) d21_17 rfl rfl ?_
  refine og_iadd X7 19 d21_18 rfl ?_
  show OGo _ _ _ _ T7 (mkF m 19 #[.val (.ref a), .val .null, .val (.ref r3), .val (.int (0 : Int32))] [(.int (1 : Int32)), (.ref a)])
  have f10 := f5.keep K7 (ninS (Nat.ne_of_lt (Nat.lt_of_lt_of_le q0.lt ge_r3)) nin0)
  have f11 := q0.keep K3
  have f12 := f11.keep K7
  have f13 := f4.keep K7 (ninS (Nat.ne_of_lt (Nat.lt_of_lt_of_le q0.lt ge_r3)) nin0)
  refine own_put X7 22 d21_19 (host := "") (Or.inl (hw _ (List.mem_of_getElem? (i := 132) rfl))) Via.refl f10 f12 (Or.inl (hw _ (List.mem_of_getElem? (i := 133) rfl))) (hw _ (List.mem_of_getElem? (i := 31) rfl)) (ty := .int) (by decide) rfl rfl (List.mem_of_getElem? (i := 1) rfl) rfl ?_
  intro T14 h14 X14 W14 K14 F14
  have f15 := Fld.other W14 f13 (Or.inr (slot_ne (Or.inl (hw _ (List.mem_of_getElem? (i := 50) rfl))) (Or.inl (hw _ (List.mem_of_getElem? (i := 133) rfl))) (by decide) (t := .int) (t' := .int) (by decide) (by decide)))
  refine own_retV X14 d21_22 hret (by decide) (by decide) ?_
  exact ⟨rfl, f15, F14⟩
set_option maxRecDepth 65536 in
set_option maxHeartbeats 40000000 in
theorem rm20 (l : Launch) (Z : State) (a0 : Array Value) (hw : ∀ d ∈ tables_1, d.before a0 Z = true) (n0 : Nat) (h0 : Heap) (hWd : OWorld Z a0) (wc : List Jvm.Cond) (O0 : Old Z n0 h0) (a : Addr) (x : Int32) (q0 : Exa Z h0 a "java/util/ArrayList") (q1 : Fld Z h0 a "java/util/AbstractList" "modCount" "I" (.int x)) (q2 : Fld Z h0 a "java/util/ArrayList" "elementData" "[Ljava/lang/Object;" (.ref (own_sta Z "java/util/ArrayList" "DEFAULTCAPACITY_EMPTY_ELEMENTDATA" "[Ljava/lang/Object;"))) (q3 : Fld Z h0 a "java/util/ArrayList" "size" "I" (.int (0 : Int32))) (g0 : n0 ≤ a ∧ a < h0.size) :
    OMet l Z own_EL n0 (⟨"java/util/ArrayList", "add", "(Ljava/lang/Object;)Z"⟩ : MethodName) (Jvm.Cond.code (⟨"java/util/ArrayList", "add", "(Ljava/lang/Object;)Z"⟩ : MethodName) jdk_38_method_25_code 2 (some .boolean) :: wc) ({ frames := 4, cells := 1, slots := 10, locals := 56 } : Room) #[(.ref a), .null] h0 [a] (fun vq hq => vq = some (.int (1 : Int32)) ∧ Fld Z hq a "java/util/ArrayList" "size" "I" (.int (1 : Int32))) := by
  refine own_enter #[.val (.ref a), .val .null] pn_java_util_ArrayList_add__Ljava_lang_Object__Z (ef_rm20 a x) hWd.1 O0 (allS g0 all0) ?_
  intro p e s m below meth c T0 X0 hnm hret
  refine og_aloadN X0 1 d20_0 rfl rfl rfl ?_
  refine og_dup X0 2 d20_1 rfl rfl ?_
  refine own_get X0 5 d20_2 (host := "") (Or.inl (hw _ (List.mem_of_getElem? (i := 130) rfl))) (Via.of (hw _ (List.mem_of_getElem? (i := 131) rfl))) q1 rfl ?_
  intro T1 X2
  refine og_iconst X2 6 (1 : Int32) d20_5 rfl rfl ?_
  refine og_iadd X2 7 d20_6 rfl ?_
  refine own_put X2 10 d20_7 (host := "") (Or.inl (hw _ (List.mem_of_getElem? (i := 130) rfl))) (Via.of (hw _ (List.mem_of_getElem? (i := 131) rfl))) q1 q0 (Or.inl (hw _ (List.mem_of_getElem? (i := 50) rfl))) (hw _ (List.mem_of_getElem? (i := 31) rfl)) (ty := .int) (by decide) rfl rfl (List.mem_of_getElem? (i := 0) rfl) rfl ?_
  intro T3 h3 X3 W3 K3 F3
  have f4 := Fld.other W3 q2 (Or.inr (slot_ne (Or.inl (hw _ (List.mem_of_getElem? (i := 53) rfl))) (Or.inl (hw _ (List.mem_of_getElem? (i := 50) rfl))) (by decide) (t := (.array (.object "java/lang/Object"))) (t' := .int) (by decide) (by decide)))
  have f5 := Fld.other W3 q3 (Or.inr (slot_ne (Or.inl (hw _ (List.mem_of_getElem? (i := 133) rfl))) (Or.inl (hw _ (List.mem_of_getElem? (i := 50) rfl))) (by decide) (t := .int) (t' := .int) (by decide) (by decide)))
  refine og_aloadN X3 11 d20_10 rfl rfl rfl ?_
  refine og_aloadN X3 12 d20_11 rfl rfl rfl ?_
  refine og_aloadN X3 13 d20_12 rfl rfl rfl ?_
  refine own_get X3 16 d20_13 (host := "") (Or.inl (hw _ (List.mem_of_getElem? (i := 52) rfl))) Via.refl f4 rfl ?_
  intro T6 X7
  refine og_aloadN X7 17 d20_16 rfl rfl rfl ?_
  refine own_get X7 20 d20_17 (host := "") (Or.inl (hw _ (List.mem_of_getElem? (i := 132) rfl))) Via.refl f5 rfl ?_
  intro T8 X9
  have f10 := q0.keep K3
  refine own_priv X9 23 (a := a) (argsL := [.null, (.ref (own_sta Z "java/util/ArrayList" "DEFAULTCAPACITY_EMPTY_ELEMENTDATA" "[Ljava/lang/Object;")), (.int (0 : Int32))]) (rest := []) d20_20 f10 (rm21 l Z a0 hw n0 h3 hWd [] X9.old a (x + (1 : Int32)) f10 F3 f4 f5 (own_svb X9 (List.mem_of_getElem? (i := 0) rfl))) (hw _ (List.mem_of_getElem? (i := 134) rfl)) (hw _ (List.mem_of_getElem? (i := 135) rfl)) (hw _ (List.mem_of_getElem? (i := 137) rfl)) (hw _ (List.mem_of_getElem? (i := 136) rfl)) (hw _ (List.mem_of_getElem? (i := 32) rfl)) (hw _ (List.mem_of_getElem? (i := 138) rfl)) (by decide) (lenOf pd__28Ljava_2flang_2fObject_3b_5bLjava_2flang_2fObject_3bI_29V rfl) rfl rfl rfl (W := 0) rfl (by decide) (by decide) (by decide) (by decide) (allS (List.mem_of_getElem? (i := 0) rfl) all0) rfl ?_
  intro T11 h11 v11 X11 K11 hQ11
  obtain ⟨rfl, f12, f13⟩ := hQ11
  show OGo _ _ _ _ T11 (mkF m 23 #[.val (.ref a), .val .null] [])
  refine og_iconst X11 24 (1 : Int32) d20_23 rfl rfl ?_
  refine own_retZ X11 d20_24 hret rfl (by decide) (by decide) ?_
  exact ⟨rfl, f13⟩
set_option maxRecDepth 65536 in
set_option maxHeartbeats 40000000 in
theorem rm26 (l : Launch) (Z : State) (a0 : Array Value) (hw : ∀ d ∈ tables_1, d.before a0 Z = true) (n0 : Nat) (h0 : Heap) (hWd : OWorld Z a0) (wc : List Jvm.Cond) (O0 : Old Z n0 h0) (a : Addr) (x : Int32) (q0 : Fld Z h0 a "java/util/ArrayList" "size" "I" (.int x)) :
    OMet l Z own_EL n0 (⟨"java/util/ArrayList", "size", "()I"⟩ : MethodName) (Jvm.Cond.code (⟨"java/util/ArrayList", "size", "()I"⟩ : MethodName) jdk_38_method_8_code 1 (some .int) :: wc) ({ frames := 0, cells := 0, slots := 0, locals := 0 } : Room) #[(.ref a)] h0 [] (fun vq hq => vq = some (.int x)) := by
  refine own_enter #[.val (.ref a)] pn_java_util_ArrayList_size___I (ef_rm26 a x) hWd.1 O0 all0 ?_
  intro p e s m below meth c T0 X0 hnm hret
  refine og_aloadN X0 1 d26_0 rfl rfl rfl ?_
  refine own_get X0 4 d26_1 (host := "") (Or.inl (hw _ (List.mem_of_getElem? (i := 132) rfl))) Via.refl q0 rfl ?_
  intro T1 X2
  refine own_retI X2 d26_4 hret (by decide) (by decide) ?_
  exact rfl
set_option maxRecDepth 65536 in
set_option maxHeartbeats 40000000 in
theorem rm27 (l : Launch) (Z : State) (a0 : Array Value) (hw : ∀ d ∈ tables_1, d.before a0 Z = true) (n0 : Nat) (h0 : Heap) (hWd : OWorld Z a0) (wc : List Jvm.Cond) (O0 : Old Z n0 h0) (a : Addr)  :
    OMet l Z own_EL n0 (⟨"java/util/ArrayList", "equals", "(Ljava/lang/Object;)Z"⟩ : MethodName) (Jvm.Cond.code (⟨"java/util/ArrayList", "equals", "(Ljava/lang/Object;)Z"⟩ : MethodName) jdk_38_method_32_code 4 (some .boolean) :: wc) ({ frames := 0, cells := 0, slots := 0, locals := 0 } : Room) #[(.ref a), (.ref a)] h0 [] (fun vq hq => vq = some (.int (1 : Int32))) := by
  refine own_enter #[.val (.ref a), .val (.ref a), .unset, .unset] pn_java_util_ArrayList_equals__Ljava_lang_Object__Z (ef_rm27 a) hWd.1 O0 all0 ?_
  intro p e s m below meth c T0 X0 hnm hret
  refine og_aloadN X0 1 d27_0 rfl rfl rfl ?_
  refine og_aloadN X0 2 d27_1 rfl rfl rfl ?_
  refine og_acmpN X0 5 d27_2 rfl rfl (XT.aa_ne_f rfl) rfl ?_
  refine og_iconst X0 6 (1 : Int32) d27_5 rfl rfl ?_
  refine own_retZ X0 d27_6 hret rfl (by decide) (by decide) ?_
  exact rfl
set_option maxRecDepth 65536 in
set_option maxHeartbeats 40000000 in
theorem rm19 (l : Launch) (Z : State) (a0 : Array Value) (hw : ∀ d ∈ tables_1, d.before a0 Z = true) (n0 : Nat) (h0 : Heap) (hWd : OWorld Z a0) (wc : List Jvm.Cond) (O0 : Old Z n0 h0) (a : Addr)  :
    OMet l Z own_EL n0 (⟨"java/lang/String", "equals", "(Ljava/lang/Object;)Z"⟩ : MethodName) (Jvm.Cond.code (⟨"java/lang/String", "equals", "(Ljava/lang/Object;)Z"⟩ : MethodName) jdk_42_method_66_code 3 (some .boolean) :: wc) ({ frames := 0, cells := 0, slots := 0, locals := 0 } : Room) #[(.ref a), (.ref a)] h0 [] (fun vq hq => vq = some (.int (1 : Int32))) := by
  refine own_enter #[.val (.ref a), .val (.ref a), .unset] pn_java_lang_String_equals__Ljava_lang_Object__Z (ef_rm19 a) hWd.1 O0 all0 ?_
  intro p e s m below meth c T0 X0 hnm hret
  refine og_aloadN X0 1 d19_0 rfl rfl rfl ?_
  refine og_aloadN X0 2 d19_1 rfl rfl rfl ?_
  refine og_acmpN X0 5 d19_2 rfl rfl (XT.aa_ne_f rfl) rfl ?_
  refine og_iconst X0 6 (1 : Int32) d19_5 rfl rfl ?_
  refine own_retZ X0 d19_6 hret rfl (by decide) (by decide) ?_
  exact rfl
set_option maxRecDepth 65536 in
set_option maxHeartbeats 40000000 in
theorem rm11 (l : Launch) (Z : State) (a0 : Array Value) (hw : ∀ d ∈ tables_1, d.before a0 Z = true) (n0 : Nat) (h0 : Heap) (hWd : OWorld Z a0) (wc : List Jvm.Cond) (O0 : Old Z n0 h0) (a : Addr)  :
    OMet l Z own_EL n0 (⟨"java/lang/Record", "<init>", "()V"⟩ : MethodName) (Jvm.Cond.code (⟨"java/lang/Record", "<init>", "()V"⟩ : MethodName) jdk_30_method_1_code 1 none :: wc) ({ frames := 1, cells := 0, slots := 0, locals := 12 } : Room) #[(.ref a)] h0 [] (fun vq hq => vq = none) := by
  refine own_enter #[.val (.ref a)] pn_java_lang_Record__init____V (ef_rm11 a) hWd.1 O0 all0 ?_
  intro p e s m below meth c T0 X0 hnm hret
  refine og_aloadN X0 1 d11_0 rfl rfl rfl ?_
  refine own_obj0 X0 4 (a := a) d11_1 (hw _ (List.mem_of_getElem? (i := 65) rfl)) (hw _ (List.mem_of_getElem? (i := 12) rfl)) (hw _ (List.mem_of_getElem? (i := 13) rfl)) rfl (W := 0) rfl (by decide) (by decide) rfl ?_
  intro T1 X2
  refine own_retV X2 d11_4 hret (by decide) (by decide) ?_
  exact rfl
set_option maxRecDepth 65536 in
set_option maxHeartbeats 40000000 in
theorem rm10 (l : Launch) (Z : State) (a0 : Array Value) (hw : ∀ d ∈ tables_1, d.before a0 Z = true) (n0 : Nat) (h0 : Heap) (hWd : OWorld Z a0) (wc : List Jvm.Cond) (O0 : Old Z n0 h0) (a : Addr) (p0 : Addr) (p1 : Int64) (p2 : Int64) (p3 : Int32) (p4 : Int64) (p5 : Int32) (p6 : Addr) (q0 : Exa Z h0 a "com/example/synlock/synlock/Holds$Grant") (q1 : Fld Z h0 a "com/example/synlock/synlock/Holds$Grant" "owner" "Ljava/lang/String;" .null) (q2 : Fld Z h0 a "com/example/synlock/synlock/Holds$Grant" "sentNanos" "J" (.long (0 : Int64))) (q3 : Fld Z h0 a "com/example/synlock/synlock/Holds$Grant" "leaseNanos" "J" (.long (0 : Int64))) (q4 : Fld Z h0 a "com/example/synlock/synlock/Holds$Grant" "holds" "I" (.int (0 : Int32))) (q5 : Fld Z h0 a "com/example/synlock/synlock/Holds$Grant" "token" "J" (.long (0 : Int64))) (q6 : Fld Z h0 a "com/example/synlock/synlock/Holds$Grant" "renewed" "Z" (.int (0 : Int32))) (q7 : Fld Z h0 a "com/example/synlock/synlock/Holds$Grant" "listeners" "Ljava/util/List;" .null) (q8 : p5 = 0 ∨ p5 = 1) (g0 : n0 ≤ a ∧ a < h0.size) :
    OMet l Z own_EL n0 (⟨"com/example/synlock/synlock/Holds$Grant", "<init>", "(Ljava/lang/String;JJIJZLjava/util/List;)V"⟩ : MethodName) (Jvm.Cond.code (⟨"com/example/synlock/synlock/Holds$Grant", "<init>", "(Ljava/lang/String;JJIJZLjava/util/List;)V"⟩ : MethodName) prog_3_method_2_code 11 none :: wc) ({ frames := 2, cells := 0, slots := 0, locals := 24 } : Room) #[(.ref a), (.ref p0), (.long p1), (.long p2), (.int p3), (.long p4), (.int p5), (.ref p6)] h0 [a] (fun vq hq => vq = none ∧ Fld Z hq a "com/example/synlock/synlock/Holds$Grant" "owner" "Ljava/lang/String;" (.ref p0) ∧ Fld Z hq a "com/example/synlock/synlock/Holds$Grant" "sentNanos" "J" (.long p1) ∧ Fld Z hq a "com/example/synlock/synlock/Holds$Grant" "leaseNanos" "J" (.long p2) ∧ Fld Z hq a "com/example/synlock/synlock/Holds$Grant" "holds" "I" (.int p3) ∧ Fld Z hq a "com/example/synlock/synlock/Holds$Grant" "token" "J" (.long p4) ∧ Fld Z hq a "com/example/synlock/synlock/Holds$Grant" "renewed" "Z" (.int p5) ∧ Fld Z hq a "com/example/synlock/synlock/Holds$Grant" "listeners" "Ljava/util/List;" (.ref p6)) := by
  refine own_enter #[.val (.ref a), .val (.ref p0), .val (.long p1), .second, .val (.long p2), .second, .val (.int p3), .val (.long p4), .second, .val (.int p5), .val (.ref p6)] pn_com_example_synlock_synlock_Holds_Grant__init___Ljava_lang_String_JJIJZLjava_util_List__V (ef_rm10 a p0 p1 p2 p3 p4 p5 p6) hWd.1 O0 (allS g0 all0) ?_
  intro p e s m below meth c T0 X0 hnm hret
  refine og_aloadN X0 1 d10_0 rfl rfl rfl ?_
  refine own_spec X0 4 (a := a) (argsL := []) (rest := []) d10_1 rfl (rm11 l Z a0 hw n0 h0 hWd [] X0.old a  ) (hw _ (List.mem_of_getElem? (i := 60) rfl)) (hw _ (List.mem_of_getElem? (i := 61) rfl)) (hw _ (List.mem_of_getElem? (i := 63) rfl)) (hw _ (List.mem_of_getElem? (i := 64) rfl)) (by decide) (lenOf pd__28_29V rfl) rfl rfl rfl (W := 0) rfl (by decide) (by decide) (by decide) (by decide) all0 rfl ?_
  intro T1 h1 v1 X1 K1 hQ1
  obtain rfl := hQ1
  show OGo _ _ _ _ T1 (mkF m 4 #[.val (.ref a), .val (.ref p0), .val (.long p1), .second, .val (.long p2), .second, .val (.int p3), .val (.long p4), .second, .val (.int p5), .val (.ref p6)] [])
  refine og_aloadN X1 5 d10_4 rfl rfl rfl ?_
  refine og_aloadN X1 6 d10_5 rfl rfl rfl ?_
  have f2 := q1.keep K1 nin0
  have f3 := q0.keep K1
  have f4 := q2.keep K1 nin0
  have f5 := q3.keep K1 nin0
  have f6 := q4.keep K1 nin0
  have f7 := q5.keep K1 nin0
  have f8 := q6.keep K1 nin0
  have f9 := q7.keep K1 nin0
  refine own_put X1 9 d10_6 (host := "") (Or.inl (hw _ (List.mem_of_getElem? (i := 66) rfl))) Via.refl f2 f3 (Or.inr ⟨(hw _ (List.mem_of_getElem? (i := 67) rfl)), rfl, hnm⟩) (hw _ (List.mem_of_getElem? (i := 55) rfl)) (ty := (.object "java/lang/String")) (by decide) rfl rfl (List.mem_of_getElem? (i := 0) rfl) rfl ?_
  intro T10 h10 X10 W10 K10 F10
  have f11 := Fld.other W10 f4 (Or.inr (slot_ne (Or.inr (hw _ (List.mem_of_getElem? (i := 69) rfl))) (Or.inr (hw _ (List.mem_of_getElem? (i := 67) rfl))) (by decide) (t := .long) (t' := (.object "java/lang/String")) (by decide) (by decide)))
  have f12 := Fld.other W10 f5 (Or.inr (slot_ne (Or.inr (hw _ (List.mem_of_getElem? (i := 71) rfl))) (Or.inr (hw _ (List.mem_of_getElem? (i := 67) rfl))) (by decide) (t := .long) (t' := (.object "java/lang/String")) (by decide) (by decide)))
  have f13 := Fld.other W10 f6 (Or.inr (slot_ne (Or.inr (hw _ (List.mem_of_getElem? (i := 73) rfl))) (Or.inr (hw _ (List.mem_of_getElem? (i := 67) rfl))) (by decide) (t := .int) (t' := (.object "java/lang/String")) (by decide) (by decide)))
  have f14 := Fld.other W10 f7 (Or.inr (slot_ne (Or.inr (hw _ (List.mem_of_getElem? (i := 75) rfl))) (Or.inr (hw _ (List.mem_of_getElem? (i := 67) rfl))) (by decide) (t := .long) (t' := (.object "java/lang/String")) (by decide) (by decide)))
  have f15 := Fld.other W10 f8 (Or.inr (slot_ne (Or.inr (hw _ (List.mem_of_getElem? (i := 77) rfl))) (Or.inr (hw _ (List.mem_of_getElem? (i := 67) rfl))) (by decide) (t := .boolean) (t' := (.object "java/lang/String")) (by decide) (by decide)))
  have f16 := Fld.other W10 f9 (Or.inr (slot_ne (Or.inr (hw _ (List.mem_of_getElem? (i := 79) rfl))) (Or.inr (hw _ (List.mem_of_getElem? (i := 67) rfl))) (by decide) (t := (.object "java/util/List")) (t' := (.object "java/lang/String")) (by decide) (by decide)))
  refine og_aloadN X10 10 d10_9 rfl rfl rfl ?_
  refine og_lloadN X10 11 d10_10 rfl rfl ?_
  have f17 := f3.keep K10
  refine own_put X10 14 d10_11 (host := "") (Or.inl (hw _ (List.mem_of_getElem? (i := 68) rfl))) Via.refl f11 f17 (Or.inr ⟨(hw _ (List.mem_of_getElem? (i := 69) rfl)), rfl, hnm⟩) (hw _ (List.mem_of_getElem? (i := 55) rfl)) (ty := .long) (by decide) rfl rfl (List.mem_of_getElem? (i := 0) rfl) rfl ?_
  intro T18 h18 X18 W18 K18 F18
  have f19 := Fld.other W18 F10 (Or.inr (slot_ne (Or.inr (hw _ (List.mem_of_getElem? (i := 67) rfl))) (Or.inr (hw _ (List.mem_of_getElem? (i := 69) rfl))) (by decide) (t := (.object "java/lang/String")) (t' := .long) (by decide) (by decide)))
  have f20 := Fld.other W18 f12 (Or.inr (slot_ne (Or.inr (hw _ (List.mem_of_getElem? (i := 71) rfl))) (Or.inr (hw _ (List.mem_of_getElem? (i := 69) rfl))) (by decide) (t := .long) (t' := .long) (by decide) (by decide)))
  have f21 := Fld.other W18 f13 (Or.inr (slot_ne (Or.inr (hw _ (List.mem_of_getElem? (i := 73) rfl))) (Or.inr (hw _ (List.mem_of_getElem? (i := 69) rfl))) (by decide) (t := .int) (t' := .long) (by decide) (by decide)))
  have f22 := Fld.other W18 f14 (Or.inr (slot_ne (Or.inr (hw _ (List.mem_of_getElem? (i := 75) rfl))) (Or.inr (hw _ (List.mem_of_getElem? (i := 69) rfl))) (by decide) (t := .long) (t' := .long) (by decide) (by decide)))
  have f23 := Fld.other W18 f15 (Or.inr (slot_ne (Or.inr (hw _ (List.mem_of_getElem? (i := 77) rfl))) (Or.inr (hw _ (List.mem_of_getElem? (i := 69) rfl))) (by decide) (t := .boolean) (t' := .long) (by decide) (by decide)))
  have f24 := Fld.other W18 f16 (Or.inr (slot_ne (Or.inr (hw _ (List.mem_of_getElem? (i := 79) rfl))) (Or.inr (hw _ (List.mem_of_getElem? (i := 69) rfl))) (by decide) (t := (.object "java/util/List")) (t' := .long) (by decide) (by decide)))
  refine og_aloadN X18 15 d10_14 rfl rfl rfl ?_
  refine og_lload X18 17 d10_15 rfl rfl ?_
  have f25 := f17.keep K18
  refine own_put X18 20 d10_17 (host := "") (Or.inl (hw _ (List.mem_of_getElem? (i := 70) rfl))) Via.refl f20 f25 (Or.inr ⟨(hw _ (List.mem_of_getElem? (i := 71) rfl)), rfl, hnm⟩) (hw _ (List.mem_of_getElem? (i := 55) rfl)) (ty := .long) (by decide) rfl rfl (List.mem_of_getElem? (i := 0) rfl) rfl ?_
  intro T26 h26 X26 W26 K26 F26
  have f27 := Fld.other W26 f19 (Or.inr (slot_ne (Or.inr (hw _ (List.mem_of_getElem? (i := 67) rfl))) (Or.inr (hw _ (List.mem_of_getElem? (i := 71) rfl))) (by decide) (t := (.object "java/lang/String")) (t' := .long) (by decide) (by decide)))
  have f28 := Fld.other W26 F18 (Or.inr (slot_ne (Or.inr (hw _ (List.mem_of_getElem? (i := 69) rfl))) (Or.inr (hw _ (List.mem_of_getElem? (i := 71) rfl))) (by decide) (t := .long) (t' := .long) (by decide) (by decide)))
  have f29 := Fld.other W26 f21 (Or.inr (slot_ne (Or.inr (hw _ (List.mem_of_getElem? (i := 73) rfl))) (Or.inr (hw _ (List.mem_of_getElem? (i := 71) rfl))) (by decide) (t := .int) (t' := .long) (by decide) (by decide)))
  have f30 := Fld.other W26 f22 (Or.inr (slot_ne (Or.inr (hw _ (List.mem_of_getElem? (i := 75) rfl))) (Or.inr (hw _ (List.mem_of_getElem? (i := 71) rfl))) (by decide) (t := .long) (t' := .long) (by decide) (by decide)))
  have f31 := Fld.other W26 f23 (Or.inr (slot_ne (Or.inr (hw _ (List.mem_of_getElem? (i := 77) rfl))) (Or.inr (hw _ (List.mem_of_getElem? (i := 71) rfl))) (by decide) (t := .boolean) (t' := .long) (by decide) (by decide)))
  have f32 := Fld.other W26 f24 (Or.inr (slot_ne (Or.inr (hw _ (List.mem_of_getElem? (i := 79) rfl))) (Or.inr (hw _ (List.mem_of_getElem? (i := 71) rfl))) (by decide) (t := (.object "java/util/List")) (t' := .long) (by decide) (by decide)))
  refine og_aloadN X26 21 d10_20 rfl rfl rfl ?_
  refine og_iload X26 23 d10_21 rfl rfl ?_
  have f33 := f25.keep K26
  refine own_put X26 26 d10_23 (host := "") (Or.inl (hw _ (List.mem_of_getElem? (i := 72) rfl))) Via.refl f29 f33 (Or.inr ⟨(hw _ (List.mem_of_getElem? (i := 73) rfl)), rfl, hnm⟩) (hw _ (List.mem_of_getElem? (i := 55) rfl)) (ty := .int) (by decide) rfl rfl (List.mem_of_getElem? (i := 0) rfl) rfl ?_
  intro T34 h34 X34 W34 K34 F34
  have f35 := Fld.other W34 f27 (Or.inr (slot_ne (Or.inr (hw _ (List.mem_of_getElem? (i := 67) rfl))) (Or.inr (hw _ (List.mem_of_getElem? (i := 73) rfl))) (by decide) (t := (.object "java/lang/String")) (t' := .int) (by decide) (by decide)))
  have f36 := Fld.other W34 f28 (Or.inr (slot_ne (Or.inr (hw _ (List.mem_of_getElem? (i := 69) rfl))) (Or.inr (hw _ (List.mem_of_getElem? (i := 73) rfl))) (by decide) (t := .long) (t' := .int) (by decide) (by decide)))
  have f37 := Fld.other W34 F26 (Or.inr (slot_ne (Or.inr (hw _ (List.mem_of_getElem? (i := 71) rfl))) (Or.inr (hw _ (List.mem_of_getElem? (i := 73) rfl))) (by decide) (t := .long) (t' := .int) (by decide) (by decide)))
  have f38 := Fld.other W34 f30 (Or.inr (slot_ne (Or.inr (hw _ (List.mem_of_getElem? (i := 75) rfl))) (Or.inr (hw _ (List.mem_of_getElem? (i := 73) rfl))) (by decide) (t := .long) (t' := .int) (by decide) (by decide)))
  have f39 := Fld.other W34 f31 (Or.inr (slot_ne (Or.inr (hw _ (List.mem_of_getElem? (i := 77) rfl))) (Or.inr (hw _ (List.mem_of_getElem? (i := 73) rfl))) (by decide) (t := .boolean) (t' := .int) (by decide) (by decide)))
  have f40 := Fld.other W34 f32 (Or.inr (slot_ne (Or.inr (hw _ (List.mem_of_getElem? (i := 79) rfl))) (Or.inr (hw _ (List.mem_of_getElem? (i := 73) rfl))) (by decide) (t := (.object "java/util/List")) (t' := .int) (by decide) (by decide)))
  refine og_aloadN X34 27 d10_26 rfl rfl rfl ?_
  refine og_lload X34 29 d10_27 rfl rfl ?_
  have f41 := f33.keep K34
  refine own_put X34 32 d10_29 (host := "") (Or.inl (hw _ (List.mem_of_getElem? (i := 74) rfl))) Via.refl f38 f41 (Or.inr ⟨(hw _ (List.mem_of_getElem? (i := 75) rfl)), rfl, hnm⟩) (hw _ (List.mem_of_getElem? (i := 55) rfl)) (ty := .long) (by decide) rfl rfl (List.mem_of_getElem? (i := 0) rfl) rfl ?_
  intro T42 h42 X42 W42 K42 F42
  have f43 := Fld.other W42 f35 (Or.inr (slot_ne (Or.inr (hw _ (List.mem_of_getElem? (i := 67) rfl))) (Or.inr (hw _ (List.mem_of_getElem? (i := 75) rfl))) (by decide) (t := (.object "java/lang/String")) (t' := .long) (by decide) (by decide)))
  have f44 := Fld.other W42 f36 (Or.inr (slot_ne (Or.inr (hw _ (List.mem_of_getElem? (i := 69) rfl))) (Or.inr (hw _ (List.mem_of_getElem? (i := 75) rfl))) (by decide) (t := .long) (t' := .long) (by decide) (by decide)))
  have f45 := Fld.other W42 f37 (Or.inr (slot_ne (Or.inr (hw _ (List.mem_of_getElem? (i := 71) rfl))) (Or.inr (hw _ (List.mem_of_getElem? (i := 75) rfl))) (by decide) (t := .long) (t' := .long) (by decide) (by decide)))
  have f46 := Fld.other W42 F34 (Or.inr (slot_ne (Or.inr (hw _ (List.mem_of_getElem? (i := 73) rfl))) (Or.inr (hw _ (List.mem_of_getElem? (i := 75) rfl))) (by decide) (t := .int) (t' := .long) (by decide) (by decide)))
  have f47 := Fld.other W42 f39 (Or.inr (slot_ne (Or.inr (hw _ (List.mem_of_getElem? (i := 77) rfl))) (Or.inr (hw _ (List.mem_of_getElem? (i := 75) rfl))) (by decide) (t := .boolean) (t' := .long) (by decide) (by decide)))
  have f48 := Fld.other W42 f40 (Or.inr (slot_ne (Or.inr (hw _ (List.mem_of_getElem? (i := 79) rfl))) (Or.inr (hw _ (List.mem_of_getElem? (i := 75) rfl))) (by decide) (t := (.object "java/util/List")) (t' := .long) (by decide) (by decide)))
  refine og_aloadN X42 33 d10_32 rfl rfl rfl ?_
  refine og_iload X42 35 d10_33 rfl rfl ?_
  have f49 := f41.keep K42
  refine own_put X42 38 d10_35 (host := "") (Or.inl (hw _ (List.mem_of_getElem? (i := 76) rfl))) Via.refl f47 f49 (Or.inr ⟨(hw _ (List.mem_of_getElem? (i := 77) rfl)), rfl, hnm⟩) (hw _ (List.mem_of_getElem? (i := 55) rfl)) (ty := .boolean) (by decide) (own_zb q8).1 (own_zb q8).2 (List.mem_of_getElem? (i := 0) rfl) rfl ?_
  intro T50 h50 X50 W50 K50 F50
  have f51 := Fld.other W50 f43 (Or.inr (slot_ne (Or.inr (hw _ (List.mem_of_getElem? (i := 67) rfl))) (Or.inr (hw _ (List.mem_of_getElem? (i := 77) rfl))) (by decide) (t := (.object "java/lang/String")) (t' := .boolean) (by decide) (by decide)))
  have f52 := Fld.other W50 f44 (Or.inr (slot_ne (Or.inr (hw _ (List.mem_of_getElem? (i := 69) rfl))) (Or.inr (hw _ (List.mem_of_getElem? (i := 77) rfl))) (by decide) (t := .long) (t' := .boolean) (by decide) (by decide)))
  have f53 := Fld.other W50 f45 (Or.inr (slot_ne (Or.inr (hw _ (List.mem_of_getElem? (i := 71) rfl))) (Or.inr (hw _ (List.mem_of_getElem? (i := 77) rfl))) (by decide) (t := .long) (t' := .boolean) (by decide) (by decide)))
  have f54 := Fld.other W50 f46 (Or.inr (slot_ne (Or.inr (hw _ (List.mem_of_getElem? (i := 73) rfl))) (Or.inr (hw _ (List.mem_of_getElem? (i := 77) rfl))) (by decide) (t := .int) (t' := .boolean) (by decide) (by decide)))
  have f55 := Fld.other W50 F42 (Or.inr (slot_ne (Or.inr (hw _ (List.mem_of_getElem? (i := 75) rfl))) (Or.inr (hw _ (List.mem_of_getElem? (i := 77) rfl))) (by decide) (t := .long) (t' := .boolean) (by decide) (by decide)))
  have f56 := Fld.other W50 f48 (Or.inr (slot_ne (Or.inr (hw _ (List.mem_of_getElem? (i := 79) rfl))) (Or.inr (hw _ (List.mem_of_getElem? (i := 77) rfl))) (by decide) (t := (.object "java/util/List")) (t' := .boolean) (by decide) (by decide)))
  refine og_aloadN X50 39 d10_38 rfl rfl rfl ?_
  refine og_aload X50 41 d10_39 rfl rfl rfl ?_
  have f57 := f49.keep K50
  refine own_put X50 44 d10_41 (host := "") (Or.inl (hw _ (List.mem_of_getElem? (i := 78) rfl))) Via.refl f56 f57 (Or.inr ⟨(hw _ (List.mem_of_getElem? (i := 79) rfl)), rfl, hnm⟩) (hw _ (List.mem_of_getElem? (i := 55) rfl)) (ty := (.object "java/util/List")) (by decide) rfl rfl (List.mem_of_getElem? (i := 0) rfl) rfl ?_
  intro T58 h58 X58 W58 K58 F58
  have f59 := Fld.other W58 f51 (Or.inr (slot_ne (Or.inr (hw _ (List.mem_of_getElem? (i := 67) rfl))) (Or.inr (hw _ (List.mem_of_getElem? (i := 79) rfl))) (by decide) (t := (.object "java/lang/String")) (t' := (.object "java/util/List")) (by decide) (by decide)))
  have f60 := Fld.other W58 f52 (Or.inr (slot_ne (Or.inr (hw _ (List.mem_of_getElem? (i := 69) rfl))) (Or.inr (hw _ (List.mem_of_getElem? (i := 79) rfl))) (by decide) (t := .long) (t' := (.object "java/util/List")) (by decide) (by decide)))
  have f61 := Fld.other W58 f53 (Or.inr (slot_ne (Or.inr (hw _ (List.mem_of_getElem? (i := 71) rfl))) (Or.inr (hw _ (List.mem_of_getElem? (i := 79) rfl))) (by decide) (t := .long) (t' := (.object "java/util/List")) (by decide) (by decide)))
  have f62 := Fld.other W58 f54 (Or.inr (slot_ne (Or.inr (hw _ (List.mem_of_getElem? (i := 73) rfl))) (Or.inr (hw _ (List.mem_of_getElem? (i := 79) rfl))) (by decide) (t := .int) (t' := (.object "java/util/List")) (by decide) (by decide)))
  have f63 := Fld.other W58 f55 (Or.inr (slot_ne (Or.inr (hw _ (List.mem_of_getElem? (i := 75) rfl))) (Or.inr (hw _ (List.mem_of_getElem? (i := 79) rfl))) (by decide) (t := .long) (t' := (.object "java/util/List")) (by decide) (by decide)))
  have f64 := Fld.other W58 F50 (Or.inr (slot_ne (Or.inr (hw _ (List.mem_of_getElem? (i := 77) rfl))) (Or.inr (hw _ (List.mem_of_getElem? (i := 79) rfl))) (by decide) (t := .boolean) (t' := (.object "java/util/List")) (by decide) (by decide)))
  refine own_retV X58 d10_44 hret (by decide) (by decide) ?_
  exact ⟨rfl, f59, f60, f61, f62, f63, f64, F58⟩
set_option maxRecDepth 65536 in
set_option maxHeartbeats 40000000 in
theorem rm_rel0 (l : Launch) (Z : State) (a0 : Array Value) (hw : ∀ d ∈ tables_1, d.before a0 Z = true) (n0 : Nat) (h0 : Heap) (hWd : OWorld Z a0) (wc : List Jvm.Cond) (O0 : Old Z n0 h0) (a : Addr) (x : Int32) (q0 : Fld Z h0 a "com/example/synlock/synlock/Holds$Grant" "holds" "I" (.int x)) (q1 : x = (1 : Int32)) :
    OMet l Z own_EL n0 (⟨"com/example/synlock/synlock/Holds$Grant", "releasedOnce", "()Lcom/example/synlock/synlock/Holds$Grant;"⟩ : MethodName) (Jvm.Cond.code (⟨"com/example/synlock/synlock/Holds$Grant", "releasedOnce", "()Lcom/example/synlock/synlock/Holds$Grant;"⟩ : MethodName) prog_3_method_6_code 1 (some (.object "com/example/synlock/synlock/Holds$Grant")) :: wc) ({ frames := 0, cells := 0, slots := 0, locals := 0 } : Room) #[(.ref a)] h0 [] (fun vq hq => vq = some .null) := by
  refine own_enter #[.val (.ref a)] pn_com_example_synlock_synlock_Holds_Grant_releasedOnce___Lcom_example_synlock_synlock_Holds_Grant_ (ef_rm_rel0 a x) hWd.1 O0 all0 ?_
  intro p e s m below meth c T0 X0 hnm hret
  refine og_aloadN X0 1 d12_0 rfl rfl rfl ?_
  refine own_get X0 4 d12_1 (host := "") (Or.inl (hw _ (List.mem_of_getElem? (i := 72) rfl))) Via.refl q0 rfl ?_
  intro T1 X2
  refine og_iconst X2 5 (1 : Int32) d12_4 rfl rfl ?_
  refine og_icmpN X2 8 d12_5 (XT.ii_ne_f q1) rfl ?_
  refine og_aconstNull X2 9 d12_8 rfl ?_
  refine og_goto X2 49 d12_9 (by decide) (by decide) ?_
  refine own_retA X2 d12_49 hret rfl rfl (by decide) (by decide) ?_
  exact rfl
set_option maxRecDepth 65536 in
set_option maxHeartbeats 40000000 in
theorem rm_rel1 (l : Launch) (Z : State) (a0 : Array Value) (hw : ∀ d ∈ tables_1, d.before a0 Z = true) (n0 : Nat) (h0 : Heap) (hWd : OWorld Z a0) (wc : List Jvm.Cond) (O0 : Old Z n0 h0) (a : Addr) (p0 : Addr) (p1 : Int64) (p2 : Int64) (p3 : Int32) (p4 : Int64) (p5 : Int32) (p6 : Addr) (q0 : Fld Z h0 a "com/example/synlock/synlock/Holds$Grant" "owner" "Ljava/lang/String;" (.ref p0)) (q1 : Fld Z h0 a "com/example/synlock/synlock/Holds$Grant" "sentNanos" "J" (.long p1)) (q2 : Fld Z h0 a "com/example/synlock/synlock/Holds$Grant" "leaseNanos" "J" (.long p2)) (q3 : Fld Z h0 a "com/example/synlock/synlock/Holds$Grant" "holds" "I" (.int p3)) (q4 : Fld Z h0 a "com/example/synlock/synlock/Holds$Grant" "token" "J" (.long p4)) (q5 : Fld Z h0 a "com/example/synlock/synlock/Holds$Grant" "renewed" "Z" (.int p5)) (q6 : Fld Z h0 a "com/example/synlock/synlock/Holds$Grant" "listeners" "Ljava/util/List;" (.ref p6)) (q7 : ¬ p3 = (1 : Int32)) (q8 : p5 = 0 ∨ p5 = 1) :
    OMet l Z own_EL n0 (⟨"com/example/synlock/synlock/Holds$Grant", "releasedOnce", "()Lcom/example/synlock/synlock/Holds$Grant;"⟩ : MethodName) (Jvm.Cond.code (⟨"com/example/synlock/synlock/Holds$Grant", "releasedOnce", "()Lcom/example/synlock/synlock/Holds$Grant;"⟩ : MethodName) prog_3_method_6_code 1 (some (.object "com/example/synlock/synlock/Holds$Grant")) :: wc) ({ frames := 3, cells := 1, slots := 7, locals := 47 } : Room) #[(.ref a)] h0 [] (fun vq hq => ∃ (r : Addr), vq = some (.ref r) ∧ h0.size ≤ r ∧ Exa Z hq r "com/example/synlock/synlock/Holds$Grant" ∧ Fld Z hq r "com/example/synlock/synlock/Holds$Grant" "owner" "Ljava/lang/String;" (.ref p0) ∧ Fld Z hq r "com/example/synlock/synlock/Holds$Grant" "sentNanos" "J" (.long p1) ∧ Fld Z hq r "com/example/synlock/synlock/Holds$Grant" "leaseNanos" "J" (.long p2) ∧ Fld Z hq r "com/example/synlock/synlock/Holds$Grant" "holds" "I" (.int (p3 - (1 : Int32))) ∧ Fld Z hq r "com/example/synlock/synlock/Holds$Grant" "token" "J" (.long p4) ∧ Fld Z hq r "com/example/synlock/synlock/Holds$Grant" "renewed" "Z" (.int p5) ∧ Fld Z hq r "com/example/synlock/synlock/Holds$Grant" "listeners" "Ljava/util/List;" (.ref p6)) := by
  refine own_enter #[.val (.ref a)] pn_com_example_synlock_synlock_Holds_Grant_releasedOnce___Lcom_example_synlock_synlock_Holds_Grant_ (ef_rm_rel1 a p0 p1 p2 p3 p4 p5 p6) hWd.1 O0 all0 ?_
  intro p e s m below meth c T0 X0 hnm hret
  refine og_aloadN X0 1 d12_0 rfl rfl rfl ?_
  refine own_get X0 4 d12_1 (host := "") (Or.inl (hw _ (List.mem_of_getElem? (i := 72) rfl))) Via.refl q3 rfl ?_
  intro T1 X2
  refine og_iconst X2 5 (1 : Int32) d12_4 rfl rfl ?_
  refine og_icmpY X2 12 d12_5 (XT.ii_ne_t q7) (by decide) (by decide) ?_
  refine own_new X2 15 d12_12 (hw _ (List.mem_of_getElem? (i := 155) rfl)) (hw _ (List.mem_of_getElem? (i := 55) rfl)) (hw _ (List.mem_of_getElem? (i := 56) rfl)) (by decide) (by decide) rfl ?_
  intro T3 h3 b3 X3 K3 G3 U3 E3 D3
  have f4 : Fld Z h3 b3 "com/example/synlock/synlock/Holds$Grant" "owner" "Ljava/lang/String;" .null := D3 (Or.inr (hw _ (List.mem_of_getElem? (i := 67) rfl))) (ty := (.object "java/lang/String")) (by decide)
  have f5 : Fld Z h3 b3 "com/example/synlock/synlock/Holds$Grant" "sentNanos" "J" (.long (0 : Int64)) := D3 (Or.inr (hw _ (List.mem_of_getElem? (i := 69) rfl))) (ty := .long) (by decide)
  have f6 : Fld Z h3 b3 "com/example/synlock/synlock/Holds$Grant" "leaseNanos" "J" (.long (0 : Int64)) := D3 (Or.inr (hw _ (List.mem_of_getElem? (i := 71) rfl))) (ty := .long) (by decide)
  have f7 : Fld Z h3 b3 "com/example/synlock/synlock/Holds$Grant" "holds" "I" (.int (0 : Int32)) := D3 (Or.inr (hw _ (List.mem_of_getElem? (i := 73) rfl))) (ty := .int) (by decide)
  have f8 : Fld Z h3 b3 "com/example/synlock/synlock/Holds$Grant" "token" "J" (.long (0 : Int64)) := D3 (Or.inr (hw _ (List.mem_of_getElem? (i := 75) rfl))) (ty := .long) (by decide)
  have f9 : Fld Z h3 b3 "com/example/synlock/synlock/Holds$Grant" "renewed" "Z" (.int (0 : Int32)) := D3 (Or.inr (hw _ (List.mem_of_getElem? (i := 77) rfl))) (ty := .boolean) (by decide)
  have f10 : Fld Z h3 b3 "com/example/synlock/synlock/Holds$Grant" "listeners" "Ljava/util/List;" .null := D3 (Or.inr (hw _ (List.mem_of_getElem? (i := 79) rfl))) (ty := (.object "java/util/List")) (by decide)
  refine og_dup X3 16 d12_15 rfl rfl ?_
  refine og_aloadN X3 17 d12_16 rfl rfl rfl ?_
  have f11 := q0.keep K3 nin0
  refine own_get X3 20 d12_17 (host := "") (Or.inl (hw _ (List.mem_of_getElem? (i := 66) rfl))) Via.refl f11 rfl ?_
  intro T12 X13
  refine og_aloadN X13 21 d12_20 rfl rfl rfl ?_
  have f14 := q1.keep K3 nin0
  refine own_get X13 24 d12_21 (host := "") (Or.inl (hw _ (List.mem_of_getElem? (i := 68) rfl))) Via.refl f14 rfl ?_
  intro T15 X16
  refine og_aloadN X16 25 d12_24 rfl rfl rfl ?_
  have f17 := q2.keep K3 nin0
  refine own_get X16 28 d12_25 (host := "") (Or.inl (hw _ (List.mem_of_getElem? (i := 70) rfl))) Via.refl f17 rfl ?_
  intro T18 X19
  refine og_aloadN X19 29 d12_28 rfl rfl rfl ?_
  have f20 := q3.keep K3 nin0
  refine own_get X19 32 d12_29 (host := "") (Or.inl (hw _ (List.mem_of_getElem? (i := 72) rfl))) Via.refl f20 rfl ?_
  intro T21 X22
  refine og_iconst X22 33 (1 : Int32) d12_32 rfl rfl ?_
  refine og_isub X22 34 d12_33 rfl ?_
  refine og_aloadN X22 35 d12_34 rfl rfl rfl ?_
  have f23 := q4.keep K3 nin0
  refine own_get X22 38 d12_35 (host := "") (Or.inl (hw _ (List.mem_of_getElem? (i := 74) rfl))) Via.refl f23 rfl ?_
  intro T24 X25
  refine og_aloadN X25 39 d12_38 rfl rfl rfl ?_
  have f26 := q5.keep K3 nin0
  refine own_get X25 42 d12_39 (host := "") (Or.inl (hw _ (List.mem_of_getElem? (i := 76) rfl))) Via.refl f26 rfl ?_
  intro T27 X28
  refine og_aloadN X28 43 d12_42 rfl rfl rfl ?_
  have f29 := q6.keep K3 nin0
  refine own_get X28 46 d12_43 (host := "") (Or.inl (hw _ (List.mem_of_getElem? (i := 78) rfl))) Via.refl f29 rfl ?_
  intro T30 X31
  refine own_spec X31 49 (a := b3) (argsL := [(.ref p0), (.long p1), (.long p2), (.int (p3 - (1 : Int32))), (.long p4), (.int p5), (.ref p6)]) (rest := [(.ref b3)]) d12_46 rfl (rm10 l Z a0 hw n0 h3 hWd [] X31.old b3 p0 p1 p2 (p3 - (1 : Int32)) p4 p5 p6 E3 f4 f5 f6 f7 f8 f9 f10 q8 (own_svb X31 (List.mem_of_getElem? (i := 0) rfl))) (hw _ (List.mem_of_getElem? (i := 156) rfl)) (hw _ (List.mem_of_getElem? (i := 58) rfl)) (hw _ (List.mem_of_getElem? (i := 56) rfl)) (hw _ (List.mem_of_getElem? (i := 59) rfl)) (by decide) (lenOf pd__28Ljava_2flang_2fString_3bJJIJZLjava_2futil_2fList_3b_29V rfl) rfl rfl rfl (W := 1) rfl (by decide) (by decide) (by decide) (by decide) (allS (List.mem_of_getElem? (i := 0) rfl) all0) rfl ?_
  intro T32 h32 v32 X32 K32 hQ32
  obtain ⟨rfl, f33, f34, f35, f36, f37, f38, f39⟩ := hQ32
  show OGo _ _ _ _ T32 (mkF m 49 #[.val (.ref a)] [(.ref b3)])
  have f40 := E3.keep K32
  refine own_retA X32 d12_49 hret rfl rfl (by decide) (by decide) ?_
  exact ⟨b3, rfl, G3, f40, f33, f34, f35, f36, f37, f38, f39⟩
set_option maxRecDepth 65536 in
set_option maxHeartbeats 40000000 in
theorem rm18 (l : Launch) (Z : State) (a0 : Array Value) (hw : ∀ d ∈ tables_1, d.before a0 Z = true) (n0 : Nat) (h0 : Heap) (hWd : OWorld Z a0) (wc : List Jvm.Cond) (O0 : Old Z n0 h0) (a : Addr) (y : Addr) (q0 : Fld Z h0 a "com/example/synlock/synlock/Holds$Grant" "owner" "Ljava/lang/String;" (.ref y)) :
    OMet l Z own_EL n0 (⟨"com/example/synlock/synlock/Holds$Grant", "owner", "()Ljava/lang/String;"⟩ : MethodName) (Jvm.Cond.code (⟨"com/example/synlock/synlock/Holds$Grant", "owner", "()Ljava/lang/String;"⟩ : MethodName) prog_3_method_14_code 1 (some (.object "java/lang/String")) :: wc) ({ frames := 0, cells := 0, slots := 0, locals := 0 } : Room) #[(.ref a)] h0 [] (fun vq hq => vq = some (.ref y)) := by
  refine own_enter #[.val (.ref a)] pn_com_example_synlock_synlock_Holds_Grant_owner___Ljava_lang_String_ (ef_rm18 a y) hWd.1 O0 all0 ?_
  intro p e s m below meth c T0 X0 hnm hret
  refine og_aloadN X0 1 d18_0 rfl rfl rfl ?_
  refine own_get X0 4 d18_1 (host := "") (Or.inl (hw _ (List.mem_of_getElem? (i := 66) rfl))) Via.refl q0 rfl ?_
  intro T1 X2
  refine own_retA X2 d18_4 hret rfl rfl (by decide) (by decide) ?_
  exact rfl
set_option maxRecDepth 65536 in
set_option maxHeartbeats 40000000 in
theorem rm14 (l : Launch) (Z : State) (a0 : Array Value) (hw : ∀ d ∈ tables_1, d.before a0 Z = true) (n0 : Nat) (h0 : Heap) (hWd : OWorld Z a0) (wc : List Jvm.Cond) (O0 : Old Z n0 h0) (a : Addr) (y : Int64) (q0 : Fld Z h0 a "com/example/synlock/synlock/Holds$Grant" "sentNanos" "J" (.long y)) :
    OMet l Z own_EL n0 (⟨"com/example/synlock/synlock/Holds$Grant", "sentNanos", "()J"⟩ : MethodName) (Jvm.Cond.code (⟨"com/example/synlock/synlock/Holds$Grant", "sentNanos", "()J"⟩ : MethodName) prog_3_method_15_code 1 (some .long) :: wc) ({ frames := 0, cells := 0, slots := 0, locals := 0 } : Room) #[(.ref a)] h0 [] (fun vq hq => vq = some (.long y)) := by
  refine own_enter #[.val (.ref a)] pn_com_example_synlock_synlock_Holds_Grant_sentNanos___J (ef_rm14 a y) hWd.1 O0 all0 ?_
  intro p e s m below meth c T0 X0 hnm hret
  refine og_aloadN X0 1 d14_0 rfl rfl rfl ?_
  refine own_get X0 4 d14_1 (host := "") (Or.inl (hw _ (List.mem_of_getElem? (i := 68) rfl))) Via.refl q0 rfl ?_
  intro T1 X2
  refine own_retL X2 d14_4 hret (by decide) (by decide) ?_
  exact rfl
set_option maxRecDepth 65536 in
set_option maxHeartbeats 40000000 in
theorem rm15 (l : Launch) (Z : State) (a0 : Array Value) (hw : ∀ d ∈ tables_1, d.before a0 Z = true) (n0 : Nat) (h0 : Heap) (hWd : OWorld Z a0) (wc : List Jvm.Cond) (O0 : Old Z n0 h0) (a : Addr) (y : Int64) (q0 : Fld Z h0 a "com/example/synlock/synlock/Holds$Grant" "leaseNanos" "J" (.long y)) :
    OMet l Z own_EL n0 (⟨"com/example/synlock/synlock/Holds$Grant", "leaseNanos", "()J"⟩ : MethodName) (Jvm.Cond.code (⟨"com/example/synlock/synlock/Holds$Grant", "leaseNanos", "()J"⟩ : MethodName) prog_3_method_16_code 1 (some .long) :: wc) ({ frames := 0, cells := 0, slots := 0, locals := 0 } : Room) #[(.ref a)] h0 [] (fun vq hq => vq = some (.long y)) := by
  refine own_enter #[.val (.ref a)] pn_com_example_synlock_synlock_Holds_Grant_leaseNanos___J (ef_rm15 a y) hWd.1 O0 all0 ?_
  intro p e s m below meth c T0 X0 hnm hret
  refine og_aloadN X0 1 d15_0 rfl rfl rfl ?_
  refine own_get X0 4 d15_1 (host := "") (Or.inl (hw _ (List.mem_of_getElem? (i := 70) rfl))) Via.refl q0 rfl ?_
  intro T1 X2
  refine own_retL X2 d15_4 hret (by decide) (by decide) ?_
  exact rfl
set_option maxRecDepth 65536 in
set_option maxHeartbeats 40000000 in
theorem rm13 (l : Launch) (Z : State) (a0 : Array Value) (hw : ∀ d ∈ tables_1, d.before a0 Z = true) (n0 : Nat) (h0 : Heap) (hWd : OWorld Z a0) (wc : List Jvm.Cond) (O0 : Old Z n0 h0) (a : Addr) (y : Int32) (q0 : Fld Z h0 a "com/example/synlock/synlock/Holds$Grant" "holds" "I" (.int y)) :
    OMet l Z own_EL n0 (⟨"com/example/synlock/synlock/Holds$Grant", "holds", "()I"⟩ : MethodName) (Jvm.Cond.code (⟨"com/example/synlock/synlock/Holds$Grant", "holds", "()I"⟩ : MethodName) prog_3_method_17_code 1 (some .int) :: wc) ({ frames := 0, cells := 0, slots := 0, locals := 0 } : Room) #[(.ref a)] h0 [] (fun vq hq => vq = some (.int y)) := by
  refine own_enter #[.val (.ref a)] pn_com_example_synlock_synlock_Holds_Grant_holds___I (ef_rm13 a y) hWd.1 O0 all0 ?_
  intro p e s m below meth c T0 X0 hnm hret
  refine og_aloadN X0 1 d13_0 rfl rfl rfl ?_
  refine own_get X0 4 d13_1 (host := "") (Or.inl (hw _ (List.mem_of_getElem? (i := 72) rfl))) Via.refl q0 rfl ?_
  intro T1 X2
  refine own_retI X2 d13_4 hret (by decide) (by decide) ?_
  exact rfl
set_option maxRecDepth 65536 in
set_option maxHeartbeats 40000000 in
theorem rm16 (l : Launch) (Z : State) (a0 : Array Value) (hw : ∀ d ∈ tables_1, d.before a0 Z = true) (n0 : Nat) (h0 : Heap) (hWd : OWorld Z a0) (wc : List Jvm.Cond) (O0 : Old Z n0 h0) (a : Addr) (y : Int64) (q0 : Fld Z h0 a "com/example/synlock/synlock/Holds$Grant" "token" "J" (.long y)) :
    OMet l Z own_EL n0 (⟨"com/example/synlock/synlock/Holds$Grant", "token", "()J"⟩ : MethodName) (Jvm.Cond.code (⟨"com/example/synlock/synlock/Holds$Grant", "token", "()J"⟩ : MethodName) prog_3_method_18_code 1 (some .long) :: wc) ({ frames := 0, cells := 0, slots := 0, locals := 0 } : Room) #[(.ref a)] h0 [] (fun vq hq => vq = some (.long y)) := by
  refine own_enter #[.val (.ref a)] pn_com_example_synlock_synlock_Holds_Grant_token___J (ef_rm16 a y) hWd.1 O0 all0 ?_
  intro p e s m below meth c T0 X0 hnm hret
  refine og_aloadN X0 1 d16_0 rfl rfl rfl ?_
  refine own_get X0 4 d16_1 (host := "") (Or.inl (hw _ (List.mem_of_getElem? (i := 74) rfl))) Via.refl q0 rfl ?_
  intro T1 X2
  refine own_retL X2 d16_4 hret (by decide) (by decide) ?_
  exact rfl
set_option maxRecDepth 65536 in
set_option maxHeartbeats 40000000 in
theorem rm17 (l : Launch) (Z : State) (a0 : Array Value) (hw : ∀ d ∈ tables_1, d.before a0 Z = true) (n0 : Nat) (h0 : Heap) (hWd : OWorld Z a0) (wc : List Jvm.Cond) (O0 : Old Z n0 h0) (a : Addr) (y : Int32) (q0 : Fld Z h0 a "com/example/synlock/synlock/Holds$Grant" "renewed" "Z" (.int y)) (q1 : y = 0 ∨ y = 1) :
    OMet l Z own_EL n0 (⟨"com/example/synlock/synlock/Holds$Grant", "renewed", "()Z"⟩ : MethodName) (Jvm.Cond.code (⟨"com/example/synlock/synlock/Holds$Grant", "renewed", "()Z"⟩ : MethodName) prog_3_method_19_code 1 (some .boolean) :: wc) ({ frames := 0, cells := 0, slots := 0, locals := 0 } : Room) #[(.ref a)] h0 [] (fun vq hq => vq = some (.int y)) := by
  refine own_enter #[.val (.ref a)] pn_com_example_synlock_synlock_Holds_Grant_renewed___Z (ef_rm17 a y) hWd.1 O0 all0 ?_
  intro p e s m below meth c T0 X0 hnm hret
  refine og_aloadN X0 1 d17_0 rfl rfl rfl ?_
  refine own_get X0 4 d17_1 (host := "") (Or.inl (hw _ (List.mem_of_getElem? (i := 76) rfl))) Via.refl q0 rfl ?_
  intro T1 X2
  refine own_retZ X2 d17_4 hret (own_zb q1).1 (by decide) (by decide) ?_
  exact rfl
set_option maxRecDepth 65536 in
set_option maxHeartbeats 40000000 in
theorem rm25 (l : Launch) (Z : State) (a0 : Array Value) (hw : ∀ d ∈ tables_1, d.before a0 Z = true) (n0 : Nat) (h0 : Heap) (hWd : OWorld Z a0) (wc : List Jvm.Cond) (O0 : Old Z n0 h0) (a : Addr) (y : Addr) (q0 : Fld Z h0 a "com/example/synlock/synlock/Holds$Grant" "listeners" "Ljava/util/List;" (.ref y)) :
    OMet l Z own_EL n0 (⟨"com/example/synlock/synlock/Holds$Grant", "listeners", "()Ljava/util/List;"⟩ : MethodName) (Jvm.Cond.code (⟨"com/example/synlock/synlock/Holds$Grant", "listeners", "()Ljava/util/List;"⟩ : MethodName) prog_3_method_20_code 1 (some (.object "java/util/List")) :: wc) ({ frames := 0, cells := 0, slots := 0, locals := 0 } : Room) #[(.ref a)] h0 [] (fun vq hq => vq = some (.ref y)) := by
  refine own_enter #[.val (.ref a)] pn_com_example_synlock_synlock_Holds_Grant_listeners___Ljava_util_List_ (ef_rm25 a y) hWd.1 O0 all0 ?_
  intro p e s m below meth c T0 X0 hnm hret
  refine og_aloadN X0 1 d25_0 rfl rfl rfl ?_
  refine own_get X0 4 d25_1 (host := "") (Or.inl (hw _ (List.mem_of_getElem? (i := 78) rfl))) Via.refl q0 rfl ?_
  intro T1 X2
  refine own_retA X2 d25_4 hret rfl rfl (by decide) (by decide) ?_
  exact rfl
set_option maxRecDepth 65536 in
set_option maxHeartbeats 40000000 in
theorem rm0 (l : Launch) (Z : State) (a0 : Array Value) (hw : ∀ d ∈ tables_1, d.before a0 Z = true) (n0 : Nat) (h0 : Heap) (hWd : OWorld Z a0) (wc : List Jvm.Cond) (O0 : Old Z n0 h0) (pc : Int32) (ps : Int64) (pl : Int64) (ph : Int32) (pt : Int64) (pf : Int32)  :
    OMet l Z own_EL n0 x (Jvm.Cond.code x code maxLocals ret :: wc) room_1 #[(.int pc), (.long ps), (.long pl), (.int ph), (.long pt), (.int pf)] h0 [] (fun vq hq => vq = some (.int (1 : Int32))) := by
  refine own_enter #[.val (.int pc), .val (.long ps), .second, .val (.long pl), .second, .val (.int ph), .val (.long pt), .second, .val (.int pf), .unset, .unset, .unset, .unset, .unset, .unset, .unset, .unset] pn_com_example_synlock_synlock_GrantReleasedOncePinLaw_law__IJJIJI_Z (ef_rm0 pc ps pl ph pt pf) hWd.1 O0 all0 ?_
  intro p e s m below meth c T0 X0 hnm hret
  refine og_iconst X0 1 (2 : Int32) at_0 rfl rfl ?_
  refine own_arr X0 3 at_1 (hw _ (List.mem_of_getElem? (i := 0) rfl)) (by decide) (cap := 2) (by decide) (by decide) (by decide) (by decide) rfl ?_
  intro T1 h1 b1 kb1 X1 K1 G1 U1 A1
  have f2 : Arv Z h1 b1 kb1 .char (2 : Int32) [(.int (0 : Int32)), (.int (0 : Int32))] (.int (0 : Int32)) := A1
  refine og_astore X1 5 #[.val (.int pc), .val (.long ps), .second, .val (.long pl), .second, .val (.int ph), .val (.long pt), .second, .val (.int pf), .val (.ref b1), .unset, .unset, .unset, .unset, .unset, .unset, .unset] at_3 rfl rfl rfl ?_
  refine og_aload X1 7 at_5 rfl rfl rfl ?_
  refine og_iconst X1 8 (0 : Int32) at_7 rfl rfl ?_
  refine og_iloadN X1 9 at_8 rfl rfl ?_
  refine og_sipush X1 12 (255 : Int32) at_9 rfl rfl ?_
  refine og_iand X1 13 at_12 rfl ?_
  refine og_i2c8 X1 14 at_13 rfl ?_
  refine own_stC X1 15 at_14 f2 (own_nc8 _) (by decide) (by decide) (i := 0) (by decide) (Nat.le_of_ble_eq_true rfl) (List.mem_of_getElem? (i := 0) rfl) rfl ?_
  intro T3 h3 X3 W3 K3 A3
  have f4 : Arv Z h3 b1 kb1 .char (2 : Int32) [(.int (pc &&& (255 : Int32))), (.int (0 : Int32))] (.int (0 : Int32)) := A3
  refine og_aload X3 17 at_15 rfl rfl rfl ?_
  refine og_iconst X3 18 (1 : Int32) at_17 rfl rfl ?_
  refine og_iloadN X3 19 at_18 rfl rfl ?_
  refine og_bipush X3 21 (8 : Int32) at_19 rfl rfl ?_
  refine og_iushr X3 22 at_21 rfl ?_
  refine og_sipush X3 25 (255 : Int32) at_22 rfl rfl ?_
  refine og_iand X3 26 at_25 rfl ?_
  refine og_i2c8 X3 27 at_26 rfl ?_
  refine own_stC X3 28 at_27 f4 (own_nc8 _) (by decide) (by decide) (i := 1) (by decide) (Nat.le_of_ble_eq_true rfl) (List.mem_of_getElem? (i := 0) rfl) rfl ?_
  intro T5 h5 X5 W5 K5 A5
  have f6 : Arv Z h5 b1 kb1 .char (2 : Int32) [(.int (pc &&& (255 : Int32))), (.int ((XT.ushr pc (8 : Int32)) &&& (255 : Int32)))] (.int (0 : Int32)) := A5
  refine own_new X5 31 at_28 (hw _ (List.mem_of_getElem? (i := 1) rfl)) (hw _ (List.mem_of_getElem? (i := 2) rfl)) (hw _ (List.mem_of_getElem? (i := 3) rfl)) (by decide) (by decide) rfl ?_
  intro T7 h7 b7 X7 K7 G7 U7 E7 D7
  have f8 : Fld Z h7 b7 "java/lang/String" "coder" "B" (.int (0 : Int32)) := D7 (Or.inr (hw _ (List.mem_of_getElem? (i := 27) rfl))) (ty := .byte) (by decide)
  have f9 : Fld Z h7 b7 "java/lang/String" "value" "[B" .null := D7 (Or.inr (hw _ (List.mem_of_getElem? (i := 29) rfl))) (ty := (.array .byte)) (by decide)
  refine og_dup X7 32 at_31 rfl rfl ?_
  refine og_aload X7 34 at_32 rfl rfl rfl ?_
  have f10 := f6.keep K7 nin0
  have hp11 : ∀ c ∈ ([(pc &&& (255 : Int32)), ((XT.ushr pc (8 : Int32)) &&& (255 : Int32))] : List Int32), ¬ c < 0 ∧ ¬ (255 : Int32) < c := (own_lS (own_lat8 _) (own_lS (own_lat8 _) own_l0))
  refine own_specB X7 37 (a := b7) (argsL := [(.ref b1)]) (rest := [(.ref b7)]) at_34 rfl (fun vm0 hZ => StrChars.Road.backV (W := 1) hZ (own_wV hw) (kI := 4) (hw _ (List.mem_of_getElem? (i := 2) rfl)) (cs := [(pc &&& (255 : Int32)), ((XT.ushr pc (8 : Int32)) &&& (255 : Int32))]) (n := 2) (own_svb X7 (List.mem_of_getElem? (i := 0) rfl)).1 (own_n0 X7) E7 f9 f8 f10 (hWd.2.1.1.ext X7.old.2) hWd.2.1.2 rfl rfl (by decide) (by decide) hp11 rfl (by decide) (by decide)) (fun v h' L q => ⟨q.2.1, q.2.2.1⟩) (hw _ (List.mem_of_getElem? (i := 4) rfl)) (hw _ (List.mem_of_getElem? (i := 5) rfl)) (hw _ (List.mem_of_getElem? (i := 6) rfl)) (by decide) (lenOf pd__28_5bC_29V rfl) rfl rfl rfl (W := 1) rfl (by decide) (by decide) (allS (List.mem_of_getElem? (i := 0) rfl) all0) rfl ?_
  intro T11 h11 v11 L11 X11 K11 hQ11
  obtain ⟨rfl, -, -, E11, C11, t11, k11, -, gt11, nt11, V11, A11⟩ := hQ11
  show OGo _ _ _ _ T11 (mkF m 37 #[.val (.int pc), .val (.long ps), .second, .val (.long pl), .second, .val (.int ph), .val (.long pt), .second, .val (.int pf), .val (.ref b1), .unset, .unset, .unset, .unset, .unset, .unset, .unset] [(.ref b7)])
  refine og_astore X11 39 #[.val (.int pc), .val (.long ps), .second, .val (.long pl), .second, .val (.int ph), .val (.long pt), .second, .val (.int pf), .val (.ref b1), .val (.ref b7), .unset, .unset, .unset, .unset, .unset, .unset] at_37 rfl rfl rfl ?_
  refine og_iload X11 41 at_39 rfl rfl ?_
  refine og_iconst X11 42 (1 : Int32) at_41 rfl rfl ?_
  refine og_iand X11 43 at_42 rfl ?_
  by_cases hc12 : (pf &&& (1 : Int32)) = 0
  · -- (pf &&& (1 : Int32)) = 0
    refine og_ifY X11 50 at_43 (XT.i0_eq_t hc12) (by decide) (by decide) ?_
    refine og_iconst X11 51 (0 : Int32) at_50 rfl rfl ?_
    refine og_istore X11 53 #[.val (.int pc), .val (.long ps), .second, .val (.long pl), .second, .val (.int ph), .val (.long pt), .second, .val (.int pf), .val (.ref b1), .val (.ref b7), .val (.int (0 : Int32)), .unset, .unset, .unset, .unset, .unset] at_51 rfl rfl ?_
    refine og_iload X11 55 at_53 rfl rfl ?_
    refine og_iconst X11 56 (2 : Int32) at_55 rfl rfl ?_
    refine og_iand X11 57 at_56 rfl ?_
    by_cases hc13 : (pf &&& (2 : Int32)) = 0
    · -- (pf &&& (2 : Int32)) = 0
      refine og_ifY X11 64 at_57 (XT.i0_eq_t hc13) (by decide) (by decide) ?_
      refine og_iconst X11 65 (1 : Int32) at_64 rfl rfl ?_
      refine og_iload X11 67 at_65 rfl rfl ?_
      refine own_ldcI X11 69 (v := (2147483647 : Int32)) at_67 (hw _ (List.mem_of_getElem? (i := 120) rfl)) rfl ?_
      refine og_iand X11 70 at_69 rfl ?_
      refine own_ldcI X11 72 (v := (2147483647 : Int32)) at_70 (hw _ (List.mem_of_getElem? (i := 120) rfl)) rfl ?_
      refine og_irem X11 73 at_72 (by decide) rfl ?_
      refine og_iadd X11 74 at_73 rfl ?_
      refine og_istore X11 76 #[.val (.int pc), .val (.long ps), .second, .val (.long pl), .second, .val (.int ph), .val (.long pt), .second, .val (.int pf), .val (.ref b1), .val (.ref b7), .val (.int (0 : Int32)), .val (.int ((1 : Int32) + ((ph &&& (2147483647 : Int32)) % (2147483647 : Int32)))), .unset, .unset, .unset, .unset] at_74 rfl rfl ?_
      refine own_new X11 79 at_76 (hw _ (List.mem_of_getElem? (i := 30) rfl)) (hw _ (List.mem_of_getElem? (i := 31) rfl)) (hw _ (List.mem_of_getElem? (i := 32) rfl)) (by decide) (by decide) rfl ?_
      intro T14 h14 b14 X14 K14 G14 U14 E14 D14
      have f15 : Fld Z h14 b14 "java/util/AbstractList" "modCount" "I" (.int (0 : Int32)) := D14 (Or.inl (hw _ (List.mem_of_getElem? (i := 50) rfl))) (ty := .int) (by decide)
      have f16 : Fld Z h14 b14 "java/util/ArrayList" "elementData" "[Ljava/lang/Object;" .null := D14 (Or.inl (hw _ (List.mem_of_getElem? (i := 53) rfl))) (ty := (.array (.object "java/lang/Object"))) (by decide)
      have f17 : Fld Z h14 b14 "java/util/ArrayList" "size" "I" (.int (0 : Int32)) := D14 (Or.inl (hw _ (List.mem_of_getElem? (i := 133) rfl))) (ty := .int) (by decide)
      refine og_dup X14 80 at_79 rfl rfl ?_
      refine own_spec X14 83 (a := b14) (argsL := []) (rest := [(.ref b14)]) at_80 rfl (rm7 l Z a0 hw n0 h14 hWd [] X14.old b14 (0 : Int32) .null (0 : Int32) E14 f15 f16 f17 (own_svb X14 (List.mem_of_getElem? (i := 0) rfl))) (hw _ (List.mem_of_getElem? (i := 33) rfl)) (hw _ (List.mem_of_getElem? (i := 34) rfl)) (hw _ (List.mem_of_getElem? (i := 32) rfl)) (hw _ (List.mem_of_getElem? (i := 35) rfl)) (by decide) (lenOf pd__28_29V rfl) rfl rfl rfl (W := 1) rfl (by decide) (by decide) (by decide) (by decide) (allS (List.mem_of_getElem? (i := 0) rfl) all0) rfl ?_
      intro T18 h18 v18 X18 K18 hQ18
      obtain ⟨rfl, f19, f20, f21⟩ := hQ18
      show OGo _ _ _ _ T18 (mkF m 83 #[.val (.int pc), .val (.long ps), .second, .val (.long pl), .second, .val (.int ph), .val (.long pt), .second, .val (.int pf), .val (.ref b1), .val (.ref b7), .val (.int (0 : Int32)), .val (.int ((1 : Int32) + ((ph &&& (2147483647 : Int32)) % (2147483647 : Int32)))), .unset, .unset, .unset, .unset] [(.ref b14)])
      refine og_astore X18 85 #[.val (.int pc), .val (.long ps), .second, .val (.long pl), .second, .val (.int ph), .val (.long pt), .second, .val (.int pf), .val (.ref b1), .val (.ref b7), .val (.int (0 : Int32)), .val (.int ((1 : Int32) + ((ph &&& (2147483647 : Int32)) % (2147483647 : Int32)))), .val (.ref b14), .unset, .unset, .unset] at_83 rfl rfl rfl ?_
      refine og_iload X18 87 at_85 rfl rfl ?_
      refine og_iconst X18 88 (4 : Int32) at_87 rfl rfl ?_
      refine og_iand X18 89 at_88 rfl ?_
      by_cases hc22 : (pf &&& (4 : Int32)) = 0
      · -- (pf &&& (4 : Int32)) = 0
        refine og_ifY X18 101 at_89 (XT.i0_eq_t hc22) (by decide) (by decide) ?_
        refine own_new X18 104 at_101 (hw _ (List.mem_of_getElem? (i := 54) rfl)) (hw _ (List.mem_of_getElem? (i := 55) rfl)) (hw _ (List.mem_of_getElem? (i := 56) rfl)) (by decide) (by decide) rfl ?_
        intro T23 h23 b23 X23 K23 G23 U23 E23 D23
        have f24 : Fld Z h23 b23 "com/example/synlock/synlock/Holds$Grant" "owner" "Ljava/lang/String;" .null := D23 (Or.inr (hw _ (List.mem_of_getElem? (i := 67) rfl))) (ty := (.object "java/lang/String")) (by decide)
        have f25 : Fld Z h23 b23 "com/example/synlock/synlock/Holds$Grant" "sentNanos" "J" (.long (0 : Int64)) := D23 (Or.inr (hw _ (List.mem_of_getElem? (i := 69) rfl))) (ty := .long) (by decide)
        have f26 : Fld Z h23 b23 "com/example/synlock/synlock/Holds$Grant" "leaseNanos" "J" (.long (0 : Int64)) := D23 (Or.inr (hw _ (List.mem_of_getElem? (i := 71) rfl))) (ty := .long) (by decide)
        have f27 : Fld Z h23 b23 "com/example/synlock/synlock/Holds$Grant" "holds" "I" (.int (0 : Int32)) := D23 (Or.inr (hw _ (List.mem_of_getElem? (i := 73) rfl))) (ty := .int) (by decide)
        have f28 : Fld Z h23 b23 "com/example/synlock/synlock/Holds$Grant" "token" "J" (.long (0 : Int64)) := D23 (Or.inr (hw _ (List.mem_of_getElem? (i := 75) rfl))) (ty := .long) (by decide)
        have f29 : Fld Z h23 b23 "com/example/synlock/synlock/Holds$Grant" "renewed" "Z" (.int (0 : Int32)) := D23 (Or.inr (hw _ (List.mem_of_getElem? (i := 77) rfl))) (ty := .boolean) (by decide)
        have f30 : Fld Z h23 b23 "com/example/synlock/synlock/Holds$Grant" "listeners" "Ljava/util/List;" .null := D23 (Or.inr (hw _ (List.mem_of_getElem? (i := 79) rfl))) (ty := (.object "java/util/List")) (by decide)
        refine og_dup X23 105 at_104 rfl rfl ?_
        refine og_aload X23 107 at_105 rfl rfl rfl ?_
        refine og_lloadN X23 108 at_107 rfl rfl ?_
        refine og_lloadN X23 109 at_108 rfl rfl ?_
        refine og_iload X23 111 at_109 rfl rfl ?_
        refine og_lload X23 113 at_111 rfl rfl ?_
        refine og_iload X23 115 at_113 rfl rfl ?_
        refine og_aload X23 117 at_115 rfl rfl rfl ?_
        refine own_spec X23 120 (a := b23) (argsL := [(.ref b7), (.long ps), (.long pl), (.int ((1 : Int32) + ((ph &&& (2147483647 : Int32)) % (2147483647 : Int32)))), (.long pt), (.int (0 : Int32)), (.ref b14)]) (rest := [(.ref b23)]) at_117 rfl (rm10 l Z a0 hw n0 h23 hWd [] X23.old b23 b7 ps pl ((1 : Int32) + ((ph &&& (2147483647 : Int32)) % (2147483647 : Int32))) pt (0 : Int32) b14 E23 f24 f25 f26 f27 f28 f29 f30 (by decide) (own_svb X23 (List.mem_of_getElem? (i := 0) rfl))) (hw _ (List.mem_of_getElem? (i := 57) rfl)) (hw _ (List.mem_of_getElem? (i := 58) rfl)) (hw _ (List.mem_of_getElem? (i := 56) rfl)) (hw _ (List.mem_of_getElem? (i := 59) rfl)) (by decide) (lenOf pd__28Ljava_2flang_2fString_3bJJIJZLjava_2futil_2fList_3b_29V rfl) rfl rfl rfl (W := 1) rfl (by decide) (by decide) (by decide) (by decide) (allS (List.mem_of_getElem? (i := 0) rfl) all0) rfl ?_
        intro T31 h31 v31 X31 K31 hQ31
        obtain ⟨rfl, f32, f33, f34, f35, f36, f37, f38⟩ := hQ31
        show OGo _ _ _ _ T31 (mkF m 120 #[.val (.int pc), .val (.long ps), .second, .val (.long pl), .second, .val (.int ph), .val (.long pt), .second, .val (.int pf), .val (.ref b1), .val (.ref b7), .val (.int (0 : Int32)), .val (.int ((1 : Int32) + ((ph &&& (2147483647 : Int32)) % (2147483647 : Int32)))), .val (.ref b14), .unset, .unset, .unset] [(.ref b23)])
        refine og_astore X31 122 #[.val (.int pc), .val (.long ps), .second, .val (.long pl), .second, .val (.int ph), .val (.long pt), .second, .val (.int pf), .val (.ref b1), .val (.ref b7), .val (.int (0 : Int32)), .val (.int ((1 : Int32) + ((ph &&& (2147483647 : Int32)) % (2147483647 : Int32)))), .val (.ref b14), .val (.ref b23), .unset, .unset] at_120 rfl rfl rfl ?_
        refine og_aload X31 124 at_122 rfl rfl rfl ?_
        by_cases hc39 : ((1 : Int32) + ((ph &&& (2147483647 : Int32)) % (2147483647 : Int32))) = (1 : Int32)
        · -- ((1 : Int32) + ((ph &&& (2147483647 : Int32)) % (2147483647 : Int32))) = (1 : Int32)
          have f40 := E23.keep K31
          refine own_virt X31 127 (a := b23) (argsL := []) (rest := []) at_124 f40 (fun _ hZ => notFace_of_selects (args := #[]) (mvT hZ (hw _ (List.mem_of_getElem? (i := 83) rfl)))) (rm_rel0 l Z a0 hw n0 h31 hWd [] X31.old b23 ((1 : Int32) + ((ph &&& (2147483647 : Int32)) % (2147483647 : Int32))) f35 hc39 ) (hw _ (List.mem_of_getElem? (i := 80) rfl)) (hw _ (List.mem_of_getElem? (i := 81) rfl)) (hw _ (List.mem_of_getElem? (i := 83) rfl)) (hw _ (List.mem_of_getElem? (i := 82) rfl)) (hw _ (List.mem_of_getElem? (i := 56) rfl)) (hw _ (List.mem_of_getElem? (i := 84) rfl)) (by decide) (lenOf pd__28_29Lcom_2fexample_2fsynlock_2fsynlock_2fHolds_24Grant_3b rfl) rfl rfl rfl (W := 0) rfl (by decide) (by decide) (by decide) (by decide) all0 rfl ?_
          intro T41 h41 v41 X41 K41 hQ41
          obtain rfl := hQ41
          show OGo _ _ _ _ T41 (mkF m 127 #[.val (.int pc), .val (.long ps), .second, .val (.long pl), .second, .val (.int ph), .val (.long pt), .second, .val (.int pf), .val (.ref b1), .val (.ref b7), .val (.int (0 : Int32)), .val (.int ((1 : Int32) + ((ph &&& (2147483647 : Int32)) % (2147483647 : Int32)))), .val (.ref b14), .val (.ref b23), .unset, .unset] [.null])
          refine og_astore X41 129 #[.val (.int pc), .val (.long ps), .second, .val (.long pl), .second, .val (.int ph), .val (.long pt), .second, .val (.int pf), .val (.ref b1), .val (.ref b7), .val (.int (0 : Int32)), .val (.int ((1 : Int32) + ((ph &&& (2147483647 : Int32)) % (2147483647 : Int32)))), .val (.ref b14), .val (.ref b23), .val .null, .unset] at_127 rfl rfl rfl ?_
          refine og_aload X41 131 at_129 rfl rfl rfl ?_
          have f42 := f40.keep K41
          have f43 := f35.keep K41 nin0
          refine own_virt X41 134 (a := b23) (argsL := []) (rest := []) at_131 f42 (fun _ hZ => notFace_of_selects (args := #[]) (mvT hZ (hw _ (List.mem_of_getElem? (i := 88) rfl)))) (rm13 l Z a0 hw n0 h41 hWd [] X41.old b23 ((1 : Int32) + ((ph &&& (2147483647 : Int32)) % (2147483647 : Int32))) f43 ) (hw _ (List.mem_of_getElem? (i := 85) rfl)) (hw _ (List.mem_of_getElem? (i := 86) rfl)) (hw _ (List.mem_of_getElem? (i := 88) rfl)) (hw _ (List.mem_of_getElem? (i := 87) rfl)) (hw _ (List.mem_of_getElem? (i := 56) rfl)) (hw _ (List.mem_of_getElem? (i := 89) rfl)) (by decide) (lenOf pd__28_29I rfl) rfl rfl rfl (W := 0) rfl (by decide) (by decide) (by decide) (by decide) all0 rfl ?_
          intro T44 h44 v44 X44 K44 hQ44
          obtain rfl := hQ44
          show OGo _ _ _ _ T44 (mkF m 134 #[.val (.int pc), .val (.long ps), .second, .val (.long pl), .second, .val (.int ph), .val (.long pt), .second, .val (.int pf), .val (.ref b1), .val (.ref b7), .val (.int (0 : Int32)), .val (.int ((1 : Int32) + ((ph &&& (2147483647 : Int32)) % (2147483647 : Int32)))), .val (.ref b14), .val (.ref b23), .val .null, .unset] [(.int ((1 : Int32) + ((ph &&& (2147483647 : Int32)) % (2147483647 : Int32))))])
          refine og_iload X44 136 at_134 rfl rfl ?_
          refine og_icmpN X44 139 at_136 (XT.ii_ne_f rfl) rfl ?_
          refine og_aload X44 141 at_139 rfl rfl rfl ?_
          have f45 := f42.keep K44
          have f46 := f33.keep K41 nin0
          have f47 := f46.keep K44 nin0
          refine own_virt X44 144 (a := b23) (argsL := []) (rest := []) at_141 f45 (fun _ hZ => notFace_of_selects (args := #[]) (mvT hZ (hw _ (List.mem_of_getElem? (i := 93) rfl)))) (rm14 l Z a0 hw n0 h44 hWd [] X44.old b23 ps f47 ) (hw _ (List.mem_of_getElem? (i := 90) rfl)) (hw _ (List.mem_of_getElem? (i := 91) rfl)) (hw _ (List.mem_of_getElem? (i := 93) rfl)) (hw _ (List.mem_of_getElem? (i := 92) rfl)) (hw _ (List.mem_of_getElem? (i := 56) rfl)) (hw _ (List.mem_of_getElem? (i := 94) rfl)) (by decide) (lenOf pd__28_29J rfl) rfl rfl rfl (W := 0) rfl (by decide) (by decide) (by decide) (by decide) all0 rfl ?_
          intro T48 h48 v48 X48 K48 hQ48
          obtain rfl := hQ48
          show OGo _ _ _ _ T48 (mkF m 144 #[.val (.int pc), .val (.long ps), .second, .val (.long pl), .second, .val (.int ph), .val (.long pt), .second, .val (.int pf), .val (.ref b1), .val (.ref b7), .val (.int (0 : Int32)), .val (.int ((1 : Int32) + ((ph &&& (2147483647 : Int32)) % (2147483647 : Int32)))), .val (.ref b14), .val (.ref b23), .val .null, .unset] [(.long ps)])
          refine og_lloadN X48 145 at_144 rfl rfl ?_
          refine og_lcmp X48 146 at_145 rfl ?_
          refine og_ifN X48 149 at_146 (XT.ll_ne_f rfl) rfl ?_
          refine og_aload X48 151 at_149 rfl rfl rfl ?_
          have f49 := f45.keep K48
          have f50 := f34.keep K41 nin0
          have f51 := f50.keep K44 nin0
          have f52 := f51.keep K48 nin0
          refine own_virt X48 154 (a := b23) (argsL := []) (rest := []) at_151 f49 (fun _ hZ => notFace_of_selects (args := #[]) (mvT hZ (hw _ (List.mem_of_getElem? (i := 98) rfl)))) (rm15 l Z a0 hw n0 h48 hWd [] X48.old b23 pl f52 ) (hw _ (List.mem_of_getElem? (i := 95) rfl)) (hw _ (List.mem_of_getElem? (i := 96) rfl)) (hw _ (List.mem_of_getElem? (i := 98) rfl)) (hw _ (List.mem_of_getElem? (i := 97) rfl)) (hw _ (List.mem_of_getElem? (i := 56) rfl)) (hw _ (List.mem_of_getElem? (i := 99) rfl)) (by decide) (lenOf pd__28_29J rfl) rfl rfl rfl (W := 0) rfl (by decide) (by decide) (by decide) (by decide) all0 rfl ?_
          intro T53 h53 v53 X53 K53 hQ53
          obtain rfl := hQ53
          show OGo _ _ _ _ T53 (mkF m 154 #[.val (.int pc), .val (.long ps), .second, .val (.long pl), .second, .val (.int ph), .val (.long pt), .second, .val (.int pf), .val (.ref b1), .val (.ref b7), .val (.int (0 : Int32)), .val (.int ((1 : Int32) + ((ph &&& (2147483647 : Int32)) % (2147483647 : Int32)))), .val (.ref b14), .val (.ref b23), .val .null, .unset] [(.long pl)])
          refine og_lloadN X53 155 at_154 rfl rfl ?_
          refine og_lcmp X53 156 at_155 rfl ?_
          refine og_ifN X53 159 at_156 (XT.ll_ne_f rfl) rfl ?_
          refine og_aload X53 161 at_159 rfl rfl rfl ?_
          have f54 := f49.keep K53
          have f55 := f36.keep K41 nin0
          have f56 := f55.keep K44 nin0
          have f57 := f56.keep K48 nin0
          have f58 := f57.keep K53 nin0
          refine own_virt X53 164 (a := b23) (argsL := []) (rest := []) at_161 f54 (fun _ hZ => notFace_of_selects (args := #[]) (mvT hZ (hw _ (List.mem_of_getElem? (i := 103) rfl)))) (rm16 l Z a0 hw n0 h53 hWd [] X53.old b23 pt f58 ) (hw _ (List.mem_of_getElem? (i := 100) rfl)) (hw _ (List.mem_of_getElem? (i := 101) rfl)) (hw _ (List.mem_of_getElem? (i := 103) rfl)) (hw _ (List.mem_of_getElem? (i := 102) rfl)) (hw _ (List.mem_of_getElem? (i := 56) rfl)) (hw _ (List.mem_of_getElem? (i := 104) rfl)) (by decide) (lenOf pd__28_29J rfl) rfl rfl rfl (W := 0) rfl (by decide) (by decide) (by decide) (by decide) all0 rfl ?_
          intro T59 h59 v59 X59 K59 hQ59
          obtain rfl := hQ59
          show OGo _ _ _ _ T59 (mkF m 164 #[.val (.int pc), .val (.long ps), .second, .val (.long pl), .second, .val (.int ph), .val (.long pt), .second, .val (.int pf), .val (.ref b1), .val (.ref b7), .val (.int (0 : Int32)), .val (.int ((1 : Int32) + ((ph &&& (2147483647 : Int32)) % (2147483647 : Int32)))), .val (.ref b14), .val (.ref b23), .val .null, .unset] [(.long pt)])
          refine og_lload X59 166 at_164 rfl rfl ?_
          refine og_lcmp X59 167 at_166 rfl ?_
          refine og_ifN X59 170 at_167 (XT.ll_ne_f rfl) rfl ?_
          refine og_aload X59 172 at_170 rfl rfl rfl ?_
          have f60 := f54.keep K59
          have f61 := f37.keep K41 nin0
          have f62 := f61.keep K44 nin0
          have f63 := f62.keep K48 nin0
          have f64 := f63.keep K53 nin0
          have f65 := f64.keep K59 nin0
          refine own_virt X59 175 (a := b23) (argsL := []) (rest := []) at_172 f60 (fun _ hZ => notFace_of_selects (args := #[]) (mvT hZ (hw _ (List.mem_of_getElem? (i := 108) rfl)))) (rm17 l Z a0 hw n0 h59 hWd [] X59.old b23 (0 : Int32) f65 (by decide) ) (hw _ (List.mem_of_getElem? (i := 105) rfl)) (hw _ (List.mem_of_getElem? (i := 106) rfl)) (hw _ (List.mem_of_getElem? (i := 108) rfl)) (hw _ (List.mem_of_getElem? (i := 107) rfl)) (hw _ (List.mem_of_getElem? (i := 56) rfl)) (hw _ (List.mem_of_getElem? (i := 109) rfl)) (by decide) (lenOf pd__28_29Z rfl) rfl rfl rfl (W := 0) rfl (by decide) (by decide) (by decide) (by decide) all0 rfl ?_
          intro T66 h66 v66 X66 K66 hQ66
          obtain rfl := hQ66
          show OGo _ _ _ _ T66 (mkF m 175 #[.val (.int pc), .val (.long ps), .second, .val (.long pl), .second, .val (.int ph), .val (.long pt), .second, .val (.int pf), .val (.ref b1), .val (.ref b7), .val (.int (0 : Int32)), .val (.int ((1 : Int32) + ((ph &&& (2147483647 : Int32)) % (2147483647 : Int32)))), .val (.ref b14), .val (.ref b23), .val .null, .unset] [(.int (0 : Int32))])
          refine og_iload X66 177 at_175 rfl rfl ?_
          refine og_icmpN X66 180 at_177 (XT.ii_ne_f (by decide)) rfl ?_
          refine og_aload X66 182 at_180 rfl rfl rfl ?_
          have f67 := f60.keep K66
          have f68 := f32.keep K41 nin0
          have f69 := f68.keep K44 nin0
          have f70 := f69.keep K48 nin0
          have f71 := f70.keep K53 nin0
          have f72 := f71.keep K59 nin0
          have f73 := f72.keep K66 nin0
          refine own_virt X66 185 (a := b23) (argsL := []) (rest := []) at_182 f67 (fun _ hZ => notFace_of_selects (args := #[]) (mvT hZ (hw _ (List.mem_of_getElem? (i := 113) rfl)))) (rm18 l Z a0 hw n0 h66 hWd [] X66.old b23 b7 f73 ) (hw _ (List.mem_of_getElem? (i := 110) rfl)) (hw _ (List.mem_of_getElem? (i := 111) rfl)) (hw _ (List.mem_of_getElem? (i := 113) rfl)) (hw _ (List.mem_of_getElem? (i := 112) rfl)) (hw _ (List.mem_of_getElem? (i := 56) rfl)) (hw _ (List.mem_of_getElem? (i := 114) rfl)) (by decide) (lenOf pd__28_29Ljava_2flang_2fString_3b rfl) rfl rfl rfl (W := 0) rfl (by decide) (by decide) (by decide) (by decide) all0 rfl ?_
          intro T74 h74 v74 X74 K74 hQ74
          obtain rfl := hQ74
          show OGo _ _ _ _ T74 (mkF m 185 #[.val (.int pc), .val (.long ps), .second, .val (.long pl), .second, .val (.int ph), .val (.long pt), .second, .val (.int pf), .val (.ref b1), .val (.ref b7), .val (.int (0 : Int32)), .val (.int ((1 : Int32) + ((ph &&& (2147483647 : Int32)) % (2147483647 : Int32)))), .val (.ref b14), .val (.ref b23), .val .null, .unset] [(.ref b7)])
          refine og_aload X74 187 at_185 rfl rfl rfl ?_
          have f75 := E11.keep K14
          have f76 := f75.keep K18
          have f77 := f76.keep K23
          have f78 := f77.keep K31
          have f79 := f78.keep K41
          have f80 := f79.keep K44
          have f81 := f80.keep K48
          have f82 := f81.keep K53
          have f83 := f82.keep K59
          have f84 := f83.keep K66
          have f85 := f84.keep K74
          refine own_virt X74 190 (a := b7) (argsL := [(.ref b7)]) (rest := []) at_187 f85 (fun _ hZ => notFace_of_selects (args := #[]) (mvT hZ (hw _ (List.mem_of_getElem? (i := 118) rfl)))) (rm19 l Z a0 hw n0 h74 hWd [] X74.old b7  ) (hw _ (List.mem_of_getElem? (i := 115) rfl)) (hw _ (List.mem_of_getElem? (i := 116) rfl)) (hw _ (List.mem_of_getElem? (i := 118) rfl)) (hw _ (List.mem_of_getElem? (i := 117) rfl)) (hw _ (List.mem_of_getElem? (i := 3) rfl)) (hw _ (List.mem_of_getElem? (i := 119) rfl)) (by decide) (lenOf pd__28Ljava_2flang_2fObject_3b_29Z rfl) rfl rfl rfl (W := 0) rfl (by decide) (by decide) (by decide) (by decide) all0 rfl ?_
          intro T86 h86 v86 X86 K86 hQ86
          obtain rfl := hQ86
          show OGo _ _ _ _ T86 (mkF m 190 #[.val (.int pc), .val (.long ps), .second, .val (.long pl), .second, .val (.int ph), .val (.long pt), .second, .val (.int pf), .val (.ref b1), .val (.ref b7), .val (.int (0 : Int32)), .val (.int ((1 : Int32) + ((ph &&& (2147483647 : Int32)) % (2147483647 : Int32)))), .val (.ref b14), .val (.ref b23), .val .null, .unset] [(.int (1 : Int32))])
          refine og_ifN X86 193 at_190 (XT.i0_eq_f (by decide)) rfl ?_
          refine og_iconst X86 194 (1 : Int32) at_193 rfl rfl ?_
          refine og_goto X86 198 at_194 (by decide) (by decide) ?_
          refine og_istore X86 200 #[.val (.int pc), .val (.long ps), .second, .val (.long pl), .second, .val (.int ph), .val (.long pt), .second, .val (.int pf), .val (.ref b1), .val (.ref b7), .val (.int (0 : Int32)), .val (.int ((1 : Int32) + ((ph &&& (2147483647 : Int32)) % (2147483647 : Int32)))), .val (.ref b14), .val (.ref b23), .val .null, .val (.int (1 : Int32))] at_198 rfl rfl ?_
          refine og_iload X86 202 at_200 rfl rfl ?_
          refine og_iconst X86 203 (1 : Int32) at_202 rfl rfl ?_
          refine og_icmpN X86 206 at_203 (XT.ii_ne_f hc39) rfl ?_
          refine og_aload X86 208 at_206 rfl rfl rfl ?_
          refine og_nonnullN X86 211 at_208 rfl ?_
          refine og_iload X86 213 at_211 rfl rfl ?_
          refine og_ifN X86 216 at_213 (XT.i0_eq_f (by decide)) rfl ?_
          refine og_iconst X86 217 (1 : Int32) at_216 rfl rfl ?_
          refine og_goto X86 221 at_217 (by decide) (by decide) ?_
          refine own_retZ X86 at_221 hret rfl (by decide) (by decide) ?_
          exact rfl
        · -- not
          have f87 := E23.keep K31
          refine own_virt X31 127 (a := b23) (argsL := []) (rest := []) at_124 f87 (fun _ hZ => notFace_of_selects (args := #[]) (mvT hZ (hw _ (List.mem_of_getElem? (i := 83) rfl)))) (rm_rel1 l Z a0 hw n0 h31 hWd [] X31.old b23 b7 ps pl ((1 : Int32) + ((ph &&& (2147483647 : Int32)) % (2147483647 : Int32))) pt (0 : Int32) b14 f32 f33 f34 f35 f36 f37 f38 hc39 (by decide) ) (hw _ (List.mem_of_getElem? (i := 80) rfl)) (hw _ (List.mem_of_getElem? (i := 81) rfl)) (hw _ (List.mem_of_getElem? (i := 83) rfl)) (hw _ (List.mem_of_getElem? (i := 82) rfl)) (hw _ (List.mem_of_getElem? (i := 56) rfl)) (hw _ (List.mem_of_getElem? (i := 84) rfl)) (by decide) (lenOf pd__28_29Lcom_2fexample_2fsynlock_2fsynlock_2fHolds_24Grant_3b rfl) rfl rfl rfl (W := 0) rfl (by decide) (by decide) (by decide) (by decide) all0 rfl ?_
          intro T88 h88 v88 X88 K88 hQ88
          obtain ⟨r88, rfl, ge_r88, f89, f90, f91, f92, f93, f94, f95, f96⟩ := hQ88
          show OGo _ _ _ _ T88 (mkF m 127 #[.val (.int pc), .val (.long ps), .second, .val (.long pl), .second, .val (.int ph), .val (.long pt), .second, .val (.int pf), .val (.ref b1), .val (.ref b7), .val (.int (0 : Int32)), .val (.int ((1 : Int32) + ((ph &&& (2147483647 : Int32)) % (2147483647 : Int32)))), .val (.ref b14), .val (.ref b23), .unset, .unset] [(.ref r88)])
          refine og_astore X88 129 #[.val (.int pc), .val (.long ps), .second, .val (.long pl), .second, .val (.int ph), .val (.long pt), .second, .val (.int pf), .val (.ref b1), .val (.ref b7), .val (.int (0 : Int32)), .val (.int ((1 : Int32) + ((ph &&& (2147483647 : Int32)) % (2147483647 : Int32)))), .val (.ref b14), .val (.ref b23), .val (.ref r88), .unset] at_127 rfl rfl rfl ?_
          refine og_aload X88 131 at_129 rfl rfl rfl ?_
          have f97 := f87.keep K88
          have f98 := f35.keep K88 nin0
          refine own_virt X88 134 (a := b23) (argsL := []) (rest := []) at_131 f97 (fun _ hZ => notFace_of_selects (args := #[]) (mvT hZ (hw _ (List.mem_of_getElem? (i := 88) rfl)))) (rm13 l Z a0 hw n0 h88 hWd [] X88.old b23 ((1 : Int32) + ((ph &&& (2147483647 : Int32)) % (2147483647 : Int32))) f98 ) (hw _ (List.mem_of_getElem? (i := 85) rfl)) (hw _ (List.mem_of_getElem? (i := 86) rfl)) (hw _ (List.mem_of_getElem? (i := 88) rfl)) (hw _ (List.mem_of_getElem? (i := 87) rfl)) (hw _ (List.mem_of_getElem? (i := 56) rfl)) (hw _ (List.mem_of_getElem? (i := 89) rfl)) (by decide) (lenOf pd__28_29I rfl) rfl rfl rfl (W := 0) rfl (by decide) (by decide) (by decide) (by decide) all0 rfl ?_
          intro T99 h99 v99 X99 K99 hQ99
          obtain rfl := hQ99
          show OGo _ _ _ _ T99 (mkF m 134 #[.val (.int pc), .val (.long ps), .second, .val (.long pl), .second, .val (.int ph), .val (.long pt), .second, .val (.int pf), .val (.ref b1), .val (.ref b7), .val (.int (0 : Int32)), .val (.int ((1 : Int32) + ((ph &&& (2147483647 : Int32)) % (2147483647 : Int32)))), .val (.ref b14), .val (.ref b23), .val (.ref r88), .unset] [(.int ((1 : Int32) + ((ph &&& (2147483647 : Int32)) % (2147483647 : Int32))))])
          refine og_iload X99 136 at_134 rfl rfl ?_
          refine og_icmpN X99 139 at_136 (XT.ii_ne_f rfl) rfl ?_
          refine og_aload X99 141 at_139 rfl rfl rfl ?_
          have f100 := f97.keep K99
          have f101 := f33.keep K88 nin0
          have f102 := f101.keep K99 nin0
          refine own_virt X99 144 (a := b23) (argsL := []) (rest := []) at_141 f100 (fun _ hZ => notFace_of_selects (args := #[]) (mvT hZ (hw _ (List.mem_of_getElem? (i := 93) rfl)))) (rm14 l Z a0 hw n0 h99 hWd [] X99.old b23 ps f102 ) (hw _ (List.mem_of_getElem? (i := 90) rfl)) (hw _ (List.mem_of_getElem? (i := 91) rfl)) (hw _ (List.mem_of_getElem? (i := 93) rfl)) (hw _ (List.mem_of_getElem? (i := 92) rfl)) (hw _ (List.mem_of_getElem? (i := 56) rfl)) (hw _ (List.mem_of_getElem? (i := 94) rfl)) (by decide) (lenOf pd__28_29J rfl) rfl rfl rfl (W := 0) rfl (by decide) (by decide) (by decide) (by decide) all0 rfl ?_
          intro T103 h103 v103 X103 K103 hQ103
          obtain rfl := hQ103
          show OGo _ _ _ _ T103 (mkF m 144 #[.val (.int pc), .val (.long ps), .second, .val (.long pl), .second, .val (.int ph), .val (.long pt), .second, .val (.int pf), .val (.ref b1), .val (.ref b7), .val (.int (0 : Int32)), .val (.int ((1 : Int32) + ((ph &&& (2147483647 : Int32)) % (2147483647 : Int32)))), .val (.ref b14), .val (.ref b23), .val (.ref r88), .unset] [(.long ps)])
          refine og_lloadN X103 145 at_144 rfl rfl ?_
          refine og_lcmp X103 146 at_145 rfl ?_
          refine og_ifN X103 149 at_146 (XT.ll_ne_f rfl) rfl ?_
          refine og_aload X103 151 at_149 rfl rfl rfl ?_
          have f104 := f100.keep K103
          have f105 := f34.keep K88 nin0
          have f106 := f105.keep K99 nin0
          have f107 := f106.keep K103 nin0
          refine own_virt X103 154 (a := b23) (argsL := []) (rest := []) at_151 f104 (fun _ hZ => notFace_of_selects (args := #[]) (mvT hZ (hw _ (List.mem_of_getElem? (i := 98) rfl)))) (rm15 l Z a0 hw n0 h103 hWd [] X103.old b23 pl f107 ) (hw _ (List.mem_of_getElem? (i := 95) rfl)) (hw _ (List.mem_of_getElem? (i := 96) rfl)) (hw _ (List.mem_of_getElem? (i := 98) rfl)) (hw _ (List.mem_of_getElem? (i := 97) rfl)) (hw _ (List.mem_of_getElem? (i := 56) rfl)) (hw _ (List.mem_of_getElem? (i := 99) rfl)) (by decide) (lenOf pd__28_29J rfl) rfl rfl rfl (W := 0) rfl (by decide) (by decide) (by decide) (by decide) all0 rfl ?_
          intro T108 h108 v108 X108 K108 hQ108
          obtain rfl := hQ108
          show OGo _ _ _ _ T108 (mkF m 154 #[.val (.int pc), .val (.long ps), .second, .val (.long pl), .second, .val (.int ph), .val (.long pt), .second, .val (.int pf), .val (.ref b1), .val (.ref b7), .val (.int (0 : Int32)), .val (.int ((1 : Int32) + ((ph &&& (2147483647 : Int32)) % (2147483647 : Int32)))), .val (.ref b14), .val (.ref b23), .val (.ref r88), .unset] [(.long pl)])
          refine og_lloadN X108 155 at_154 rfl rfl ?_
          refine og_lcmp X108 156 at_155 rfl ?_
          refine og_ifN X108 159 at_156 (XT.ll_ne_f rfl) rfl ?_
          refine og_aload X108 161 at_159 rfl rfl rfl ?_
          have f109 := f104.keep K108
          have f110 := f36.keep K88 nin0
          have f111 := f110.keep K99 nin0
          have f112 := f111.keep K103 nin0
          have f113 := f112.keep K108 nin0
          refine own_virt X108 164 (a := b23) (argsL := []) (rest := []) at_161 f109 (fun _ hZ => notFace_of_selects (args := #[]) (mvT hZ (hw _ (List.mem_of_getElem? (i := 103) rfl)))) (rm16 l Z a0 hw n0 h108 hWd [] X108.old b23 pt f113 ) (hw _ (List.mem_of_getElem? (i := 100) rfl)) (hw _ (List.mem_of_getElem? (i := 101) rfl)) (hw _ (List.mem_of_getElem? (i := 103) rfl)) (hw _ (List.mem_of_getElem? (i := 102) rfl)) (hw _ (List.mem_of_getElem? (i := 56) rfl)) (hw _ (List.mem_of_getElem? (i := 104) rfl)) (by decide) (lenOf pd__28_29J rfl) rfl rfl rfl (W := 0) rfl (by decide) (by decide) (by decide) (by decide) all0 rfl ?_
          intro T114 h114 v114 X114 K114 hQ114
          obtain rfl := hQ114
          show OGo _ _ _ _ T114 (mkF m 164 #[.val (.int pc), .val (.long ps), .second, .val (.long pl), .second, .val (.int ph), .val (.long pt), .second, .val (.int pf), .val (.ref b1), .val (.ref b7), .val (.int (0 : Int32)), .val (.int ((1 : Int32) + ((ph &&& (2147483647 : Int32)) % (2147483647 : Int32)))), .val (.ref b14), .val (.ref b23), .val (.ref r88), .unset] [(.long pt)])
          refine og_lload X114 166 at_164 rfl rfl ?_
          refine og_lcmp X114 167 at_166 rfl ?_
          refine og_ifN X114 170 at_167 (XT.ll_ne_f rfl) rfl ?_
          refine og_aload X114 172 at_170 rfl rfl rfl ?_
          have f115 := f109.keep K114
          have f116 := f37.keep K88 nin0
          have f117 := f116.keep K99 nin0
          have f118 := f117.keep K103 nin0
          have f119 := f118.keep K108 nin0
          have f120 := f119.keep K114 nin0
          refine own_virt X114 175 (a := b23) (argsL := []) (rest := []) at_172 f115 (fun _ hZ => notFace_of_selects (args := #[]) (mvT hZ (hw _ (List.mem_of_getElem? (i := 108) rfl)))) (rm17 l Z a0 hw n0 h114 hWd [] X114.old b23 (0 : Int32) f120 (by decide) ) (hw _ (List.mem_of_getElem? (i := 105) rfl)) (hw _ (List.mem_of_getElem? (i := 106) rfl)) (hw _ (List.mem_of_getElem? (i := 108) rfl)) (hw _ (List.mem_of_getElem? (i := 107) rfl)) (hw _ (List.mem_of_getElem? (i := 56) rfl)) (hw _ (List.mem_of_getElem? (i := 109) rfl)) (by decide) (lenOf pd__28_29Z rfl) rfl rfl rfl (W := 0) rfl (by decide) (by decide) (by decide) (by decide) all0 rfl ?_
          intro T121 h121 v121 X121 K121 hQ121
          obtain rfl := hQ121
          show OGo _ _ _ _ T121 (mkF m 175 #[.val (.int pc), .val (.long ps), .second, .val (.long pl), .second, .val (.int ph), .val (.long pt), .second, .val (.int pf), .val (.ref b1), .val (.ref b7), .val (.int (0 : Int32)), .val (.int ((1 : Int32) + ((ph &&& (2147483647 : Int32)) % (2147483647 : Int32)))), .val (.ref b14), .val (.ref b23), .val (.ref r88), .unset] [(.int (0 : Int32))])
          refine og_iload X121 177 at_175 rfl rfl ?_
          refine og_icmpN X121 180 at_177 (XT.ii_ne_f (by decide)) rfl ?_
          refine og_aload X121 182 at_180 rfl rfl rfl ?_
          have f122 := f115.keep K121
          have f123 := f32.keep K88 nin0
          have f124 := f123.keep K99 nin0
          have f125 := f124.keep K103 nin0
          have f126 := f125.keep K108 nin0
          have f127 := f126.keep K114 nin0
          have f128 := f127.keep K121 nin0
          refine own_virt X121 185 (a := b23) (argsL := []) (rest := []) at_182 f122 (fun _ hZ => notFace_of_selects (args := #[]) (mvT hZ (hw _ (List.mem_of_getElem? (i := 113) rfl)))) (rm18 l Z a0 hw n0 h121 hWd [] X121.old b23 b7 f128 ) (hw _ (List.mem_of_getElem? (i := 110) rfl)) (hw _ (List.mem_of_getElem? (i := 111) rfl)) (hw _ (List.mem_of_getElem? (i := 113) rfl)) (hw _ (List.mem_of_getElem? (i := 112) rfl)) (hw _ (List.mem_of_getElem? (i := 56) rfl)) (hw _ (List.mem_of_getElem? (i := 114) rfl)) (by decide) (lenOf pd__28_29Ljava_2flang_2fString_3b rfl) rfl rfl rfl (W := 0) rfl (by decide) (by decide) (by decide) (by decide) all0 rfl ?_
          intro T129 h129 v129 X129 K129 hQ129
          obtain rfl := hQ129
          show OGo _ _ _ _ T129 (mkF m 185 #[.val (.int pc), .val (.long ps), .second, .val (.long pl), .second, .val (.int ph), .val (.long pt), .second, .val (.int pf), .val (.ref b1), .val (.ref b7), .val (.int (0 : Int32)), .val (.int ((1 : Int32) + ((ph &&& (2147483647 : Int32)) % (2147483647 : Int32)))), .val (.ref b14), .val (.ref b23), .val (.ref r88), .unset] [(.ref b7)])
          refine og_aload X129 187 at_185 rfl rfl rfl ?_
          have f130 := E11.keep K14
          have f131 := f130.keep K18
          have f132 := f131.keep K23
          have f133 := f132.keep K31
          have f134 := f133.keep K88
          have f135 := f134.keep K99
          have f136 := f135.keep K103
          have f137 := f136.keep K108
          have f138 := f137.keep K114
          have f139 := f138.keep K121
          have f140 := f139.keep K129
          refine own_virt X129 190 (a := b7) (argsL := [(.ref b7)]) (rest := []) at_187 f140 (fun _ hZ => notFace_of_selects (args := #[]) (mvT hZ (hw _ (List.mem_of_getElem? (i := 118) rfl)))) (rm19 l Z a0 hw n0 h129 hWd [] X129.old b7  ) (hw _ (List.mem_of_getElem? (i := 115) rfl)) (hw _ (List.mem_of_getElem? (i := 116) rfl)) (hw _ (List.mem_of_getElem? (i := 118) rfl)) (hw _ (List.mem_of_getElem? (i := 117) rfl)) (hw _ (List.mem_of_getElem? (i := 3) rfl)) (hw _ (List.mem_of_getElem? (i := 119) rfl)) (by decide) (lenOf pd__28Ljava_2flang_2fObject_3b_29Z rfl) rfl rfl rfl (W := 0) rfl (by decide) (by decide) (by decide) (by decide) all0 rfl ?_
          intro T141 h141 v141 X141 K141 hQ141
          obtain rfl := hQ141
          show OGo _ _ _ _ T141 (mkF m 190 #[.val (.int pc), .val (.long ps), .second, .val (.long pl), .second, .val (.int ph), .val (.long pt), .second, .val (.int pf), .val (.ref b1), .val (.ref b7), .val (.int (0 : Int32)), .val (.int ((1 : Int32) + ((ph &&& (2147483647 : Int32)) % (2147483647 : Int32)))), .val (.ref b14), .val (.ref b23), .val (.ref r88), .unset] [(.int (1 : Int32))])
          refine og_ifN X141 193 at_190 (XT.i0_eq_f (by decide)) rfl ?_
          refine og_iconst X141 194 (1 : Int32) at_193 rfl rfl ?_
          refine og_goto X141 198 at_194 (by decide) (by decide) ?_
          refine og_istore X141 200 #[.val (.int pc), .val (.long ps), .second, .val (.long pl), .second, .val (.int ph), .val (.long pt), .second, .val (.int pf), .val (.ref b1), .val (.ref b7), .val (.int (0 : Int32)), .val (.int ((1 : Int32) + ((ph &&& (2147483647 : Int32)) % (2147483647 : Int32)))), .val (.ref b14), .val (.ref b23), .val (.ref r88), .val (.int (1 : Int32))] at_198 rfl rfl ?_
          refine og_iload X141 202 at_200 rfl rfl ?_
          refine og_iconst X141 203 (1 : Int32) at_202 rfl rfl ?_
          refine og_icmpY X141 222 at_203 (XT.ii_ne_t hc39) (by decide) (by decide) ?_
          refine og_aload X141 224 at_222 rfl rfl rfl ?_
          refine og_nullN X141 227 at_224 rfl ?_
          refine og_aload X141 229 at_227 rfl rfl rfl ?_
          have f142 := f89.keep K99
          have f143 := f142.keep K103
          have f144 := f143.keep K108
          have f145 := f144.keep K114
          have f146 := f145.keep K121
          have f147 := f146.keep K129
          have f148 := f147.keep K141
          have f149 := f90.keep K99 nin0
          have f150 := f149.keep K103 nin0
          have f151 := f150.keep K108 nin0
          have f152 := f151.keep K114 nin0
          have f153 := f152.keep K121 nin0
          have f154 := f153.keep K129 nin0
          have f155 := f154.keep K141 nin0
          refine own_virt X141 232 (a := r88) (argsL := []) (rest := []) at_229 f148 (fun _ hZ => notFace_of_selects (args := #[]) (mvT hZ (hw _ (List.mem_of_getElem? (i := 113) rfl)))) (rm18 l Z a0 hw n0 h141 hWd [] X141.old r88 b7 f155 ) (hw _ (List.mem_of_getElem? (i := 110) rfl)) (hw _ (List.mem_of_getElem? (i := 111) rfl)) (hw _ (List.mem_of_getElem? (i := 113) rfl)) (hw _ (List.mem_of_getElem? (i := 112) rfl)) (hw _ (List.mem_of_getElem? (i := 56) rfl)) (hw _ (List.mem_of_getElem? (i := 114) rfl)) (by decide) (lenOf pd__28_29Ljava_2flang_2fString_3b rfl) rfl rfl rfl (W := 0) rfl (by decide) (by decide) (by decide) (by decide) all0 rfl ?_
          intro T156 h156 v156 X156 K156 hQ156
          obtain rfl := hQ156
          show OGo _ _ _ _ T156 (mkF m 232 #[.val (.int pc), .val (.long ps), .second, .val (.long pl), .second, .val (.int ph), .val (.long pt), .second, .val (.int pf), .val (.ref b1), .val (.ref b7), .val (.int (0 : Int32)), .val (.int ((1 : Int32) + ((ph &&& (2147483647 : Int32)) % (2147483647 : Int32)))), .val (.ref b14), .val (.ref b23), .val (.ref r88), .val (.int (1 : Int32))] [(.ref b7)])
          refine og_aload X156 234 at_232 rfl rfl rfl ?_
          have f157 := f140.keep K141
          have f158 := f157.keep K156
          refine own_virt X156 237 (a := b7) (argsL := [(.ref b7)]) (rest := []) at_234 f158 (fun _ hZ => notFace_of_selects (args := #[]) (mvT hZ (hw _ (List.mem_of_getElem? (i := 118) rfl)))) (rm19 l Z a0 hw n0 h156 hWd [] X156.old b7  ) (hw _ (List.mem_of_getElem? (i := 115) rfl)) (hw _ (List.mem_of_getElem? (i := 116) rfl)) (hw _ (List.mem_of_getElem? (i := 118) rfl)) (hw _ (List.mem_of_getElem? (i := 117) rfl)) (hw _ (List.mem_of_getElem? (i := 3) rfl)) (hw _ (List.mem_of_getElem? (i := 119) rfl)) (by decide) (lenOf pd__28Ljava_2flang_2fObject_3b_29Z rfl) rfl rfl rfl (W := 0) rfl (by decide) (by decide) (by decide) (by decide) all0 rfl ?_
          intro T159 h159 v159 X159 K159 hQ159
          obtain rfl := hQ159
          show OGo _ _ _ _ T159 (mkF m 237 #[.val (.int pc), .val (.long ps), .second, .val (.long pl), .second, .val (.int ph), .val (.long pt), .second, .val (.int pf), .val (.ref b1), .val (.ref b7), .val (.int (0 : Int32)), .val (.int ((1 : Int32) + ((ph &&& (2147483647 : Int32)) % (2147483647 : Int32)))), .val (.ref b14), .val (.ref b23), .val (.ref r88), .val (.int (1 : Int32))] [(.int (1 : Int32))])
          refine og_ifN X159 240 at_237 (XT.i0_eq_f (by decide)) rfl ?_
          refine og_aload X159 242 at_240 rfl rfl rfl ?_
          have f160 := f148.keep K156
          have f161 := f160.keep K159
          have f162 := f91.keep K99 nin0
          have f163 := f162.keep K103 nin0
          have f164 := f163.keep K108 nin0
          have f165 := f164.keep K114 nin0
          have f166 := f165.keep K121 nin0
          have f167 := f166.keep K129 nin0
          have f168 := f167.keep K141 nin0
          have f169 := f168.keep K156 nin0
          have f170 := f169.keep K159 nin0
          refine own_virt X159 245 (a := r88) (argsL := []) (rest := []) at_242 f161 (fun _ hZ => notFace_of_selects (args := #[]) (mvT hZ (hw _ (List.mem_of_getElem? (i := 93) rfl)))) (rm14 l Z a0 hw n0 h159 hWd [] X159.old r88 ps f170 ) (hw _ (List.mem_of_getElem? (i := 90) rfl)) (hw _ (List.mem_of_getElem? (i := 91) rfl)) (hw _ (List.mem_of_getElem? (i := 93) rfl)) (hw _ (List.mem_of_getElem? (i := 92) rfl)) (hw _ (List.mem_of_getElem? (i := 56) rfl)) (hw _ (List.mem_of_getElem? (i := 94) rfl)) (by decide) (lenOf pd__28_29J rfl) rfl rfl rfl (W := 0) rfl (by decide) (by decide) (by decide) (by decide) all0 rfl ?_
          intro T171 h171 v171 X171 K171 hQ171
          obtain rfl := hQ171
          show OGo _ _ _ _ T171 (mkF m 245 #[.val (.int pc), .val (.long ps), .second, .val (.long pl), .second, .val (.int ph), .val (.long pt), .second, .val (.int pf), .val (.ref b1), .val (.ref b7), .val (.int (0 : Int32)), .val (.int ((1 : Int32) + ((ph &&& (2147483647 : Int32)) % (2147483647 : Int32)))), .val (.ref b14), .val (.ref b23), .val (.ref r88), .val (.int (1 : Int32))] [(.long ps)])
          refine og_lloadN X171 246 at_245 rfl rfl ?_
          refine og_lcmp X171 247 at_246 rfl ?_
          refine og_ifN X171 250 at_247 (XT.ll_ne_f rfl) rfl ?_
          refine og_aload X171 252 at_250 rfl rfl rfl ?_
          have f172 := f161.keep K171
          have f173 := f92.keep K99 nin0
          have f174 := f173.keep K103 nin0
          have f175 := f174.keep K108 nin0
          have f176 := f175.keep K114 nin0
          have f177 := f176.keep K121 nin0
          have f178 := f177.keep K129 nin0
          have f179 := f178.keep K141 nin0
          have f180 := f179.keep K156 nin0
          have f181 := f180.keep K159 nin0
          have f182 := f181.keep K171 nin0
          refine own_virt X171 255 (a := r88) (argsL := []) (rest := []) at_252 f172 (fun _ hZ => notFace_of_selects (args := #[]) (mvT hZ (hw _ (List.mem_of_getElem? (i := 98) rfl)))) (rm15 l Z a0 hw n0 h171 hWd [] X171.old r88 pl f182 ) (hw _ (List.mem_of_getElem? (i := 95) rfl)) (hw _ (List.mem_of_getElem? (i := 96) rfl)) (hw _ (List.mem_of_getElem? (i := 98) rfl)) (hw _ (List.mem_of_getElem? (i := 97) rfl)) (hw _ (List.mem_of_getElem? (i := 56) rfl)) (hw _ (List.mem_of_getElem? (i := 99) rfl)) (by decide) (lenOf pd__28_29J rfl) rfl rfl rfl (W := 0) rfl (by decide) (by decide) (by decide) (by decide) all0 rfl ?_
          intro T183 h183 v183 X183 K183 hQ183
          obtain rfl := hQ183
          show OGo _ _ _ _ T183 (mkF m 255 #[.val (.int pc), .val (.long ps), .second, .val (.long pl), .second, .val (.int ph), .val (.long pt), .second, .val (.int pf), .val (.ref b1), .val (.ref b7), .val (.int (0 : Int32)), .val (.int ((1 : Int32) + ((ph &&& (2147483647 : Int32)) % (2147483647 : Int32)))), .val (.ref b14), .val (.ref b23), .val (.ref r88), .val (.int (1 : Int32))] [(.long pl)])
          refine og_lloadN X183 256 at_255 rfl rfl ?_
          refine og_lcmp X183 257 at_256 rfl ?_
          refine og_ifN X183 260 at_257 (XT.ll_ne_f rfl) rfl ?_
          refine og_aload X183 262 at_260 rfl rfl rfl ?_
          have f184 := f172.keep K183
          have f185 := f93.keep K99 nin0
          have f186 := f185.keep K103 nin0
          have f187 := f186.keep K108 nin0
          have f188 := f187.keep K114 nin0
          have f189 := f188.keep K121 nin0
          have f190 := f189.keep K129 nin0
          have f191 := f190.keep K141 nin0
          have f192 := f191.keep K156 nin0
          have f193 := f192.keep K159 nin0
          have f194 := f193.keep K171 nin0
          have f195 := f194.keep K183 nin0
          refine own_virt X183 265 (a := r88) (argsL := []) (rest := []) at_262 f184 (fun _ hZ => notFace_of_selects (args := #[]) (mvT hZ (hw _ (List.mem_of_getElem? (i := 88) rfl)))) (rm13 l Z a0 hw n0 h183 hWd [] X183.old r88 (((1 : Int32) + ((ph &&& (2147483647 : Int32)) % (2147483647 : Int32))) - (1 : Int32)) f195 ) (hw _ (List.mem_of_getElem? (i := 85) rfl)) (hw _ (List.mem_of_getElem? (i := 86) rfl)) (hw _ (List.mem_of_getElem? (i := 88) rfl)) (hw _ (List.mem_of_getElem? (i := 87) rfl)) (hw _ (List.mem_of_getElem? (i := 56) rfl)) (hw _ (List.mem_of_getElem? (i := 89) rfl)) (by decide) (lenOf pd__28_29I rfl) rfl rfl rfl (W := 0) rfl (by decide) (by decide) (by decide) (by decide) all0 rfl ?_
          intro T196 h196 v196 X196 K196 hQ196
          obtain rfl := hQ196
          show OGo _ _ _ _ T196 (mkF m 265 #[.val (.int pc), .val (.long ps), .second, .val (.long pl), .second, .val (.int ph), .val (.long pt), .second, .val (.int pf), .val (.ref b1), .val (.ref b7), .val (.int (0 : Int32)), .val (.int ((1 : Int32) + ((ph &&& (2147483647 : Int32)) % (2147483647 : Int32)))), .val (.ref b14), .val (.ref b23), .val (.ref r88), .val (.int (1 : Int32))] [(.int (((1 : Int32) + ((ph &&& (2147483647 : Int32)) % (2147483647 : Int32))) - (1 : Int32)))])
          refine og_iload X196 267 at_265 rfl rfl ?_
          refine og_iconst X196 268 (1 : Int32) at_267 rfl rfl ?_
          refine og_isub X196 269 at_268 rfl ?_
          refine og_icmpN X196 272 at_269 (XT.ii_ne_f rfl) rfl ?_
          refine og_aload X196 274 at_272 rfl rfl rfl ?_
          have f197 := f184.keep K196
          have f198 := f94.keep K99 nin0
          have f199 := f198.keep K103 nin0
          have f200 := f199.keep K108 nin0
          have f201 := f200.keep K114 nin0
          have f202 := f201.keep K121 nin0
          have f203 := f202.keep K129 nin0
          have f204 := f203.keep K141 nin0
          have f205 := f204.keep K156 nin0
          have f206 := f205.keep K159 nin0
          have f207 := f206.keep K171 nin0
          have f208 := f207.keep K183 nin0
          have f209 := f208.keep K196 nin0
          refine own_virt X196 277 (a := r88) (argsL := []) (rest := []) at_274 f197 (fun _ hZ => notFace_of_selects (args := #[]) (mvT hZ (hw _ (List.mem_of_getElem? (i := 103) rfl)))) (rm16 l Z a0 hw n0 h196 hWd [] X196.old r88 pt f209 ) (hw _ (List.mem_of_getElem? (i := 100) rfl)) (hw _ (List.mem_of_getElem? (i := 101) rfl)) (hw _ (List.mem_of_getElem? (i := 103) rfl)) (hw _ (List.mem_of_getElem? (i := 102) rfl)) (hw _ (List.mem_of_getElem? (i := 56) rfl)) (hw _ (List.mem_of_getElem? (i := 104) rfl)) (by decide) (lenOf pd__28_29J rfl) rfl rfl rfl (W := 0) rfl (by decide) (by decide) (by decide) (by decide) all0 rfl ?_
          intro T210 h210 v210 X210 K210 hQ210
          obtain rfl := hQ210
          show OGo _ _ _ _ T210 (mkF m 277 #[.val (.int pc), .val (.long ps), .second, .val (.long pl), .second, .val (.int ph), .val (.long pt), .second, .val (.int pf), .val (.ref b1), .val (.ref b7), .val (.int (0 : Int32)), .val (.int ((1 : Int32) + ((ph &&& (2147483647 : Int32)) % (2147483647 : Int32)))), .val (.ref b14), .val (.ref b23), .val (.ref r88), .val (.int (1 : Int32))] [(.long pt)])
          refine og_lload X210 279 at_277 rfl rfl ?_
          refine og_lcmp X210 280 at_279 rfl ?_
          refine og_ifN X210 283 at_280 (XT.ll_ne_f rfl) rfl ?_
          refine og_aload X210 285 at_283 rfl rfl rfl ?_
          have f211 := f197.keep K210
          have f212 := f95.keep K99 nin0
          have f213 := f212.keep K103 nin0
          have f214 := f213.keep K108 nin0
          have f215 := f214.keep K114 nin0
          have f216 := f215.keep K121 nin0
          have f217 := f216.keep K129 nin0
          have f218 := f217.keep K141 nin0
          have f219 := f218.keep K156 nin0
          have f220 := f219.keep K159 nin0
          have f221 := f220.keep K171 nin0
          have f222 := f221.keep K183 nin0
          have f223 := f222.keep K196 nin0
          have f224 := f223.keep K210 nin0
          refine own_virt X210 288 (a := r88) (argsL := []) (rest := []) at_285 f211 (fun _ hZ => notFace_of_selects (args := #[]) (mvT hZ (hw _ (List.mem_of_getElem? (i := 108) rfl)))) (rm17 l Z a0 hw n0 h210 hWd [] X210.old r88 (0 : Int32) f224 (by decide) ) (hw _ (List.mem_of_getElem? (i := 105) rfl)) (hw _ (List.mem_of_getElem? (i := 106) rfl)) (hw _ (List.mem_of_getElem? (i := 108) rfl)) (hw _ (List.mem_of_getElem? (i := 107) rfl)) (hw _ (List.mem_of_getElem? (i := 56) rfl)) (hw _ (List.mem_of_getElem? (i := 109) rfl)) (by decide) (lenOf pd__28_29Z rfl) rfl rfl rfl (W := 0) rfl (by decide) (by decide) (by decide) (by decide) all0 rfl ?_
          intro T225 h225 v225 X225 K225 hQ225
          obtain rfl := hQ225
          show OGo _ _ _ _ T225 (mkF m 288 #[.val (.int pc), .val (.long ps), .second, .val (.long pl), .second, .val (.int ph), .val (.long pt), .second, .val (.int pf), .val (.ref b1), .val (.ref b7), .val (.int (0 : Int32)), .val (.int ((1 : Int32) + ((ph &&& (2147483647 : Int32)) % (2147483647 : Int32)))), .val (.ref b14), .val (.ref b23), .val (.ref r88), .val (.int (1 : Int32))] [(.int (0 : Int32))])
          refine og_iload X225 290 at_288 rfl rfl ?_
          refine og_icmpN X225 293 at_290 (XT.ii_ne_f (by decide)) rfl ?_
          refine og_aload X225 295 at_293 rfl rfl rfl ?_
          have f226 := f211.keep K225
          have f227 := f96.keep K99 nin0
          have f228 := f227.keep K103 nin0
          have f229 := f228.keep K108 nin0
          have f230 := f229.keep K114 nin0
          have f231 := f230.keep K121 nin0
          have f232 := f231.keep K129 nin0
          have f233 := f232.keep K141 nin0
          have f234 := f233.keep K156 nin0
          have f235 := f234.keep K159 nin0
          have f236 := f235.keep K171 nin0
          have f237 := f236.keep K183 nin0
          have f238 := f237.keep K196 nin0
          have f239 := f238.keep K210 nin0
          have f240 := f239.keep K225 nin0
          refine own_virt X225 298 (a := r88) (argsL := []) (rest := []) at_295 f226 (fun _ hZ => notFace_of_selects (args := #[]) (mvT hZ (hw _ (List.mem_of_getElem? (i := 160) rfl)))) (rm25 l Z a0 hw n0 h225 hWd [] X225.old r88 b14 f240 ) (hw _ (List.mem_of_getElem? (i := 157) rfl)) (hw _ (List.mem_of_getElem? (i := 158) rfl)) (hw _ (List.mem_of_getElem? (i := 160) rfl)) (hw _ (List.mem_of_getElem? (i := 159) rfl)) (hw _ (List.mem_of_getElem? (i := 56) rfl)) (hw _ (List.mem_of_getElem? (i := 161) rfl)) (by decide) (lenOf pd__28_29Ljava_2futil_2fList_3b rfl) rfl rfl rfl (W := 0) rfl (by decide) (by decide) (by decide) (by decide) all0 rfl ?_
          intro T241 h241 v241 X241 K241 hQ241
          obtain rfl := hQ241
          show OGo _ _ _ _ T241 (mkF m 298 #[.val (.int pc), .val (.long ps), .second, .val (.long pl), .second, .val (.int ph), .val (.long pt), .second, .val (.int pf), .val (.ref b1), .val (.ref b7), .val (.int (0 : Int32)), .val (.int ((1 : Int32) + ((ph &&& (2147483647 : Int32)) % (2147483647 : Int32)))), .val (.ref b14), .val (.ref b23), .val (.ref r88), .val (.int (1 : Int32))] [(.ref b14)])
          have f242 := E14.keep K18
          have f243 := f242.keep K23
          have f244 := f243.keep K31
          have f245 := f244.keep K88
          have f246 := f245.keep K99
          have f247 := f246.keep K103
          have f248 := f247.keep K108
          have f249 := f248.keep K114
          have f250 := f249.keep K121
          have f251 := f250.keep K129
          have f252 := f251.keep K141
          have f253 := f252.keep K156
          have f254 := f253.keep K159
          have f255 := f254.keep K171
          have f256 := f255.keep K183
          have f257 := f256.keep K196
          have f258 := f257.keep K210
          have f259 := f258.keep K225
          have f260 := f259.keep K241
          have f261 := f21.keep K23 nin0
          have f262 := f261.keep K31 (ninS (Nat.ne_of_lt (Nat.lt_of_lt_of_le (Nat.lt_of_lt_of_le U14 K18.1) G23)) nin0)
          have f263 := f262.keep K88 nin0
          have f264 := f263.keep K99 nin0
          have f265 := f264.keep K103 nin0
          have f266 := f265.keep K108 nin0
          have f267 := f266.keep K114 nin0
          have f268 := f267.keep K121 nin0
          have f269 := f268.keep K129 nin0
          have f270 := f269.keep K141 nin0
          have f271 := f270.keep K156 nin0
          have f272 := f271.keep K159 nin0
          have f273 := f272.keep K171 nin0
          have f274 := f273.keep K183 nin0
          have f275 := f274.keep K196 nin0
          have f276 := f275.keep K210 nin0
          have f277 := f276.keep K225 nin0
          have f278 := f277.keep K241 nin0
          refine own_face X241 303 (a := b14) (argsL := []) (rest := []) at_298 f260 (rm26 l Z a0 hw n0 h241 hWd [] X241.old b14 (0 : Int32) f278 ) (hw _ (List.mem_of_getElem? (i := 162) rfl)) (hw _ (List.mem_of_getElem? (i := 163) rfl)) (hw _ (List.mem_of_getElem? (i := 164) rfl)) (hw _ (List.mem_of_getElem? (i := 165) rfl)) (hw _ (List.mem_of_getElem? (i := 166) rfl)) (hw _ (List.mem_of_getElem? (i := 167) rfl)) (hw _ (List.mem_of_getElem? (i := 168) rfl)) (hw _ (List.mem_of_getElem? (i := 128) rfl)) (hw _ (List.mem_of_getElem? (i := 32) rfl)) (hw _ (List.mem_of_getElem? (i := 169) rfl)) (by decide) (lenOf pd__28_29I rfl) rfl rfl rfl (W := 0) rfl (by decide) (by decide) (by decide) (by decide) all0 rfl ?_
          intro T279 h279 v279 X279 K279 hQ279
          obtain rfl := hQ279
          show OGo _ _ _ _ T279 (mkF m 303 #[.val (.int pc), .val (.long ps), .second, .val (.long pl), .second, .val (.int ph), .val (.long pt), .second, .val (.int pf), .val (.ref b1), .val (.ref b7), .val (.int (0 : Int32)), .val (.int ((1 : Int32) + ((ph &&& (2147483647 : Int32)) % (2147483647 : Int32)))), .val (.ref b14), .val (.ref b23), .val (.ref r88), .val (.int (1 : Int32))] [(.int (0 : Int32))])
          refine og_aload X279 305 at_303 rfl rfl rfl ?_
          have f280 := f260.keep K279
          have f281 := f278.keep K279 nin0
          refine own_face X279 310 (a := b14) (argsL := []) (rest := [(.int (0 : Int32))]) at_305 f280 (rm26 l Z a0 hw n0 h279 hWd [] X279.old b14 (0 : Int32) f281 ) (hw _ (List.mem_of_getElem? (i := 162) rfl)) (hw _ (List.mem_of_getElem? (i := 163) rfl)) (hw _ (List.mem_of_getElem? (i := 164) rfl)) (hw _ (List.mem_of_getElem? (i := 165) rfl)) (hw _ (List.mem_of_getElem? (i := 166) rfl)) (hw _ (List.mem_of_getElem? (i := 167) rfl)) (hw _ (List.mem_of_getElem? (i := 168) rfl)) (hw _ (List.mem_of_getElem? (i := 128) rfl)) (hw _ (List.mem_of_getElem? (i := 32) rfl)) (hw _ (List.mem_of_getElem? (i := 169) rfl)) (by decide) (lenOf pd__28_29I rfl) rfl rfl rfl (W := 1) rfl (by decide) (by decide) (by decide) (by decide) all0 rfl ?_
          intro T282 h282 v282 X282 K282 hQ282
          obtain rfl := hQ282
          show OGo _ _ _ _ T282 (mkF m 310 #[.val (.int pc), .val (.long ps), .second, .val (.long pl), .second, .val (.int ph), .val (.long pt), .second, .val (.int pf), .val (.ref b1), .val (.ref b7), .val (.int (0 : Int32)), .val (.int ((1 : Int32) + ((ph &&& (2147483647 : Int32)) % (2147483647 : Int32)))), .val (.ref b14), .val (.ref b23), .val (.ref r88), .val (.int (1 : Int32))] [(.int (0 : Int32)), (.int (0 : Int32))])
          refine og_icmpN X282 313 at_310 (XT.ii_ne_f (by decide)) rfl ?_
          refine og_aload X282 315 at_313 rfl rfl rfl ?_
          have f283 := f226.keep K241
          have f284 := f283.keep K279
          have f285 := f284.keep K282
          have f286 := f240.keep K241 nin0
          have f287 := f286.keep K279 nin0
          have f288 := f287.keep K282 nin0
          refine own_virt X282 318 (a := r88) (argsL := []) (rest := []) at_315 f285 (fun _ hZ => notFace_of_selects (args := #[]) (mvT hZ (hw _ (List.mem_of_getElem? (i := 160) rfl)))) (rm25 l Z a0 hw n0 h282 hWd [] X282.old r88 b14 f288 ) (hw _ (List.mem_of_getElem? (i := 157) rfl)) (hw _ (List.mem_of_getElem? (i := 158) rfl)) (hw _ (List.mem_of_getElem? (i := 160) rfl)) (hw _ (List.mem_of_getElem? (i := 159) rfl)) (hw _ (List.mem_of_getElem? (i := 56) rfl)) (hw _ (List.mem_of_getElem? (i := 161) rfl)) (by decide) (lenOf pd__28_29Ljava_2futil_2fList_3b rfl) rfl rfl rfl (W := 0) rfl (by decide) (by decide) (by decide) (by decide) all0 rfl ?_
          intro T289 h289 v289 X289 K289 hQ289
          obtain rfl := hQ289
          show OGo _ _ _ _ T289 (mkF m 318 #[.val (.int pc), .val (.long ps), .second, .val (.long pl), .second, .val (.int ph), .val (.long pt), .second, .val (.int pf), .val (.ref b1), .val (.ref b7), .val (.int (0 : Int32)), .val (.int ((1 : Int32) + ((ph &&& (2147483647 : Int32)) % (2147483647 : Int32)))), .val (.ref b14), .val (.ref b23), .val (.ref r88), .val (.int (1 : Int32))] [(.ref b14)])
          refine og_aload X289 320 at_318 rfl rfl rfl ?_
          have f290 := f280.keep K282
          have f291 := f290.keep K289
          refine own_face X289 325 (a := b14) (argsL := [(.ref b14)]) (rest := []) at_320 f291 (rm27 l Z a0 hw n0 h289 hWd [] X289.old b14  ) (hw _ (List.mem_of_getElem? (i := 170) rfl)) (hw _ (List.mem_of_getElem? (i := 171) rfl)) (hw _ (List.mem_of_getElem? (i := 172) rfl)) (hw _ (List.mem_of_getElem? (i := 173) rfl)) (hw _ (List.mem_of_getElem? (i := 174) rfl)) (hw _ (List.mem_of_getElem? (i := 175) rfl)) (hw _ (List.mem_of_getElem? (i := 176) rfl)) (hw _ (List.mem_of_getElem? (i := 128) rfl)) (hw _ (List.mem_of_getElem? (i := 32) rfl)) (hw _ (List.mem_of_getElem? (i := 177) rfl)) (by decide) (lenOf pd__28Ljava_2flang_2fObject_3b_29Z rfl) rfl rfl rfl (W := 0) rfl (by decide) (by decide) (by decide) (by decide) all0 rfl ?_
          intro T292 h292 v292 X292 K292 hQ292
          obtain rfl := hQ292
          show OGo _ _ _ _ T292 (mkF m 325 #[.val (.int pc), .val (.long ps), .second, .val (.long pl), .second, .val (.int ph), .val (.long pt), .second, .val (.int pf), .val (.ref b1), .val (.ref b7), .val (.int (0 : Int32)), .val (.int ((1 : Int32) + ((ph &&& (2147483647 : Int32)) % (2147483647 : Int32)))), .val (.ref b14), .val (.ref b23), .val (.ref r88), .val (.int (1 : Int32))] [(.int (1 : Int32))])
          refine og_ifN X292 328 at_325 (XT.i0_eq_f (by decide)) rfl ?_
          refine og_iload X292 330 at_328 rfl rfl ?_
          refine og_ifN X292 333 at_330 (XT.i0_eq_f (by decide)) rfl ?_
          refine og_iconst X292 334 (1 : Int32) at_333 rfl rfl ?_
          refine og_goto X292 338 at_334 (by decide) (by decide) ?_
          refine own_retZ X292 at_338 hret rfl (by decide) (by decide) ?_
          exact rfl
      · -- not
        refine og_ifN X18 92 at_89 (XT.i0_eq_f hc22) rfl ?_
        refine og_aload X18 94 at_92 rfl rfl rfl ?_
        refine og_aconstNull X18 95 at_94 rfl ?_
        have f293 := E14.keep K18
        refine own_face X18 100 (a := b14) (argsL := [.null]) (rest := []) at_95 f293 (rm20 l Z a0 hw n0 h18 hWd [] X18.old b14 (0 : Int32) f293 f19 f20 f21 (own_svb X18 (List.mem_of_getElem? (i := 0) rfl))) (hw _ (List.mem_of_getElem? (i := 121) rfl)) (hw _ (List.mem_of_getElem? (i := 122) rfl)) (hw _ (List.mem_of_getElem? (i := 123) rfl)) (hw _ (List.mem_of_getElem? (i := 124) rfl)) (hw _ (List.mem_of_getElem? (i := 125) rfl)) (hw _ (List.mem_of_getElem? (i := 126) rfl)) (hw _ (List.mem_of_getElem? (i := 127) rfl)) (hw _ (List.mem_of_getElem? (i := 128) rfl)) (hw _ (List.mem_of_getElem? (i := 32) rfl)) (hw _ (List.mem_of_getElem? (i := 129) rfl)) (by decide) (lenOf pd__28Ljava_2flang_2fObject_3b_29Z rfl) rfl rfl rfl (W := 0) rfl (by decide) (by decide) (by decide) (by decide) (allS (List.mem_of_getElem? (i := 0) rfl) all0) rfl ?_
        intro T294 h294 v294 X294 K294 hQ294
        obtain ⟨rfl, f295⟩ := hQ294
        show OGo _ _ _ _ T294 (mkF m 100 #[.val (.int pc), .val (.long ps), .second, .val (.long pl), .second, .val (.int ph), .val (.long pt), .second, .val (.int pf), .val (.ref b1), .val (.ref b7), .val (.int (0 : Int32)), .val (.int ((1 : Int32) + ((ph &&& (2147483647 : Int32)) % (2147483647 : Int32)))), .val (.ref b14), .unset, .unset, .unset] [(.int (1 : Int32))])
        refine og_pop X294 101 at_100 rfl rfl ?_
        refine own_new X294 104 at_101 (hw _ (List.mem_of_getElem? (i := 54) rfl)) (hw _ (List.mem_of_getElem? (i := 55) rfl)) (hw _ (List.mem_of_getElem? (i := 56) rfl)) (by decide) (by decide) rfl ?_
        intro T296 h296 b296 X296 K296 G296 U296 E296 D296
        have f297 : Fld Z h296 b296 "com/example/synlock/synlock/Holds$Grant" "owner" "Ljava/lang/String;" .null := D296 (Or.inr (hw _ (List.mem_of_getElem? (i := 67) rfl))) (ty := (.object "java/lang/String")) (by decide)
        have f298 : Fld Z h296 b296 "com/example/synlock/synlock/Holds$Grant" "sentNanos" "J" (.long (0 : Int64)) := D296 (Or.inr (hw _ (List.mem_of_getElem? (i := 69) rfl))) (ty := .long) (by decide)
        have f299 : Fld Z h296 b296 "com/example/synlock/synlock/Holds$Grant" "leaseNanos" "J" (.long (0 : Int64)) := D296 (Or.inr (hw _ (List.mem_of_getElem? (i := 71) rfl))) (ty := .long) (by decide)
        have f300 : Fld Z h296 b296 "com/example/synlock/synlock/Holds$Grant" "holds" "I" (.int (0 : Int32)) := D296 (Or.inr (hw _ (List.mem_of_getElem? (i := 73) rfl))) (ty := .int) (by decide)
        have f301 : Fld Z h296 b296 "com/example/synlock/synlock/Holds$Grant" "token" "J" (.long (0 : Int64)) := D296 (Or.inr (hw _ (List.mem_of_getElem? (i := 75) rfl))) (ty := .long) (by decide)
        have f302 : Fld Z h296 b296 "com/example/synlock/synlock/Holds$Grant" "renewed" "Z" (.int (0 : Int32)) := D296 (Or.inr (hw _ (List.mem_of_getElem? (i := 77) rfl))) (ty := .boolean) (by decide)
        have f303 : Fld Z h296 b296 "com/example/synlock/synlock/Holds$Grant" "listeners" "Ljava/util/List;" .null := D296 (Or.inr (hw _ (List.mem_of_getElem? (i := 79) rfl))) (ty := (.object "java/util/List")) (by decide)
        refine og_dup X296 105 at_104 rfl rfl ?_
        refine og_aload X296 107 at_105 rfl rfl rfl ?_
        refine og_lloadN X296 108 at_107 rfl rfl ?_
        refine og_lloadN X296 109 at_108 rfl rfl ?_
        refine og_iload X296 111 at_109 rfl rfl ?_
        refine og_lload X296 113 at_111 rfl rfl ?_
        refine og_iload X296 115 at_113 rfl rfl ?_
        refine og_aload X296 117 at_115 rfl rfl rfl ?_
        refine own_spec X296 120 (a := b296) (argsL := [(.ref b7), (.long ps), (.long pl), (.int ((1 : Int32) + ((ph &&& (2147483647 : Int32)) % (2147483647 : Int32)))), (.long pt), (.int (0 : Int32)), (.ref b14)]) (rest := [(.ref b296)]) at_117 rfl (rm10 l Z a0 hw n0 h296 hWd [] X296.old b296 b7 ps pl ((1 : Int32) + ((ph &&& (2147483647 : Int32)) % (2147483647 : Int32))) pt (0 : Int32) b14 E296 f297 f298 f299 f300 f301 f302 f303 (by decide) (own_svb X296 (List.mem_of_getElem? (i := 0) rfl))) (hw _ (List.mem_of_getElem? (i := 57) rfl)) (hw _ (List.mem_of_getElem? (i := 58) rfl)) (hw _ (List.mem_of_getElem? (i := 56) rfl)) (hw _ (List.mem_of_getElem? (i := 59) rfl)) (by decide) (lenOf pd__28Ljava_2flang_2fString_3bJJIJZLjava_2futil_2fList_3b_29V rfl) rfl rfl rfl (W := 1) rfl (by decide) (by decide) (by decide) (by decide) (allS (List.mem_of_getElem? (i := 0) rfl) all0) rfl ?_
        intro T304 h304 v304 X304 K304 hQ304
        obtain ⟨rfl, f305, f306, f307, f308, f309, f310, f311⟩ := hQ304
        show OGo _ _ _ _ T304 (mkF m 120 #[.val (.int pc), .val (.long ps), .second, .val (.long pl), .second, .val (.int ph), .val (.long pt), .second, .val (.int pf), .val (.ref b1), .val (.ref b7), .val (.int (0 : Int32)), .val (.int ((1 : Int32) + ((ph &&& (2147483647 : Int32)) % (2147483647 : Int32)))), .val (.ref b14), .unset, .unset, .unset] [(.ref b296)])
        refine og_astore X304 122 #[.val (.int pc), .val (.long ps), .second, .val (.long pl), .second, .val (.int ph), .val (.long pt), .second, .val (.int pf), .val (.ref b1), .val (.ref b7), .val (.int (0 : Int32)), .val (.int ((1 : Int32) + ((ph &&& (2147483647 : Int32)) % (2147483647 : Int32)))), .val (.ref b14), .val (.ref b296), .unset, .unset] at_120 rfl rfl rfl ?_
        refine og_aload X304 124 at_122 rfl rfl rfl ?_
        by_cases hc312 : ((1 : Int32) + ((ph &&& (2147483647 : Int32)) % (2147483647 : Int32))) = (1 : Int32)
        · -- ((1 : Int32) + ((ph &&& (2147483647 : Int32)) % (2147483647 : Int32))) = (1 : Int32)
          have f313 := E296.keep K304
          refine own_virt X304 127 (a := b296) (argsL := []) (rest := []) at_124 f313 (fun _ hZ => notFace_of_selects (args := #[]) (mvT hZ (hw _ (List.mem_of_getElem? (i := 83) rfl)))) (rm_rel0 l Z a0 hw n0 h304 hWd [] X304.old b296 ((1 : Int32) + ((ph &&& (2147483647 : Int32)) % (2147483647 : Int32))) f308 hc312 ) (hw _ (List.mem_of_getElem? (i := 80) rfl)) (hw _ (List.mem_of_getElem? (i := 81) rfl)) (hw _ (List.mem_of_getElem? (i := 83) rfl)) (hw _ (List.mem_of_getElem? (i := 82) rfl)) (hw _ (List.mem_of_getElem? (i := 56) rfl)) (hw _ (List.mem_of_getElem? (i := 84) rfl)) (by decide) (lenOf pd__28_29Lcom_2fexample_2fsynlock_2fsynlock_2fHolds_24Grant_3b rfl) rfl rfl rfl (W := 0) rfl (by decide) (by decide) (by decide) (by decide) all0 rfl ?_
          intro T314 h314 v314 X314 K314 hQ314
          obtain rfl := hQ314
          show OGo _ _ _ _ T314 (mkF m 127 #[.val (.int pc), .val (.long ps), .second, .val (.long pl), .second, .val (.int ph), .val (.long pt), .second, .val (.int pf), .val (.ref b1), .val (.ref b7), .val (.int (0 : Int32)), .val (.int ((1 : Int32) + ((ph &&& (2147483647 : Int32)) % (2147483647 : Int32)))), .val (.ref b14), .val (.ref b296), .unset, .unset] [.null])
          refine og_astore X314 129 #[.val (.int pc), .val (.long ps), .second, .val (.long pl), .second, .val (.int ph), .val (.long pt), .second, .val (.int pf), .val (.ref b1), .val (.ref b7), .val (.int (0 : Int32)), .val (.int ((1 : Int32) + ((ph &&& (2147483647 : Int32)) % (2147483647 : Int32)))), .val (.ref b14), .val (.ref b296), .val .null, .unset] at_127 rfl rfl rfl ?_
          refine og_aload X314 131 at_129 rfl rfl rfl ?_
          have f315 := f313.keep K314
          have f316 := f308.keep K314 nin0
          refine own_virt X314 134 (a := b296) (argsL := []) (rest := []) at_131 f315 (fun _ hZ => notFace_of_selects (args := #[]) (mvT hZ (hw _ (List.mem_of_getElem? (i := 88) rfl)))) (rm13 l Z a0 hw n0 h314 hWd [] X314.old b296 ((1 : Int32) + ((ph &&& (2147483647 : Int32)) % (2147483647 : Int32))) f316 ) (hw _ (List.mem_of_getElem? (i := 85) rfl)) (hw _ (List.mem_of_getElem? (i := 86) rfl)) (hw _ (List.mem_of_getElem? (i := 88) rfl)) (hw _ (List.mem_of_getElem? (i := 87) rfl)) (hw _ (List.mem_of_getElem? (i := 56) rfl)) (hw _ (List.mem_of_getElem? (i := 89) rfl)) (by decide) (lenOf pd__28_29I rfl) rfl rfl rfl (W := 0) rfl (by decide) (by decide) (by decide) (by decide) all0 rfl ?_
          intro T317 h317 v317 X317 K317 hQ317
          obtain rfl := hQ317
          show OGo _ _ _ _ T317 (mkF m 134 #[.val (.int pc), .val (.long ps), .second, .val (.long pl), .second, .val (.int ph), .val (.long pt), .second, .val (.int pf), .val (.ref b1), .val (.ref b7), .val (.int (0 : Int32)), .val (.int ((1 : Int32) + ((ph &&& (2147483647 : Int32)) % (2147483647 : Int32)))), .val (.ref b14), .val (.ref b296), .val .null, .unset] [(.int ((1 : Int32) + ((ph &&& (2147483647 : Int32)) % (2147483647 : Int32))))])
          refine og_iload X317 136 at_134 rfl rfl ?_
          refine og_icmpN X317 139 at_136 (XT.ii_ne_f rfl) rfl ?_
          refine og_aload X317 141 at_139 rfl rfl rfl ?_
          have f318 := f315.keep K317
          have f319 := f306.keep K314 nin0
          have f320 := f319.keep K317 nin0
          refine own_virt X317 144 (a := b296) (argsL := []) (rest := []) at_141 f318 (fun _ hZ => notFace_of_selects (args := #[]) (mvT hZ (hw _ (List.mem_of_getElem? (i := 93) rfl)))) (rm14 l Z a0 hw n0 h317 hWd [] X317.old b296 ps f320 ) (hw _ (List.mem_of_getElem? (i := 90) rfl)) (hw _ (List.mem_of_getElem? (i := 91) rfl)) (hw _ (List.mem_of_getElem? (i := 93) rfl)) (hw _ (List.mem_of_getElem? (i := 92) rfl)) (hw _ (List.mem_of_getElem? (i := 56) rfl)) (hw _ (List.mem_of_getElem? (i := 94) rfl)) (by decide) (lenOf pd__28_29J rfl) rfl rfl rfl (W := 0) rfl (by decide) (by decide) (by decide) (by decide) all0 rfl ?_
          intro T321 h321 v321 X321 K321 hQ321
          obtain rfl := hQ321
          show OGo _ _ _ _ T321 (mkF m 144 #[.val (.int pc), .val (.long ps), .second, .val (.long pl), .second, .val (.int ph), .val (.long pt), .second, .val (.int pf), .val (.ref b1), .val (.ref b7), .val (.int (0 : Int32)), .val (.int ((1 : Int32) + ((ph &&& (2147483647 : Int32)) % (2147483647 : Int32)))), .val (.ref b14), .val (.ref b296), .val .null, .unset] [(.long ps)])
          refine og_lloadN X321 145 at_144 rfl rfl ?_
          refine og_lcmp X321 146 at_145 rfl ?_
          refine og_ifN X321 149 at_146 (XT.ll_ne_f rfl) rfl ?_
          refine og_aload X321 151 at_149 rfl rfl rfl ?_
          have f322 := f318.keep K321
          have f323 := f307.keep K314 nin0
          have f324 := f323.keep K317 nin0
          have f325 := f324.keep K321 nin0
          refine own_virt X321 154 (a := b296) (argsL := []) (rest := []) at_151 f322 (fun _ hZ => notFace_of_selects (args := #[]) (mvT hZ (hw _ (List.mem_of_getElem? (i := 98) rfl)))) (rm15 l Z a0 hw n0 h321 hWd [] X321.old b296 pl f325 ) (hw _ (List.mem_of_getElem? (i := 95) rfl)) (hw _ (List.mem_of_getElem? (i := 96) rfl)) (hw _ (List.mem_of_getElem? (i := 98) rfl)) (hw _ (List.mem_of_getElem? (i := 97) rfl)) (hw _ (List.mem_of_getElem? (i := 56) rfl)) (hw _ (List.mem_of_getElem? (i := 99) rfl)) (by decide) (lenOf pd__28_29J rfl) rfl rfl rfl (W := 0) rfl (by decide) (by decide) (by decide) (by decide) all0 rfl ?_
          intro T326 h326 v326 X326 K326 hQ326
          obtain rfl := hQ326
          show OGo _ _ _ _ T326 (mkF m 154 #[.val (.int pc), .val (.long ps), .second, .val (.long pl), .second, .val (.int ph), .val (.long pt), .second, .val (.int pf), .val (.ref b1), .val (.ref b7), .val (.int (0 : Int32)), .val (.int ((1 : Int32) + ((ph &&& (2147483647 : Int32)) % (2147483647 : Int32)))), .val (.ref b14), .val (.ref b296), .val .null, .unset] [(.long pl)])
          refine og_lloadN X326 155 at_154 rfl rfl ?_
          refine og_lcmp X326 156 at_155 rfl ?_
          refine og_ifN X326 159 at_156 (XT.ll_ne_f rfl) rfl ?_
          refine og_aload X326 161 at_159 rfl rfl rfl ?_
          have f327 := f322.keep K326
          have f328 := f309.keep K314 nin0
          have f329 := f328.keep K317 nin0
          have f330 := f329.keep K321 nin0
          have f331 := f330.keep K326 nin0
          refine own_virt X326 164 (a := b296) (argsL := []) (rest := []) at_161 f327 (fun _ hZ => notFace_of_selects (args := #[]) (mvT hZ (hw _ (List.mem_of_getElem? (i := 103) rfl)))) (rm16 l Z a0 hw n0 h326 hWd [] X326.old b296 pt f331 ) (hw _ (List.mem_of_getElem? (i := 100) rfl)) (hw _ (List.mem_of_getElem? (i := 101) rfl)) (hw _ (List.mem_of_getElem? (i := 103) rfl)) (hw _ (List.mem_of_getElem? (i := 102) rfl)) (hw _ (List.mem_of_getElem? (i := 56) rfl)) (hw _ (List.mem_of_getElem? (i := 104) rfl)) (by decide) (lenOf pd__28_29J rfl) rfl rfl rfl (W := 0) rfl (by decide) (by decide) (by decide) (by decide) all0 rfl ?_
          intro T332 h332 v332 X332 K332 hQ332
          obtain rfl := hQ332
          show OGo _ _ _ _ T332 (mkF m 164 #[.val (.int pc), .val (.long ps), .second, .val (.long pl), .second, .val (.int ph), .val (.long pt), .second, .val (.int pf), .val (.ref b1), .val (.ref b7), .val (.int (0 : Int32)), .val (.int ((1 : Int32) + ((ph &&& (2147483647 : Int32)) % (2147483647 : Int32)))), .val (.ref b14), .val (.ref b296), .val .null, .unset] [(.long pt)])
          refine og_lload X332 166 at_164 rfl rfl ?_
          refine og_lcmp X332 167 at_166 rfl ?_
          refine og_ifN X332 170 at_167 (XT.ll_ne_f rfl) rfl ?_
          refine og_aload X332 172 at_170 rfl rfl rfl ?_
          have f333 := f327.keep K332
          have f334 := f310.keep K314 nin0
          have f335 := f334.keep K317 nin0
          have f336 := f335.keep K321 nin0
          have f337 := f336.keep K326 nin0
          have f338 := f337.keep K332 nin0
          refine own_virt X332 175 (a := b296) (argsL := []) (rest := []) at_172 f333 (fun _ hZ => notFace_of_selects (args := #[]) (mvT hZ (hw _ (List.mem_of_getElem? (i := 108) rfl)))) (rm17 l Z a0 hw n0 h332 hWd [] X332.old b296 (0 : Int32) f338 (by decide) ) (hw _ (List.mem_of_getElem? (i := 105) rfl)) (hw _ (List.mem_of_getElem? (i := 106) rfl)) (hw _ (List.mem_of_getElem? (i := 108) rfl)) (hw _ (List.mem_of_getElem? (i := 107) rfl)) (hw _ (List.mem_of_getElem? (i := 56) rfl)) (hw _ (List.mem_of_getElem? (i := 109) rfl)) (by decide) (lenOf pd__28_29Z rfl) rfl rfl rfl (W := 0) rfl (by decide) (by decide) (by decide) (by decide) all0 rfl ?_
          intro T339 h339 v339 X339 K339 hQ339
          obtain rfl := hQ339
          show OGo _ _ _ _ T339 (mkF m 175 #[.val (.int pc), .val (.long ps), .second, .val (.long pl), .second, .val (.int ph), .val (.long pt), .second, .val (.int pf), .val (.ref b1), .val (.ref b7), .val (.int (0 : Int32)), .val (.int ((1 : Int32) + ((ph &&& (2147483647 : Int32)) % (2147483647 : Int32)))), .val (.ref b14), .val (.ref b296), .val .null, .unset] [(.int (0 : Int32))])
          refine og_iload X339 177 at_175 rfl rfl ?_
          refine og_icmpN X339 180 at_177 (XT.ii_ne_f (by decide)) rfl ?_
          refine og_aload X339 182 at_180 rfl rfl rfl ?_
          have f340 := f333.keep K339
          have f341 := f305.keep K314 nin0
          have f342 := f341.keep K317 nin0
          have f343 := f342.keep K321 nin0
          have f344 := f343.keep K326 nin0
          have f345 := f344.keep K332 nin0
          have f346 := f345.keep K339 nin0
          refine own_virt X339 185 (a := b296) (argsL := []) (rest := []) at_182 f340 (fun _ hZ => notFace_of_selects (args := #[]) (mvT hZ (hw _ (List.mem_of_getElem? (i := 113) rfl)))) (rm18 l Z a0 hw n0 h339 hWd [] X339.old b296 b7 f346 ) (hw _ (List.mem_of_getElem? (i := 110) rfl)) (hw _ (List.mem_of_getElem? (i := 111) rfl)) (hw _ (List.mem_of_getElem? (i := 113) rfl)) (hw _ (List.mem_of_getElem? (i := 112) rfl)) (hw _ (List.mem_of_getElem? (i := 56) rfl)) (hw _ (List.mem_of_getElem? (i := 114) rfl)) (by decide) (lenOf pd__28_29Ljava_2flang_2fString_3b rfl) rfl rfl rfl (W := 0) rfl (by decide) (by decide) (by decide) (by decide) all0 rfl ?_
          intro T347 h347 v347 X347 K347 hQ347
          obtain rfl := hQ347
          show OGo _ _ _ _ T347 (mkF m 185 #[.val (.int pc), .val (.long ps), .second, .val (.long pl), .second, .val (.int ph), .val (.long pt), .second, .val (.int pf), .val (.ref b1), .val (.ref b7), .val (.int (0 : Int32)), .val (.int ((1 : Int32) + ((ph &&& (2147483647 : Int32)) % (2147483647 : Int32)))), .val (.ref b14), .val (.ref b296), .val .null, .unset] [(.ref b7)])
          refine og_aload X347 187 at_185 rfl rfl rfl ?_
          have f348 := E11.keep K14
          have f349 := f348.keep K18
          have f350 := f349.keep K294
          have f351 := f350.keep K296
          have f352 := f351.keep K304
          have f353 := f352.keep K314
          have f354 := f353.keep K317
          have f355 := f354.keep K321
          have f356 := f355.keep K326
          have f357 := f356.keep K332
          have f358 := f357.keep K339
          have f359 := f358.keep K347
          refine own_virt X347 190 (a := b7) (argsL := [(.ref b7)]) (rest := []) at_187 f359 (fun _ hZ => notFace_of_selects (args := #[]) (mvT hZ (hw _ (List.mem_of_getElem? (i := 118) rfl)))) (rm19 l Z a0 hw n0 h347 hWd [] X347.old b7  ) (hw _ (List.mem_of_getElem? (i := 115) rfl)) (hw _ (List.mem_of_getElem? (i := 116) rfl)) (hw _ (List.mem_of_getElem? (i := 118) rfl)) (hw _ (List.mem_of_getElem? (i := 117) rfl)) (hw _ (List.mem_of_getElem? (i := 3) rfl)) (hw _ (List.mem_of_getElem? (i := 119) rfl)) (by decide) (lenOf pd__28Ljava_2flang_2fObject_3b_29Z rfl) rfl rfl rfl (W := 0) rfl (by decide) (by decide) (by decide) (by decide) all0 rfl ?_
          intro T360 h360 v360 X360 K360 hQ360
          obtain rfl := hQ360
          show OGo _ _ _ _ T360 (mkF m 190 #[.val (.int pc), .val (.long ps), .second, .val (.long pl), .second, .val (.int ph), .val (.long pt), .second, .val (.int pf), .val (.ref b1), .val (.ref b7), .val (.int (0 : Int32)), .val (.int ((1 : Int32) + ((ph &&& (2147483647 : Int32)) % (2147483647 : Int32)))), .val (.ref b14), .val (.ref b296), .val .null, .unset] [(.int (1 : Int32))])
          refine og_ifN X360 193 at_190 (XT.i0_eq_f (by decide)) rfl ?_
          refine og_iconst X360 194 (1 : Int32) at_193 rfl rfl ?_
          refine og_goto X360 198 at_194 (by decide) (by decide) ?_
          refine og_istore X360 200 #[.val (.int pc), .val (.long ps), .second, .val (.long pl), .second, .val (.int ph), .val (.long pt), .second, .val (.int pf), .val (.ref b1), .val (.ref b7), .val (.int (0 : Int32)), .val (.int ((1 : Int32) + ((ph &&& (2147483647 : Int32)) % (2147483647 : Int32)))), .val (.ref b14), .val (.ref b296), .val .null, .val (.int (1 : Int32))] at_198 rfl rfl ?_
          refine og_iload X360 202 at_200 rfl rfl ?_
          refine og_iconst X360 203 (1 : Int32) at_202 rfl rfl ?_
          refine og_icmpN X360 206 at_203 (XT.ii_ne_f hc312) rfl ?_
          refine og_aload X360 208 at_206 rfl rfl rfl ?_
          refine og_nonnullN X360 211 at_208 rfl ?_
          refine og_iload X360 213 at_211 rfl rfl ?_
          refine og_ifN X360 216 at_213 (XT.i0_eq_f (by decide)) rfl ?_
          refine og_iconst X360 217 (1 : Int32) at_216 rfl rfl ?_
          refine og_goto X360 221 at_217 (by decide) (by decide) ?_
          refine own_retZ X360 at_221 hret rfl (by decide) (by decide) ?_
          exact rfl
        · -- not
          have f361 := E296.keep K304
          refine own_virt X304 127 (a := b296) (argsL := []) (rest := []) at_124 f361 (fun _ hZ => notFace_of_selects (args := #[]) (mvT hZ (hw _ (List.mem_of_getElem? (i := 83) rfl)))) (rm_rel1 l Z a0 hw n0 h304 hWd [] X304.old b296 b7 ps pl ((1 : Int32) + ((ph &&& (2147483647 : Int32)) % (2147483647 : Int32))) pt (0 : Int32) b14 f305 f306 f307 f308 f309 f310 f311 hc312 (by decide) ) (hw _ (List.mem_of_getElem? (i := 80) rfl)) (hw _ (List.mem_of_getElem? (i := 81) rfl)) (hw _ (List.mem_of_getElem? (i := 83) rfl)) (hw _ (List.mem_of_getElem? (i := 82) rfl)) (hw _ (List.mem_of_getElem? (i := 56) rfl)) (hw _ (List.mem_of_getElem? (i := 84) rfl)) (by decide) (lenOf pd__28_29Lcom_2fexample_2fsynlock_2fsynlock_2fHolds_24Grant_3b rfl) rfl rfl rfl (W := 0) rfl (by decide) (by decide) (by decide) (by decide) all0 rfl ?_
          intro T362 h362 v362 X362 K362 hQ362
          obtain ⟨r362, rfl, ge_r362, f363, f364, f365, f366, f367, f368, f369, f370⟩ := hQ362
          show OGo _ _ _ _ T362 (mkF m 127 #[.val (.int pc), .val (.long ps), .second, .val (.long pl), .second, .val (.int ph), .val (.long pt), .second, .val (.int pf), .val (.ref b1), .val (.ref b7), .val (.int (0 : Int32)), .val (.int ((1 : Int32) + ((ph &&& (2147483647 : Int32)) % (2147483647 : Int32)))), .val (.ref b14), .val (.ref b296), .unset, .unset] [(.ref r362)])
          refine og_astore X362 129 #[.val (.int pc), .val (.long ps), .second, .val (.long pl), .second, .val (.int ph), .val (.long pt), .second, .val (.int pf), .val (.ref b1), .val (.ref b7), .val (.int (0 : Int32)), .val (.int ((1 : Int32) + ((ph &&& (2147483647 : Int32)) % (2147483647 : Int32)))), .val (.ref b14), .val (.ref b296), .val (.ref r362), .unset] at_127 rfl rfl rfl ?_
          refine og_aload X362 131 at_129 rfl rfl rfl ?_
          have f371 := f361.keep K362
          have f372 := f308.keep K362 nin0
          refine own_virt X362 134 (a := b296) (argsL := []) (rest := []) at_131 f371 (fun _ hZ => notFace_of_selects (args := #[]) (mvT hZ (hw _ (List.mem_of_getElem? (i := 88) rfl)))) (rm13 l Z a0 hw n0 h362 hWd [] X362.old b296 ((1 : Int32) + ((ph &&& (2147483647 : Int32)) % (2147483647 : Int32))) f372 ) (hw _ (List.mem_of_getElem? (i := 85) rfl)) (hw _ (List.mem_of_getElem? (i := 86) rfl)) (hw _ (List.mem_of_getElem? (i := 88) rfl)) (hw _ (List.mem_of_getElem? (i := 87) rfl)) (hw _ (List.mem_of_getElem? (i := 56) rfl)) (hw _ (List.mem_of_getElem? (i := 89) rfl)) (by decide) (lenOf pd__28_29I rfl) rfl rfl rfl (W := 0) rfl (by decide) (by decide) (by decide) (by decide) all0 rfl ?_
          intro T373 h373 v373 X373 K373 hQ373
          obtain rfl := hQ373
          show OGo _ _ _ _ T373 (mkF m 134 #[.val (.int pc), .val (.long ps), .second, .val (.long pl), .second, .val (.int ph), .val (.long pt), .second, .val (.int pf), .val (.ref b1), .val (.ref b7), .val (.int (0 : Int32)), .val (.int ((1 : Int32) + ((ph &&& (2147483647 : Int32)) % (2147483647 : Int32)))), .val (.ref b14), .val (.ref b296), .val (.ref r362), .unset] [(.int ((1 : Int32) + ((ph &&& (2147483647 : Int32)) % (2147483647 : Int32))))])
          refine og_iload X373 136 at_134 rfl rfl ?_
          refine og_icmpN X373 139 at_136 (XT.ii_ne_f rfl) rfl ?_
          refine og_aload X373 141 at_139 rfl rfl rfl ?_
          have f374 := f371.keep K373
          have f375 := f306.keep K362 nin0
          have f376 := f375.keep K373 nin0
          refine own_virt X373 144 (a := b296) (argsL := []) (rest := []) at_141 f374 (fun _ hZ => notFace_of_selects (args := #[]) (mvT hZ (hw _ (List.mem_of_getElem? (i := 93) rfl)))) (rm14 l Z a0 hw n0 h373 hWd [] X373.old b296 ps f376 ) (hw _ (List.mem_of_getElem? (i := 90) rfl)) (hw _ (List.mem_of_getElem? (i := 91) rfl)) (hw _ (List.mem_of_getElem? (i := 93) rfl)) (hw _ (List.mem_of_getElem? (i := 92) rfl)) (hw _ (List.mem_of_getElem? (i := 56) rfl)) (hw _ (List.mem_of_getElem? (i := 94) rfl)) (by decide) (lenOf pd__28_29J rfl) rfl rfl rfl (W := 0) rfl (by decide) (by decide) (by decide) (by decide) all0 rfl ?_
          intro T377 h377 v377 X377 K377 hQ377
          obtain rfl := hQ377
          show OGo _ _ _ _ T377 (mkF m 144 #[.val (.int pc), .val (.long ps), .second, .val (.long pl), .second, .val (.int ph), .val (.long pt), .second, .val (.int pf), .val (.ref b1), .val (.ref b7), .val (.int (0 : Int32)), .val (.int ((1 : Int32) + ((ph &&& (2147483647 : Int32)) % (2147483647 : Int32)))), .val (.ref b14), .val (.ref b296), .val (.ref r362), .unset] [(.long ps)])
          refine og_lloadN X377 145 at_144 rfl rfl ?_
          refine og_lcmp X377 146 at_145 rfl ?_
          refine og_ifN X377 149 at_146 (XT.ll_ne_f rfl) rfl ?_
          refine og_aload X377 151 at_149 rfl rfl rfl ?_
          have f378 := f374.keep K377
          have f379 := f307.keep K362 nin0
          have f380 := f379.keep K373 nin0
          have f381 := f380.keep K377 nin0
          refine own_virt X377 154 (a := b296) (argsL := []) (rest := []) at_151 f378 (fun _ hZ => notFace_of_selects (args := #[]) (mvT hZ (hw _ (List.mem_of_getElem? (i := 98) rfl)))) (rm15 l Z a0 hw n0 h377 hWd [] X377.old b296 pl f381 ) (hw _ (List.mem_of_getElem? (i := 95) rfl)) (hw _ (List.mem_of_getElem? (i := 96) rfl)) (hw _ (List.mem_of_getElem? (i := 98) rfl)) (hw _ (List.mem_of_getElem? (i := 97) rfl)) (hw _ (List.mem_of_getElem? (i := 56) rfl)) (hw _ (List.mem_of_getElem? (i := 99) rfl)) (by decide) (lenOf pd__28_29J rfl) rfl rfl rfl (W := 0) rfl (by decide) (by decide) (by decide) (by decide) all0 rfl ?_
          intro T382 h382 v382 X382 K382 hQ382
          obtain rfl := hQ382
          show OGo _ _ _ _ T382 (mkF m 154 #[.val (.int pc), .val (.long ps), .second, .val (.long pl), .second, .val (.int ph), .val (.long pt), .second, .val (.int pf), .val (.ref b1), .val (.ref b7), .val (.int (0 : Int32)), .val (.int ((1 : Int32) + ((ph &&& (2147483647 : Int32)) % (2147483647 : Int32)))), .val (.ref b14), .val (.ref b296), .val (.ref r362), .unset] [(.long pl)])
          refine og_lloadN X382 155 at_154 rfl rfl ?_
          refine og_lcmp X382 156 at_155 rfl ?_
          refine og_ifN X382 159 at_156 (XT.ll_ne_f rfl) rfl ?_
          refine og_aload X382 161 at_159 rfl rfl rfl ?_
          have f383 := f378.keep K382
          have f384 := f309.keep K362 nin0
          have f385 := f384.keep K373 nin0
          have f386 := f385.keep K377 nin0
          have f387 := f386.keep K382 nin0
          refine own_virt X382 164 (a := b296) (argsL := []) (rest := []) at_161 f383 (fun _ hZ => notFace_of_selects (args := #[]) (mvT hZ (hw _ (List.mem_of_getElem? (i := 103) rfl)))) (rm16 l Z a0 hw n0 h382 hWd [] X382.old b296 pt f387 ) (hw _ (List.mem_of_getElem? (i := 100) rfl)) (hw _ (List.mem_of_getElem? (i := 101) rfl)) (hw _ (List.mem_of_getElem? (i := 103) rfl)) (hw _ (List.mem_of_getElem? (i := 102) rfl)) (hw _ (List.mem_of_getElem? (i := 56) rfl)) (hw _ (List.mem_of_getElem? (i := 104) rfl)) (by decide) (lenOf pd__28_29J rfl) rfl rfl rfl (W := 0) rfl (by decide) (by decide) (by decide) (by decide) all0 rfl ?_
          intro T388 h388 v388 X388 K388 hQ388
          obtain rfl := hQ388
          show OGo _ _ _ _ T388 (mkF m 164 #[.val (.int pc), .val (.long ps), .second, .val (.long pl), .second, .val (.int ph), .val (.long pt), .second, .val (.int pf), .val (.ref b1), .val (.ref b7), .val (.int (0 : Int32)), .val (.int ((1 : Int32) + ((ph &&& (2147483647 : Int32)) % (2147483647 : Int32)))), .val (.ref b14), .val (.ref b296), .val (.ref r362), .unset] [(.long pt)])
          refine og_lload X388 166 at_164 rfl rfl ?_
          refine og_lcmp X388 167 at_166 rfl ?_
          refine og_ifN X388 170 at_167 (XT.ll_ne_f rfl) rfl ?_
          refine og_aload X388 172 at_170 rfl rfl rfl ?_
          have f389 := f383.keep K388
          have f390 := f310.keep K362 nin0
          have f391 := f390.keep K373 nin0
          have f392 := f391.keep K377 nin0
          have f393 := f392.keep K382 nin0
          have f394 := f393.keep K388 nin0
          refine own_virt X388 175 (a := b296) (argsL := []) (rest := []) at_172 f389 (fun _ hZ => notFace_of_selects (args := #[]) (mvT hZ (hw _ (List.mem_of_getElem? (i := 108) rfl)))) (rm17 l Z a0 hw n0 h388 hWd [] X388.old b296 (0 : Int32) f394 (by decide) ) (hw _ (List.mem_of_getElem? (i := 105) rfl)) (hw _ (List.mem_of_getElem? (i := 106) rfl)) (hw _ (List.mem_of_getElem? (i := 108) rfl)) (hw _ (List.mem_of_getElem? (i := 107) rfl)) (hw _ (List.mem_of_getElem? (i := 56) rfl)) (hw _ (List.mem_of_getElem? (i := 109) rfl)) (by decide) (lenOf pd__28_29Z rfl) rfl rfl rfl (W := 0) rfl (by decide) (by decide) (by decide) (by decide) all0 rfl ?_
          intro T395 h395 v395 X395 K395 hQ395
          obtain rfl := hQ395
          show OGo _ _ _ _ T395 (mkF m 175 #[.val (.int pc), .val (.long ps), .second, .val (.long pl), .second, .val (.int ph), .val (.long pt), .second, .val (.int pf), .val (.ref b1), .val (.ref b7), .val (.int (0 : Int32)), .val (.int ((1 : Int32) + ((ph &&& (2147483647 : Int32)) % (2147483647 : Int32)))), .val (.ref b14), .val (.ref b296), .val (.ref r362), .unset] [(.int (0 : Int32))])
          refine og_iload X395 177 at_175 rfl rfl ?_
          refine og_icmpN X395 180 at_177 (XT.ii_ne_f (by decide)) rfl ?_
          refine og_aload X395 182 at_180 rfl rfl rfl ?_
          have f396 := f389.keep K395
          have f397 := f305.keep K362 nin0
          have f398 := f397.keep K373 nin0
          have f399 := f398.keep K377 nin0
          have f400 := f399.keep K382 nin0
          have f401 := f400.keep K388 nin0
          have f402 := f401.keep K395 nin0
          refine own_virt X395 185 (a := b296) (argsL := []) (rest := []) at_182 f396 (fun _ hZ => notFace_of_selects (args := #[]) (mvT hZ (hw _ (List.mem_of_getElem? (i := 113) rfl)))) (rm18 l Z a0 hw n0 h395 hWd [] X395.old b296 b7 f402 ) (hw _ (List.mem_of_getElem? (i := 110) rfl)) (hw _ (List.mem_of_getElem? (i := 111) rfl)) (hw _ (List.mem_of_getElem? (i := 113) rfl)) (hw _ (List.mem_of_getElem? (i := 112) rfl)) (hw _ (List.mem_of_getElem? (i := 56) rfl)) (hw _ (List.mem_of_getElem? (i := 114) rfl)) (by decide) (lenOf pd__28_29Ljava_2flang_2fString_3b rfl) rfl rfl rfl (W := 0) rfl (by decide) (by decide) (by decide) (by decide) all0 rfl ?_
          intro T403 h403 v403 X403 K403 hQ403
          obtain rfl := hQ403
          show OGo _ _ _ _ T403 (mkF m 185 #[.val (.int pc), .val (.long ps), .second, .val (.long pl), .second, .val (.int ph), .val (.long pt), .second, .val (.int pf), .val (.ref b1), .val (.ref b7), .val (.int (0 : Int32)), .val (.int ((1 : Int32) + ((ph &&& (2147483647 : Int32)) % (2147483647 : Int32)))), .val (.ref b14), .val (.ref b296), .val (.ref r362), .unset] [(.ref b7)])
          refine og_aload X403 187 at_185 rfl rfl rfl ?_
          have f404 := E11.keep K14
          have f405 := f404.keep K18
          have f406 := f405.keep K294
          have f407 := f406.keep K296
          have f408 := f407.keep K304
          have f409 := f408.keep K362
          have f410 := f409.keep K373
          have f411 := f410.keep K377
          have f412 := f411.keep K382
          have f413 := f412.keep K388
          have f414 := f413.keep K395
          have f415 := f414.keep K403
          refine own_virt X403 190 (a := b7) (argsL := [(.ref b7)]) (rest := []) at_187 f415 (fun _ hZ => notFace_of_selects (args := #[]) (mvT hZ (hw _ (List.mem_of_getElem? (i := 118) rfl)))) (rm19 l Z a0 hw n0 h403 hWd [] X403.old b7  ) (hw _ (List.mem_of_getElem? (i := 115) rfl)) (hw _ (List.mem_of_getElem? (i := 116) rfl)) (hw _ (List.mem_of_getElem? (i := 118) rfl)) (hw _ (List.mem_of_getElem? (i := 117) rfl)) (hw _ (List.mem_of_getElem? (i := 3) rfl)) (hw _ (List.mem_of_getElem? (i := 119) rfl)) (by decide) (lenOf pd__28Ljava_2flang_2fObject_3b_29Z rfl) rfl rfl rfl (W := 0) rfl (by decide) (by decide) (by decide) (by decide) all0 rfl ?_
          intro T416 h416 v416 X416 K416 hQ416
          obtain rfl := hQ416
          show OGo _ _ _ _ T416 (mkF m 190 #[.val (.int pc), .val (.long ps), .second, .val (.long pl), .second, .val (.int ph), .val (.long pt), .second, .val (.int pf), .val (.ref b1), .val (.ref b7), .val (.int (0 : Int32)), .val (.int ((1 : Int32) + ((ph &&& (2147483647 : Int32)) % (2147483647 : Int32)))), .val (.ref b14), .val (.ref b296), .val (.ref r362), .unset] [(.int (1 : Int32))])
          refine og_ifN X416 193 at_190 (XT.i0_eq_f (by decide)) rfl ?_
          refine og_iconst X416 194 (1 : Int32) at_193 rfl rfl ?_
          refine og_goto X416 198 at_194 (by decide) (by decide) ?_
          refine og_istore X416 200 #[.val (.int pc), .val (.long ps), .second, .val (.long pl), .second, .val (.int ph), .val (.long pt), .second, .val (.int pf), .val (.ref b1), .val (.ref b7), .val (.int (0 : Int32)), .val (.int ((1 : Int32) + ((ph &&& (2147483647 : Int32)) % (2147483647 : Int32)))), .val (.ref b14), .val (.ref b296), .val (.ref r362), .val (.int (1 : Int32))] at_198 rfl rfl ?_
          refine og_iload X416 202 at_200 rfl rfl ?_
          refine og_iconst X416 203 (1 : Int32) at_202 rfl rfl ?_
          refine og_icmpY X416 222 at_203 (XT.ii_ne_t hc312) (by decide) (by decide) ?_
          refine og_aload X416 224 at_222 rfl rfl rfl ?_
          refine og_nullN X416 227 at_224 rfl ?_
          refine og_aload X416 229 at_227 rfl rfl rfl ?_
          have f417 := f363.keep K373
          have f418 := f417.keep K377
          have f419 := f418.keep K382
          have f420 := f419.keep K388
          have f421 := f420.keep K395
          have f422 := f421.keep K403
          have f423 := f422.keep K416
          have f424 := f364.keep K373 nin0
          have f425 := f424.keep K377 nin0
          have f426 := f425.keep K382 nin0
          have f427 := f426.keep K388 nin0
          have f428 := f427.keep K395 nin0
          have f429 := f428.keep K403 nin0
          have f430 := f429.keep K416 nin0
          refine own_virt X416 232 (a := r362) (argsL := []) (rest := []) at_229 f423 (fun _ hZ => notFace_of_selects (args := #[]) (mvT hZ (hw _ (List.mem_of_getElem? (i := 113) rfl)))) (rm18 l Z a0 hw n0 h416 hWd [] X416.old r362 b7 f430 ) (hw _ (List.mem_of_getElem? (i := 110) rfl)) (hw _ (List.mem_of_getElem? (i := 111) rfl)) (hw _ (List.mem_of_getElem? (i := 113) rfl)) (hw _ (List.mem_of_getElem? (i := 112) rfl)) (hw _ (List.mem_of_getElem? (i := 56) rfl)) (hw _ (List.mem_of_getElem? (i := 114) rfl)) (by decide) (lenOf pd__28_29Ljava_2flang_2fString_3b rfl) rfl rfl rfl (W := 0) rfl (by decide) (by decide) (by decide) (by decide) all0 rfl ?_
          intro T431 h431 v431 X431 K431 hQ431
          obtain rfl := hQ431
          show OGo _ _ _ _ T431 (mkF m 232 #[.val (.int pc), .val (.long ps), .second, .val (.long pl), .second, .val (.int ph), .val (.long pt), .second, .val (.int pf), .val (.ref b1), .val (.ref b7), .val (.int (0 : Int32)), .val (.int ((1 : Int32) + ((ph &&& (2147483647 : Int32)) % (2147483647 : Int32)))), .val (.ref b14), .val (.ref b296), .val (.ref r362), .val (.int (1 : Int32))] [(.ref b7)])
          refine og_aload X431 234 at_232 rfl rfl rfl ?_
          have f432 := f415.keep K416
          have f433 := f432.keep K431
          refine own_virt X431 237 (a := b7) (argsL := [(.ref b7)]) (rest := []) at_234 f433 (fun _ hZ => notFace_of_selects (args := #[]) (mvT hZ (hw _ (List.mem_of_getElem? (i := 118) rfl)))) (rm19 l Z a0 hw n0 h431 hWd [] X431.old b7  ) (hw _ (List.mem_of_getElem? (i := 115) rfl)) (hw _ (List.mem_of_getElem? (i := 116) rfl)) (hw _ (List.mem_of_getElem? (i := 118) rfl)) (hw _ (List.mem_of_getElem? (i := 117) rfl)) (hw _ (List.mem_of_getElem? (i := 3) rfl)) (hw _ (List.mem_of_getElem? (i := 119) rfl)) (by decide) (lenOf pd__28Ljava_2flang_2fObject_3b_29Z rfl) rfl rfl rfl (W := 0) rfl (by decide) (by decide) (by decide) (by decide) all0 rfl ?_
          intro T434 h434 v434 X434 K434 hQ434
          obtain rfl := hQ434
          show OGo _ _ _ _ T434 (mkF m 237 #[.val (.int pc), .val (.long ps), .second, .val (.long pl), .second, .val (.int ph), .val (.long pt), .second, .val (.int pf), .val (.ref b1), .val (.ref b7), .val (.int (0 : Int32)), .val (.int ((1 : Int32) + ((ph &&& (2147483647 : Int32)) % (2147483647 : Int32)))), .val (.ref b14), .val (.ref b296), .val (.ref r362), .val (.int (1 : Int32))] [(.int (1 : Int32))])
          refine og_ifN X434 240 at_237 (XT.i0_eq_f (by decide)) rfl ?_
          refine og_aload X434 242 at_240 rfl rfl rfl ?_
          have f435 := f423.keep K431
          have f436 := f435.keep K434
          have f437 := f365.keep K373 nin0
          have f438 := f437.keep K377 nin0
          have f439 := f438.keep K382 nin0
          have f440 := f439.keep K388 nin0
          have f441 := f440.keep K395 nin0
          have f442 := f441.keep K403 nin0
          have f443 := f442.keep K416 nin0
          have f444 := f443.keep K431 nin0
          have f445 := f444.keep K434 nin0
          refine own_virt X434 245 (a := r362) (argsL := []) (rest := []) at_242 f436 (fun _ hZ => notFace_of_selects (args := #[]) (mvT hZ (hw _ (List.mem_of_getElem? (i := 93) rfl)))) (rm14 l Z a0 hw n0 h434 hWd [] X434.old r362 ps f445 ) (hw _ (List.mem_of_getElem? (i := 90) rfl)) (hw _ (List.mem_of_getElem? (i := 91) rfl)) (hw _ (List.mem_of_getElem? (i := 93) rfl)) (hw _ (List.mem_of_getElem? (i := 92) rfl)) (hw _ (List.mem_of_getElem? (i := 56) rfl)) (hw _ (List.mem_of_getElem? (i := 94) rfl)) (by decide) (lenOf pd__28_29J rfl) rfl rfl rfl (W := 0) rfl (by decide) (by decide) (by decide) (by decide) all0 rfl ?_
          intro T446 h446 v446 X446 K446 hQ446
          obtain rfl := hQ446
          show OGo _ _ _ _ T446 (mkF m 245 #[.val (.int pc), .val (.long ps), .second, .val (.long pl), .second, .val (.int ph), .val (.long pt), .second, .val (.int pf), .val (.ref b1), .val (.ref b7), .val (.int (0 : Int32)), .val (.int ((1 : Int32) + ((ph &&& (2147483647 : Int32)) % (2147483647 : Int32)))), .val (.ref b14), .val (.ref b296), .val (.ref r362), .val (.int (1 : Int32))] [(.long ps)])
          refine og_lloadN X446 246 at_245 rfl rfl ?_
          refine og_lcmp X446 247 at_246 rfl ?_
          refine og_ifN X446 250 at_247 (XT.ll_ne_f rfl) rfl ?_
          refine og_aload X446 252 at_250 rfl rfl rfl ?_
          have f447 := f436.keep K446
          have f448 := f366.keep K373 nin0
          have f449 := f448.keep K377 nin0
          have f450 := f449.keep K382 nin0
          have f451 := f450.keep K388 nin0
          have f452 := f451.keep K395 nin0
          have f453 := f452.keep K403 nin0
          have f454 := f453.keep K416 nin0
          have f455 := f454.keep K431 nin0
          have f456 := f455.keep K434 nin0
          have f457 := f456.keep K446 nin0
          refine own_virt X446 255 (a := r362) (argsL := []) (rest := []) at_252 f447 (fun _ hZ => notFace_of_selects (args := #[]) (mvT hZ (hw _ (List.mem_of_getElem? (i := 98) rfl)))) (rm15 l Z a0 hw n0 h446 hWd [] X446.old r362 pl f457 ) (hw _ (List.mem_of_getElem? (i := 95) rfl)) (hw _ (List.mem_of_getElem? (i := 96) rfl)) (hw _ (List.mem_of_getElem? (i := 98) rfl)) (hw _ (List.mem_of_getElem? (i := 97) rfl)) (hw _ (List.mem_of_getElem? (i := 56) rfl)) (hw _ (List.mem_of_getElem? (i := 99) rfl)) (by decide) (lenOf pd__28_29J rfl) rfl rfl rfl (W := 0) rfl (by decide) (by decide) (by decide) (by decide) all0 rfl ?_
          intro T458 h458 v458 X458 K458 hQ458
          obtain rfl := hQ458
          show OGo _ _ _ _ T458 (mkF m 255 #[.val (.int pc), .val (.long ps), .second, .val (.long pl), .second, .val (.int ph), .val (.long pt), .second, .val (.int pf), .val (.ref b1), .val (.ref b7), .val (.int (0 : Int32)), .val (.int ((1 : Int32) + ((ph &&& (2147483647 : Int32)) % (2147483647 : Int32)))), .val (.ref b14), .val (.ref b296), .val (.ref r362), .val (.int (1 : Int32))] [(.long pl)])
          refine og_lloadN X458 256 at_255 rfl rfl ?_
          refine og_lcmp X458 257 at_256 rfl ?_
          refine og_ifN X458 260 at_257 (XT.ll_ne_f rfl) rfl ?_
          refine og_aload X458 262 at_260 rfl rfl rfl ?_
          have f459 := f447.keep K458
          have f460 := f367.keep K373 nin0
          have f461 := f460.keep K377 nin0
          have f462 := f461.keep K382 nin0
          have f463 := f462.keep K388 nin0
          have f464 := f463.keep K395 nin0
          have f465 := f464.keep K403 nin0
          have f466 := f465.keep K416 nin0
          have f467 := f466.keep K431 nin0
          have f468 := f467.keep K434 nin0
          have f469 := f468.keep K446 nin0
          have f470 := f469.keep K458 nin0
          refine own_virt X458 265 (a := r362) (argsL := []) (rest := []) at_262 f459 (fun _ hZ => notFace_of_selects (args := #[]) (mvT hZ (hw _ (List.mem_of_getElem? (i := 88) rfl)))) (rm13 l Z a0 hw n0 h458 hWd [] X458.old r362 (((1 : Int32) + ((ph &&& (2147483647 : Int32)) % (2147483647 : Int32))) - (1 : Int32)) f470 ) (hw _ (List.mem_of_getElem? (i := 85) rfl)) (hw _ (List.mem_of_getElem? (i := 86) rfl)) (hw _ (List.mem_of_getElem? (i := 88) rfl)) (hw _ (List.mem_of_getElem? (i := 87) rfl)) (hw _ (List.mem_of_getElem? (i := 56) rfl)) (hw _ (List.mem_of_getElem? (i := 89) rfl)) (by decide) (lenOf pd__28_29I rfl) rfl rfl rfl (W := 0) rfl (by decide) (by decide) (by decide) (by decide) all0 rfl ?_
          intro T471 h471 v471 X471 K471 hQ471
          obtain rfl := hQ471
          show OGo _ _ _ _ T471 (mkF m 265 #[.val (.int pc), .val (.long ps), .second, .val (.long pl), .second, .val (.int ph), .val (.long pt), .second, .val (.int pf), .val (.ref b1), .val (.ref b7), .val (.int (0 : Int32)), .val (.int ((1 : Int32) + ((ph &&& (2147483647 : Int32)) % (2147483647 : Int32)))), .val (.ref b14), .val (.ref b296), .val (.ref r362), .val (.int (1 : Int32))] [(.int (((1 : Int32) + ((ph &&& (2147483647 : Int32)) % (2147483647 : Int32))) - (1 : Int32)))])
          refine og_iload X471 267 at_265 rfl rfl ?_
          refine og_iconst X471 268 (1 : Int32) at_267 rfl rfl ?_
          refine og_isub X471 269 at_268 rfl ?_
          refine og_icmpN X471 272 at_269 (XT.ii_ne_f rfl) rfl ?_
          refine og_aload X471 274 at_272 rfl rfl rfl ?_
          have f472 := f459.keep K471
          have f473 := f368.keep K373 nin0
          have f474 := f473.keep K377 nin0
          have f475 := f474.keep K382 nin0
          have f476 := f475.keep K388 nin0
          have f477 := f476.keep K395 nin0
          have f478 := f477.keep K403 nin0
          have f479 := f478.keep K416 nin0
          have f480 := f479.keep K431 nin0
          have f481 := f480.keep K434 nin0
          have f482 := f481.keep K446 nin0
          have f483 := f482.keep K458 nin0
          have f484 := f483.keep K471 nin0
          refine own_virt X471 277 (a := r362) (argsL := []) (rest := []) at_274 f472 (fun _ hZ => notFace_of_selects (args := #[]) (mvT hZ (hw _ (List.mem_of_getElem? (i := 103) rfl)))) (rm16 l Z a0 hw n0 h471 hWd [] X471.old r362 pt f484 ) (hw _ (List.mem_of_getElem? (i := 100) rfl)) (hw _ (List.mem_of_getElem? (i := 101) rfl)) (hw _ (List.mem_of_getElem? (i := 103) rfl)) (hw _ (List.mem_of_getElem? (i := 102) rfl)) (hw _ (List.mem_of_getElem? (i := 56) rfl)) (hw _ (List.mem_of_getElem? (i := 104) rfl)) (by decide) (lenOf pd__28_29J rfl) rfl rfl rfl (W := 0) rfl (by decide) (by decide) (by decide) (by decide) all0 rfl ?_
          intro T485 h485 v485 X485 K485 hQ485
          obtain rfl := hQ485
          show OGo _ _ _ _ T485 (mkF m 277 #[.val (.int pc), .val (.long ps), .second, .val (.long pl), .second, .val (.int ph), .val (.long pt), .second, .val (.int pf), .val (.ref b1), .val (.ref b7), .val (.int (0 : Int32)), .val (.int ((1 : Int32) + ((ph &&& (2147483647 : Int32)) % (2147483647 : Int32)))), .val (.ref b14), .val (.ref b296), .val (.ref r362), .val (.int (1 : Int32))] [(.long pt)])
          refine og_lload X485 279 at_277 rfl rfl ?_
          refine og_lcmp X485 280 at_279 rfl ?_
          refine og_ifN X485 283 at_280 (XT.ll_ne_f rfl) rfl ?_
          refine og_aload X485 285 at_283 rfl rfl rfl ?_
          have f486 := f472.keep K485
          have f487 := f369.keep K373 nin0
          have f488 := f487.keep K377 nin0
          have f489 := f488.keep K382 nin0
          have f490 := f489.keep K388 nin0
          have f491 := f490.keep K395 nin0
          have f492 := f491.keep K403 nin0
          have f493 := f492.keep K416 nin0
          have f494 := f493.keep K431 nin0
          have f495 := f494.keep K434 nin0
          have f496 := f495.keep K446 nin0
          have f497 := f496.keep K458 nin0
          have f498 := f497.keep K471 nin0
          have f499 := f498.keep K485 nin0
          refine own_virt X485 288 (a := r362) (argsL := []) (rest := []) at_285 f486 (fun _ hZ => notFace_of_selects (args := #[]) (mvT hZ (hw _ (List.mem_of_getElem? (i := 108) rfl)))) (rm17 l Z a0 hw n0 h485 hWd [] X485.old r362 (0 : Int32) f499 (by decide) ) (hw _ (List.mem_of_getElem? (i := 105) rfl)) (hw _ (List.mem_of_getElem? (i := 106) rfl)) (hw _ (List.mem_of_getElem? (i := 108) rfl)) (hw _ (List.mem_of_getElem? (i := 107) rfl)) (hw _ (List.mem_of_getElem? (i := 56) rfl)) (hw _ (List.mem_of_getElem? (i := 109) rfl)) (by decide) (lenOf pd__28_29Z rfl) rfl rfl rfl (W := 0) rfl (by decide) (by decide) (by decide) (by decide) all0 rfl ?_
          intro T500 h500 v500 X500 K500 hQ500
          obtain rfl := hQ500
          show OGo _ _ _ _ T500 (mkF m 288 #[.val (.int pc), .val (.long ps), .second, .val (.long pl), .second, .val (.int ph), .val (.long pt), .second, .val (.int pf), .val (.ref b1), .val (.ref b7), .val (.int (0 : Int32)), .val (.int ((1 : Int32) + ((ph &&& (2147483647 : Int32)) % (2147483647 : Int32)))), .val (.ref b14), .val (.ref b296), .val (.ref r362), .val (.int (1 : Int32))] [(.int (0 : Int32))])
          refine og_iload X500 290 at_288 rfl rfl ?_
          refine og_icmpN X500 293 at_290 (XT.ii_ne_f (by decide)) rfl ?_
          refine og_aload X500 295 at_293 rfl rfl rfl ?_
          have f501 := f486.keep K500
          have f502 := f370.keep K373 nin0
          have f503 := f502.keep K377 nin0
          have f504 := f503.keep K382 nin0
          have f505 := f504.keep K388 nin0
          have f506 := f505.keep K395 nin0
          have f507 := f506.keep K403 nin0
          have f508 := f507.keep K416 nin0
          have f509 := f508.keep K431 nin0
          have f510 := f509.keep K434 nin0
          have f511 := f510.keep K446 nin0
          have f512 := f511.keep K458 nin0
          have f513 := f512.keep K471 nin0
          have f514 := f513.keep K485 nin0
          have f515 := f514.keep K500 nin0
          refine own_virt X500 298 (a := r362) (argsL := []) (rest := []) at_295 f501 (fun _ hZ => notFace_of_selects (args := #[]) (mvT hZ (hw _ (List.mem_of_getElem? (i := 160) rfl)))) (rm25 l Z a0 hw n0 h500 hWd [] X500.old r362 b14 f515 ) (hw _ (List.mem_of_getElem? (i := 157) rfl)) (hw _ (List.mem_of_getElem? (i := 158) rfl)) (hw _ (List.mem_of_getElem? (i := 160) rfl)) (hw _ (List.mem_of_getElem? (i := 159) rfl)) (hw _ (List.mem_of_getElem? (i := 56) rfl)) (hw _ (List.mem_of_getElem? (i := 161) rfl)) (by decide) (lenOf pd__28_29Ljava_2futil_2fList_3b rfl) rfl rfl rfl (W := 0) rfl (by decide) (by decide) (by decide) (by decide) all0 rfl ?_
          intro T516 h516 v516 X516 K516 hQ516
          obtain rfl := hQ516
          show OGo _ _ _ _ T516 (mkF m 298 #[.val (.int pc), .val (.long ps), .second, .val (.long pl), .second, .val (.int ph), .val (.long pt), .second, .val (.int pf), .val (.ref b1), .val (.ref b7), .val (.int (0 : Int32)), .val (.int ((1 : Int32) + ((ph &&& (2147483647 : Int32)) % (2147483647 : Int32)))), .val (.ref b14), .val (.ref b296), .val (.ref r362), .val (.int (1 : Int32))] [(.ref b14)])
          have f517 := f293.keep K294
          have f518 := f517.keep K296
          have f519 := f518.keep K304
          have f520 := f519.keep K362
          have f521 := f520.keep K373
          have f522 := f521.keep K377
          have f523 := f522.keep K382
          have f524 := f523.keep K388
          have f525 := f524.keep K395
          have f526 := f525.keep K403
          have f527 := f526.keep K416
          have f528 := f527.keep K431
          have f529 := f528.keep K434
          have f530 := f529.keep K446
          have f531 := f530.keep K458
          have f532 := f531.keep K471
          have f533 := f532.keep K485
          have f534 := f533.keep K500
          have f535 := f534.keep K516
          have f536 := f295.keep K296 nin0
          have f537 := f536.keep K304 (ninS (Nat.ne_of_lt (Nat.lt_of_lt_of_le (Nat.lt_of_lt_of_le U14 (Nat.le_trans K18.1 K294.1)) G296)) nin0)
          have f538 := f537.keep K362 nin0
          have f539 := f538.keep K373 nin0
          have f540 := f539.keep K377 nin0
          have f541 := f540.keep K382 nin0
          have f542 := f541.keep K388 nin0
          have f543 := f542.keep K395 nin0
          have f544 := f543.keep K403 nin0
          have f545 := f544.keep K416 nin0
          have f546 := f545.keep K431 nin0
          have f547 := f546.keep K434 nin0
          have f548 := f547.keep K446 nin0
          have f549 := f548.keep K458 nin0
          have f550 := f549.keep K471 nin0
          have f551 := f550.keep K485 nin0
          have f552 := f551.keep K500 nin0
          have f553 := f552.keep K516 nin0
          refine own_face X516 303 (a := b14) (argsL := []) (rest := []) at_298 f535 (rm26 l Z a0 hw n0 h516 hWd [] X516.old b14 (1 : Int32) f553 ) (hw _ (List.mem_of_getElem? (i := 162) rfl)) (hw _ (List.mem_of_getElem? (i := 163) rfl)) (hw _ (List.mem_of_getElem? (i := 164) rfl)) (hw _ (List.mem_of_getElem? (i := 165) rfl)) (hw _ (List.mem_of_getElem? (i := 166) rfl)) (hw _ (List.mem_of_getElem? (i := 167) rfl)) (hw _ (List.mem_of_getElem? (i := 168) rfl)) (hw _ (List.mem_of_getElem? (i := 128) rfl)) (hw _ (List.mem_of_getElem? (i := 32) rfl)) (hw _ (List.mem_of_getElem? (i := 169) rfl)) (by decide) (lenOf pd__28_29I rfl) rfl rfl rfl (W := 0) rfl (by decide) (by decide) (by decide) (by decide) all0 rfl ?_
          intro T554 h554 v554 X554 K554 hQ554
          obtain rfl := hQ554
          show OGo _ _ _ _ T554 (mkF m 303 #[.val (.int pc), .val (.long ps), .second, .val (.long pl), .second, .val (.int ph), .val (.long pt), .second, .val (.int pf), .val (.ref b1), .val (.ref b7), .val (.int (0 : Int32)), .val (.int ((1 : Int32) + ((ph &&& (2147483647 : Int32)) % (2147483647 : Int32)))), .val (.ref b14), .val (.ref b296), .val (.ref r362), .val (.int (1 : Int32))] [(.int (1 : Int32))])
          refine og_aload X554 305 at_303 rfl rfl rfl ?_
          have f555 := f535.keep K554
          have f556 := f553.keep K554 nin0
          refine own_face X554 310 (a := b14) (argsL := []) (rest := [(.int (1 : Int32))]) at_305 f555 (rm26 l Z a0 hw n0 h554 hWd [] X554.old b14 (1 : Int32) f556 ) (hw _ (List.mem_of_getElem? (i := 162) rfl)) (hw _ (List.mem_of_getElem? (i := 163) rfl)) (hw _ (List.mem_of_getElem? (i := 164) rfl)) (hw _ (List.mem_of_getElem? (i := 165) rfl)) (hw _ (List.mem_of_getElem? (i := 166) rfl)) (hw _ (List.mem_of_getElem? (i := 167) rfl)) (hw _ (List.mem_of_getElem? (i := 168) rfl)) (hw _ (List.mem_of_getElem? (i := 128) rfl)) (hw _ (List.mem_of_getElem? (i := 32) rfl)) (hw _ (List.mem_of_getElem? (i := 169) rfl)) (by decide) (lenOf pd__28_29I rfl) rfl rfl rfl (W := 1) rfl (by decide) (by decide) (by decide) (by decide) all0 rfl ?_
          intro T557 h557 v557 X557 K557 hQ557
          obtain rfl := hQ557
          show OGo _ _ _ _ T557 (mkF m 310 #[.val (.int pc), .val (.long ps), .second, .val (.long pl), .second, .val (.int ph), .val (.long pt), .second, .val (.int pf), .val (.ref b1), .val (.ref b7), .val (.int (0 : Int32)), .val (.int ((1 : Int32) + ((ph &&& (2147483647 : Int32)) % (2147483647 : Int32)))), .val (.ref b14), .val (.ref b296), .val (.ref r362), .val (.int (1 : Int32))] [(.int (1 : Int32)), (.int (1 : Int32))])
          refine og_icmpN X557 313 at_310 (XT.ii_ne_f (by decide)) rfl ?_
          refine og_aload X557 315 at_313 rfl rfl rfl ?_
          have f558 := f501.keep K516
          have f559 := f558.keep K554
          have f560 := f559.keep K557
          have f561 := f515.keep K516 nin0
          have f562 := f561.keep K554 nin0
          have f563 := f562.keep K557 nin0
          refine own_virt X557 318 (a := r362) (argsL := []) (rest := []) at_315 f560 (fun _ hZ => notFace_of_selects (args := #[]) (mvT hZ (hw _ (List.mem_of_getElem? (i := 160) rfl)))) (rm25 l Z a0 hw n0 h557 hWd [] X557.old r362 b14 f563 ) (hw _ (List.mem_of_getElem? (i := 157) rfl)) (hw _ (List.mem_of_getElem? (i := 158) rfl)) (hw _ (List.mem_of_getElem? (i := 160) rfl)) (hw _ (List.mem_of_getElem? (i := 159) rfl)) (hw _ (List.mem_of_getElem? (i := 56) rfl)) (hw _ (List.mem_of_getElem? (i := 161) rfl)) (by decide) (lenOf pd__28_29Ljava_2futil_2fList_3b rfl) rfl rfl rfl (W := 0) rfl (by decide) (by decide) (by decide) (by decide) all0 rfl ?_
          intro T564 h564 v564 X564 K564 hQ564
          obtain rfl := hQ564
          show OGo _ _ _ _ T564 (mkF m 318 #[.val (.int pc), .val (.long ps), .second, .val (.long pl), .second, .val (.int ph), .val (.long pt), .second, .val (.int pf), .val (.ref b1), .val (.ref b7), .val (.int (0 : Int32)), .val (.int ((1 : Int32) + ((ph &&& (2147483647 : Int32)) % (2147483647 : Int32)))), .val (.ref b14), .val (.ref b296), .val (.ref r362), .val (.int (1 : Int32))] [(.ref b14)])
          refine og_aload X564 320 at_318 rfl rfl rfl ?_
          have f565 := f555.keep K557
          have f566 := f565.keep K564
          refine own_face X564 325 (a := b14) (argsL := [(.ref b14)]) (rest := []) at_320 f566 (rm27 l Z a0 hw n0 h564 hWd [] X564.old b14  ) (hw _ (List.mem_of_getElem? (i := 170) rfl)) (hw _ (List.mem_of_getElem? (i := 171) rfl)) (hw _ (List.mem_of_getElem? (i := 172) rfl)) (hw _ (List.mem_of_getElem? (i := 173) rfl)) (hw _ (List.mem_of_getElem? (i := 174) rfl)) (hw _ (List.mem_of_getElem? (i := 175) rfl)) (hw _ (List.mem_of_getElem? (i := 176) rfl)) (hw _ (List.mem_of_getElem? (i := 128) rfl)) (hw _ (List.mem_of_getElem? (i := 32) rfl)) (hw _ (List.mem_of_getElem? (i := 177) rfl)) (by decide) (lenOf pd__28Ljava_2flang_2fObject_3b_29Z rfl) rfl rfl rfl (W := 0) rfl (by decide) (by decide) (by decide) (by decide) all0 rfl ?_
          intro T567 h567 v567 X567 K567 hQ567
          obtain rfl := hQ567
          show OGo _ _ _ _ T567 (mkF m 325 #[.val (.int pc), .val (.long ps), .second, .val (.long pl), .second, .val (.int ph), .val (.long pt), .second, .val (.int pf), .val (.ref b1), .val (.ref b7), .val (.int (0 : Int32)), .val (.int ((1 : Int32) + ((ph &&& (2147483647 : Int32)) % (2147483647 : Int32)))), .val (.ref b14), .val (.ref b296), .val (.ref r362), .val (.int (1 : Int32))] [(.int (1 : Int32))])
          refine og_ifN X567 328 at_325 (XT.i0_eq_f (by decide)) rfl ?_
          refine og_iload X567 330 at_328 rfl rfl ?_
          refine og_ifN X567 333 at_330 (XT.i0_eq_f (by decide)) rfl ?_
          refine og_iconst X567 334 (1 : Int32) at_333 rfl rfl ?_
          refine og_goto X567 338 at_334 (by decide) (by decide) ?_
          refine own_retZ X567 at_338 hret rfl (by decide) (by decide) ?_
          exact rfl
    · -- not
      refine og_ifN X11 60 at_57 (XT.i0_eq_f hc13) rfl ?_
      refine og_iconst X11 61 (1 : Int32) at_60 rfl rfl ?_
      refine og_goto X11 74 at_61 (by decide) (by decide) ?_
      refine og_istore X11 76 #[.val (.int pc), .val (.long ps), .second, .val (.long pl), .second, .val (.int ph), .val (.long pt), .second, .val (.int pf), .val (.ref b1), .val (.ref b7), .val (.int (0 : Int32)), .val (.int (1 : Int32)), .unset, .unset, .unset, .unset] at_74 rfl rfl ?_
      refine own_new X11 79 at_76 (hw _ (List.mem_of_getElem? (i := 30) rfl)) (hw _ (List.mem_of_getElem? (i := 31) rfl)) (hw _ (List.mem_of_getElem? (i := 32) rfl)) (by decide) (by decide) rfl ?_
      intro T568 h568 b568 X568 K568 G568 U568 E568 D568
      have f569 : Fld Z h568 b568 "java/util/AbstractList" "modCount" "I" (.int (0 : Int32)) := D568 (Or.inl (hw _ (List.mem_of_getElem? (i := 50) rfl))) (ty := .int) (by decide)
      have f570 : Fld Z h568 b568 "java/util/ArrayList" "elementData" "[Ljava/lang/Object;" .null := D568 (Or.inl (hw _ (List.mem_of_getElem? (i := 53) rfl))) (ty := (.array (.object "java/lang/Object"))) (by decide)
      have f571 : Fld Z h568 b568 "java/util/ArrayList" "size" "I" (.int (0 : Int32)) := D568 (Or.inl (hw _ (List.mem_of_getElem? (i := 133) rfl))) (ty := .int) (by decide)
      refine og_dup X568 80 at_79 rfl rfl ?_
      refine own_spec X568 83 (a := b568) (argsL := []) (rest := [(.ref b568)]) at_80 rfl (rm7 l Z a0 hw n0 h568 hWd [] X568.old b568 (0 : Int32) .null (0 : Int32) E568 f569 f570 f571 (own_svb X568 (List.mem_of_getElem? (i := 0) rfl))) (hw _ (List.mem_of_getElem? (i := 33) rfl)) (hw _ (List.mem_of_getElem? (i := 34) rfl)) (hw _ (List.mem_of_getElem? (i := 32) rfl)) (hw _ (List.mem_of_getElem? (i := 35) rfl)) (by decide) (lenOf pd__28_29V rfl) rfl rfl rfl (W := 1) rfl (by decide) (by decide) (by decide) (by decide) (allS (List.mem_of_getElem? (i := 0) rfl) all0) rfl ?_
      intro T572 h572 v572 X572 K572 hQ572
      obtain ⟨rfl, f573, f574, f575⟩ := hQ572
      show OGo _ _ _ _ T572 (mkF m 83 #[.val (.int pc), .val (.long ps), .second, .val (.long pl), .second, .val (.int ph), .val (.long pt), .second, .val (.int pf), .val (.ref b1), .val (.ref b7), .val (.int (0 : Int32)), .val (.int (1 : Int32)), .unset, .unset, .unset, .unset] [(.ref b568)])
      refine og_astore X572 85 #[.val (.int pc), .val (.long ps), .second, .val (.long pl), .second, .val (.int ph), .val (.long pt), .second, .val (.int pf), .val (.ref b1), .val (.ref b7), .val (.int (0 : Int32)), .val (.int (1 : Int32)), .val (.ref b568), .unset, .unset, .unset] at_83 rfl rfl rfl ?_
      refine og_iload X572 87 at_85 rfl rfl ?_
      refine og_iconst X572 88 (4 : Int32) at_87 rfl rfl ?_
      refine og_iand X572 89 at_88 rfl ?_
      by_cases hc576 : (pf &&& (4 : Int32)) = 0
      · -- (pf &&& (4 : Int32)) = 0
        refine og_ifY X572 101 at_89 (XT.i0_eq_t hc576) (by decide) (by decide) ?_
        refine own_new X572 104 at_101 (hw _ (List.mem_of_getElem? (i := 54) rfl)) (hw _ (List.mem_of_getElem? (i := 55) rfl)) (hw _ (List.mem_of_getElem? (i := 56) rfl)) (by decide) (by decide) rfl ?_
        intro T577 h577 b577 X577 K577 G577 U577 E577 D577
        have f578 : Fld Z h577 b577 "com/example/synlock/synlock/Holds$Grant" "owner" "Ljava/lang/String;" .null := D577 (Or.inr (hw _ (List.mem_of_getElem? (i := 67) rfl))) (ty := (.object "java/lang/String")) (by decide)
        have f579 : Fld Z h577 b577 "com/example/synlock/synlock/Holds$Grant" "sentNanos" "J" (.long (0 : Int64)) := D577 (Or.inr (hw _ (List.mem_of_getElem? (i := 69) rfl))) (ty := .long) (by decide)
        have f580 : Fld Z h577 b577 "com/example/synlock/synlock/Holds$Grant" "leaseNanos" "J" (.long (0 : Int64)) := D577 (Or.inr (hw _ (List.mem_of_getElem? (i := 71) rfl))) (ty := .long) (by decide)
        have f581 : Fld Z h577 b577 "com/example/synlock/synlock/Holds$Grant" "holds" "I" (.int (0 : Int32)) := D577 (Or.inr (hw _ (List.mem_of_getElem? (i := 73) rfl))) (ty := .int) (by decide)
        have f582 : Fld Z h577 b577 "com/example/synlock/synlock/Holds$Grant" "token" "J" (.long (0 : Int64)) := D577 (Or.inr (hw _ (List.mem_of_getElem? (i := 75) rfl))) (ty := .long) (by decide)
        have f583 : Fld Z h577 b577 "com/example/synlock/synlock/Holds$Grant" "renewed" "Z" (.int (0 : Int32)) := D577 (Or.inr (hw _ (List.mem_of_getElem? (i := 77) rfl))) (ty := .boolean) (by decide)
        have f584 : Fld Z h577 b577 "com/example/synlock/synlock/Holds$Grant" "listeners" "Ljava/util/List;" .null := D577 (Or.inr (hw _ (List.mem_of_getElem? (i := 79) rfl))) (ty := (.object "java/util/List")) (by decide)
        refine og_dup X577 105 at_104 rfl rfl ?_
        refine og_aload X577 107 at_105 rfl rfl rfl ?_
        refine og_lloadN X577 108 at_107 rfl rfl ?_
        refine og_lloadN X577 109 at_108 rfl rfl ?_
        refine og_iload X577 111 at_109 rfl rfl ?_
        refine og_lload X577 113 at_111 rfl rfl ?_
        refine og_iload X577 115 at_113 rfl rfl ?_
        refine og_aload X577 117 at_115 rfl rfl rfl ?_
        refine own_spec X577 120 (a := b577) (argsL := [(.ref b7), (.long ps), (.long pl), (.int (1 : Int32)), (.long pt), (.int (0 : Int32)), (.ref b568)]) (rest := [(.ref b577)]) at_117 rfl (rm10 l Z a0 hw n0 h577 hWd [] X577.old b577 b7 ps pl (1 : Int32) pt (0 : Int32) b568 E577 f578 f579 f580 f581 f582 f583 f584 (by decide) (own_svb X577 (List.mem_of_getElem? (i := 0) rfl))) (hw _ (List.mem_of_getElem? (i := 57) rfl)) (hw _ (List.mem_of_getElem? (i := 58) rfl)) (hw _ (List.mem_of_getElem? (i := 56) rfl)) (hw _ (List.mem_of_getElem? (i := 59) rfl)) (by decide) (lenOf pd__28Ljava_2flang_2fString_3bJJIJZLjava_2futil_2fList_3b_29V rfl) rfl rfl rfl (W := 1) rfl (by decide) (by decide) (by decide) (by decide) (allS (List.mem_of_getElem? (i := 0) rfl) all0) rfl ?_
        intro T585 h585 v585 X585 K585 hQ585
        obtain ⟨rfl, f586, f587, f588, f589, f590, f591, f592⟩ := hQ585
        show OGo _ _ _ _ T585 (mkF m 120 #[.val (.int pc), .val (.long ps), .second, .val (.long pl), .second, .val (.int ph), .val (.long pt), .second, .val (.int pf), .val (.ref b1), .val (.ref b7), .val (.int (0 : Int32)), .val (.int (1 : Int32)), .val (.ref b568), .unset, .unset, .unset] [(.ref b577)])
        refine og_astore X585 122 #[.val (.int pc), .val (.long ps), .second, .val (.long pl), .second, .val (.int ph), .val (.long pt), .second, .val (.int pf), .val (.ref b1), .val (.ref b7), .val (.int (0 : Int32)), .val (.int (1 : Int32)), .val (.ref b568), .val (.ref b577), .unset, .unset] at_120 rfl rfl rfl ?_
        refine og_aload X585 124 at_122 rfl rfl rfl ?_
        have f593 := E577.keep K585
        refine own_virt X585 127 (a := b577) (argsL := []) (rest := []) at_124 f593 (fun _ hZ => notFace_of_selects (args := #[]) (mvT hZ (hw _ (List.mem_of_getElem? (i := 83) rfl)))) (rm_rel0 l Z a0 hw n0 h585 hWd [] X585.old b577 (1 : Int32) f589 (by decide) ) (hw _ (List.mem_of_getElem? (i := 80) rfl)) (hw _ (List.mem_of_getElem? (i := 81) rfl)) (hw _ (List.mem_of_getElem? (i := 83) rfl)) (hw _ (List.mem_of_getElem? (i := 82) rfl)) (hw _ (List.mem_of_getElem? (i := 56) rfl)) (hw _ (List.mem_of_getElem? (i := 84) rfl)) (by decide) (lenOf pd__28_29Lcom_2fexample_2fsynlock_2fsynlock_2fHolds_24Grant_3b rfl) rfl rfl rfl (W := 0) rfl (by decide) (by decide) (by decide) (by decide) all0 rfl ?_
        intro T594 h594 v594 X594 K594 hQ594
        obtain rfl := hQ594
        show OGo _ _ _ _ T594 (mkF m 127 #[.val (.int pc), .val (.long ps), .second, .val (.long pl), .second, .val (.int ph), .val (.long pt), .second, .val (.int pf), .val (.ref b1), .val (.ref b7), .val (.int (0 : Int32)), .val (.int (1 : Int32)), .val (.ref b568), .val (.ref b577), .unset, .unset] [.null])
        refine og_astore X594 129 #[.val (.int pc), .val (.long ps), .second, .val (.long pl), .second, .val (.int ph), .val (.long pt), .second, .val (.int pf), .val (.ref b1), .val (.ref b7), .val (.int (0 : Int32)), .val (.int (1 : Int32)), .val (.ref b568), .val (.ref b577), .val .null, .unset] at_127 rfl rfl rfl ?_
        refine og_aload X594 131 at_129 rfl rfl rfl ?_
        have f595 := f593.keep K594
        have f596 := f589.keep K594 nin0
        refine own_virt X594 134 (a := b577) (argsL := []) (rest := []) at_131 f595 (fun _ hZ => notFace_of_selects (args := #[]) (mvT hZ (hw _ (List.mem_of_getElem? (i := 88) rfl)))) (rm13 l Z a0 hw n0 h594 hWd [] X594.old b577 (1 : Int32) f596 ) (hw _ (List.mem_of_getElem? (i := 85) rfl)) (hw _ (List.mem_of_getElem? (i := 86) rfl)) (hw _ (List.mem_of_getElem? (i := 88) rfl)) (hw _ (List.mem_of_getElem? (i := 87) rfl)) (hw _ (List.mem_of_getElem? (i := 56) rfl)) (hw _ (List.mem_of_getElem? (i := 89) rfl)) (by decide) (lenOf pd__28_29I rfl) rfl rfl rfl (W := 0) rfl (by decide) (by decide) (by decide) (by decide) all0 rfl ?_
        intro T597 h597 v597 X597 K597 hQ597
        obtain rfl := hQ597
        show OGo _ _ _ _ T597 (mkF m 134 #[.val (.int pc), .val (.long ps), .second, .val (.long pl), .second, .val (.int ph), .val (.long pt), .second, .val (.int pf), .val (.ref b1), .val (.ref b7), .val (.int (0 : Int32)), .val (.int (1 : Int32)), .val (.ref b568), .val (.ref b577), .val .null, .unset] [(.int (1 : Int32))])
        refine og_iload X597 136 at_134 rfl rfl ?_
        refine og_icmpN X597 139 at_136 (XT.ii_ne_f (by decide)) rfl ?_
        refine og_aload X597 141 at_139 rfl rfl rfl ?_
        have f598 := f595.keep K597
        have f599 := f587.keep K594 nin0
        have f600 := f599.keep K597 nin0
        refine own_virt X597 144 (a := b577) (argsL := []) (rest := []) at_141 f598 (fun _ hZ => notFace_of_selects (args := #[]) (mvT hZ (hw _ (List.mem_of_getElem? (i := 93) rfl)))) (rm14 l Z a0 hw n0 h597 hWd [] X597.old b577 ps f600 ) (hw _ (List.mem_of_getElem? (i := 90) rfl)) (hw _ (List.mem_of_getElem? (i := 91) rfl)) (hw _ (List.mem_of_getElem? (i := 93) rfl)) (hw _ (List.mem_of_getElem? (i := 92) rfl)) (hw _ (List.mem_of_getElem? (i := 56) rfl)) (hw _ (List.mem_of_getElem? (i := 94) rfl)) (by decide) (lenOf pd__28_29J rfl) rfl rfl rfl (W := 0) rfl (by decide) (by decide) (by decide) (by decide) all0 rfl ?_
        intro T601 h601 v601 X601 K601 hQ601
        obtain rfl := hQ601
        show OGo _ _ _ _ T601 (mkF m 144 #[.val (.int pc), .val (.long ps), .second, .val (.long pl), .second, .val (.int ph), .val (.long pt), .second, .val (.int pf), .val (.ref b1), .val (.ref b7), .val (.int (0 : Int32)), .val (.int (1 : Int32)), .val (.ref b568), .val (.ref b577), .val .null, .unset] [(.long ps)])
        refine og_lloadN X601 145 at_144 rfl rfl ?_
        refine og_lcmp X601 146 at_145 rfl ?_
        refine og_ifN X601 149 at_146 (XT.ll_ne_f rfl) rfl ?_
        refine og_aload X601 151 at_149 rfl rfl rfl ?_
        have f602 := f598.keep K601
        have f603 := f588.keep K594 nin0
        have f604 := f603.keep K597 nin0
        have f605 := f604.keep K601 nin0
        refine own_virt X601 154 (a := b577) (argsL := []) (rest := []) at_151 f602 (fun _ hZ => notFace_of_selects (args := #[]) (mvT hZ (hw _ (List.mem_of_getElem? (i := 98) rfl)))) (rm15 l Z a0 hw n0 h601 hWd [] X601.old b577 pl f605 ) (hw _ (List.mem_of_getElem? (i := 95) rfl)) (hw _ (List.mem_of_getElem? (i := 96) rfl)) (hw _ (List.mem_of_getElem? (i := 98) rfl)) (hw _ (List.mem_of_getElem? (i := 97) rfl)) (hw _ (List.mem_of_getElem? (i := 56) rfl)) (hw _ (List.mem_of_getElem? (i := 99) rfl)) (by decide) (lenOf pd__28_29J rfl) rfl rfl rfl (W := 0) rfl (by decide) (by decide) (by decide) (by decide) all0 rfl ?_
        intro T606 h606 v606 X606 K606 hQ606
        obtain rfl := hQ606
        show OGo _ _ _ _ T606 (mkF m 154 #[.val (.int pc), .val (.long ps), .second, .val (.long pl), .second, .val (.int ph), .val (.long pt), .second, .val (.int pf), .val (.ref b1), .val (.ref b7), .val (.int (0 : Int32)), .val (.int (1 : Int32)), .val (.ref b568), .val (.ref b577), .val .null, .unset] [(.long pl)])
        refine og_lloadN X606 155 at_154 rfl rfl ?_
        refine og_lcmp X606 156 at_155 rfl ?_
        refine og_ifN X606 159 at_156 (XT.ll_ne_f rfl) rfl ?_
        refine og_aload X606 161 at_159 rfl rfl rfl ?_
        have f607 := f602.keep K606
        have f608 := f590.keep K594 nin0
        have f609 := f608.keep K597 nin0
        have f610 := f609.keep K601 nin0
        have f611 := f610.keep K606 nin0
        refine own_virt X606 164 (a := b577) (argsL := []) (rest := []) at_161 f607 (fun _ hZ => notFace_of_selects (args := #[]) (mvT hZ (hw _ (List.mem_of_getElem? (i := 103) rfl)))) (rm16 l Z a0 hw n0 h606 hWd [] X606.old b577 pt f611 ) (hw _ (List.mem_of_getElem? (i := 100) rfl)) (hw _ (List.mem_of_getElem? (i := 101) rfl)) (hw _ (List.mem_of_getElem? (i := 103) rfl)) (hw _ (List.mem_of_getElem? (i := 102) rfl)) (hw _ (List.mem_of_getElem? (i := 56) rfl)) (hw _ (List.mem_of_getElem? (i := 104) rfl)) (by decide) (lenOf pd__28_29J rfl) rfl rfl rfl (W := 0) rfl (by decide) (by decide) (by decide) (by decide) all0 rfl ?_
        intro T612 h612 v612 X612 K612 hQ612
        obtain rfl := hQ612
        show OGo _ _ _ _ T612 (mkF m 164 #[.val (.int pc), .val (.long ps), .second, .val (.long pl), .second, .val (.int ph), .val (.long pt), .second, .val (.int pf), .val (.ref b1), .val (.ref b7), .val (.int (0 : Int32)), .val (.int (1 : Int32)), .val (.ref b568), .val (.ref b577), .val .null, .unset] [(.long pt)])
        refine og_lload X612 166 at_164 rfl rfl ?_
        refine og_lcmp X612 167 at_166 rfl ?_
        refine og_ifN X612 170 at_167 (XT.ll_ne_f rfl) rfl ?_
        refine og_aload X612 172 at_170 rfl rfl rfl ?_
        have f613 := f607.keep K612
        have f614 := f591.keep K594 nin0
        have f615 := f614.keep K597 nin0
        have f616 := f615.keep K601 nin0
        have f617 := f616.keep K606 nin0
        have f618 := f617.keep K612 nin0
        refine own_virt X612 175 (a := b577) (argsL := []) (rest := []) at_172 f613 (fun _ hZ => notFace_of_selects (args := #[]) (mvT hZ (hw _ (List.mem_of_getElem? (i := 108) rfl)))) (rm17 l Z a0 hw n0 h612 hWd [] X612.old b577 (0 : Int32) f618 (by decide) ) (hw _ (List.mem_of_getElem? (i := 105) rfl)) (hw _ (List.mem_of_getElem? (i := 106) rfl)) (hw _ (List.mem_of_getElem? (i := 108) rfl)) (hw _ (List.mem_of_getElem? (i := 107) rfl)) (hw _ (List.mem_of_getElem? (i := 56) rfl)) (hw _ (List.mem_of_getElem? (i := 109) rfl)) (by decide) (lenOf pd__28_29Z rfl) rfl rfl rfl (W := 0) rfl (by decide) (by decide) (by decide) (by decide) all0 rfl ?_
        intro T619 h619 v619 X619 K619 hQ619
        obtain rfl := hQ619
        show OGo _ _ _ _ T619 (mkF m 175 #[.val (.int pc), .val (.long ps), .second, .val (.long pl), .second, .val (.int ph), .val (.long pt), .second, .val (.int pf), .val (.ref b1), .val (.ref b7), .val (.int (0 : Int32)), .val (.int (1 : Int32)), .val (.ref b568), .val (.ref b577), .val .null, .unset] [(.int (0 : Int32))])
        refine og_iload X619 177 at_175 rfl rfl ?_
        refine og_icmpN X619 180 at_177 (XT.ii_ne_f (by decide)) rfl ?_
        refine og_aload X619 182 at_180 rfl rfl rfl ?_
        have f620 := f613.keep K619
        have f621 := f586.keep K594 nin0
        have f622 := f621.keep K597 nin0
        have f623 := f622.keep K601 nin0
        have f624 := f623.keep K606 nin0
        have f625 := f624.keep K612 nin0
        have f626 := f625.keep K619 nin0
        refine own_virt X619 185 (a := b577) (argsL := []) (rest := []) at_182 f620 (fun _ hZ => notFace_of_selects (args := #[]) (mvT hZ (hw _ (List.mem_of_getElem? (i := 113) rfl)))) (rm18 l Z a0 hw n0 h619 hWd [] X619.old b577 b7 f626 ) (hw _ (List.mem_of_getElem? (i := 110) rfl)) (hw _ (List.mem_of_getElem? (i := 111) rfl)) (hw _ (List.mem_of_getElem? (i := 113) rfl)) (hw _ (List.mem_of_getElem? (i := 112) rfl)) (hw _ (List.mem_of_getElem? (i := 56) rfl)) (hw _ (List.mem_of_getElem? (i := 114) rfl)) (by decide) (lenOf pd__28_29Ljava_2flang_2fString_3b rfl) rfl rfl rfl (W := 0) rfl (by decide) (by decide) (by decide) (by decide) all0 rfl ?_
        intro T627 h627 v627 X627 K627 hQ627
        obtain rfl := hQ627
        show OGo _ _ _ _ T627 (mkF m 185 #[.val (.int pc), .val (.long ps), .second, .val (.long pl), .second, .val (.int ph), .val (.long pt), .second, .val (.int pf), .val (.ref b1), .val (.ref b7), .val (.int (0 : Int32)), .val (.int (1 : Int32)), .val (.ref b568), .val (.ref b577), .val .null, .unset] [(.ref b7)])
        refine og_aload X627 187 at_185 rfl rfl rfl ?_
        have f628 := E11.keep K568
        have f629 := f628.keep K572
        have f630 := f629.keep K577
        have f631 := f630.keep K585
        have f632 := f631.keep K594
        have f633 := f632.keep K597
        have f634 := f633.keep K601
        have f635 := f634.keep K606
        have f636 := f635.keep K612
        have f637 := f636.keep K619
        have f638 := f637.keep K627
        refine own_virt X627 190 (a := b7) (argsL := [(.ref b7)]) (rest := []) at_187 f638 (fun _ hZ => notFace_of_selects (args := #[]) (mvT hZ (hw _ (List.mem_of_getElem? (i := 118) rfl)))) (rm19 l Z a0 hw n0 h627 hWd [] X627.old b7  ) (hw _ (List.mem_of_getElem? (i := 115) rfl)) (hw _ (List.mem_of_getElem? (i := 116) rfl)) (hw _ (List.mem_of_getElem? (i := 118) rfl)) (hw _ (List.mem_of_getElem? (i := 117) rfl)) (hw _ (List.mem_of_getElem? (i := 3) rfl)) (hw _ (List.mem_of_getElem? (i := 119) rfl)) (by decide) (lenOf pd__28Ljava_2flang_2fObject_3b_29Z rfl) rfl rfl rfl (W := 0) rfl (by decide) (by decide) (by decide) (by decide) all0 rfl ?_
        intro T639 h639 v639 X639 K639 hQ639
        obtain rfl := hQ639
        show OGo _ _ _ _ T639 (mkF m 190 #[.val (.int pc), .val (.long ps), .second, .val (.long pl), .second, .val (.int ph), .val (.long pt), .second, .val (.int pf), .val (.ref b1), .val (.ref b7), .val (.int (0 : Int32)), .val (.int (1 : Int32)), .val (.ref b568), .val (.ref b577), .val .null, .unset] [(.int (1 : Int32))])
        refine og_ifN X639 193 at_190 (XT.i0_eq_f (by decide)) rfl ?_
        refine og_iconst X639 194 (1 : Int32) at_193 rfl rfl ?_
        refine og_goto X639 198 at_194 (by decide) (by decide) ?_
        refine og_istore X639 200 #[.val (.int pc), .val (.long ps), .second, .val (.long pl), .second, .val (.int ph), .val (.long pt), .second, .val (.int pf), .val (.ref b1), .val (.ref b7), .val (.int (0 : Int32)), .val (.int (1 : Int32)), .val (.ref b568), .val (.ref b577), .val .null, .val (.int (1 : Int32))] at_198 rfl rfl ?_
        refine og_iload X639 202 at_200 rfl rfl ?_
        refine og_iconst X639 203 (1 : Int32) at_202 rfl rfl ?_
        refine og_icmpN X639 206 at_203 (XT.ii_ne_f (by decide)) rfl ?_
        refine og_aload X639 208 at_206 rfl rfl rfl ?_
        refine og_nonnullN X639 211 at_208 rfl ?_
        refine og_iload X639 213 at_211 rfl rfl ?_
        refine og_ifN X639 216 at_213 (XT.i0_eq_f (by decide)) rfl ?_
        refine og_iconst X639 217 (1 : Int32) at_216 rfl rfl ?_
        refine og_goto X639 221 at_217 (by decide) (by decide) ?_
        refine own_retZ X639 at_221 hret rfl (by decide) (by decide) ?_
        exact rfl
      · -- not
        refine og_ifN X572 92 at_89 (XT.i0_eq_f hc576) rfl ?_
        refine og_aload X572 94 at_92 rfl rfl rfl ?_
        refine og_aconstNull X572 95 at_94 rfl ?_
        have f640 := E568.keep K572
        refine own_face X572 100 (a := b568) (argsL := [.null]) (rest := []) at_95 f640 (rm20 l Z a0 hw n0 h572 hWd [] X572.old b568 (0 : Int32) f640 f573 f574 f575 (own_svb X572 (List.mem_of_getElem? (i := 0) rfl))) (hw _ (List.mem_of_getElem? (i := 121) rfl)) (hw _ (List.mem_of_getElem? (i := 122) rfl)) (hw _ (List.mem_of_getElem? (i := 123) rfl)) (hw _ (List.mem_of_getElem? (i := 124) rfl)) (hw _ (List.mem_of_getElem? (i := 125) rfl)) (hw _ (List.mem_of_getElem? (i := 126) rfl)) (hw _ (List.mem_of_getElem? (i := 127) rfl)) (hw _ (List.mem_of_getElem? (i := 128) rfl)) (hw _ (List.mem_of_getElem? (i := 32) rfl)) (hw _ (List.mem_of_getElem? (i := 129) rfl)) (by decide) (lenOf pd__28Ljava_2flang_2fObject_3b_29Z rfl) rfl rfl rfl (W := 0) rfl (by decide) (by decide) (by decide) (by decide) (allS (List.mem_of_getElem? (i := 0) rfl) all0) rfl ?_
        intro T641 h641 v641 X641 K641 hQ641
        obtain ⟨rfl, f642⟩ := hQ641
        show OGo _ _ _ _ T641 (mkF m 100 #[.val (.int pc), .val (.long ps), .second, .val (.long pl), .second, .val (.int ph), .val (.long pt), .second, .val (.int pf), .val (.ref b1), .val (.ref b7), .val (.int (0 : Int32)), .val (.int (1 : Int32)), .val (.ref b568), .unset, .unset, .unset] [(.int (1 : Int32))])
        refine og_pop X641 101 at_100 rfl rfl ?_
        refine own_new X641 104 at_101 (hw _ (List.mem_of_getElem? (i := 54) rfl)) (hw _ (List.mem_of_getElem? (i := 55) rfl)) (hw _ (List.mem_of_getElem? (i := 56) rfl)) (by decide) (by decide) rfl ?_
        intro T643 h643 b643 X643 K643 G643 U643 E643 D643
        have f644 : Fld Z h643 b643 "com/example/synlock/synlock/Holds$Grant" "owner" "Ljava/lang/String;" .null := D643 (Or.inr (hw _ (List.mem_of_getElem? (i := 67) rfl))) (ty := (.object "java/lang/String")) (by decide)
        have f645 : Fld Z h643 b643 "com/example/synlock/synlock/Holds$Grant" "sentNanos" "J" (.long (0 : Int64)) := D643 (Or.inr (hw _ (List.mem_of_getElem? (i := 69) rfl))) (ty := .long) (by decide)
        have f646 : Fld Z h643 b643 "com/example/synlock/synlock/Holds$Grant" "leaseNanos" "J" (.long (0 : Int64)) := D643 (Or.inr (hw _ (List.mem_of_getElem? (i := 71) rfl))) (ty := .long) (by decide)
        have f647 : Fld Z h643 b643 "com/example/synlock/synlock/Holds$Grant" "holds" "I" (.int (0 : Int32)) := D643 (Or.inr (hw _ (List.mem_of_getElem? (i := 73) rfl))) (ty := .int) (by decide)
        have f648 : Fld Z h643 b643 "com/example/synlock/synlock/Holds$Grant" "token" "J" (.long (0 : Int64)) := D643 (Or.inr (hw _ (List.mem_of_getElem? (i := 75) rfl))) (ty := .long) (by decide)
        have f649 : Fld Z h643 b643 "com/example/synlock/synlock/Holds$Grant" "renewed" "Z" (.int (0 : Int32)) := D643 (Or.inr (hw _ (List.mem_of_getElem? (i := 77) rfl))) (ty := .boolean) (by decide)
        have f650 : Fld Z h643 b643 "com/example/synlock/synlock/Holds$Grant" "listeners" "Ljava/util/List;" .null := D643 (Or.inr (hw _ (List.mem_of_getElem? (i := 79) rfl))) (ty := (.object "java/util/List")) (by decide)
        refine og_dup X643 105 at_104 rfl rfl ?_
        refine og_aload X643 107 at_105 rfl rfl rfl ?_
        refine og_lloadN X643 108 at_107 rfl rfl ?_
        refine og_lloadN X643 109 at_108 rfl rfl ?_
        refine og_iload X643 111 at_109 rfl rfl ?_
        refine og_lload X643 113 at_111 rfl rfl ?_
        refine og_iload X643 115 at_113 rfl rfl ?_
        refine og_aload X643 117 at_115 rfl rfl rfl ?_
        refine own_spec X643 120 (a := b643) (argsL := [(.ref b7), (.long ps), (.long pl), (.int (1 : Int32)), (.long pt), (.int (0 : Int32)), (.ref b568)]) (rest := [(.ref b643)]) at_117 rfl (rm10 l Z a0 hw n0 h643 hWd [] X643.old b643 b7 ps pl (1 : Int32) pt (0 : Int32) b568 E643 f644 f645 f646 f647 f648 f649 f650 (by decide) (own_svb X643 (List.mem_of_getElem? (i := 0) rfl))) (hw _ (List.mem_of_getElem? (i := 57) rfl)) (hw _ (List.mem_of_getElem? (i := 58) rfl)) (hw _ (List.mem_of_getElem? (i := 56) rfl)) (hw _ (List.mem_of_getElem? (i := 59) rfl)) (by decide) (lenOf pd__28Ljava_2flang_2fString_3bJJIJZLjava_2futil_2fList_3b_29V rfl) rfl rfl rfl (W := 1) rfl (by decide) (by decide) (by decide) (by decide) (allS (List.mem_of_getElem? (i := 0) rfl) all0) rfl ?_
        intro T651 h651 v651 X651 K651 hQ651
        obtain ⟨rfl, f652, f653, f654, f655, f656, f657, f658⟩ := hQ651
        show OGo _ _ _ _ T651 (mkF m 120 #[.val (.int pc), .val (.long ps), .second, .val (.long pl), .second, .val (.int ph), .val (.long pt), .second, .val (.int pf), .val (.ref b1), .val (.ref b7), .val (.int (0 : Int32)), .val (.int (1 : Int32)), .val (.ref b568), .unset, .unset, .unset] [(.ref b643)])
        refine og_astore X651 122 #[.val (.int pc), .val (.long ps), .second, .val (.long pl), .second, .val (.int ph), .val (.long pt), .second, .val (.int pf), .val (.ref b1), .val (.ref b7), .val (.int (0 : Int32)), .val (.int (1 : Int32)), .val (.ref b568), .val (.ref b643), .unset, .unset] at_120 rfl rfl rfl ?_
        refine og_aload X651 124 at_122 rfl rfl rfl ?_
        have f659 := E643.keep K651
        refine own_virt X651 127 (a := b643) (argsL := []) (rest := []) at_124 f659 (fun _ hZ => notFace_of_selects (args := #[]) (mvT hZ (hw _ (List.mem_of_getElem? (i := 83) rfl)))) (rm_rel0 l Z a0 hw n0 h651 hWd [] X651.old b643 (1 : Int32) f655 (by decide) ) (hw _ (List.mem_of_getElem? (i := 80) rfl)) (hw _ (List.mem_of_getElem? (i := 81) rfl)) (hw _ (List.mem_of_getElem? (i := 83) rfl)) (hw _ (List.mem_of_getElem? (i := 82) rfl)) (hw _ (List.mem_of_getElem? (i := 56) rfl)) (hw _ (List.mem_of_getElem? (i := 84) rfl)) (by decide) (lenOf pd__28_29Lcom_2fexample_2fsynlock_2fsynlock_2fHolds_24Grant_3b rfl) rfl rfl rfl (W := 0) rfl (by decide) (by decide) (by decide) (by decide) all0 rfl ?_
        intro T660 h660 v660 X660 K660 hQ660
        obtain rfl := hQ660
        show OGo _ _ _ _ T660 (mkF m 127 #[.val (.int pc), .val (.long ps), .second, .val (.long pl), .second, .val (.int ph), .val (.long pt), .second, .val (.int pf), .val (.ref b1), .val (.ref b7), .val (.int (0 : Int32)), .val (.int (1 : Int32)), .val (.ref b568), .val (.ref b643), .unset, .unset] [.null])
        refine og_astore X660 129 #[.val (.int pc), .val (.long ps), .second, .val (.long pl), .second, .val (.int ph), .val (.long pt), .second, .val (.int pf), .val (.ref b1), .val (.ref b7), .val (.int (0 : Int32)), .val (.int (1 : Int32)), .val (.ref b568), .val (.ref b643), .val .null, .unset] at_127 rfl rfl rfl ?_
        refine og_aload X660 131 at_129 rfl rfl rfl ?_
        have f661 := f659.keep K660
        have f662 := f655.keep K660 nin0
        refine own_virt X660 134 (a := b643) (argsL := []) (rest := []) at_131 f661 (fun _ hZ => notFace_of_selects (args := #[]) (mvT hZ (hw _ (List.mem_of_getElem? (i := 88) rfl)))) (rm13 l Z a0 hw n0 h660 hWd [] X660.old b643 (1 : Int32) f662 ) (hw _ (List.mem_of_getElem? (i := 85) rfl)) (hw _ (List.mem_of_getElem? (i := 86) rfl)) (hw _ (List.mem_of_getElem? (i := 88) rfl)) (hw _ (List.mem_of_getElem? (i := 87) rfl)) (hw _ (List.mem_of_getElem? (i := 56) rfl)) (hw _ (List.mem_of_getElem? (i := 89) rfl)) (by decide) (lenOf pd__28_29I rfl) rfl rfl rfl (W := 0) rfl (by decide) (by decide) (by decide) (by decide) all0 rfl ?_
        intro T663 h663 v663 X663 K663 hQ663
        obtain rfl := hQ663
        show OGo _ _ _ _ T663 (mkF m 134 #[.val (.int pc), .val (.long ps), .second, .val (.long pl), .second, .val (.int ph), .val (.long pt), .second, .val (.int pf), .val (.ref b1), .val (.ref b7), .val (.int (0 : Int32)), .val (.int (1 : Int32)), .val (.ref b568), .val (.ref b643), .val .null, .unset] [(.int (1 : Int32))])
        refine og_iload X663 136 at_134 rfl rfl ?_
        refine og_icmpN X663 139 at_136 (XT.ii_ne_f (by decide)) rfl ?_
        refine og_aload X663 141 at_139 rfl rfl rfl ?_
        have f664 := f661.keep K663
        have f665 := f653.keep K660 nin0
        have f666 := f665.keep K663 nin0
        refine own_virt X663 144 (a := b643) (argsL := []) (rest := []) at_141 f664 (fun _ hZ => notFace_of_selects (args := #[]) (mvT hZ (hw _ (List.mem_of_getElem? (i := 93) rfl)))) (rm14 l Z a0 hw n0 h663 hWd [] X663.old b643 ps f666 ) (hw _ (List.mem_of_getElem? (i := 90) rfl)) (hw _ (List.mem_of_getElem? (i := 91) rfl)) (hw _ (List.mem_of_getElem? (i := 93) rfl)) (hw _ (List.mem_of_getElem? (i := 92) rfl)) (hw _ (List.mem_of_getElem? (i := 56) rfl)) (hw _ (List.mem_of_getElem? (i := 94) rfl)) (by decide) (lenOf pd__28_29J rfl) rfl rfl rfl (W := 0) rfl (by decide) (by decide) (by decide) (by decide) all0 rfl ?_
        intro T667 h667 v667 X667 K667 hQ667
        obtain rfl := hQ667
        show OGo _ _ _ _ T667 (mkF m 144 #[.val (.int pc), .val (.long ps), .second, .val (.long pl), .second, .val (.int ph), .val (.long pt), .second, .val (.int pf), .val (.ref b1), .val (.ref b7), .val (.int (0 : Int32)), .val (.int (1 : Int32)), .val (.ref b568), .val (.ref b643), .val .null, .unset] [(.long ps)])
        refine og_lloadN X667 145 at_144 rfl rfl ?_
        refine og_lcmp X667 146 at_145 rfl ?_
        refine og_ifN X667 149 at_146 (XT.ll_ne_f rfl) rfl ?_
        refine og_aload X667 151 at_149 rfl rfl rfl ?_
        have f668 := f664.keep K667
        have f669 := f654.keep K660 nin0
        have f670 := f669.keep K663 nin0
        have f671 := f670.keep K667 nin0
        refine own_virt X667 154 (a := b643) (argsL := []) (rest := []) at_151 f668 (fun _ hZ => notFace_of_selects (args := #[]) (mvT hZ (hw _ (List.mem_of_getElem? (i := 98) rfl)))) (rm15 l Z a0 hw n0 h667 hWd [] X667.old b643 pl f671 ) (hw _ (List.mem_of_getElem? (i := 95) rfl)) (hw _ (List.mem_of_getElem? (i := 96) rfl)) (hw _ (List.mem_of_getElem? (i := 98) rfl)) (hw _ (List.mem_of_getElem? (i := 97) rfl)) (hw _ (List.mem_of_getElem? (i := 56) rfl)) (hw _ (List.mem_of_getElem? (i := 99) rfl)) (by decide) (lenOf pd__28_29J rfl) rfl rfl rfl (W := 0) rfl (by decide) (by decide) (by decide) (by decide) all0 rfl ?_
        intro T672 h672 v672 X672 K672 hQ672
        obtain rfl := hQ672
        show OGo _ _ _ _ T672 (mkF m 154 #[.val (.int pc), .val (.long ps), .second, .val (.long pl), .second, .val (.int ph), .val (.long pt), .second, .val (.int pf), .val (.ref b1), .val (.ref b7), .val (.int (0 : Int32)), .val (.int (1 : Int32)), .val (.ref b568), .val (.ref b643), .val .null, .unset] [(.long pl)])
        refine og_lloadN X672 155 at_154 rfl rfl ?_
        refine og_lcmp X672 156 at_155 rfl ?_
        refine og_ifN X672 159 at_156 (XT.ll_ne_f rfl) rfl ?_
        refine og_aload X672 161 at_159 rfl rfl rfl ?_
        have f673 := f668.keep K672
        have f674 := f656.keep K660 nin0
        have f675 := f674.keep K663 nin0
        have f676 := f675.keep K667 nin0
        have f677 := f676.keep K672 nin0
        refine own_virt X672 164 (a := b643) (argsL := []) (rest := []) at_161 f673 (fun _ hZ => notFace_of_selects (args := #[]) (mvT hZ (hw _ (List.mem_of_getElem? (i := 103) rfl)))) (rm16 l Z a0 hw n0 h672 hWd [] X672.old b643 pt f677 ) (hw _ (List.mem_of_getElem? (i := 100) rfl)) (hw _ (List.mem_of_getElem? (i := 101) rfl)) (hw _ (List.mem_of_getElem? (i := 103) rfl)) (hw _ (List.mem_of_getElem? (i := 102) rfl)) (hw _ (List.mem_of_getElem? (i := 56) rfl)) (hw _ (List.mem_of_getElem? (i := 104) rfl)) (by decide) (lenOf pd__28_29J rfl) rfl rfl rfl (W := 0) rfl (by decide) (by decide) (by decide) (by decide) all0 rfl ?_
        intro T678 h678 v678 X678 K678 hQ678
        obtain rfl := hQ678
        show OGo _ _ _ _ T678 (mkF m 164 #[.val (.int pc), .val (.long ps), .second, .val (.long pl), .second, .val (.int ph), .val (.long pt), .second, .val (.int pf), .val (.ref b1), .val (.ref b7), .val (.int (0 : Int32)), .val (.int (1 : Int32)), .val (.ref b568), .val (.ref b643), .val .null, .unset] [(.long pt)])
        refine og_lload X678 166 at_164 rfl rfl ?_
        refine og_lcmp X678 167 at_166 rfl ?_
        refine og_ifN X678 170 at_167 (XT.ll_ne_f rfl) rfl ?_
        refine og_aload X678 172 at_170 rfl rfl rfl ?_
        have f679 := f673.keep K678
        have f680 := f657.keep K660 nin0
        have f681 := f680.keep K663 nin0
        have f682 := f681.keep K667 nin0
        have f683 := f682.keep K672 nin0
        have f684 := f683.keep K678 nin0
        refine own_virt X678 175 (a := b643) (argsL := []) (rest := []) at_172 f679 (fun _ hZ => notFace_of_selects (args := #[]) (mvT hZ (hw _ (List.mem_of_getElem? (i := 108) rfl)))) (rm17 l Z a0 hw n0 h678 hWd [] X678.old b643 (0 : Int32) f684 (by decide) ) (hw _ (List.mem_of_getElem? (i := 105) rfl)) (hw _ (List.mem_of_getElem? (i := 106) rfl)) (hw _ (List.mem_of_getElem? (i := 108) rfl)) (hw _ (List.mem_of_getElem? (i := 107) rfl)) (hw _ (List.mem_of_getElem? (i := 56) rfl)) (hw _ (List.mem_of_getElem? (i := 109) rfl)) (by decide) (lenOf pd__28_29Z rfl) rfl rfl rfl (W := 0) rfl (by decide) (by decide) (by decide) (by decide) all0 rfl ?_
        intro T685 h685 v685 X685 K685 hQ685
        obtain rfl := hQ685
        show OGo _ _ _ _ T685 (mkF m 175 #[.val (.int pc), .val (.long ps), .second, .val (.long pl), .second, .val (.int ph), .val (.long pt), .second, .val (.int pf), .val (.ref b1), .val (.ref b7), .val (.int (0 : Int32)), .val (.int (1 : Int32)), .val (.ref b568), .val (.ref b643), .val .null, .unset] [(.int (0 : Int32))])
        refine og_iload X685 177 at_175 rfl rfl ?_
        refine og_icmpN X685 180 at_177 (XT.ii_ne_f (by decide)) rfl ?_
        refine og_aload X685 182 at_180 rfl rfl rfl ?_
        have f686 := f679.keep K685
        have f687 := f652.keep K660 nin0
        have f688 := f687.keep K663 nin0
        have f689 := f688.keep K667 nin0
        have f690 := f689.keep K672 nin0
        have f691 := f690.keep K678 nin0
        have f692 := f691.keep K685 nin0
        refine own_virt X685 185 (a := b643) (argsL := []) (rest := []) at_182 f686 (fun _ hZ => notFace_of_selects (args := #[]) (mvT hZ (hw _ (List.mem_of_getElem? (i := 113) rfl)))) (rm18 l Z a0 hw n0 h685 hWd [] X685.old b643 b7 f692 ) (hw _ (List.mem_of_getElem? (i := 110) rfl)) (hw _ (List.mem_of_getElem? (i := 111) rfl)) (hw _ (List.mem_of_getElem? (i := 113) rfl)) (hw _ (List.mem_of_getElem? (i := 112) rfl)) (hw _ (List.mem_of_getElem? (i := 56) rfl)) (hw _ (List.mem_of_getElem? (i := 114) rfl)) (by decide) (lenOf pd__28_29Ljava_2flang_2fString_3b rfl) rfl rfl rfl (W := 0) rfl (by decide) (by decide) (by decide) (by decide) all0 rfl ?_
        intro T693 h693 v693 X693 K693 hQ693
        obtain rfl := hQ693
        show OGo _ _ _ _ T693 (mkF m 185 #[.val (.int pc), .val (.long ps), .second, .val (.long pl), .second, .val (.int ph), .val (.long pt), .second, .val (.int pf), .val (.ref b1), .val (.ref b7), .val (.int (0 : Int32)), .val (.int (1 : Int32)), .val (.ref b568), .val (.ref b643), .val .null, .unset] [(.ref b7)])
        refine og_aload X693 187 at_185 rfl rfl rfl ?_
        have f694 := E11.keep K568
        have f695 := f694.keep K572
        have f696 := f695.keep K641
        have f697 := f696.keep K643
        have f698 := f697.keep K651
        have f699 := f698.keep K660
        have f700 := f699.keep K663
        have f701 := f700.keep K667
        have f702 := f701.keep K672
        have f703 := f702.keep K678
        have f704 := f703.keep K685
        have f705 := f704.keep K693
        refine own_virt X693 190 (a := b7) (argsL := [(.ref b7)]) (rest := []) at_187 f705 (fun _ hZ => notFace_of_selects (args := #[]) (mvT hZ (hw _ (List.mem_of_getElem? (i := 118) rfl)))) (rm19 l Z a0 hw n0 h693 hWd [] X693.old b7  ) (hw _ (List.mem_of_getElem? (i := 115) rfl)) (hw _ (List.mem_of_getElem? (i := 116) rfl)) (hw _ (List.mem_of_getElem? (i := 118) rfl)) (hw _ (List.mem_of_getElem? (i := 117) rfl)) (hw _ (List.mem_of_getElem? (i := 3) rfl)) (hw _ (List.mem_of_getElem? (i := 119) rfl)) (by decide) (lenOf pd__28Ljava_2flang_2fObject_3b_29Z rfl) rfl rfl rfl (W := 0) rfl (by decide) (by decide) (by decide) (by decide) all0 rfl ?_
        intro T706 h706 v706 X706 K706 hQ706
        obtain rfl := hQ706
        show OGo _ _ _ _ T706 (mkF m 190 #[.val (.int pc), .val (.long ps), .second, .val (.long pl), .second, .val (.int ph), .val (.long pt), .second, .val (.int pf), .val (.ref b1), .val (.ref b7), .val (.int (0 : Int32)), .val (.int (1 : Int32)), .val (.ref b568), .val (.ref b643), .val .null, .unset] [(.int (1 : Int32))])
        refine og_ifN X706 193 at_190 (XT.i0_eq_f (by decide)) rfl ?_
        refine og_iconst X706 194 (1 : Int32) at_193 rfl rfl ?_
        refine og_goto X706 198 at_194 (by decide) (by decide) ?_
        refine og_istore X706 200 #[.val (.int pc), .val (.long ps), .second, .val (.long pl), .second, .val (.int ph), .val (.long pt), .second, .val (.int pf), .val (.ref b1), .val (.ref b7), .val (.int (0 : Int32)), .val (.int (1 : Int32)), .val (.ref b568), .val (.ref b643), .val .null, .val (.int (1 : Int32))] at_198 rfl rfl ?_
        refine og_iload X706 202 at_200 rfl rfl ?_
        refine og_iconst X706 203 (1 : Int32) at_202 rfl rfl ?_
        refine og_icmpN X706 206 at_203 (XT.ii_ne_f (by decide)) rfl ?_
        refine og_aload X706 208 at_206 rfl rfl rfl ?_
        refine og_nonnullN X706 211 at_208 rfl ?_
        refine og_iload X706 213 at_211 rfl rfl ?_
        refine og_ifN X706 216 at_213 (XT.i0_eq_f (by decide)) rfl ?_
        refine og_iconst X706 217 (1 : Int32) at_216 rfl rfl ?_
        refine og_goto X706 221 at_217 (by decide) (by decide) ?_
        refine own_retZ X706 at_221 hret rfl (by decide) (by decide) ?_
        exact rfl
  · -- not
    refine og_ifN X11 46 at_43 (XT.i0_eq_f hc12) rfl ?_
    refine og_iconst X11 47 (1 : Int32) at_46 rfl rfl ?_
    refine og_goto X11 51 at_47 (by decide) (by decide) ?_
    refine og_istore X11 53 #[.val (.int pc), .val (.long ps), .second, .val (.long pl), .second, .val (.int ph), .val (.long pt), .second, .val (.int pf), .val (.ref b1), .val (.ref b7), .val (.int (1 : Int32)), .unset, .unset, .unset, .unset, .unset] at_51 rfl rfl ?_
    refine og_iload X11 55 at_53 rfl rfl ?_
    refine og_iconst X11 56 (2 : Int32) at_55 rfl rfl ?_
    refine og_iand X11 57 at_56 rfl ?_
    by_cases hc707 : (pf &&& (2 : Int32)) = 0
    · -- (pf &&& (2 : Int32)) = 0
      refine og_ifY X11 64 at_57 (XT.i0_eq_t hc707) (by decide) (by decide) ?_
      refine og_iconst X11 65 (1 : Int32) at_64 rfl rfl ?_
      refine og_iload X11 67 at_65 rfl rfl ?_
      refine own_ldcI X11 69 (v := (2147483647 : Int32)) at_67 (hw _ (List.mem_of_getElem? (i := 120) rfl)) rfl ?_
      refine og_iand X11 70 at_69 rfl ?_
      refine own_ldcI X11 72 (v := (2147483647 : Int32)) at_70 (hw _ (List.mem_of_getElem? (i := 120) rfl)) rfl ?_
      refine og_irem X11 73 at_72 (by decide) rfl ?_
      refine og_iadd X11 74 at_73 rfl ?_
      refine og_istore X11 76 #[.val (.int pc), .val (.long ps), .second, .val (.long pl), .second, .val (.int ph), .val (.long pt), .second, .val (.int pf), .val (.ref b1), .val (.ref b7), .val (.int (1 : Int32)), .val (.int ((1 : Int32) + ((ph &&& (2147483647 : Int32)) % (2147483647 : Int32)))), .unset, .unset, .unset, .unset] at_74 rfl rfl ?_
      refine own_new X11 79 at_76 (hw _ (List.mem_of_getElem? (i := 30) rfl)) (hw _ (List.mem_of_getElem? (i := 31) rfl)) (hw _ (List.mem_of_getElem? (i := 32) rfl)) (by decide) (by decide) rfl ?_
      intro T708 h708 b708 X708 K708 G708 U708 E708 D708
      have f709 : Fld Z h708 b708 "java/util/AbstractList" "modCount" "I" (.int (0 : Int32)) := D708 (Or.inl (hw _ (List.mem_of_getElem? (i := 50) rfl))) (ty := .int) (by decide)
      have f710 : Fld Z h708 b708 "java/util/ArrayList" "elementData" "[Ljava/lang/Object;" .null := D708 (Or.inl (hw _ (List.mem_of_getElem? (i := 53) rfl))) (ty := (.array (.object "java/lang/Object"))) (by decide)
      have f711 : Fld Z h708 b708 "java/util/ArrayList" "size" "I" (.int (0 : Int32)) := D708 (Or.inl (hw _ (List.mem_of_getElem? (i := 133) rfl))) (ty := .int) (by decide)
      refine og_dup X708 80 at_79 rfl rfl ?_
      refine own_spec X708 83 (a := b708) (argsL := []) (rest := [(.ref b708)]) at_80 rfl (rm7 l Z a0 hw n0 h708 hWd [] X708.old b708 (0 : Int32) .null (0 : Int32) E708 f709 f710 f711 (own_svb X708 (List.mem_of_getElem? (i := 0) rfl))) (hw _ (List.mem_of_getElem? (i := 33) rfl)) (hw _ (List.mem_of_getElem? (i := 34) rfl)) (hw _ (List.mem_of_getElem? (i := 32) rfl)) (hw _ (List.mem_of_getElem? (i := 35) rfl)) (by decide) (lenOf pd__28_29V rfl) rfl rfl rfl (W := 1) rfl (by decide) (by decide) (by decide) (by decide) (allS (List.mem_of_getElem? (i := 0) rfl) all0) rfl ?_
      intro T712 h712 v712 X712 K712 hQ712
      obtain ⟨rfl, f713, f714, f715⟩ := hQ712
      show OGo _ _ _ _ T712 (mkF m 83 #[.val (.int pc), .val (.long ps), .second, .val (.long pl), .second, .val (.int ph), .val (.long pt), .second, .val (.int pf), .val (.ref b1), .val (.ref b7), .val (.int (1 : Int32)), .val (.int ((1 : Int32) + ((ph &&& (2147483647 : Int32)) % (2147483647 : Int32)))), .unset, .unset, .unset, .unset] [(.ref b708)])
      refine og_astore X712 85 #[.val (.int pc), .val (.long ps), .second, .val (.long pl), .second, .val (.int ph), .val (.long pt), .second, .val (.int pf), .val (.ref b1), .val (.ref b7), .val (.int (1 : Int32)), .val (.int ((1 : Int32) + ((ph &&& (2147483647 : Int32)) % (2147483647 : Int32)))), .val (.ref b708), .unset, .unset, .unset] at_83 rfl rfl rfl ?_
      refine og_iload X712 87 at_85 rfl rfl ?_
      refine og_iconst X712 88 (4 : Int32) at_87 rfl rfl ?_
      refine og_iand X712 89 at_88 rfl ?_
      by_cases hc716 : (pf &&& (4 : Int32)) = 0
      · -- (pf &&& (4 : Int32)) = 0
        refine og_ifY X712 101 at_89 (XT.i0_eq_t hc716) (by decide) (by decide) ?_
        refine own_new X712 104 at_101 (hw _ (List.mem_of_getElem? (i := 54) rfl)) (hw _ (List.mem_of_getElem? (i := 55) rfl)) (hw _ (List.mem_of_getElem? (i := 56) rfl)) (by decide) (by decide) rfl ?_
        intro T717 h717 b717 X717 K717 G717 U717 E717 D717
        have f718 : Fld Z h717 b717 "com/example/synlock/synlock/Holds$Grant" "owner" "Ljava/lang/String;" .null := D717 (Or.inr (hw _ (List.mem_of_getElem? (i := 67) rfl))) (ty := (.object "java/lang/String")) (by decide)
        have f719 : Fld Z h717 b717 "com/example/synlock/synlock/Holds$Grant" "sentNanos" "J" (.long (0 : Int64)) := D717 (Or.inr (hw _ (List.mem_of_getElem? (i := 69) rfl))) (ty := .long) (by decide)
        have f720 : Fld Z h717 b717 "com/example/synlock/synlock/Holds$Grant" "leaseNanos" "J" (.long (0 : Int64)) := D717 (Or.inr (hw _ (List.mem_of_getElem? (i := 71) rfl))) (ty := .long) (by decide)
        have f721 : Fld Z h717 b717 "com/example/synlock/synlock/Holds$Grant" "holds" "I" (.int (0 : Int32)) := D717 (Or.inr (hw _ (List.mem_of_getElem? (i := 73) rfl))) (ty := .int) (by decide)
        have f722 : Fld Z h717 b717 "com/example/synlock/synlock/Holds$Grant" "token" "J" (.long (0 : Int64)) := D717 (Or.inr (hw _ (List.mem_of_getElem? (i := 75) rfl))) (ty := .long) (by decide)
        have f723 : Fld Z h717 b717 "com/example/synlock/synlock/Holds$Grant" "renewed" "Z" (.int (0 : Int32)) := D717 (Or.inr (hw _ (List.mem_of_getElem? (i := 77) rfl))) (ty := .boolean) (by decide)
        have f724 : Fld Z h717 b717 "com/example/synlock/synlock/Holds$Grant" "listeners" "Ljava/util/List;" .null := D717 (Or.inr (hw _ (List.mem_of_getElem? (i := 79) rfl))) (ty := (.object "java/util/List")) (by decide)
        refine og_dup X717 105 at_104 rfl rfl ?_
        refine og_aload X717 107 at_105 rfl rfl rfl ?_
        refine og_lloadN X717 108 at_107 rfl rfl ?_
        refine og_lloadN X717 109 at_108 rfl rfl ?_
        refine og_iload X717 111 at_109 rfl rfl ?_
        refine og_lload X717 113 at_111 rfl rfl ?_
        refine og_iload X717 115 at_113 rfl rfl ?_
        refine og_aload X717 117 at_115 rfl rfl rfl ?_
        refine own_spec X717 120 (a := b717) (argsL := [(.ref b7), (.long ps), (.long pl), (.int ((1 : Int32) + ((ph &&& (2147483647 : Int32)) % (2147483647 : Int32)))), (.long pt), (.int (1 : Int32)), (.ref b708)]) (rest := [(.ref b717)]) at_117 rfl (rm10 l Z a0 hw n0 h717 hWd [] X717.old b717 b7 ps pl ((1 : Int32) + ((ph &&& (2147483647 : Int32)) % (2147483647 : Int32))) pt (1 : Int32) b708 E717 f718 f719 f720 f721 f722 f723 f724 (by decide) (own_svb X717 (List.mem_of_getElem? (i := 0) rfl))) (hw _ (List.mem_of_getElem? (i := 57) rfl)) (hw _ (List.mem_of_getElem? (i := 58) rfl)) (hw _ (List.mem_of_getElem? (i := 56) rfl)) (hw _ (List.mem_of_getElem? (i := 59) rfl)) (by decide) (lenOf pd__28Ljava_2flang_2fString_3bJJIJZLjava_2futil_2fList_3b_29V rfl) rfl rfl rfl (W := 1) rfl (by decide) (by decide) (by decide) (by decide) (allS (List.mem_of_getElem? (i := 0) rfl) all0) rfl ?_
        intro T725 h725 v725 X725 K725 hQ725
        obtain ⟨rfl, f726, f727, f728, f729, f730, f731, f732⟩ := hQ725
        show OGo _ _ _ _ T725 (mkF m 120 #[.val (.int pc), .val (.long ps), .second, .val (.long pl), .second, .val (.int ph), .val (.long pt), .second, .val (.int pf), .val (.ref b1), .val (.ref b7), .val (.int (1 : Int32)), .val (.int ((1 : Int32) + ((ph &&& (2147483647 : Int32)) % (2147483647 : Int32)))), .val (.ref b708), .unset, .unset, .unset] [(.ref b717)])
        refine og_astore X725 122 #[.val (.int pc), .val (.long ps), .second, .val (.long pl), .second, .val (.int ph), .val (.long pt), .second, .val (.int pf), .val (.ref b1), .val (.ref b7), .val (.int (1 : Int32)), .val (.int ((1 : Int32) + ((ph &&& (2147483647 : Int32)) % (2147483647 : Int32)))), .val (.ref b708), .val (.ref b717), .unset, .unset] at_120 rfl rfl rfl ?_
        refine og_aload X725 124 at_122 rfl rfl rfl ?_
        by_cases hc733 : ((1 : Int32) + ((ph &&& (2147483647 : Int32)) % (2147483647 : Int32))) = (1 : Int32)
        · -- ((1 : Int32) + ((ph &&& (2147483647 : Int32)) % (2147483647 : Int32))) = (1 : Int32)
          have f734 := E717.keep K725
          refine own_virt X725 127 (a := b717) (argsL := []) (rest := []) at_124 f734 (fun _ hZ => notFace_of_selects (args := #[]) (mvT hZ (hw _ (List.mem_of_getElem? (i := 83) rfl)))) (rm_rel0 l Z a0 hw n0 h725 hWd [] X725.old b717 ((1 : Int32) + ((ph &&& (2147483647 : Int32)) % (2147483647 : Int32))) f729 hc733 ) (hw _ (List.mem_of_getElem? (i := 80) rfl)) (hw _ (List.mem_of_getElem? (i := 81) rfl)) (hw _ (List.mem_of_getElem? (i := 83) rfl)) (hw _ (List.mem_of_getElem? (i := 82) rfl)) (hw _ (List.mem_of_getElem? (i := 56) rfl)) (hw _ (List.mem_of_getElem? (i := 84) rfl)) (by decide) (lenOf pd__28_29Lcom_2fexample_2fsynlock_2fsynlock_2fHolds_24Grant_3b rfl) rfl rfl rfl (W := 0) rfl (by decide) (by decide) (by decide) (by decide) all0 rfl ?_
          intro T735 h735 v735 X735 K735 hQ735
          obtain rfl := hQ735
          show OGo _ _ _ _ T735 (mkF m 127 #[.val (.int pc), .val (.long ps), .second, .val (.long pl), .second, .val (.int ph), .val (.long pt), .second, .val (.int pf), .val (.ref b1), .val (.ref b7), .val (.int (1 : Int32)), .val (.int ((1 : Int32) + ((ph &&& (2147483647 : Int32)) % (2147483647 : Int32)))), .val (.ref b708), .val (.ref b717), .unset, .unset] [.null])
          refine og_astore X735 129 #[.val (.int pc), .val (.long ps), .second, .val (.long pl), .second, .val (.int ph), .val (.long pt), .second, .val (.int pf), .val (.ref b1), .val (.ref b7), .val (.int (1 : Int32)), .val (.int ((1 : Int32) + ((ph &&& (2147483647 : Int32)) % (2147483647 : Int32)))), .val (.ref b708), .val (.ref b717), .val .null, .unset] at_127 rfl rfl rfl ?_
          refine og_aload X735 131 at_129 rfl rfl rfl ?_
          have f736 := f734.keep K735
          have f737 := f729.keep K735 nin0
          refine own_virt X735 134 (a := b717) (argsL := []) (rest := []) at_131 f736 (fun _ hZ => notFace_of_selects (args := #[]) (mvT hZ (hw _ (List.mem_of_getElem? (i := 88) rfl)))) (rm13 l Z a0 hw n0 h735 hWd [] X735.old b717 ((1 : Int32) + ((ph &&& (2147483647 : Int32)) % (2147483647 : Int32))) f737 ) (hw _ (List.mem_of_getElem? (i := 85) rfl)) (hw _ (List.mem_of_getElem? (i := 86) rfl)) (hw _ (List.mem_of_getElem? (i := 88) rfl)) (hw _ (List.mem_of_getElem? (i := 87) rfl)) (hw _ (List.mem_of_getElem? (i := 56) rfl)) (hw _ (List.mem_of_getElem? (i := 89) rfl)) (by decide) (lenOf pd__28_29I rfl) rfl rfl rfl (W := 0) rfl (by decide) (by decide) (by decide) (by decide) all0 rfl ?_
          intro T738 h738 v738 X738 K738 hQ738
          obtain rfl := hQ738
          show OGo _ _ _ _ T738 (mkF m 134 #[.val (.int pc), .val (.long ps), .second, .val (.long pl), .second, .val (.int ph), .val (.long pt), .second, .val (.int pf), .val (.ref b1), .val (.ref b7), .val (.int (1 : Int32)), .val (.int ((1 : Int32) + ((ph &&& (2147483647 : Int32)) % (2147483647 : Int32)))), .val (.ref b708), .val (.ref b717), .val .null, .unset] [(.int ((1 : Int32) + ((ph &&& (2147483647 : Int32)) % (2147483647 : Int32))))])
          refine og_iload X738 136 at_134 rfl rfl ?_
          refine og_icmpN X738 139 at_136 (XT.ii_ne_f rfl) rfl ?_
          refine og_aload X738 141 at_139 rfl rfl rfl ?_
          have f739 := f736.keep K738
          have f740 := f727.keep K735 nin0
          have f741 := f740.keep K738 nin0
          refine own_virt X738 144 (a := b717) (argsL := []) (rest := []) at_141 f739 (fun _ hZ => notFace_of_selects (args := #[]) (mvT hZ (hw _ (List.mem_of_getElem? (i := 93) rfl)))) (rm14 l Z a0 hw n0 h738 hWd [] X738.old b717 ps f741 ) (hw _ (List.mem_of_getElem? (i := 90) rfl)) (hw _ (List.mem_of_getElem? (i := 91) rfl)) (hw _ (List.mem_of_getElem? (i := 93) rfl)) (hw _ (List.mem_of_getElem? (i := 92) rfl)) (hw _ (List.mem_of_getElem? (i := 56) rfl)) (hw _ (List.mem_of_getElem? (i := 94) rfl)) (by decide) (lenOf pd__28_29J rfl) rfl rfl rfl (W := 0) rfl (by decide) (by decide) (by decide) (by decide) all0 rfl ?_
          intro T742 h742 v742 X742 K742 hQ742
          obtain rfl := hQ742
          show OGo _ _ _ _ T742 (mkF m 144 #[.val (.int pc), .val (.long ps), .second, .val (.long pl), .second, .val (.int ph), .val (.long pt), .second, .val (.int pf), .val (.ref b1), .val (.ref b7), .val (.int (1 : Int32)), .val (.int ((1 : Int32) + ((ph &&& (2147483647 : Int32)) % (2147483647 : Int32)))), .val (.ref b708), .val (.ref b717), .val .null, .unset] [(.long ps)])
          refine og_lloadN X742 145 at_144 rfl rfl ?_
          refine og_lcmp X742 146 at_145 rfl ?_
          refine og_ifN X742 149 at_146 (XT.ll_ne_f rfl) rfl ?_
          refine og_aload X742 151 at_149 rfl rfl rfl ?_
          have f743 := f739.keep K742
          have f744 := f728.keep K735 nin0
          have f745 := f744.keep K738 nin0
          have f746 := f745.keep K742 nin0
          refine own_virt X742 154 (a := b717) (argsL := []) (rest := []) at_151 f743 (fun _ hZ => notFace_of_selects (args := #[]) (mvT hZ (hw _ (List.mem_of_getElem? (i := 98) rfl)))) (rm15 l Z a0 hw n0 h742 hWd [] X742.old b717 pl f746 ) (hw _ (List.mem_of_getElem? (i := 95) rfl)) (hw _ (List.mem_of_getElem? (i := 96) rfl)) (hw _ (List.mem_of_getElem? (i := 98) rfl)) (hw _ (List.mem_of_getElem? (i := 97) rfl)) (hw _ (List.mem_of_getElem? (i := 56) rfl)) (hw _ (List.mem_of_getElem? (i := 99) rfl)) (by decide) (lenOf pd__28_29J rfl) rfl rfl rfl (W := 0) rfl (by decide) (by decide) (by decide) (by decide) all0 rfl ?_
          intro T747 h747 v747 X747 K747 hQ747
          obtain rfl := hQ747
          show OGo _ _ _ _ T747 (mkF m 154 #[.val (.int pc), .val (.long ps), .second, .val (.long pl), .second, .val (.int ph), .val (.long pt), .second, .val (.int pf), .val (.ref b1), .val (.ref b7), .val (.int (1 : Int32)), .val (.int ((1 : Int32) + ((ph &&& (2147483647 : Int32)) % (2147483647 : Int32)))), .val (.ref b708), .val (.ref b717), .val .null, .unset] [(.long pl)])
          refine og_lloadN X747 155 at_154 rfl rfl ?_
          refine og_lcmp X747 156 at_155 rfl ?_
          refine og_ifN X747 159 at_156 (XT.ll_ne_f rfl) rfl ?_
          refine og_aload X747 161 at_159 rfl rfl rfl ?_
          have f748 := f743.keep K747
          have f749 := f730.keep K735 nin0
          have f750 := f749.keep K738 nin0
          have f751 := f750.keep K742 nin0
          have f752 := f751.keep K747 nin0
          refine own_virt X747 164 (a := b717) (argsL := []) (rest := []) at_161 f748 (fun _ hZ => notFace_of_selects (args := #[]) (mvT hZ (hw _ (List.mem_of_getElem? (i := 103) rfl)))) (rm16 l Z a0 hw n0 h747 hWd [] X747.old b717 pt f752 ) (hw _ (List.mem_of_getElem? (i := 100) rfl)) (hw _ (List.mem_of_getElem? (i := 101) rfl)) (hw _ (List.mem_of_getElem? (i := 103) rfl)) (hw _ (List.mem_of_getElem? (i := 102) rfl)) (hw _ (List.mem_of_getElem? (i := 56) rfl)) (hw _ (List.mem_of_getElem? (i := 104) rfl)) (by decide) (lenOf pd__28_29J rfl) rfl rfl rfl (W := 0) rfl (by decide) (by decide) (by decide) (by decide) all0 rfl ?_
          intro T753 h753 v753 X753 K753 hQ753
          obtain rfl := hQ753
          show OGo _ _ _ _ T753 (mkF m 164 #[.val (.int pc), .val (.long ps), .second, .val (.long pl), .second, .val (.int ph), .val (.long pt), .second, .val (.int pf), .val (.ref b1), .val (.ref b7), .val (.int (1 : Int32)), .val (.int ((1 : Int32) + ((ph &&& (2147483647 : Int32)) % (2147483647 : Int32)))), .val (.ref b708), .val (.ref b717), .val .null, .unset] [(.long pt)])
          refine og_lload X753 166 at_164 rfl rfl ?_
          refine og_lcmp X753 167 at_166 rfl ?_
          refine og_ifN X753 170 at_167 (XT.ll_ne_f rfl) rfl ?_
          refine og_aload X753 172 at_170 rfl rfl rfl ?_
          have f754 := f748.keep K753
          have f755 := f731.keep K735 nin0
          have f756 := f755.keep K738 nin0
          have f757 := f756.keep K742 nin0
          have f758 := f757.keep K747 nin0
          have f759 := f758.keep K753 nin0
          refine own_virt X753 175 (a := b717) (argsL := []) (rest := []) at_172 f754 (fun _ hZ => notFace_of_selects (args := #[]) (mvT hZ (hw _ (List.mem_of_getElem? (i := 108) rfl)))) (rm17 l Z a0 hw n0 h753 hWd [] X753.old b717 (1 : Int32) f759 (by decide) ) (hw _ (List.mem_of_getElem? (i := 105) rfl)) (hw _ (List.mem_of_getElem? (i := 106) rfl)) (hw _ (List.mem_of_getElem? (i := 108) rfl)) (hw _ (List.mem_of_getElem? (i := 107) rfl)) (hw _ (List.mem_of_getElem? (i := 56) rfl)) (hw _ (List.mem_of_getElem? (i := 109) rfl)) (by decide) (lenOf pd__28_29Z rfl) rfl rfl rfl (W := 0) rfl (by decide) (by decide) (by decide) (by decide) all0 rfl ?_
          intro T760 h760 v760 X760 K760 hQ760
          obtain rfl := hQ760
          show OGo _ _ _ _ T760 (mkF m 175 #[.val (.int pc), .val (.long ps), .second, .val (.long pl), .second, .val (.int ph), .val (.long pt), .second, .val (.int pf), .val (.ref b1), .val (.ref b7), .val (.int (1 : Int32)), .val (.int ((1 : Int32) + ((ph &&& (2147483647 : Int32)) % (2147483647 : Int32)))), .val (.ref b708), .val (.ref b717), .val .null, .unset] [(.int (1 : Int32))])
          refine og_iload X760 177 at_175 rfl rfl ?_
          refine og_icmpN X760 180 at_177 (XT.ii_ne_f (by decide)) rfl ?_
          refine og_aload X760 182 at_180 rfl rfl rfl ?_
          have f761 := f754.keep K760
          have f762 := f726.keep K735 nin0
          have f763 := f762.keep K738 nin0
          have f764 := f763.keep K742 nin0
          have f765 := f764.keep K747 nin0
          have f766 := f765.keep K753 nin0
          have f767 := f766.keep K760 nin0
          refine own_virt X760 185 (a := b717) (argsL := []) (rest := []) at_182 f761 (fun _ hZ => notFace_of_selects (args := #[]) (mvT hZ (hw _ (List.mem_of_getElem? (i := 113) rfl)))) (rm18 l Z a0 hw n0 h760 hWd [] X760.old b717 b7 f767 ) (hw _ (List.mem_of_getElem? (i := 110) rfl)) (hw _ (List.mem_of_getElem? (i := 111) rfl)) (hw _ (List.mem_of_getElem? (i := 113) rfl)) (hw _ (List.mem_of_getElem? (i := 112) rfl)) (hw _ (List.mem_of_getElem? (i := 56) rfl)) (hw _ (List.mem_of_getElem? (i := 114) rfl)) (by decide) (lenOf pd__28_29Ljava_2flang_2fString_3b rfl) rfl rfl rfl (W := 0) rfl (by decide) (by decide) (by decide) (by decide) all0 rfl ?_
          intro T768 h768 v768 X768 K768 hQ768
          obtain rfl := hQ768
          show OGo _ _ _ _ T768 (mkF m 185 #[.val (.int pc), .val (.long ps), .second, .val (.long pl), .second, .val (.int ph), .val (.long pt), .second, .val (.int pf), .val (.ref b1), .val (.ref b7), .val (.int (1 : Int32)), .val (.int ((1 : Int32) + ((ph &&& (2147483647 : Int32)) % (2147483647 : Int32)))), .val (.ref b708), .val (.ref b717), .val .null, .unset] [(.ref b7)])
          refine og_aload X768 187 at_185 rfl rfl rfl ?_
          have f769 := E11.keep K708
          have f770 := f769.keep K712
          have f771 := f770.keep K717
          have f772 := f771.keep K725
          have f773 := f772.keep K735
          have f774 := f773.keep K738
          have f775 := f774.keep K742
          have f776 := f775.keep K747
          have f777 := f776.keep K753
          have f778 := f777.keep K760
          have f779 := f778.keep K768
          refine own_virt X768 190 (a := b7) (argsL := [(.ref b7)]) (rest := []) at_187 f779 (fun _ hZ => notFace_of_selects (args := #[]) (mvT hZ (hw _ (List.mem_of_getElem? (i := 118) rfl)))) (rm19 l Z a0 hw n0 h768 hWd [] X768.old b7  ) (hw _ (List.mem_of_getElem? (i := 115) rfl)) (hw _ (List.mem_of_getElem? (i := 116) rfl)) (hw _ (List.mem_of_getElem? (i := 118) rfl)) (hw _ (List.mem_of_getElem? (i := 117) rfl)) (hw _ (List.mem_of_getElem? (i := 3) rfl)) (hw _ (List.mem_of_getElem? (i := 119) rfl)) (by decide) (lenOf pd__28Ljava_2flang_2fObject_3b_29Z rfl) rfl rfl rfl (W := 0) rfl (by decide) (by decide) (by decide) (by decide) all0 rfl ?_
          intro T780 h780 v780 X780 K780 hQ780
          obtain rfl := hQ780
          show OGo _ _ _ _ T780 (mkF m 190 #[.val (.int pc), .val (.long ps), .second, .val (.long pl), .second, .val (.int ph), .val (.long pt), .second, .val (.int pf), .val (.ref b1), .val (.ref b7), .val (.int (1 : Int32)), .val (.int ((1 : Int32) + ((ph &&& (2147483647 : Int32)) % (2147483647 : Int32)))), .val (.ref b708), .val (.ref b717), .val .null, .unset] [(.int (1 : Int32))])
          refine og_ifN X780 193 at_190 (XT.i0_eq_f (by decide)) rfl ?_
          refine og_iconst X780 194 (1 : Int32) at_193 rfl rfl ?_
          refine og_goto X780 198 at_194 (by decide) (by decide) ?_
          refine og_istore X780 200 #[.val (.int pc), .val (.long ps), .second, .val (.long pl), .second, .val (.int ph), .val (.long pt), .second, .val (.int pf), .val (.ref b1), .val (.ref b7), .val (.int (1 : Int32)), .val (.int ((1 : Int32) + ((ph &&& (2147483647 : Int32)) % (2147483647 : Int32)))), .val (.ref b708), .val (.ref b717), .val .null, .val (.int (1 : Int32))] at_198 rfl rfl ?_
          refine og_iload X780 202 at_200 rfl rfl ?_
          refine og_iconst X780 203 (1 : Int32) at_202 rfl rfl ?_
          refine og_icmpN X780 206 at_203 (XT.ii_ne_f hc733) rfl ?_
          refine og_aload X780 208 at_206 rfl rfl rfl ?_
          refine og_nonnullN X780 211 at_208 rfl ?_
          refine og_iload X780 213 at_211 rfl rfl ?_
          refine og_ifN X780 216 at_213 (XT.i0_eq_f (by decide)) rfl ?_
          refine og_iconst X780 217 (1 : Int32) at_216 rfl rfl ?_
          refine og_goto X780 221 at_217 (by decide) (by decide) ?_
          refine own_retZ X780 at_221 hret rfl (by decide) (by decide) ?_
          exact rfl
        · -- not
          have f781 := E717.keep K725
          refine own_virt X725 127 (a := b717) (argsL := []) (rest := []) at_124 f781 (fun _ hZ => notFace_of_selects (args := #[]) (mvT hZ (hw _ (List.mem_of_getElem? (i := 83) rfl)))) (rm_rel1 l Z a0 hw n0 h725 hWd [] X725.old b717 b7 ps pl ((1 : Int32) + ((ph &&& (2147483647 : Int32)) % (2147483647 : Int32))) pt (1 : Int32) b708 f726 f727 f728 f729 f730 f731 f732 hc733 (by decide) ) (hw _ (List.mem_of_getElem? (i := 80) rfl)) (hw _ (List.mem_of_getElem? (i := 81) rfl)) (hw _ (List.mem_of_getElem? (i := 83) rfl)) (hw _ (List.mem_of_getElem? (i := 82) rfl)) (hw _ (List.mem_of_getElem? (i := 56) rfl)) (hw _ (List.mem_of_getElem? (i := 84) rfl)) (by decide) (lenOf pd__28_29Lcom_2fexample_2fsynlock_2fsynlock_2fHolds_24Grant_3b rfl) rfl rfl rfl (W := 0) rfl (by decide) (by decide) (by decide) (by decide) all0 rfl ?_
          intro T782 h782 v782 X782 K782 hQ782
          obtain ⟨r782, rfl, ge_r782, f783, f784, f785, f786, f787, f788, f789, f790⟩ := hQ782
          show OGo _ _ _ _ T782 (mkF m 127 #[.val (.int pc), .val (.long ps), .second, .val (.long pl), .second, .val (.int ph), .val (.long pt), .second, .val (.int pf), .val (.ref b1), .val (.ref b7), .val (.int (1 : Int32)), .val (.int ((1 : Int32) + ((ph &&& (2147483647 : Int32)) % (2147483647 : Int32)))), .val (.ref b708), .val (.ref b717), .unset, .unset] [(.ref r782)])
          refine og_astore X782 129 #[.val (.int pc), .val (.long ps), .second, .val (.long pl), .second, .val (.int ph), .val (.long pt), .second, .val (.int pf), .val (.ref b1), .val (.ref b7), .val (.int (1 : Int32)), .val (.int ((1 : Int32) + ((ph &&& (2147483647 : Int32)) % (2147483647 : Int32)))), .val (.ref b708), .val (.ref b717), .val (.ref r782), .unset] at_127 rfl rfl rfl ?_
          refine og_aload X782 131 at_129 rfl rfl rfl ?_
          have f791 := f781.keep K782
          have f792 := f729.keep K782 nin0
          refine own_virt X782 134 (a := b717) (argsL := []) (rest := []) at_131 f791 (fun _ hZ => notFace_of_selects (args := #[]) (mvT hZ (hw _ (List.mem_of_getElem? (i := 88) rfl)))) (rm13 l Z a0 hw n0 h782 hWd [] X782.old b717 ((1 : Int32) + ((ph &&& (2147483647 : Int32)) % (2147483647 : Int32))) f792 ) (hw _ (List.mem_of_getElem? (i := 85) rfl)) (hw _ (List.mem_of_getElem? (i := 86) rfl)) (hw _ (List.mem_of_getElem? (i := 88) rfl)) (hw _ (List.mem_of_getElem? (i := 87) rfl)) (hw _ (List.mem_of_getElem? (i := 56) rfl)) (hw _ (List.mem_of_getElem? (i := 89) rfl)) (by decide) (lenOf pd__28_29I rfl) rfl rfl rfl (W := 0) rfl (by decide) (by decide) (by decide) (by decide) all0 rfl ?_
          intro T793 h793 v793 X793 K793 hQ793
          obtain rfl := hQ793
          show OGo _ _ _ _ T793 (mkF m 134 #[.val (.int pc), .val (.long ps), .second, .val (.long pl), .second, .val (.int ph), .val (.long pt), .second, .val (.int pf), .val (.ref b1), .val (.ref b7), .val (.int (1 : Int32)), .val (.int ((1 : Int32) + ((ph &&& (2147483647 : Int32)) % (2147483647 : Int32)))), .val (.ref b708), .val (.ref b717), .val (.ref r782), .unset] [(.int ((1 : Int32) + ((ph &&& (2147483647 : Int32)) % (2147483647 : Int32))))])
          refine og_iload X793 136 at_134 rfl rfl ?_
          refine og_icmpN X793 139 at_136 (XT.ii_ne_f rfl) rfl ?_
          refine og_aload X793 141 at_139 rfl rfl rfl ?_
          have f794 := f791.keep K793
          have f795 := f727.keep K782 nin0
          have f796 := f795.keep K793 nin0
          refine own_virt X793 144 (a := b717) (argsL := []) (rest := []) at_141 f794 (fun _ hZ => notFace_of_selects (args := #[]) (mvT hZ (hw _ (List.mem_of_getElem? (i := 93) rfl)))) (rm14 l Z a0 hw n0 h793 hWd [] X793.old b717 ps f796 ) (hw _ (List.mem_of_getElem? (i := 90) rfl)) (hw _ (List.mem_of_getElem? (i := 91) rfl)) (hw _ (List.mem_of_getElem? (i := 93) rfl)) (hw _ (List.mem_of_getElem? (i := 92) rfl)) (hw _ (List.mem_of_getElem? (i := 56) rfl)) (hw _ (List.mem_of_getElem? (i := 94) rfl)) (by decide) (lenOf pd__28_29J rfl) rfl rfl rfl (W := 0) rfl (by decide) (by decide) (by decide) (by decide) all0 rfl ?_
          intro T797 h797 v797 X797 K797 hQ797
          obtain rfl := hQ797
          show OGo _ _ _ _ T797 (mkF m 144 #[.val (.int pc), .val (.long ps), .second, .val (.long pl), .second, .val (.int ph), .val (.long pt), .second, .val (.int pf), .val (.ref b1), .val (.ref b7), .val (.int (1 : Int32)), .val (.int ((1 : Int32) + ((ph &&& (2147483647 : Int32)) % (2147483647 : Int32)))), .val (.ref b708), .val (.ref b717), .val (.ref r782), .unset] [(.long ps)])
          refine og_lloadN X797 145 at_144 rfl rfl ?_
          refine og_lcmp X797 146 at_145 rfl ?_
          refine og_ifN X797 149 at_146 (XT.ll_ne_f rfl) rfl ?_
          refine og_aload X797 151 at_149 rfl rfl rfl ?_
          have f798 := f794.keep K797
          have f799 := f728.keep K782 nin0
          have f800 := f799.keep K793 nin0
          have f801 := f800.keep K797 nin0
          refine own_virt X797 154 (a := b717) (argsL := []) (rest := []) at_151 f798 (fun _ hZ => notFace_of_selects (args := #[]) (mvT hZ (hw _ (List.mem_of_getElem? (i := 98) rfl)))) (rm15 l Z a0 hw n0 h797 hWd [] X797.old b717 pl f801 ) (hw _ (List.mem_of_getElem? (i := 95) rfl)) (hw _ (List.mem_of_getElem? (i := 96) rfl)) (hw _ (List.mem_of_getElem? (i := 98) rfl)) (hw _ (List.mem_of_getElem? (i := 97) rfl)) (hw _ (List.mem_of_getElem? (i := 56) rfl)) (hw _ (List.mem_of_getElem? (i := 99) rfl)) (by decide) (lenOf pd__28_29J rfl) rfl rfl rfl (W := 0) rfl (by decide) (by decide) (by decide) (by decide) all0 rfl ?_
          intro T802 h802 v802 X802 K802 hQ802
          obtain rfl := hQ802
          show OGo _ _ _ _ T802 (mkF m 154 #[.val (.int pc), .val (.long ps), .second, .val (.long pl), .second, .val (.int ph), .val (.long pt), .second, .val (.int pf), .val (.ref b1), .val (.ref b7), .val (.int (1 : Int32)), .val (.int ((1 : Int32) + ((ph &&& (2147483647 : Int32)) % (2147483647 : Int32)))), .val (.ref b708), .val (.ref b717), .val (.ref r782), .unset] [(.long pl)])
          refine og_lloadN X802 155 at_154 rfl rfl ?_
          refine og_lcmp X802 156 at_155 rfl ?_
          refine og_ifN X802 159 at_156 (XT.ll_ne_f rfl) rfl ?_
          refine og_aload X802 161 at_159 rfl rfl rfl ?_
          have f803 := f798.keep K802
          have f804 := f730.keep K782 nin0
          have f805 := f804.keep K793 nin0
          have f806 := f805.keep K797 nin0
          have f807 := f806.keep K802 nin0
          refine own_virt X802 164 (a := b717) (argsL := []) (rest := []) at_161 f803 (fun _ hZ => notFace_of_selects (args := #[]) (mvT hZ (hw _ (List.mem_of_getElem? (i := 103) rfl)))) (rm16 l Z a0 hw n0 h802 hWd [] X802.old b717 pt f807 ) (hw _ (List.mem_of_getElem? (i := 100) rfl)) (hw _ (List.mem_of_getElem? (i := 101) rfl)) (hw _ (List.mem_of_getElem? (i := 103) rfl)) (hw _ (List.mem_of_getElem? (i := 102) rfl)) (hw _ (List.mem_of_getElem? (i := 56) rfl)) (hw _ (List.mem_of_getElem? (i := 104) rfl)) (by decide) (lenOf pd__28_29J rfl) rfl rfl rfl (W := 0) rfl (by decide) (by decide) (by decide) (by decide) all0 rfl ?_
          intro T808 h808 v808 X808 K808 hQ808
          obtain rfl := hQ808
          show OGo _ _ _ _ T808 (mkF m 164 #[.val (.int pc), .val (.long ps), .second, .val (.long pl), .second, .val (.int ph), .val (.long pt), .second, .val (.int pf), .val (.ref b1), .val (.ref b7), .val (.int (1 : Int32)), .val (.int ((1 : Int32) + ((ph &&& (2147483647 : Int32)) % (2147483647 : Int32)))), .val (.ref b708), .val (.ref b717), .val (.ref r782), .unset] [(.long pt)])
          refine og_lload X808 166 at_164 rfl rfl ?_
          refine og_lcmp X808 167 at_166 rfl ?_
          refine og_ifN X808 170 at_167 (XT.ll_ne_f rfl) rfl ?_
          refine og_aload X808 172 at_170 rfl rfl rfl ?_
          have f809 := f803.keep K808
          have f810 := f731.keep K782 nin0
          have f811 := f810.keep K793 nin0
          have f812 := f811.keep K797 nin0
          have f813 := f812.keep K802 nin0
          have f814 := f813.keep K808 nin0
          refine own_virt X808 175 (a := b717) (argsL := []) (rest := []) at_172 f809 (fun _ hZ => notFace_of_selects (args := #[]) (mvT hZ (hw _ (List.mem_of_getElem? (i := 108) rfl)))) (rm17 l Z a0 hw n0 h808 hWd [] X808.old b717 (1 : Int32) f814 (by decide) ) (hw _ (List.mem_of_getElem? (i := 105) rfl)) (hw _ (List.mem_of_getElem? (i := 106) rfl)) (hw _ (List.mem_of_getElem? (i := 108) rfl)) (hw _ (List.mem_of_getElem? (i := 107) rfl)) (hw _ (List.mem_of_getElem? (i := 56) rfl)) (hw _ (List.mem_of_getElem? (i := 109) rfl)) (by decide) (lenOf pd__28_29Z rfl) rfl rfl rfl (W := 0) rfl (by decide) (by decide) (by decide) (by decide) all0 rfl ?_
          intro T815 h815 v815 X815 K815 hQ815
          obtain rfl := hQ815
          show OGo _ _ _ _ T815 (mkF m 175 #[.val (.int pc), .val (.long ps), .second, .val (.long pl), .second, .val (.int ph), .val (.long pt), .second, .val (.int pf), .val (.ref b1), .val (.ref b7), .val (.int (1 : Int32)), .val (.int ((1 : Int32) + ((ph &&& (2147483647 : Int32)) % (2147483647 : Int32)))), .val (.ref b708), .val (.ref b717), .val (.ref r782), .unset] [(.int (1 : Int32))])
          refine og_iload X815 177 at_175 rfl rfl ?_
          refine og_icmpN X815 180 at_177 (XT.ii_ne_f (by decide)) rfl ?_
          refine og_aload X815 182 at_180 rfl rfl rfl ?_
          have f816 := f809.keep K815
          have f817 := f726.keep K782 nin0
          have f818 := f817.keep K793 nin0
          have f819 := f818.keep K797 nin0
          have f820 := f819.keep K802 nin0
          have f821 := f820.keep K808 nin0
          have f822 := f821.keep K815 nin0
          refine own_virt X815 185 (a := b717) (argsL := []) (rest := []) at_182 f816 (fun _ hZ => notFace_of_selects (args := #[]) (mvT hZ (hw _ (List.mem_of_getElem? (i := 113) rfl)))) (rm18 l Z a0 hw n0 h815 hWd [] X815.old b717 b7 f822 ) (hw _ (List.mem_of_getElem? (i := 110) rfl)) (hw _ (List.mem_of_getElem? (i := 111) rfl)) (hw _ (List.mem_of_getElem? (i := 113) rfl)) (hw _ (List.mem_of_getElem? (i := 112) rfl)) (hw _ (List.mem_of_getElem? (i := 56) rfl)) (hw _ (List.mem_of_getElem? (i := 114) rfl)) (by decide) (lenOf pd__28_29Ljava_2flang_2fString_3b rfl) rfl rfl rfl (W := 0) rfl (by decide) (by decide) (by decide) (by decide) all0 rfl ?_
          intro T823 h823 v823 X823 K823 hQ823
          obtain rfl := hQ823
          show OGo _ _ _ _ T823 (mkF m 185 #[.val (.int pc), .val (.long ps), .second, .val (.long pl), .second, .val (.int ph), .val (.long pt), .second, .val (.int pf), .val (.ref b1), .val (.ref b7), .val (.int (1 : Int32)), .val (.int ((1 : Int32) + ((ph &&& (2147483647 : Int32)) % (2147483647 : Int32)))), .val (.ref b708), .val (.ref b717), .val (.ref r782), .unset] [(.ref b7)])
          refine og_aload X823 187 at_185 rfl rfl rfl ?_
          have f824 := E11.keep K708
          have f825 := f824.keep K712
          have f826 := f825.keep K717
          have f827 := f826.keep K725
          have f828 := f827.keep K782
          have f829 := f828.keep K793
          have f830 := f829.keep K797
          have f831 := f830.keep K802
          have f832 := f831.keep K808
          have f833 := f832.keep K815
          have f834 := f833.keep K823
          refine own_virt X823 190 (a := b7) (argsL := [(.ref b7)]) (rest := []) at_187 f834 (fun _ hZ => notFace_of_selects (args := #[]) (mvT hZ (hw _ (List.mem_of_getElem? (i := 118) rfl)))) (rm19 l Z a0 hw n0 h823 hWd [] X823.old b7  ) (hw _ (List.mem_of_getElem? (i := 115) rfl)) (hw _ (List.mem_of_getElem? (i := 116) rfl)) (hw _ (List.mem_of_getElem? (i := 118) rfl)) (hw _ (List.mem_of_getElem? (i := 117) rfl)) (hw _ (List.mem_of_getElem? (i := 3) rfl)) (hw _ (List.mem_of_getElem? (i := 119) rfl)) (by decide) (lenOf pd__28Ljava_2flang_2fObject_3b_29Z rfl) rfl rfl rfl (W := 0) rfl (by decide) (by decide) (by decide) (by decide) all0 rfl ?_
          intro T835 h835 v835 X835 K835 hQ835
          obtain rfl := hQ835
          show OGo _ _ _ _ T835 (mkF m 190 #[.val (.int pc), .val (.long ps), .second, .val (.long pl), .second, .val (.int ph), .val (.long pt), .second, .val (.int pf), .val (.ref b1), .val (.ref b7), .val (.int (1 : Int32)), .val (.int ((1 : Int32) + ((ph &&& (2147483647 : Int32)) % (2147483647 : Int32)))), .val (.ref b708), .val (.ref b717), .val (.ref r782), .unset] [(.int (1 : Int32))])
          refine og_ifN X835 193 at_190 (XT.i0_eq_f (by decide)) rfl ?_
          refine og_iconst X835 194 (1 : Int32) at_193 rfl rfl ?_
          refine og_goto X835 198 at_194 (by decide) (by decide) ?_
          refine og_istore X835 200 #[.val (.int pc), .val (.long ps), .second, .val (.long pl), .second, .val (.int ph), .val (.long pt), .second, .val (.int pf), .val (.ref b1), .val (.ref b7), .val (.int (1 : Int32)), .val (.int ((1 : Int32) + ((ph &&& (2147483647 : Int32)) % (2147483647 : Int32)))), .val (.ref b708), .val (.ref b717), .val (.ref r782), .val (.int (1 : Int32))] at_198 rfl rfl ?_
          refine og_iload X835 202 at_200 rfl rfl ?_
          refine og_iconst X835 203 (1 : Int32) at_202 rfl rfl ?_
          refine og_icmpY X835 222 at_203 (XT.ii_ne_t hc733) (by decide) (by decide) ?_
          refine og_aload X835 224 at_222 rfl rfl rfl ?_
          refine og_nullN X835 227 at_224 rfl ?_
          refine og_aload X835 229 at_227 rfl rfl rfl ?_
          have f836 := f783.keep K793
          have f837 := f836.keep K797
          have f838 := f837.keep K802
          have f839 := f838.keep K808
          have f840 := f839.keep K815
          have f841 := f840.keep K823
          have f842 := f841.keep K835
          have f843 := f784.keep K793 nin0
          have f844 := f843.keep K797 nin0
          have f845 := f844.keep K802 nin0
          have f846 := f845.keep K808 nin0
          have f847 := f846.keep K815 nin0
          have f848 := f847.keep K823 nin0
          have f849 := f848.keep K835 nin0
          refine own_virt X835 232 (a := r782) (argsL := []) (rest := []) at_229 f842 (fun _ hZ => notFace_of_selects (args := #[]) (mvT hZ (hw _ (List.mem_of_getElem? (i := 113) rfl)))) (rm18 l Z a0 hw n0 h835 hWd [] X835.old r782 b7 f849 ) (hw _ (List.mem_of_getElem? (i := 110) rfl)) (hw _ (List.mem_of_getElem? (i := 111) rfl)) (hw _ (List.mem_of_getElem? (i := 113) rfl)) (hw _ (List.mem_of_getElem? (i := 112) rfl)) (hw _ (List.mem_of_getElem? (i := 56) rfl)) (hw _ (List.mem_of_getElem? (i := 114) rfl)) (by decide) (lenOf pd__28_29Ljava_2flang_2fString_3b rfl) rfl rfl rfl (W := 0) rfl (by decide) (by decide) (by decide) (by decide) all0 rfl ?_
          intro T850 h850 v850 X850 K850 hQ850
          obtain rfl := hQ850
          show OGo _ _ _ _ T850 (mkF m 232 #[.val (.int pc), .val (.long ps), .second, .val (.long pl), .second, .val (.int ph), .val (.long pt), .second, .val (.int pf), .val (.ref b1), .val (.ref b7), .val (.int (1 : Int32)), .val (.int ((1 : Int32) + ((ph &&& (2147483647 : Int32)) % (2147483647 : Int32)))), .val (.ref b708), .val (.ref b717), .val (.ref r782), .val (.int (1 : Int32))] [(.ref b7)])
          refine og_aload X850 234 at_232 rfl rfl rfl ?_
          have f851 := f834.keep K835
          have f852 := f851.keep K850
          refine own_virt X850 237 (a := b7) (argsL := [(.ref b7)]) (rest := []) at_234 f852 (fun _ hZ => notFace_of_selects (args := #[]) (mvT hZ (hw _ (List.mem_of_getElem? (i := 118) rfl)))) (rm19 l Z a0 hw n0 h850 hWd [] X850.old b7  ) (hw _ (List.mem_of_getElem? (i := 115) rfl)) (hw _ (List.mem_of_getElem? (i := 116) rfl)) (hw _ (List.mem_of_getElem? (i := 118) rfl)) (hw _ (List.mem_of_getElem? (i := 117) rfl)) (hw _ (List.mem_of_getElem? (i := 3) rfl)) (hw _ (List.mem_of_getElem? (i := 119) rfl)) (by decide) (lenOf pd__28Ljava_2flang_2fObject_3b_29Z rfl) rfl rfl rfl (W := 0) rfl (by decide) (by decide) (by decide) (by decide) all0 rfl ?_
          intro T853 h853 v853 X853 K853 hQ853
          obtain rfl := hQ853
          show OGo _ _ _ _ T853 (mkF m 237 #[.val (.int pc), .val (.long ps), .second, .val (.long pl), .second, .val (.int ph), .val (.long pt), .second, .val (.int pf), .val (.ref b1), .val (.ref b7), .val (.int (1 : Int32)), .val (.int ((1 : Int32) + ((ph &&& (2147483647 : Int32)) % (2147483647 : Int32)))), .val (.ref b708), .val (.ref b717), .val (.ref r782), .val (.int (1 : Int32))] [(.int (1 : Int32))])
          refine og_ifN X853 240 at_237 (XT.i0_eq_f (by decide)) rfl ?_
          refine og_aload X853 242 at_240 rfl rfl rfl ?_
          have f854 := f842.keep K850
          have f855 := f854.keep K853
          have f856 := f785.keep K793 nin0
          have f857 := f856.keep K797 nin0
          have f858 := f857.keep K802 nin0
          have f859 := f858.keep K808 nin0
          have f860 := f859.keep K815 nin0
          have f861 := f860.keep K823 nin0
          have f862 := f861.keep K835 nin0
          have f863 := f862.keep K850 nin0
          have f864 := f863.keep K853 nin0
          refine own_virt X853 245 (a := r782) (argsL := []) (rest := []) at_242 f855 (fun _ hZ => notFace_of_selects (args := #[]) (mvT hZ (hw _ (List.mem_of_getElem? (i := 93) rfl)))) (rm14 l Z a0 hw n0 h853 hWd [] X853.old r782 ps f864 ) (hw _ (List.mem_of_getElem? (i := 90) rfl)) (hw _ (List.mem_of_getElem? (i := 91) rfl)) (hw _ (List.mem_of_getElem? (i := 93) rfl)) (hw _ (List.mem_of_getElem? (i := 92) rfl)) (hw _ (List.mem_of_getElem? (i := 56) rfl)) (hw _ (List.mem_of_getElem? (i := 94) rfl)) (by decide) (lenOf pd__28_29J rfl) rfl rfl rfl (W := 0) rfl (by decide) (by decide) (by decide) (by decide) all0 rfl ?_
          intro T865 h865 v865 X865 K865 hQ865
          obtain rfl := hQ865
          show OGo _ _ _ _ T865 (mkF m 245 #[.val (.int pc), .val (.long ps), .second, .val (.long pl), .second, .val (.int ph), .val (.long pt), .second, .val (.int pf), .val (.ref b1), .val (.ref b7), .val (.int (1 : Int32)), .val (.int ((1 : Int32) + ((ph &&& (2147483647 : Int32)) % (2147483647 : Int32)))), .val (.ref b708), .val (.ref b717), .val (.ref r782), .val (.int (1 : Int32))] [(.long ps)])
          refine og_lloadN X865 246 at_245 rfl rfl ?_
          refine og_lcmp X865 247 at_246 rfl ?_
          refine og_ifN X865 250 at_247 (XT.ll_ne_f rfl) rfl ?_
          refine og_aload X865 252 at_250 rfl rfl rfl ?_
          have f866 := f855.keep K865
          have f867 := f786.keep K793 nin0
          have f868 := f867.keep K797 nin0
          have f869 := f868.keep K802 nin0
          have f870 := f869.keep K808 nin0
          have f871 := f870.keep K815 nin0
          have f872 := f871.keep K823 nin0
          have f873 := f872.keep K835 nin0
          have f874 := f873.keep K850 nin0
          have f875 := f874.keep K853 nin0
          have f876 := f875.keep K865 nin0
          refine own_virt X865 255 (a := r782) (argsL := []) (rest := []) at_252 f866 (fun _ hZ => notFace_of_selects (args := #[]) (mvT hZ (hw _ (List.mem_of_getElem? (i := 98) rfl)))) (rm15 l Z a0 hw n0 h865 hWd [] X865.old r782 pl f876 ) (hw _ (List.mem_of_getElem? (i := 95) rfl)) (hw _ (List.mem_of_getElem? (i := 96) rfl)) (hw _ (List.mem_of_getElem? (i := 98) rfl)) (hw _ (List.mem_of_getElem? (i := 97) rfl)) (hw _ (List.mem_of_getElem? (i := 56) rfl)) (hw _ (List.mem_of_getElem? (i := 99) rfl)) (by decide) (lenOf pd__28_29J rfl) rfl rfl rfl (W := 0) rfl (by decide) (by decide) (by decide) (by decide) all0 rfl ?_
          intro T877 h877 v877 X877 K877 hQ877
          obtain rfl := hQ877
          show OGo _ _ _ _ T877 (mkF m 255 #[.val (.int pc), .val (.long ps), .second, .val (.long pl), .second, .val (.int ph), .val (.long pt), .second, .val (.int pf), .val (.ref b1), .val (.ref b7), .val (.int (1 : Int32)), .val (.int ((1 : Int32) + ((ph &&& (2147483647 : Int32)) % (2147483647 : Int32)))), .val (.ref b708), .val (.ref b717), .val (.ref r782), .val (.int (1 : Int32))] [(.long pl)])
          refine og_lloadN X877 256 at_255 rfl rfl ?_
          refine og_lcmp X877 257 at_256 rfl ?_
          refine og_ifN X877 260 at_257 (XT.ll_ne_f rfl) rfl ?_
          refine og_aload X877 262 at_260 rfl rfl rfl ?_
          have f878 := f866.keep K877
          have f879 := f787.keep K793 nin0
          have f880 := f879.keep K797 nin0
          have f881 := f880.keep K802 nin0
          have f882 := f881.keep K808 nin0
          have f883 := f882.keep K815 nin0
          have f884 := f883.keep K823 nin0
          have f885 := f884.keep K835 nin0
          have f886 := f885.keep K850 nin0
          have f887 := f886.keep K853 nin0
          have f888 := f887.keep K865 nin0
          have f889 := f888.keep K877 nin0
          refine own_virt X877 265 (a := r782) (argsL := []) (rest := []) at_262 f878 (fun _ hZ => notFace_of_selects (args := #[]) (mvT hZ (hw _ (List.mem_of_getElem? (i := 88) rfl)))) (rm13 l Z a0 hw n0 h877 hWd [] X877.old r782 (((1 : Int32) + ((ph &&& (2147483647 : Int32)) % (2147483647 : Int32))) - (1 : Int32)) f889 ) (hw _ (List.mem_of_getElem? (i := 85) rfl)) (hw _ (List.mem_of_getElem? (i := 86) rfl)) (hw _ (List.mem_of_getElem? (i := 88) rfl)) (hw _ (List.mem_of_getElem? (i := 87) rfl)) (hw _ (List.mem_of_getElem? (i := 56) rfl)) (hw _ (List.mem_of_getElem? (i := 89) rfl)) (by decide) (lenOf pd__28_29I rfl) rfl rfl rfl (W := 0) rfl (by decide) (by decide) (by decide) (by decide) all0 rfl ?_
          intro T890 h890 v890 X890 K890 hQ890
          obtain rfl := hQ890
          show OGo _ _ _ _ T890 (mkF m 265 #[.val (.int pc), .val (.long ps), .second, .val (.long pl), .second, .val (.int ph), .val (.long pt), .second, .val (.int pf), .val (.ref b1), .val (.ref b7), .val (.int (1 : Int32)), .val (.int ((1 : Int32) + ((ph &&& (2147483647 : Int32)) % (2147483647 : Int32)))), .val (.ref b708), .val (.ref b717), .val (.ref r782), .val (.int (1 : Int32))] [(.int (((1 : Int32) + ((ph &&& (2147483647 : Int32)) % (2147483647 : Int32))) - (1 : Int32)))])
          refine og_iload X890 267 at_265 rfl rfl ?_
          refine og_iconst X890 268 (1 : Int32) at_267 rfl rfl ?_
          refine og_isub X890 269 at_268 rfl ?_
          refine og_icmpN X890 272 at_269 (XT.ii_ne_f rfl) rfl ?_
          refine og_aload X890 274 at_272 rfl rfl rfl ?_
          have f891 := f878.keep K890
          have f892 := f788.keep K793 nin0
          have f893 := f892.keep K797 nin0
          have f894 := f893.keep K802 nin0
          have f895 := f894.keep K808 nin0
          have f896 := f895.keep K815 nin0
          have f897 := f896.keep K823 nin0
          have f898 := f897.keep K835 nin0
          have f899 := f898.keep K850 nin0
          have f900 := f899.keep K853 nin0
          have f901 := f900.keep K865 nin0
          have f902 := f901.keep K877 nin0
          have f903 := f902.keep K890 nin0
          refine own_virt X890 277 (a := r782) (argsL := []) (rest := []) at_274 f891 (fun _ hZ => notFace_of_selects (args := #[]) (mvT hZ (hw _ (List.mem_of_getElem? (i := 103) rfl)))) (rm16 l Z a0 hw n0 h890 hWd [] X890.old r782 pt f903 ) (hw _ (List.mem_of_getElem? (i := 100) rfl)) (hw _ (List.mem_of_getElem? (i := 101) rfl)) (hw _ (List.mem_of_getElem? (i := 103) rfl)) (hw _ (List.mem_of_getElem? (i := 102) rfl)) (hw _ (List.mem_of_getElem? (i := 56) rfl)) (hw _ (List.mem_of_getElem? (i := 104) rfl)) (by decide) (lenOf pd__28_29J rfl) rfl rfl rfl (W := 0) rfl (by decide) (by decide) (by decide) (by decide) all0 rfl ?_
          intro T904 h904 v904 X904 K904 hQ904
          obtain rfl := hQ904
          show OGo _ _ _ _ T904 (mkF m 277 #[.val (.int pc), .val (.long ps), .second, .val (.long pl), .second, .val (.int ph), .val (.long pt), .second, .val (.int pf), .val (.ref b1), .val (.ref b7), .val (.int (1 : Int32)), .val (.int ((1 : Int32) + ((ph &&& (2147483647 : Int32)) % (2147483647 : Int32)))), .val (.ref b708), .val (.ref b717), .val (.ref r782), .val (.int (1 : Int32))] [(.long pt)])
          refine og_lload X904 279 at_277 rfl rfl ?_
          refine og_lcmp X904 280 at_279 rfl ?_
          refine og_ifN X904 283 at_280 (XT.ll_ne_f rfl) rfl ?_
          refine og_aload X904 285 at_283 rfl rfl rfl ?_
          have f905 := f891.keep K904
          have f906 := f789.keep K793 nin0
          have f907 := f906.keep K797 nin0
          have f908 := f907.keep K802 nin0
          have f909 := f908.keep K808 nin0
          have f910 := f909.keep K815 nin0
          have f911 := f910.keep K823 nin0
          have f912 := f911.keep K835 nin0
          have f913 := f912.keep K850 nin0
          have f914 := f913.keep K853 nin0
          have f915 := f914.keep K865 nin0
          have f916 := f915.keep K877 nin0
          have f917 := f916.keep K890 nin0
          have f918 := f917.keep K904 nin0
          refine own_virt X904 288 (a := r782) (argsL := []) (rest := []) at_285 f905 (fun _ hZ => notFace_of_selects (args := #[]) (mvT hZ (hw _ (List.mem_of_getElem? (i := 108) rfl)))) (rm17 l Z a0 hw n0 h904 hWd [] X904.old r782 (1 : Int32) f918 (by decide) ) (hw _ (List.mem_of_getElem? (i := 105) rfl)) (hw _ (List.mem_of_getElem? (i := 106) rfl)) (hw _ (List.mem_of_getElem? (i := 108) rfl)) (hw _ (List.mem_of_getElem? (i := 107) rfl)) (hw _ (List.mem_of_getElem? (i := 56) rfl)) (hw _ (List.mem_of_getElem? (i := 109) rfl)) (by decide) (lenOf pd__28_29Z rfl) rfl rfl rfl (W := 0) rfl (by decide) (by decide) (by decide) (by decide) all0 rfl ?_
          intro T919 h919 v919 X919 K919 hQ919
          obtain rfl := hQ919
          show OGo _ _ _ _ T919 (mkF m 288 #[.val (.int pc), .val (.long ps), .second, .val (.long pl), .second, .val (.int ph), .val (.long pt), .second, .val (.int pf), .val (.ref b1), .val (.ref b7), .val (.int (1 : Int32)), .val (.int ((1 : Int32) + ((ph &&& (2147483647 : Int32)) % (2147483647 : Int32)))), .val (.ref b708), .val (.ref b717), .val (.ref r782), .val (.int (1 : Int32))] [(.int (1 : Int32))])
          refine og_iload X919 290 at_288 rfl rfl ?_
          refine og_icmpN X919 293 at_290 (XT.ii_ne_f (by decide)) rfl ?_
          refine og_aload X919 295 at_293 rfl rfl rfl ?_
          have f920 := f905.keep K919
          have f921 := f790.keep K793 nin0
          have f922 := f921.keep K797 nin0
          have f923 := f922.keep K802 nin0
          have f924 := f923.keep K808 nin0
          have f925 := f924.keep K815 nin0
          have f926 := f925.keep K823 nin0
          have f927 := f926.keep K835 nin0
          have f928 := f927.keep K850 nin0
          have f929 := f928.keep K853 nin0
          have f930 := f929.keep K865 nin0
          have f931 := f930.keep K877 nin0
          have f932 := f931.keep K890 nin0
          have f933 := f932.keep K904 nin0
          have f934 := f933.keep K919 nin0
          refine own_virt X919 298 (a := r782) (argsL := []) (rest := []) at_295 f920 (fun _ hZ => notFace_of_selects (args := #[]) (mvT hZ (hw _ (List.mem_of_getElem? (i := 160) rfl)))) (rm25 l Z a0 hw n0 h919 hWd [] X919.old r782 b708 f934 ) (hw _ (List.mem_of_getElem? (i := 157) rfl)) (hw _ (List.mem_of_getElem? (i := 158) rfl)) (hw _ (List.mem_of_getElem? (i := 160) rfl)) (hw _ (List.mem_of_getElem? (i := 159) rfl)) (hw _ (List.mem_of_getElem? (i := 56) rfl)) (hw _ (List.mem_of_getElem? (i := 161) rfl)) (by decide) (lenOf pd__28_29Ljava_2futil_2fList_3b rfl) rfl rfl rfl (W := 0) rfl (by decide) (by decide) (by decide) (by decide) all0 rfl ?_
          intro T935 h935 v935 X935 K935 hQ935
          obtain rfl := hQ935
          show OGo _ _ _ _ T935 (mkF m 298 #[.val (.int pc), .val (.long ps), .second, .val (.long pl), .second, .val (.int ph), .val (.long pt), .second, .val (.int pf), .val (.ref b1), .val (.ref b7), .val (.int (1 : Int32)), .val (.int ((1 : Int32) + ((ph &&& (2147483647 : Int32)) % (2147483647 : Int32)))), .val (.ref b708), .val (.ref b717), .val (.ref r782), .val (.int (1 : Int32))] [(.ref b708)])
          have f936 := E708.keep K712
          have f937 := f936.keep K717
          have f938 := f937.keep K725
          have f939 := f938.keep K782
          have f940 := f939.keep K793
          have f941 := f940.keep K797
          have f942 := f941.keep K802
          have f943 := f942.keep K808
          have f944 := f943.keep K815
          have f945 := f944.keep K823
          have f946 := f945.keep K835
          have f947 := f946.keep K850
          have f948 := f947.keep K853
          have f949 := f948.keep K865
          have f950 := f949.keep K877
          have f951 := f950.keep K890
          have f952 := f951.keep K904
          have f953 := f952.keep K919
          have f954 := f953.keep K935
          have f955 := f715.keep K717 nin0
          have f956 := f955.keep K725 (ninS (Nat.ne_of_lt (Nat.lt_of_lt_of_le (Nat.lt_of_lt_of_le U708 K712.1) G717)) nin0)
          have f957 := f956.keep K782 nin0
          have f958 := f957.keep K793 nin0
          have f959 := f958.keep K797 nin0
          have f960 := f959.keep K802 nin0
          have f961 := f960.keep K808 nin0
          have f962 := f961.keep K815 nin0
          have f963 := f962.keep K823 nin0
          have f964 := f963.keep K835 nin0
          have f965 := f964.keep K850 nin0
          have f966 := f965.keep K853 nin0
          have f967 := f966.keep K865 nin0
          have f968 := f967.keep K877 nin0
          have f969 := f968.keep K890 nin0
          have f970 := f969.keep K904 nin0
          have f971 := f970.keep K919 nin0
          have f972 := f971.keep K935 nin0
          refine own_face X935 303 (a := b708) (argsL := []) (rest := []) at_298 f954 (rm26 l Z a0 hw n0 h935 hWd [] X935.old b708 (0 : Int32) f972 ) (hw _ (List.mem_of_getElem? (i := 162) rfl)) (hw _ (List.mem_of_getElem? (i := 163) rfl)) (hw _ (List.mem_of_getElem? (i := 164) rfl)) (hw _ (List.mem_of_getElem? (i := 165) rfl)) (hw _ (List.mem_of_getElem? (i := 166) rfl)) (hw _ (List.mem_of_getElem? (i := 167) rfl)) (hw _ (List.mem_of_getElem? (i := 168) rfl)) (hw _ (List.mem_of_getElem? (i := 128) rfl)) (hw _ (List.mem_of_getElem? (i := 32) rfl)) (hw _ (List.mem_of_getElem? (i := 169) rfl)) (by decide) (lenOf pd__28_29I rfl) rfl rfl rfl (W := 0) rfl (by decide) (by decide) (by decide) (by decide) all0 rfl ?_
          intro T973 h973 v973 X973 K973 hQ973
          obtain rfl := hQ973
          show OGo _ _ _ _ T973 (mkF m 303 #[.val (.int pc), .val (.long ps), .second, .val (.long pl), .second, .val (.int ph), .val (.long pt), .second, .val (.int pf), .val (.ref b1), .val (.ref b7), .val (.int (1 : Int32)), .val (.int ((1 : Int32) + ((ph &&& (2147483647 : Int32)) % (2147483647 : Int32)))), .val (.ref b708), .val (.ref b717), .val (.ref r782), .val (.int (1 : Int32))] [(.int (0 : Int32))])
          refine og_aload X973 305 at_303 rfl rfl rfl ?_
          have f974 := f954.keep K973
          have f975 := f972.keep K973 nin0
          refine own_face X973 310 (a := b708) (argsL := []) (rest := [(.int (0 : Int32))]) at_305 f974 (rm26 l Z a0 hw n0 h973 hWd [] X973.old b708 (0 : Int32) f975 ) (hw _ (List.mem_of_getElem? (i := 162) rfl)) (hw _ (List.mem_of_getElem? (i := 163) rfl)) (hw _ (List.mem_of_getElem? (i := 164) rfl)) (hw _ (List.mem_of_getElem? (i := 165) rfl)) (hw _ (List.mem_of_getElem? (i := 166) rfl)) (hw _ (List.mem_of_getElem? (i := 167) rfl)) (hw _ (List.mem_of_getElem? (i := 168) rfl)) (hw _ (List.mem_of_getElem? (i := 128) rfl)) (hw _ (List.mem_of_getElem? (i := 32) rfl)) (hw _ (List.mem_of_getElem? (i := 169) rfl)) (by decide) (lenOf pd__28_29I rfl) rfl rfl rfl (W := 1) rfl (by decide) (by decide) (by decide) (by decide) all0 rfl ?_
          intro T976 h976 v976 X976 K976 hQ976
          obtain rfl := hQ976
          show OGo _ _ _ _ T976 (mkF m 310 #[.val (.int pc), .val (.long ps), .second, .val (.long pl), .second, .val (.int ph), .val (.long pt), .second, .val (.int pf), .val (.ref b1), .val (.ref b7), .val (.int (1 : Int32)), .val (.int ((1 : Int32) + ((ph &&& (2147483647 : Int32)) % (2147483647 : Int32)))), .val (.ref b708), .val (.ref b717), .val (.ref r782), .val (.int (1 : Int32))] [(.int (0 : Int32)), (.int (0 : Int32))])
          refine og_icmpN X976 313 at_310 (XT.ii_ne_f (by decide)) rfl ?_
          refine og_aload X976 315 at_313 rfl rfl rfl ?_
          have f977 := f920.keep K935
          have f978 := f977.keep K973
          have f979 := f978.keep K976
          have f980 := f934.keep K935 nin0
          have f981 := f980.keep K973 nin0
          have f982 := f981.keep K976 nin0
          refine own_virt X976 318 (a := r782) (argsL := []) (rest := []) at_315 f979 (fun _ hZ => notFace_of_selects (args := #[]) (mvT hZ (hw _ (List.mem_of_getElem? (i := 160) rfl)))) (rm25 l Z a0 hw n0 h976 hWd [] X976.old r782 b708 f982 ) (hw _ (List.mem_of_getElem? (i := 157) rfl)) (hw _ (List.mem_of_getElem? (i := 158) rfl)) (hw _ (List.mem_of_getElem? (i := 160) rfl)) (hw _ (List.mem_of_getElem? (i := 159) rfl)) (hw _ (List.mem_of_getElem? (i := 56) rfl)) (hw _ (List.mem_of_getElem? (i := 161) rfl)) (by decide) (lenOf pd__28_29Ljava_2futil_2fList_3b rfl) rfl rfl rfl (W := 0) rfl (by decide) (by decide) (by decide) (by decide) all0 rfl ?_
          intro T983 h983 v983 X983 K983 hQ983
          obtain rfl := hQ983
          show OGo _ _ _ _ T983 (mkF m 318 #[.val (.int pc), .val (.long ps), .second, .val (.long pl), .second, .val (.int ph), .val (.long pt), .second, .val (.int pf), .val (.ref b1), .val (.ref b7), .val (.int (1 : Int32)), .val (.int ((1 : Int32) + ((ph &&& (2147483647 : Int32)) % (2147483647 : Int32)))), .val (.ref b708), .val (.ref b717), .val (.ref r782), .val (.int (1 : Int32))] [(.ref b708)])
          refine og_aload X983 320 at_318 rfl rfl rfl ?_
          have f984 := f974.keep K976
          have f985 := f984.keep K983
          refine own_face X983 325 (a := b708) (argsL := [(.ref b708)]) (rest := []) at_320 f985 (rm27 l Z a0 hw n0 h983 hWd [] X983.old b708  ) (hw _ (List.mem_of_getElem? (i := 170) rfl)) (hw _ (List.mem_of_getElem? (i := 171) rfl)) (hw _ (List.mem_of_getElem? (i := 172) rfl)) (hw _ (List.mem_of_getElem? (i := 173) rfl)) (hw _ (List.mem_of_getElem? (i := 174) rfl)) (hw _ (List.mem_of_getElem? (i := 175) rfl)) (hw _ (List.mem_of_getElem? (i := 176) rfl)) (hw _ (List.mem_of_getElem? (i := 128) rfl)) (hw _ (List.mem_of_getElem? (i := 32) rfl)) (hw _ (List.mem_of_getElem? (i := 177) rfl)) (by decide) (lenOf pd__28Ljava_2flang_2fObject_3b_29Z rfl) rfl rfl rfl (W := 0) rfl (by decide) (by decide) (by decide) (by decide) all0 rfl ?_
          intro T986 h986 v986 X986 K986 hQ986
          obtain rfl := hQ986
          show OGo _ _ _ _ T986 (mkF m 325 #[.val (.int pc), .val (.long ps), .second, .val (.long pl), .second, .val (.int ph), .val (.long pt), .second, .val (.int pf), .val (.ref b1), .val (.ref b7), .val (.int (1 : Int32)), .val (.int ((1 : Int32) + ((ph &&& (2147483647 : Int32)) % (2147483647 : Int32)))), .val (.ref b708), .val (.ref b717), .val (.ref r782), .val (.int (1 : Int32))] [(.int (1 : Int32))])
          refine og_ifN X986 328 at_325 (XT.i0_eq_f (by decide)) rfl ?_
          refine og_iload X986 330 at_328 rfl rfl ?_
          refine og_ifN X986 333 at_330 (XT.i0_eq_f (by decide)) rfl ?_
          refine og_iconst X986 334 (1 : Int32) at_333 rfl rfl ?_
          refine og_goto X986 338 at_334 (by decide) (by decide) ?_
          refine own_retZ X986 at_338 hret rfl (by decide) (by decide) ?_
          exact rfl
      · -- not
        refine og_ifN X712 92 at_89 (XT.i0_eq_f hc716) rfl ?_
        refine og_aload X712 94 at_92 rfl rfl rfl ?_
        refine og_aconstNull X712 95 at_94 rfl ?_
        have f987 := E708.keep K712
        refine own_face X712 100 (a := b708) (argsL := [.null]) (rest := []) at_95 f987 (rm20 l Z a0 hw n0 h712 hWd [] X712.old b708 (0 : Int32) f987 f713 f714 f715 (own_svb X712 (List.mem_of_getElem? (i := 0) rfl))) (hw _ (List.mem_of_getElem? (i := 121) rfl)) (hw _ (List.mem_of_getElem? (i := 122) rfl)) (hw _ (List.mem_of_getElem? (i := 123) rfl)) (hw _ (List.mem_of_getElem? (i := 124) rfl)) (hw _ (List.mem_of_getElem? (i := 125) rfl)) (hw _ (List.mem_of_getElem? (i := 126) rfl)) (hw _ (List.mem_of_getElem? (i := 127) rfl)) (hw _ (List.mem_of_getElem? (i := 128) rfl)) (hw _ (List.mem_of_getElem? (i := 32) rfl)) (hw _ (List.mem_of_getElem? (i := 129) rfl)) (by decide) (lenOf pd__28Ljava_2flang_2fObject_3b_29Z rfl) rfl rfl rfl (W := 0) rfl (by decide) (by decide) (by decide) (by decide) (allS (List.mem_of_getElem? (i := 0) rfl) all0) rfl ?_
        intro T988 h988 v988 X988 K988 hQ988
        obtain ⟨rfl, f989⟩ := hQ988
        show OGo _ _ _ _ T988 (mkF m 100 #[.val (.int pc), .val (.long ps), .second, .val (.long pl), .second, .val (.int ph), .val (.long pt), .second, .val (.int pf), .val (.ref b1), .val (.ref b7), .val (.int (1 : Int32)), .val (.int ((1 : Int32) + ((ph &&& (2147483647 : Int32)) % (2147483647 : Int32)))), .val (.ref b708), .unset, .unset, .unset] [(.int (1 : Int32))])
        refine og_pop X988 101 at_100 rfl rfl ?_
        refine own_new X988 104 at_101 (hw _ (List.mem_of_getElem? (i := 54) rfl)) (hw _ (List.mem_of_getElem? (i := 55) rfl)) (hw _ (List.mem_of_getElem? (i := 56) rfl)) (by decide) (by decide) rfl ?_
        intro T990 h990 b990 X990 K990 G990 U990 E990 D990
        have f991 : Fld Z h990 b990 "com/example/synlock/synlock/Holds$Grant" "owner" "Ljava/lang/String;" .null := D990 (Or.inr (hw _ (List.mem_of_getElem? (i := 67) rfl))) (ty := (.object "java/lang/String")) (by decide)
        have f992 : Fld Z h990 b990 "com/example/synlock/synlock/Holds$Grant" "sentNanos" "J" (.long (0 : Int64)) := D990 (Or.inr (hw _ (List.mem_of_getElem? (i := 69) rfl))) (ty := .long) (by decide)
        have f993 : Fld Z h990 b990 "com/example/synlock/synlock/Holds$Grant" "leaseNanos" "J" (.long (0 : Int64)) := D990 (Or.inr (hw _ (List.mem_of_getElem? (i := 71) rfl))) (ty := .long) (by decide)
        have f994 : Fld Z h990 b990 "com/example/synlock/synlock/Holds$Grant" "holds" "I" (.int (0 : Int32)) := D990 (Or.inr (hw _ (List.mem_of_getElem? (i := 73) rfl))) (ty := .int) (by decide)
        have f995 : Fld Z h990 b990 "com/example/synlock/synlock/Holds$Grant" "token" "J" (.long (0 : Int64)) := D990 (Or.inr (hw _ (List.mem_of_getElem? (i := 75) rfl))) (ty := .long) (by decide)
        have f996 : Fld Z h990 b990 "com/example/synlock/synlock/Holds$Grant" "renewed" "Z" (.int (0 : Int32)) := D990 (Or.inr (hw _ (List.mem_of_getElem? (i := 77) rfl))) (ty := .boolean) (by decide)
        have f997 : Fld Z h990 b990 "com/example/synlock/synlock/Holds$Grant" "listeners" "Ljava/util/List;" .null := D990 (Or.inr (hw _ (List.mem_of_getElem? (i := 79) rfl))) (ty := (.object "java/util/List")) (by decide)
        refine og_dup X990 105 at_104 rfl rfl ?_
        refine og_aload X990 107 at_105 rfl rfl rfl ?_
        refine og_lloadN X990 108 at_107 rfl rfl ?_
        refine og_lloadN X990 109 at_108 rfl rfl ?_
        refine og_iload X990 111 at_109 rfl rfl ?_
        refine og_lload X990 113 at_111 rfl rfl ?_
        refine og_iload X990 115 at_113 rfl rfl ?_
        refine og_aload X990 117 at_115 rfl rfl rfl ?_
        refine own_spec X990 120 (a := b990) (argsL := [(.ref b7), (.long ps), (.long pl), (.int ((1 : Int32) + ((ph &&& (2147483647 : Int32)) % (2147483647 : Int32)))), (.long pt), (.int (1 : Int32)), (.ref b708)]) (rest := [(.ref b990)]) at_117 rfl (rm10 l Z a0 hw n0 h990 hWd [] X990.old b990 b7 ps pl ((1 : Int32) + ((ph &&& (2147483647 : Int32)) % (2147483647 : Int32))) pt (1 : Int32) b708 E990 f991 f992 f993 f994 f995 f996 f997 (by decide) (own_svb X990 (List.mem_of_getElem? (i := 0) rfl))) (hw _ (List.mem_of_getElem? (i := 57) rfl)) (hw _ (List.mem_of_getElem? (i := 58) rfl)) (hw _ (List.mem_of_getElem? (i := 56) rfl)) (hw _ (List.mem_of_getElem? (i := 59) rfl)) (by decide) (lenOf pd__28Ljava_2flang_2fString_3bJJIJZLjava_2futil_2fList_3b_29V rfl) rfl rfl rfl (W := 1) rfl (by decide) (by decide) (by decide) (by decide) (allS (List.mem_of_getElem? (i := 0) rfl) all0) rfl ?_
        intro T998 h998 v998 X998 K998 hQ998
        obtain ⟨rfl, f999, f1000, f1001, f1002, f1003, f1004, f1005⟩ := hQ998
        show OGo _ _ _ _ T998 (mkF m 120 #[.val (.int pc), .val (.long ps), .second, .val (.long pl), .second, .val (.int ph), .val (.long pt), .second, .val (.int pf), .val (.ref b1), .val (.ref b7), .val (.int (1 : Int32)), .val (.int ((1 : Int32) + ((ph &&& (2147483647 : Int32)) % (2147483647 : Int32)))), .val (.ref b708), .unset, .unset, .unset] [(.ref b990)])
        refine og_astore X998 122 #[.val (.int pc), .val (.long ps), .second, .val (.long pl), .second, .val (.int ph), .val (.long pt), .second, .val (.int pf), .val (.ref b1), .val (.ref b7), .val (.int (1 : Int32)), .val (.int ((1 : Int32) + ((ph &&& (2147483647 : Int32)) % (2147483647 : Int32)))), .val (.ref b708), .val (.ref b990), .unset, .unset] at_120 rfl rfl rfl ?_
        refine og_aload X998 124 at_122 rfl rfl rfl ?_
        by_cases hc1006 : ((1 : Int32) + ((ph &&& (2147483647 : Int32)) % (2147483647 : Int32))) = (1 : Int32)
        · -- ((1 : Int32) + ((ph &&& (2147483647 : Int32)) % (2147483647 : Int32))) = (1 : Int32)
          have f1007 := E990.keep K998
          refine own_virt X998 127 (a := b990) (argsL := []) (rest := []) at_124 f1007 (fun _ hZ => notFace_of_selects (args := #[]) (mvT hZ (hw _ (List.mem_of_getElem? (i := 83) rfl)))) (rm_rel0 l Z a0 hw n0 h998 hWd [] X998.old b990 ((1 : Int32) + ((ph &&& (2147483647 : Int32)) % (2147483647 : Int32))) f1002 hc1006 ) (hw _ (List.mem_of_getElem? (i := 80) rfl)) (hw _ (List.mem_of_getElem? (i := 81) rfl)) (hw _ (List.mem_of_getElem? (i := 83) rfl)) (hw _ (List.mem_of_getElem? (i := 82) rfl)) (hw _ (List.mem_of_getElem? (i := 56) rfl)) (hw _ (List.mem_of_getElem? (i := 84) rfl)) (by decide) (lenOf pd__28_29Lcom_2fexample_2fsynlock_2fsynlock_2fHolds_24Grant_3b rfl) rfl rfl rfl (W := 0) rfl (by decide) (by decide) (by decide) (by decide) all0 rfl ?_
          intro T1008 h1008 v1008 X1008 K1008 hQ1008
          obtain rfl := hQ1008
          show OGo _ _ _ _ T1008 (mkF m 127 #[.val (.int pc), .val (.long ps), .second, .val (.long pl), .second, .val (.int ph), .val (.long pt), .second, .val (.int pf), .val (.ref b1), .val (.ref b7), .val (.int (1 : Int32)), .val (.int ((1 : Int32) + ((ph &&& (2147483647 : Int32)) % (2147483647 : Int32)))), .val (.ref b708), .val (.ref b990), .unset, .unset] [.null])
          refine og_astore X1008 129 #[.val (.int pc), .val (.long ps), .second, .val (.long pl), .second, .val (.int ph), .val (.long pt), .second, .val (.int pf), .val (.ref b1), .val (.ref b7), .val (.int (1 : Int32)), .val (.int ((1 : Int32) + ((ph &&& (2147483647 : Int32)) % (2147483647 : Int32)))), .val (.ref b708), .val (.ref b990), .val .null, .unset] at_127 rfl rfl rfl ?_
          refine og_aload X1008 131 at_129 rfl rfl rfl ?_
          have f1009 := f1007.keep K1008
          have f1010 := f1002.keep K1008 nin0
          refine own_virt X1008 134 (a := b990) (argsL := []) (rest := []) at_131 f1009 (fun _ hZ => notFace_of_selects (args := #[]) (mvT hZ (hw _ (List.mem_of_getElem? (i := 88) rfl)))) (rm13 l Z a0 hw n0 h1008 hWd [] X1008.old b990 ((1 : Int32) + ((ph &&& (2147483647 : Int32)) % (2147483647 : Int32))) f1010 ) (hw _ (List.mem_of_getElem? (i := 85) rfl)) (hw _ (List.mem_of_getElem? (i := 86) rfl)) (hw _ (List.mem_of_getElem? (i := 88) rfl)) (hw _ (List.mem_of_getElem? (i := 87) rfl)) (hw _ (List.mem_of_getElem? (i := 56) rfl)) (hw _ (List.mem_of_getElem? (i := 89) rfl)) (by decide) (lenOf pd__28_29I rfl) rfl rfl rfl (W := 0) rfl (by decide) (by decide) (by decide) (by decide) all0 rfl ?_
          intro T1011 h1011 v1011 X1011 K1011 hQ1011
          obtain rfl := hQ1011
          show OGo _ _ _ _ T1011 (mkF m 134 #[.val (.int pc), .val (.long ps), .second, .val (.long pl), .second, .val (.int ph), .val (.long pt), .second, .val (.int pf), .val (.ref b1), .val (.ref b7), .val (.int (1 : Int32)), .val (.int ((1 : Int32) + ((ph &&& (2147483647 : Int32)) % (2147483647 : Int32)))), .val (.ref b708), .val (.ref b990), .val .null, .unset] [(.int ((1 : Int32) + ((ph &&& (2147483647 : Int32)) % (2147483647 : Int32))))])
          refine og_iload X1011 136 at_134 rfl rfl ?_
          refine og_icmpN X1011 139 at_136 (XT.ii_ne_f rfl) rfl ?_
          refine og_aload X1011 141 at_139 rfl rfl rfl ?_
          have f1012 := f1009.keep K1011
          have f1013 := f1000.keep K1008 nin0
          have f1014 := f1013.keep K1011 nin0
          refine own_virt X1011 144 (a := b990) (argsL := []) (rest := []) at_141 f1012 (fun _ hZ => notFace_of_selects (args := #[]) (mvT hZ (hw _ (List.mem_of_getElem? (i := 93) rfl)))) (rm14 l Z a0 hw n0 h1011 hWd [] X1011.old b990 ps f1014 ) (hw _ (List.mem_of_getElem? (i := 90) rfl)) (hw _ (List.mem_of_getElem? (i := 91) rfl)) (hw _ (List.mem_of_getElem? (i := 93) rfl)) (hw _ (List.mem_of_getElem? (i := 92) rfl)) (hw _ (List.mem_of_getElem? (i := 56) rfl)) (hw _ (List.mem_of_getElem? (i := 94) rfl)) (by decide) (lenOf pd__28_29J rfl) rfl rfl rfl (W := 0) rfl (by decide) (by decide) (by decide) (by decide) all0 rfl ?_
          intro T1015 h1015 v1015 X1015 K1015 hQ1015
          obtain rfl := hQ1015
          show OGo _ _ _ _ T1015 (mkF m 144 #[.val (.int pc), .val (.long ps), .second, .val (.long pl), .second, .val (.int ph), .val (.long pt), .second, .val (.int pf), .val (.ref b1), .val (.ref b7), .val (.int (1 : Int32)), .val (.int ((1 : Int32) + ((ph &&& (2147483647 : Int32)) % (2147483647 : Int32)))), .val (.ref b708), .val (.ref b990), .val .null, .unset] [(.long ps)])
          refine og_lloadN X1015 145 at_144 rfl rfl ?_
          refine og_lcmp X1015 146 at_145 rfl ?_
          refine og_ifN X1015 149 at_146 (XT.ll_ne_f rfl) rfl ?_
          refine og_aload X1015 151 at_149 rfl rfl rfl ?_
          have f1016 := f1012.keep K1015
          have f1017 := f1001.keep K1008 nin0
          have f1018 := f1017.keep K1011 nin0
          have f1019 := f1018.keep K1015 nin0
          refine own_virt X1015 154 (a := b990) (argsL := []) (rest := []) at_151 f1016 (fun _ hZ => notFace_of_selects (args := #[]) (mvT hZ (hw _ (List.mem_of_getElem? (i := 98) rfl)))) (rm15 l Z a0 hw n0 h1015 hWd [] X1015.old b990 pl f1019 ) (hw _ (List.mem_of_getElem? (i := 95) rfl)) (hw _ (List.mem_of_getElem? (i := 96) rfl)) (hw _ (List.mem_of_getElem? (i := 98) rfl)) (hw _ (List.mem_of_getElem? (i := 97) rfl)) (hw _ (List.mem_of_getElem? (i := 56) rfl)) (hw _ (List.mem_of_getElem? (i := 99) rfl)) (by decide) (lenOf pd__28_29J rfl) rfl rfl rfl (W := 0) rfl (by decide) (by decide) (by decide) (by decide) all0 rfl ?_
          intro T1020 h1020 v1020 X1020 K1020 hQ1020
          obtain rfl := hQ1020
          show OGo _ _ _ _ T1020 (mkF m 154 #[.val (.int pc), .val (.long ps), .second, .val (.long pl), .second, .val (.int ph), .val (.long pt), .second, .val (.int pf), .val (.ref b1), .val (.ref b7), .val (.int (1 : Int32)), .val (.int ((1 : Int32) + ((ph &&& (2147483647 : Int32)) % (2147483647 : Int32)))), .val (.ref b708), .val (.ref b990), .val .null, .unset] [(.long pl)])
          refine og_lloadN X1020 155 at_154 rfl rfl ?_
          refine og_lcmp X1020 156 at_155 rfl ?_
          refine og_ifN X1020 159 at_156 (XT.ll_ne_f rfl) rfl ?_
          refine og_aload X1020 161 at_159 rfl rfl rfl ?_
          have f1021 := f1016.keep K1020
          have f1022 := f1003.keep K1008 nin0
          have f1023 := f1022.keep K1011 nin0
          have f1024 := f1023.keep K1015 nin0
          have f1025 := f1024.keep K1020 nin0
          refine own_virt X1020 164 (a := b990) (argsL := []) (rest := []) at_161 f1021 (fun _ hZ => notFace_of_selects (args := #[]) (mvT hZ (hw _ (List.mem_of_getElem? (i := 103) rfl)))) (rm16 l Z a0 hw n0 h1020 hWd [] X1020.old b990 pt f1025 ) (hw _ (List.mem_of_getElem? (i := 100) rfl)) (hw _ (List.mem_of_getElem? (i := 101) rfl)) (hw _ (List.mem_of_getElem? (i := 103) rfl)) (hw _ (List.mem_of_getElem? (i := 102) rfl)) (hw _ (List.mem_of_getElem? (i := 56) rfl)) (hw _ (List.mem_of_getElem? (i := 104) rfl)) (by decide) (lenOf pd__28_29J rfl) rfl rfl rfl (W := 0) rfl (by decide) (by decide) (by decide) (by decide) all0 rfl ?_
          intro T1026 h1026 v1026 X1026 K1026 hQ1026
          obtain rfl := hQ1026
          show OGo _ _ _ _ T1026 (mkF m 164 #[.val (.int pc), .val (.long ps), .second, .val (.long pl), .second, .val (.int ph), .val (.long pt), .second, .val (.int pf), .val (.ref b1), .val (.ref b7), .val (.int (1 : Int32)), .val (.int ((1 : Int32) + ((ph &&& (2147483647 : Int32)) % (2147483647 : Int32)))), .val (.ref b708), .val (.ref b990), .val .null, .unset] [(.long pt)])
          refine og_lload X1026 166 at_164 rfl rfl ?_
          refine og_lcmp X1026 167 at_166 rfl ?_
          refine og_ifN X1026 170 at_167 (XT.ll_ne_f rfl) rfl ?_
          refine og_aload X1026 172 at_170 rfl rfl rfl ?_
          have f1027 := f1021.keep K1026
          have f1028 := f1004.keep K1008 nin0
          have f1029 := f1028.keep K1011 nin0
          have f1030 := f1029.keep K1015 nin0
          have f1031 := f1030.keep K1020 nin0
          have f1032 := f1031.keep K1026 nin0
          refine own_virt X1026 175 (a := b990) (argsL := []) (rest := []) at_172 f1027 (fun _ hZ => notFace_of_selects (args := #[]) (mvT hZ (hw _ (List.mem_of_getElem? (i := 108) rfl)))) (rm17 l Z a0 hw n0 h1026 hWd [] X1026.old b990 (1 : Int32) f1032 (by decide) ) (hw _ (List.mem_of_getElem? (i := 105) rfl)) (hw _ (List.mem_of_getElem? (i := 106) rfl)) (hw _ (List.mem_of_getElem? (i := 108) rfl)) (hw _ (List.mem_of_getElem? (i := 107) rfl)) (hw _ (List.mem_of_getElem? (i := 56) rfl)) (hw _ (List.mem_of_getElem? (i := 109) rfl)) (by decide) (lenOf pd__28_29Z rfl) rfl rfl rfl (W := 0) rfl (by decide) (by decide) (by decide) (by decide) all0 rfl ?_
          intro T1033 h1033 v1033 X1033 K1033 hQ1033
          obtain rfl := hQ1033
          show OGo _ _ _ _ T1033 (mkF m 175 #[.val (.int pc), .val (.long ps), .second, .val (.long pl), .second, .val (.int ph), .val (.long pt), .second, .val (.int pf), .val (.ref b1), .val (.ref b7), .val (.int (1 : Int32)), .val (.int ((1 : Int32) + ((ph &&& (2147483647 : Int32)) % (2147483647 : Int32)))), .val (.ref b708), .val (.ref b990), .val .null, .unset] [(.int (1 : Int32))])
          refine og_iload X1033 177 at_175 rfl rfl ?_
          refine og_icmpN X1033 180 at_177 (XT.ii_ne_f (by decide)) rfl ?_
          refine og_aload X1033 182 at_180 rfl rfl rfl ?_
          have f1034 := f1027.keep K1033
          have f1035 := f999.keep K1008 nin0
          have f1036 := f1035.keep K1011 nin0
          have f1037 := f1036.keep K1015 nin0
          have f1038 := f1037.keep K1020 nin0
          have f1039 := f1038.keep K1026 nin0
          have f1040 := f1039.keep K1033 nin0
          refine own_virt X1033 185 (a := b990) (argsL := []) (rest := []) at_182 f1034 (fun _ hZ => notFace_of_selects (args := #[]) (mvT hZ (hw _ (List.mem_of_getElem? (i := 113) rfl)))) (rm18 l Z a0 hw n0 h1033 hWd [] X1033.old b990 b7 f1040 ) (hw _ (List.mem_of_getElem? (i := 110) rfl)) (hw _ (List.mem_of_getElem? (i := 111) rfl)) (hw _ (List.mem_of_getElem? (i := 113) rfl)) (hw _ (List.mem_of_getElem? (i := 112) rfl)) (hw _ (List.mem_of_getElem? (i := 56) rfl)) (hw _ (List.mem_of_getElem? (i := 114) rfl)) (by decide) (lenOf pd__28_29Ljava_2flang_2fString_3b rfl) rfl rfl rfl (W := 0) rfl (by decide) (by decide) (by decide) (by decide) all0 rfl ?_
          intro T1041 h1041 v1041 X1041 K1041 hQ1041
          obtain rfl := hQ1041
          show OGo _ _ _ _ T1041 (mkF m 185 #[.val (.int pc), .val (.long ps), .second, .val (.long pl), .second, .val (.int ph), .val (.long pt), .second, .val (.int pf), .val (.ref b1), .val (.ref b7), .val (.int (1 : Int32)), .val (.int ((1 : Int32) + ((ph &&& (2147483647 : Int32)) % (2147483647 : Int32)))), .val (.ref b708), .val (.ref b990), .val .null, .unset] [(.ref b7)])
          refine og_aload X1041 187 at_185 rfl rfl rfl ?_
          have f1042 := E11.keep K708
          have f1043 := f1042.keep K712
          have f1044 := f1043.keep K988
          have f1045 := f1044.keep K990
          have f1046 := f1045.keep K998
          have f1047 := f1046.keep K1008
          have f1048 := f1047.keep K1011
          have f1049 := f1048.keep K1015
          have f1050 := f1049.keep K1020
          have f1051 := f1050.keep K1026
          have f1052 := f1051.keep K1033
          have f1053 := f1052.keep K1041
          refine own_virt X1041 190 (a := b7) (argsL := [(.ref b7)]) (rest := []) at_187 f1053 (fun _ hZ => notFace_of_selects (args := #[]) (mvT hZ (hw _ (List.mem_of_getElem? (i := 118) rfl)))) (rm19 l Z a0 hw n0 h1041 hWd [] X1041.old b7  ) (hw _ (List.mem_of_getElem? (i := 115) rfl)) (hw _ (List.mem_of_getElem? (i := 116) rfl)) (hw _ (List.mem_of_getElem? (i := 118) rfl)) (hw _ (List.mem_of_getElem? (i := 117) rfl)) (hw _ (List.mem_of_getElem? (i := 3) rfl)) (hw _ (List.mem_of_getElem? (i := 119) rfl)) (by decide) (lenOf pd__28Ljava_2flang_2fObject_3b_29Z rfl) rfl rfl rfl (W := 0) rfl (by decide) (by decide) (by decide) (by decide) all0 rfl ?_
          intro T1054 h1054 v1054 X1054 K1054 hQ1054
          obtain rfl := hQ1054
          show OGo _ _ _ _ T1054 (mkF m 190 #[.val (.int pc), .val (.long ps), .second, .val (.long pl), .second, .val (.int ph), .val (.long pt), .second, .val (.int pf), .val (.ref b1), .val (.ref b7), .val (.int (1 : Int32)), .val (.int ((1 : Int32) + ((ph &&& (2147483647 : Int32)) % (2147483647 : Int32)))), .val (.ref b708), .val (.ref b990), .val .null, .unset] [(.int (1 : Int32))])
          refine og_ifN X1054 193 at_190 (XT.i0_eq_f (by decide)) rfl ?_
          refine og_iconst X1054 194 (1 : Int32) at_193 rfl rfl ?_
          refine og_goto X1054 198 at_194 (by decide) (by decide) ?_
          refine og_istore X1054 200 #[.val (.int pc), .val (.long ps), .second, .val (.long pl), .second, .val (.int ph), .val (.long pt), .second, .val (.int pf), .val (.ref b1), .val (.ref b7), .val (.int (1 : Int32)), .val (.int ((1 : Int32) + ((ph &&& (2147483647 : Int32)) % (2147483647 : Int32)))), .val (.ref b708), .val (.ref b990), .val .null, .val (.int (1 : Int32))] at_198 rfl rfl ?_
          refine og_iload X1054 202 at_200 rfl rfl ?_
          refine og_iconst X1054 203 (1 : Int32) at_202 rfl rfl ?_
          refine og_icmpN X1054 206 at_203 (XT.ii_ne_f hc1006) rfl ?_
          refine og_aload X1054 208 at_206 rfl rfl rfl ?_
          refine og_nonnullN X1054 211 at_208 rfl ?_
          refine og_iload X1054 213 at_211 rfl rfl ?_
          refine og_ifN X1054 216 at_213 (XT.i0_eq_f (by decide)) rfl ?_
          refine og_iconst X1054 217 (1 : Int32) at_216 rfl rfl ?_
          refine og_goto X1054 221 at_217 (by decide) (by decide) ?_
          refine own_retZ X1054 at_221 hret rfl (by decide) (by decide) ?_
          exact rfl
        · -- not
          have f1055 := E990.keep K998
          refine own_virt X998 127 (a := b990) (argsL := []) (rest := []) at_124 f1055 (fun _ hZ => notFace_of_selects (args := #[]) (mvT hZ (hw _ (List.mem_of_getElem? (i := 83) rfl)))) (rm_rel1 l Z a0 hw n0 h998 hWd [] X998.old b990 b7 ps pl ((1 : Int32) + ((ph &&& (2147483647 : Int32)) % (2147483647 : Int32))) pt (1 : Int32) b708 f999 f1000 f1001 f1002 f1003 f1004 f1005 hc1006 (by decide) ) (hw _ (List.mem_of_getElem? (i := 80) rfl)) (hw _ (List.mem_of_getElem? (i := 81) rfl)) (hw _ (List.mem_of_getElem? (i := 83) rfl)) (hw _ (List.mem_of_getElem? (i := 82) rfl)) (hw _ (List.mem_of_getElem? (i := 56) rfl)) (hw _ (List.mem_of_getElem? (i := 84) rfl)) (by decide) (lenOf pd__28_29Lcom_2fexample_2fsynlock_2fsynlock_2fHolds_24Grant_3b rfl) rfl rfl rfl (W := 0) rfl (by decide) (by decide) (by decide) (by decide) all0 rfl ?_
          intro T1056 h1056 v1056 X1056 K1056 hQ1056
          obtain ⟨r1056, rfl, ge_r1056, f1057, f1058, f1059, f1060, f1061, f1062, f1063, f1064⟩ := hQ1056
          show OGo _ _ _ _ T1056 (mkF m 127 #[.val (.int pc), .val (.long ps), .second, .val (.long pl), .second, .val (.int ph), .val (.long pt), .second, .val (.int pf), .val (.ref b1), .val (.ref b7), .val (.int (1 : Int32)), .val (.int ((1 : Int32) + ((ph &&& (2147483647 : Int32)) % (2147483647 : Int32)))), .val (.ref b708), .val (.ref b990), .unset, .unset] [(.ref r1056)])
          refine og_astore X1056 129 #[.val (.int pc), .val (.long ps), .second, .val (.long pl), .second, .val (.int ph), .val (.long pt), .second, .val (.int pf), .val (.ref b1), .val (.ref b7), .val (.int (1 : Int32)), .val (.int ((1 : Int32) + ((ph &&& (2147483647 : Int32)) % (2147483647 : Int32)))), .val (.ref b708), .val (.ref b990), .val (.ref r1056), .unset] at_127 rfl rfl rfl ?_
          refine og_aload X1056 131 at_129 rfl rfl rfl ?_
          have f1065 := f1055.keep K1056
          have f1066 := f1002.keep K1056 nin0
          refine own_virt X1056 134 (a := b990) (argsL := []) (rest := []) at_131 f1065 (fun _ hZ => notFace_of_selects (args := #[]) (mvT hZ (hw _ (List.mem_of_getElem? (i := 88) rfl)))) (rm13 l Z a0 hw n0 h1056 hWd [] X1056.old b990 ((1 : Int32) + ((ph &&& (2147483647 : Int32)) % (2147483647 : Int32))) f1066 ) (hw _ (List.mem_of_getElem? (i := 85) rfl)) (hw _ (List.mem_of_getElem? (i := 86) rfl)) (hw _ (List.mem_of_getElem? (i := 88) rfl)) (hw _ (List.mem_of_getElem? (i := 87) rfl)) (hw _ (List.mem_of_getElem? (i := 56) rfl)) (hw _ (List.mem_of_getElem? (i := 89) rfl)) (by decide) (lenOf pd__28_29I rfl) rfl rfl rfl (W := 0) rfl (by decide) (by decide) (by decide) (by decide) all0 rfl ?_
          intro T1067 h1067 v1067 X1067 K1067 hQ1067
          obtain rfl := hQ1067
          show OGo _ _ _ _ T1067 (mkF m 134 #[.val (.int pc), .val (.long ps), .second, .val (.long pl), .second, .val (.int ph), .val (.long pt), .second, .val (.int pf), .val (.ref b1), .val (.ref b7), .val (.int (1 : Int32)), .val (.int ((1 : Int32) + ((ph &&& (2147483647 : Int32)) % (2147483647 : Int32)))), .val (.ref b708), .val (.ref b990), .val (.ref r1056), .unset] [(.int ((1 : Int32) + ((ph &&& (2147483647 : Int32)) % (2147483647 : Int32))))])
          refine og_iload X1067 136 at_134 rfl rfl ?_
          refine og_icmpN X1067 139 at_136 (XT.ii_ne_f rfl) rfl ?_
          refine og_aload X1067 141 at_139 rfl rfl rfl ?_
          have f1068 := f1065.keep K1067
          have f1069 := f1000.keep K1056 nin0
          have f1070 := f1069.keep K1067 nin0
          refine own_virt X1067 144 (a := b990) (argsL := []) (rest := []) at_141 f1068 (fun _ hZ => notFace_of_selects (args := #[]) (mvT hZ (hw _ (List.mem_of_getElem? (i := 93) rfl)))) (rm14 l Z a0 hw n0 h1067 hWd [] X1067.old b990 ps f1070 ) (hw _ (List.mem_of_getElem? (i := 90) rfl)) (hw _ (List.mem_of_getElem? (i := 91) rfl)) (hw _ (List.mem_of_getElem? (i := 93) rfl)) (hw _ (List.mem_of_getElem? (i := 92) rfl)) (hw _ (List.mem_of_getElem? (i := 56) rfl)) (hw _ (List.mem_of_getElem? (i := 94) rfl)) (by decide) (lenOf pd__28_29J rfl) rfl rfl rfl (W := 0) rfl (by decide) (by decide) (by decide) (by decide) all0 rfl ?_
          intro T1071 h1071 v1071 X1071 K1071 hQ1071
          obtain rfl := hQ1071
          show OGo _ _ _ _ T1071 (mkF m 144 #[.val (.int pc), .val (.long ps), .second, .val (.long pl), .second, .val (.int ph), .val (.long pt), .second, .val (.int pf), .val (.ref b1), .val (.ref b7), .val (.int (1 : Int32)), .val (.int ((1 : Int32) + ((ph &&& (2147483647 : Int32)) % (2147483647 : Int32)))), .val (.ref b708), .val (.ref b990), .val (.ref r1056), .unset] [(.long ps)])
          refine og_lloadN X1071 145 at_144 rfl rfl ?_
          refine og_lcmp X1071 146 at_145 rfl ?_
          refine og_ifN X1071 149 at_146 (XT.ll_ne_f rfl) rfl ?_
          refine og_aload X1071 151 at_149 rfl rfl rfl ?_
          have f1072 := f1068.keep K1071
          have f1073 := f1001.keep K1056 nin0
          have f1074 := f1073.keep K1067 nin0
          have f1075 := f1074.keep K1071 nin0
          refine own_virt X1071 154 (a := b990) (argsL := []) (rest := []) at_151 f1072 (fun _ hZ => notFace_of_selects (args := #[]) (mvT hZ (hw _ (List.mem_of_getElem? (i := 98) rfl)))) (rm15 l Z a0 hw n0 h1071 hWd [] X1071.old b990 pl f1075 ) (hw _ (List.mem_of_getElem? (i := 95) rfl)) (hw _ (List.mem_of_getElem? (i := 96) rfl)) (hw _ (List.mem_of_getElem? (i := 98) rfl)) (hw _ (List.mem_of_getElem? (i := 97) rfl)) (hw _ (List.mem_of_getElem? (i := 56) rfl)) (hw _ (List.mem_of_getElem? (i := 99) rfl)) (by decide) (lenOf pd__28_29J rfl) rfl rfl rfl (W := 0) rfl (by decide) (by decide) (by decide) (by decide) all0 rfl ?_
          intro T1076 h1076 v1076 X1076 K1076 hQ1076
          obtain rfl := hQ1076
          show OGo _ _ _ _ T1076 (mkF m 154 #[.val (.int pc), .val (.long ps), .second, .val (.long pl), .second, .val (.int ph), .val (.long pt), .second, .val (.int pf), .val (.ref b1), .val (.ref b7), .val (.int (1 : Int32)), .val (.int ((1 : Int32) + ((ph &&& (2147483647 : Int32)) % (2147483647 : Int32)))), .val (.ref b708), .val (.ref b990), .val (.ref r1056), .unset] [(.long pl)])
          refine og_lloadN X1076 155 at_154 rfl rfl ?_
          refine og_lcmp X1076 156 at_155 rfl ?_
          refine og_ifN X1076 159 at_156 (XT.ll_ne_f rfl) rfl ?_
          refine og_aload X1076 161 at_159 rfl rfl rfl ?_
          have f1077 := f1072.keep K1076
          have f1078 := f1003.keep K1056 nin0
          have f1079 := f1078.keep K1067 nin0
          have f1080 := f1079.keep K1071 nin0
          have f1081 := f1080.keep K1076 nin0
          refine own_virt X1076 164 (a := b990) (argsL := []) (rest := []) at_161 f1077 (fun _ hZ => notFace_of_selects (args := #[]) (mvT hZ (hw _ (List.mem_of_getElem? (i := 103) rfl)))) (rm16 l Z a0 hw n0 h1076 hWd [] X1076.old b990 pt f1081 ) (hw _ (List.mem_of_getElem? (i := 100) rfl)) (hw _ (List.mem_of_getElem? (i := 101) rfl)) (hw _ (List.mem_of_getElem? (i := 103) rfl)) (hw _ (List.mem_of_getElem? (i := 102) rfl)) (hw _ (List.mem_of_getElem? (i := 56) rfl)) (hw _ (List.mem_of_getElem? (i := 104) rfl)) (by decide) (lenOf pd__28_29J rfl) rfl rfl rfl (W := 0) rfl (by decide) (by decide) (by decide) (by decide) all0 rfl ?_
          intro T1082 h1082 v1082 X1082 K1082 hQ1082
          obtain rfl := hQ1082
          show OGo _ _ _ _ T1082 (mkF m 164 #[.val (.int pc), .val (.long ps), .second, .val (.long pl), .second, .val (.int ph), .val (.long pt), .second, .val (.int pf), .val (.ref b1), .val (.ref b7), .val (.int (1 : Int32)), .val (.int ((1 : Int32) + ((ph &&& (2147483647 : Int32)) % (2147483647 : Int32)))), .val (.ref b708), .val (.ref b990), .val (.ref r1056), .unset] [(.long pt)])
          refine og_lload X1082 166 at_164 rfl rfl ?_
          refine og_lcmp X1082 167 at_166 rfl ?_
          refine og_ifN X1082 170 at_167 (XT.ll_ne_f rfl) rfl ?_
          refine og_aload X1082 172 at_170 rfl rfl rfl ?_
          have f1083 := f1077.keep K1082
          have f1084 := f1004.keep K1056 nin0
          have f1085 := f1084.keep K1067 nin0
          have f1086 := f1085.keep K1071 nin0
          have f1087 := f1086.keep K1076 nin0
          have f1088 := f1087.keep K1082 nin0
          refine own_virt X1082 175 (a := b990) (argsL := []) (rest := []) at_172 f1083 (fun _ hZ => notFace_of_selects (args := #[]) (mvT hZ (hw _ (List.mem_of_getElem? (i := 108) rfl)))) (rm17 l Z a0 hw n0 h1082 hWd [] X1082.old b990 (1 : Int32) f1088 (by decide) ) (hw _ (List.mem_of_getElem? (i := 105) rfl)) (hw _ (List.mem_of_getElem? (i := 106) rfl)) (hw _ (List.mem_of_getElem? (i := 108) rfl)) (hw _ (List.mem_of_getElem? (i := 107) rfl)) (hw _ (List.mem_of_getElem? (i := 56) rfl)) (hw _ (List.mem_of_getElem? (i := 109) rfl)) (by decide) (lenOf pd__28_29Z rfl) rfl rfl rfl (W := 0) rfl (by decide) (by decide) (by decide) (by decide) all0 rfl ?_
          intro T1089 h1089 v1089 X1089 K1089 hQ1089
          obtain rfl := hQ1089
          show OGo _ _ _ _ T1089 (mkF m 175 #[.val (.int pc), .val (.long ps), .second, .val (.long pl), .second, .val (.int ph), .val (.long pt), .second, .val (.int pf), .val (.ref b1), .val (.ref b7), .val (.int (1 : Int32)), .val (.int ((1 : Int32) + ((ph &&& (2147483647 : Int32)) % (2147483647 : Int32)))), .val (.ref b708), .val (.ref b990), .val (.ref r1056), .unset] [(.int (1 : Int32))])
          refine og_iload X1089 177 at_175 rfl rfl ?_
          refine og_icmpN X1089 180 at_177 (XT.ii_ne_f (by decide)) rfl ?_
          refine og_aload X1089 182 at_180 rfl rfl rfl ?_
          have f1090 := f1083.keep K1089
          have f1091 := f999.keep K1056 nin0
          have f1092 := f1091.keep K1067 nin0
          have f1093 := f1092.keep K1071 nin0
          have f1094 := f1093.keep K1076 nin0
          have f1095 := f1094.keep K1082 nin0
          have f1096 := f1095.keep K1089 nin0
          refine own_virt X1089 185 (a := b990) (argsL := []) (rest := []) at_182 f1090 (fun _ hZ => notFace_of_selects (args := #[]) (mvT hZ (hw _ (List.mem_of_getElem? (i := 113) rfl)))) (rm18 l Z a0 hw n0 h1089 hWd [] X1089.old b990 b7 f1096 ) (hw _ (List.mem_of_getElem? (i := 110) rfl)) (hw _ (List.mem_of_getElem? (i := 111) rfl)) (hw _ (List.mem_of_getElem? (i := 113) rfl)) (hw _ (List.mem_of_getElem? (i := 112) rfl)) (hw _ (List.mem_of_getElem? (i := 56) rfl)) (hw _ (List.mem_of_getElem? (i := 114) rfl)) (by decide) (lenOf pd__28_29Ljava_2flang_2fString_3b rfl) rfl rfl rfl (W := 0) rfl (by decide) (by decide) (by decide) (by decide) all0 rfl ?_
          intro T1097 h1097 v1097 X1097 K1097 hQ1097
          obtain rfl := hQ1097
          show OGo _ _ _ _ T1097 (mkF m 185 #[.val (.int pc), .val (.long ps), .second, .val (.long pl), .second, .val (.int ph), .val (.long pt), .second, .val (.int pf), .val (.ref b1), .val (.ref b7), .val (.int (1 : Int32)), .val (.int ((1 : Int32) + ((ph &&& (2147483647 : Int32)) % (2147483647 : Int32)))), .val (.ref b708), .val (.ref b990), .val (.ref r1056), .unset] [(.ref b7)])
          refine og_aload X1097 187 at_185 rfl rfl rfl ?_
          have f1098 := E11.keep K708
          have f1099 := f1098.keep K712
          have f1100 := f1099.keep K988
          have f1101 := f1100.keep K990
          have f1102 := f1101.keep K998
          have f1103 := f1102.keep K1056
          have f1104 := f1103.keep K1067
          have f1105 := f1104.keep K1071
          have f1106 := f1105.keep K1076
          have f1107 := f1106.keep K1082
          have f1108 := f1107.keep K1089
          have f1109 := f1108.keep K1097
          refine own_virt X1097 190 (a := b7) (argsL := [(.ref b7)]) (rest := []) at_187 f1109 (fun _ hZ => notFace_of_selects (args := #[]) (mvT hZ (hw _ (List.mem_of_getElem? (i := 118) rfl)))) (rm19 l Z a0 hw n0 h1097 hWd [] X1097.old b7  ) (hw _ (List.mem_of_getElem? (i := 115) rfl)) (hw _ (List.mem_of_getElem? (i := 116) rfl)) (hw _ (List.mem_of_getElem? (i := 118) rfl)) (hw _ (List.mem_of_getElem? (i := 117) rfl)) (hw _ (List.mem_of_getElem? (i := 3) rfl)) (hw _ (List.mem_of_getElem? (i := 119) rfl)) (by decide) (lenOf pd__28Ljava_2flang_2fObject_3b_29Z rfl) rfl rfl rfl (W := 0) rfl (by decide) (by decide) (by decide) (by decide) all0 rfl ?_
          intro T1110 h1110 v1110 X1110 K1110 hQ1110
          obtain rfl := hQ1110
          show OGo _ _ _ _ T1110 (mkF m 190 #[.val (.int pc), .val (.long ps), .second, .val (.long pl), .second, .val (.int ph), .val (.long pt), .second, .val (.int pf), .val (.ref b1), .val (.ref b7), .val (.int (1 : Int32)), .val (.int ((1 : Int32) + ((ph &&& (2147483647 : Int32)) % (2147483647 : Int32)))), .val (.ref b708), .val (.ref b990), .val (.ref r1056), .unset] [(.int (1 : Int32))])
          refine og_ifN X1110 193 at_190 (XT.i0_eq_f (by decide)) rfl ?_
          refine og_iconst X1110 194 (1 : Int32) at_193 rfl rfl ?_
          refine og_goto X1110 198 at_194 (by decide) (by decide) ?_
          refine og_istore X1110 200 #[.val (.int pc), .val (.long ps), .second, .val (.long pl), .second, .val (.int ph), .val (.long pt), .second, .val (.int pf), .val (.ref b1), .val (.ref b7), .val (.int (1 : Int32)), .val (.int ((1 : Int32) + ((ph &&& (2147483647 : Int32)) % (2147483647 : Int32)))), .val (.ref b708), .val (.ref b990), .val (.ref r1056), .val (.int (1 : Int32))] at_198 rfl rfl ?_
          refine og_iload X1110 202 at_200 rfl rfl ?_
          refine og_iconst X1110 203 (1 : Int32) at_202 rfl rfl ?_
          refine og_icmpY X1110 222 at_203 (XT.ii_ne_t hc1006) (by decide) (by decide) ?_
          refine og_aload X1110 224 at_222 rfl rfl rfl ?_
          refine og_nullN X1110 227 at_224 rfl ?_
          refine og_aload X1110 229 at_227 rfl rfl rfl ?_
          have f1111 := f1057.keep K1067
          have f1112 := f1111.keep K1071
          have f1113 := f1112.keep K1076
          have f1114 := f1113.keep K1082
          have f1115 := f1114.keep K1089
          have f1116 := f1115.keep K1097
          have f1117 := f1116.keep K1110
          have f1118 := f1058.keep K1067 nin0
          have f1119 := f1118.keep K1071 nin0
          have f1120 := f1119.keep K1076 nin0
          have f1121 := f1120.keep K1082 nin0
          have f1122 := f1121.keep K1089 nin0
          have f1123 := f1122.keep K1097 nin0
          have f1124 := f1123.keep K1110 nin0
          refine own_virt X1110 232 (a := r1056) (argsL := []) (rest := []) at_229 f1117 (fun _ hZ => notFace_of_selects (args := #[]) (mvT hZ (hw _ (List.mem_of_getElem? (i := 113) rfl)))) (rm18 l Z a0 hw n0 h1110 hWd [] X1110.old r1056 b7 f1124 ) (hw _ (List.mem_of_getElem? (i := 110) rfl)) (hw _ (List.mem_of_getElem? (i := 111) rfl)) (hw _ (List.mem_of_getElem? (i := 113) rfl)) (hw _ (List.mem_of_getElem? (i := 112) rfl)) (hw _ (List.mem_of_getElem? (i := 56) rfl)) (hw _ (List.mem_of_getElem? (i := 114) rfl)) (by decide) (lenOf pd__28_29Ljava_2flang_2fString_3b rfl) rfl rfl rfl (W := 0) rfl (by decide) (by decide) (by decide) (by decide) all0 rfl ?_
          intro T1125 h1125 v1125 X1125 K1125 hQ1125
          obtain rfl := hQ1125
          show OGo _ _ _ _ T1125 (mkF m 232 #[.val (.int pc), .val (.long ps), .second, .val (.long pl), .second, .val (.int ph), .val (.long pt), .second, .val (.int pf), .val (.ref b1), .val (.ref b7), .val (.int (1 : Int32)), .val (.int ((1 : Int32) + ((ph &&& (2147483647 : Int32)) % (2147483647 : Int32)))), .val (.ref b708), .val (.ref b990), .val (.ref r1056), .val (.int (1 : Int32))] [(.ref b7)])
          refine og_aload X1125 234 at_232 rfl rfl rfl ?_
          have f1126 := f1109.keep K1110
          have f1127 := f1126.keep K1125
          refine own_virt X1125 237 (a := b7) (argsL := [(.ref b7)]) (rest := []) at_234 f1127 (fun _ hZ => notFace_of_selects (args := #[]) (mvT hZ (hw _ (List.mem_of_getElem? (i := 118) rfl)))) (rm19 l Z a0 hw n0 h1125 hWd [] X1125.old b7  ) (hw _ (List.mem_of_getElem? (i := 115) rfl)) (hw _ (List.mem_of_getElem? (i := 116) rfl)) (hw _ (List.mem_of_getElem? (i := 118) rfl)) (hw _ (List.mem_of_getElem? (i := 117) rfl)) (hw _ (List.mem_of_getElem? (i := 3) rfl)) (hw _ (List.mem_of_getElem? (i := 119) rfl)) (by decide) (lenOf pd__28Ljava_2flang_2fObject_3b_29Z rfl) rfl rfl rfl (W := 0) rfl (by decide) (by decide) (by decide) (by decide) all0 rfl ?_
          intro T1128 h1128 v1128 X1128 K1128 hQ1128
          obtain rfl := hQ1128
          show OGo _ _ _ _ T1128 (mkF m 237 #[.val (.int pc), .val (.long ps), .second, .val (.long pl), .second, .val (.int ph), .val (.long pt), .second, .val (.int pf), .val (.ref b1), .val (.ref b7), .val (.int (1 : Int32)), .val (.int ((1 : Int32) + ((ph &&& (2147483647 : Int32)) % (2147483647 : Int32)))), .val (.ref b708), .val (.ref b990), .val (.ref r1056), .val (.int (1 : Int32))] [(.int (1 : Int32))])
          refine og_ifN X1128 240 at_237 (XT.i0_eq_f (by decide)) rfl ?_
          refine og_aload X1128 242 at_240 rfl rfl rfl ?_
          have f1129 := f1117.keep K1125
          have f1130 := f1129.keep K1128
          have f1131 := f1059.keep K1067 nin0
          have f1132 := f1131.keep K1071 nin0
          have f1133 := f1132.keep K1076 nin0
          have f1134 := f1133.keep K1082 nin0
          have f1135 := f1134.keep K1089 nin0
          have f1136 := f1135.keep K1097 nin0
          have f1137 := f1136.keep K1110 nin0
          have f1138 := f1137.keep K1125 nin0
          have f1139 := f1138.keep K1128 nin0
          refine own_virt X1128 245 (a := r1056) (argsL := []) (rest := []) at_242 f1130 (fun _ hZ => notFace_of_selects (args := #[]) (mvT hZ (hw _ (List.mem_of_getElem? (i := 93) rfl)))) (rm14 l Z a0 hw n0 h1128 hWd [] X1128.old r1056 ps f1139 ) (hw _ (List.mem_of_getElem? (i := 90) rfl)) (hw _ (List.mem_of_getElem? (i := 91) rfl)) (hw _ (List.mem_of_getElem? (i := 93) rfl)) (hw _ (List.mem_of_getElem? (i := 92) rfl)) (hw _ (List.mem_of_getElem? (i := 56) rfl)) (hw _ (List.mem_of_getElem? (i := 94) rfl)) (by decide) (lenOf pd__28_29J rfl) rfl rfl rfl (W := 0) rfl (by decide) (by decide) (by decide) (by decide) all0 rfl ?_
          intro T1140 h1140 v1140 X1140 K1140 hQ1140
          obtain rfl := hQ1140
          show OGo _ _ _ _ T1140 (mkF m 245 #[.val (.int pc), .val (.long ps), .second, .val (.long pl), .second, .val (.int ph), .val (.long pt), .second, .val (.int pf), .val (.ref b1), .val (.ref b7), .val (.int (1 : Int32)), .val (.int ((1 : Int32) + ((ph &&& (2147483647 : Int32)) % (2147483647 : Int32)))), .val (.ref b708), .val (.ref b990), .val (.ref r1056), .val (.int (1 : Int32))] [(.long ps)])
          refine og_lloadN X1140 246 at_245 rfl rfl ?_
          refine og_lcmp X1140 247 at_246 rfl ?_
          refine og_ifN X1140 250 at_247 (XT.ll_ne_f rfl) rfl ?_
          refine og_aload X1140 252 at_250 rfl rfl rfl ?_
          have f1141 := f1130.keep K1140
          have f1142 := f1060.keep K1067 nin0
          have f1143 := f1142.keep K1071 nin0
          have f1144 := f1143.keep K1076 nin0
          have f1145 := f1144.keep K1082 nin0
          have f1146 := f1145.keep K1089 nin0
          have f1147 := f1146.keep K1097 nin0
          have f1148 := f1147.keep K1110 nin0
          have f1149 := f1148.keep K1125 nin0
          have f1150 := f1149.keep K1128 nin0
          have f1151 := f1150.keep K1140 nin0
          refine own_virt X1140 255 (a := r1056) (argsL := []) (rest := []) at_252 f1141 (fun _ hZ => notFace_of_selects (args := #[]) (mvT hZ (hw _ (List.mem_of_getElem? (i := 98) rfl)))) (rm15 l Z a0 hw n0 h1140 hWd [] X1140.old r1056 pl f1151 ) (hw _ (List.mem_of_getElem? (i := 95) rfl)) (hw _ (List.mem_of_getElem? (i := 96) rfl)) (hw _ (List.mem_of_getElem? (i := 98) rfl)) (hw _ (List.mem_of_getElem? (i := 97) rfl)) (hw _ (List.mem_of_getElem? (i := 56) rfl)) (hw _ (List.mem_of_getElem? (i := 99) rfl)) (by decide) (lenOf pd__28_29J rfl) rfl rfl rfl (W := 0) rfl (by decide) (by decide) (by decide) (by decide) all0 rfl ?_
          intro T1152 h1152 v1152 X1152 K1152 hQ1152
          obtain rfl := hQ1152
          show OGo _ _ _ _ T1152 (mkF m 255 #[.val (.int pc), .val (.long ps), .second, .val (.long pl), .second, .val (.int ph), .val (.long pt), .second, .val (.int pf), .val (.ref b1), .val (.ref b7), .val (.int (1 : Int32)), .val (.int ((1 : Int32) + ((ph &&& (2147483647 : Int32)) % (2147483647 : Int32)))), .val (.ref b708), .val (.ref b990), .val (.ref r1056), .val (.int (1 : Int32))] [(.long pl)])
          refine og_lloadN X1152 256 at_255 rfl rfl ?_
          refine og_lcmp X1152 257 at_256 rfl ?_
          refine og_ifN X1152 260 at_257 (XT.ll_ne_f rfl) rfl ?_
          refine og_aload X1152 262 at_260 rfl rfl rfl ?_
          have f1153 := f1141.keep K1152
          have f1154 := f1061.keep K1067 nin0
          have f1155 := f1154.keep K1071 nin0
          have f1156 := f1155.keep K1076 nin0
          have f1157 := f1156.keep K1082 nin0
          have f1158 := f1157.keep K1089 nin0
          have f1159 := f1158.keep K1097 nin0
          have f1160 := f1159.keep K1110 nin0
          have f1161 := f1160.keep K1125 nin0
          have f1162 := f1161.keep K1128 nin0
          have f1163 := f1162.keep K1140 nin0
          have f1164 := f1163.keep K1152 nin0
          refine own_virt X1152 265 (a := r1056) (argsL := []) (rest := []) at_262 f1153 (fun _ hZ => notFace_of_selects (args := #[]) (mvT hZ (hw _ (List.mem_of_getElem? (i := 88) rfl)))) (rm13 l Z a0 hw n0 h1152 hWd [] X1152.old r1056 (((1 : Int32) + ((ph &&& (2147483647 : Int32)) % (2147483647 : Int32))) - (1 : Int32)) f1164 ) (hw _ (List.mem_of_getElem? (i := 85) rfl)) (hw _ (List.mem_of_getElem? (i := 86) rfl)) (hw _ (List.mem_of_getElem? (i := 88) rfl)) (hw _ (List.mem_of_getElem? (i := 87) rfl)) (hw _ (List.mem_of_getElem? (i := 56) rfl)) (hw _ (List.mem_of_getElem? (i := 89) rfl)) (by decide) (lenOf pd__28_29I rfl) rfl rfl rfl (W := 0) rfl (by decide) (by decide) (by decide) (by decide) all0 rfl ?_
          intro T1165 h1165 v1165 X1165 K1165 hQ1165
          obtain rfl := hQ1165
          show OGo _ _ _ _ T1165 (mkF m 265 #[.val (.int pc), .val (.long ps), .second, .val (.long pl), .second, .val (.int ph), .val (.long pt), .second, .val (.int pf), .val (.ref b1), .val (.ref b7), .val (.int (1 : Int32)), .val (.int ((1 : Int32) + ((ph &&& (2147483647 : Int32)) % (2147483647 : Int32)))), .val (.ref b708), .val (.ref b990), .val (.ref r1056), .val (.int (1 : Int32))] [(.int (((1 : Int32) + ((ph &&& (2147483647 : Int32)) % (2147483647 : Int32))) - (1 : Int32)))])
          refine og_iload X1165 267 at_265 rfl rfl ?_
          refine og_iconst X1165 268 (1 : Int32) at_267 rfl rfl ?_
          refine og_isub X1165 269 at_268 rfl ?_
          refine og_icmpN X1165 272 at_269 (XT.ii_ne_f rfl) rfl ?_
          refine og_aload X1165 274 at_272 rfl rfl rfl ?_
          have f1166 := f1153.keep K1165
          have f1167 := f1062.keep K1067 nin0
          have f1168 := f1167.keep K1071 nin0
          have f1169 := f1168.keep K1076 nin0
          have f1170 := f1169.keep K1082 nin0
          have f1171 := f1170.keep K1089 nin0
          have f1172 := f1171.keep K1097 nin0
          have f1173 := f1172.keep K1110 nin0
          have f1174 := f1173.keep K1125 nin0
          have f1175 := f1174.keep K1128 nin0
          have f1176 := f1175.keep K1140 nin0
          have f1177 := f1176.keep K1152 nin0
          have f1178 := f1177.keep K1165 nin0
          refine own_virt X1165 277 (a := r1056) (argsL := []) (rest := []) at_274 f1166 (fun _ hZ => notFace_of_selects (args := #[]) (mvT hZ (hw _ (List.mem_of_getElem? (i := 103) rfl)))) (rm16 l Z a0 hw n0 h1165 hWd [] X1165.old r1056 pt f1178 ) (hw _ (List.mem_of_getElem? (i := 100) rfl)) (hw _ (List.mem_of_getElem? (i := 101) rfl)) (hw _ (List.mem_of_getElem? (i := 103) rfl)) (hw _ (List.mem_of_getElem? (i := 102) rfl)) (hw _ (List.mem_of_getElem? (i := 56) rfl)) (hw _ (List.mem_of_getElem? (i := 104) rfl)) (by decide) (lenOf pd__28_29J rfl) rfl rfl rfl (W := 0) rfl (by decide) (by decide) (by decide) (by decide) all0 rfl ?_
          intro T1179 h1179 v1179 X1179 K1179 hQ1179
          obtain rfl := hQ1179
          show OGo _ _ _ _ T1179 (mkF m 277 #[.val (.int pc), .val (.long ps), .second, .val (.long pl), .second, .val (.int ph), .val (.long pt), .second, .val (.int pf), .val (.ref b1), .val (.ref b7), .val (.int (1 : Int32)), .val (.int ((1 : Int32) + ((ph &&& (2147483647 : Int32)) % (2147483647 : Int32)))), .val (.ref b708), .val (.ref b990), .val (.ref r1056), .val (.int (1 : Int32))] [(.long pt)])
          refine og_lload X1179 279 at_277 rfl rfl ?_
          refine og_lcmp X1179 280 at_279 rfl ?_
          refine og_ifN X1179 283 at_280 (XT.ll_ne_f rfl) rfl ?_
          refine og_aload X1179 285 at_283 rfl rfl rfl ?_
          have f1180 := f1166.keep K1179
          have f1181 := f1063.keep K1067 nin0
          have f1182 := f1181.keep K1071 nin0
          have f1183 := f1182.keep K1076 nin0
          have f1184 := f1183.keep K1082 nin0
          have f1185 := f1184.keep K1089 nin0
          have f1186 := f1185.keep K1097 nin0
          have f1187 := f1186.keep K1110 nin0
          have f1188 := f1187.keep K1125 nin0
          have f1189 := f1188.keep K1128 nin0
          have f1190 := f1189.keep K1140 nin0
          have f1191 := f1190.keep K1152 nin0
          have f1192 := f1191.keep K1165 nin0
          have f1193 := f1192.keep K1179 nin0
          refine own_virt X1179 288 (a := r1056) (argsL := []) (rest := []) at_285 f1180 (fun _ hZ => notFace_of_selects (args := #[]) (mvT hZ (hw _ (List.mem_of_getElem? (i := 108) rfl)))) (rm17 l Z a0 hw n0 h1179 hWd [] X1179.old r1056 (1 : Int32) f1193 (by decide) ) (hw _ (List.mem_of_getElem? (i := 105) rfl)) (hw _ (List.mem_of_getElem? (i := 106) rfl)) (hw _ (List.mem_of_getElem? (i := 108) rfl)) (hw _ (List.mem_of_getElem? (i := 107) rfl)) (hw _ (List.mem_of_getElem? (i := 56) rfl)) (hw _ (List.mem_of_getElem? (i := 109) rfl)) (by decide) (lenOf pd__28_29Z rfl) rfl rfl rfl (W := 0) rfl (by decide) (by decide) (by decide) (by decide) all0 rfl ?_
          intro T1194 h1194 v1194 X1194 K1194 hQ1194
          obtain rfl := hQ1194
          show OGo _ _ _ _ T1194 (mkF m 288 #[.val (.int pc), .val (.long ps), .second, .val (.long pl), .second, .val (.int ph), .val (.long pt), .second, .val (.int pf), .val (.ref b1), .val (.ref b7), .val (.int (1 : Int32)), .val (.int ((1 : Int32) + ((ph &&& (2147483647 : Int32)) % (2147483647 : Int32)))), .val (.ref b708), .val (.ref b990), .val (.ref r1056), .val (.int (1 : Int32))] [(.int (1 : Int32))])
          refine og_iload X1194 290 at_288 rfl rfl ?_
          refine og_icmpN X1194 293 at_290 (XT.ii_ne_f (by decide)) rfl ?_
          refine og_aload X1194 295 at_293 rfl rfl rfl ?_
          have f1195 := f1180.keep K1194
          have f1196 := f1064.keep K1067 nin0
          have f1197 := f1196.keep K1071 nin0
          have f1198 := f1197.keep K1076 nin0
          have f1199 := f1198.keep K1082 nin0
          have f1200 := f1199.keep K1089 nin0
          have f1201 := f1200.keep K1097 nin0
          have f1202 := f1201.keep K1110 nin0
          have f1203 := f1202.keep K1125 nin0
          have f1204 := f1203.keep K1128 nin0
          have f1205 := f1204.keep K1140 nin0
          have f1206 := f1205.keep K1152 nin0
          have f1207 := f1206.keep K1165 nin0
          have f1208 := f1207.keep K1179 nin0
          have f1209 := f1208.keep K1194 nin0
          refine own_virt X1194 298 (a := r1056) (argsL := []) (rest := []) at_295 f1195 (fun _ hZ => notFace_of_selects (args := #[]) (mvT hZ (hw _ (List.mem_of_getElem? (i := 160) rfl)))) (rm25 l Z a0 hw n0 h1194 hWd [] X1194.old r1056 b708 f1209 ) (hw _ (List.mem_of_getElem? (i := 157) rfl)) (hw _ (List.mem_of_getElem? (i := 158) rfl)) (hw _ (List.mem_of_getElem? (i := 160) rfl)) (hw _ (List.mem_of_getElem? (i := 159) rfl)) (hw _ (List.mem_of_getElem? (i := 56) rfl)) (hw _ (List.mem_of_getElem? (i := 161) rfl)) (by decide) (lenOf pd__28_29Ljava_2futil_2fList_3b rfl) rfl rfl rfl (W := 0) rfl (by decide) (by decide) (by decide) (by decide) all0 rfl ?_
          intro T1210 h1210 v1210 X1210 K1210 hQ1210
          obtain rfl := hQ1210
          show OGo _ _ _ _ T1210 (mkF m 298 #[.val (.int pc), .val (.long ps), .second, .val (.long pl), .second, .val (.int ph), .val (.long pt), .second, .val (.int pf), .val (.ref b1), .val (.ref b7), .val (.int (1 : Int32)), .val (.int ((1 : Int32) + ((ph &&& (2147483647 : Int32)) % (2147483647 : Int32)))), .val (.ref b708), .val (.ref b990), .val (.ref r1056), .val (.int (1 : Int32))] [(.ref b708)])
          have f1211 := f987.keep K988
          have f1212 := f1211.keep K990
          have f1213 := f1212.keep K998
          have f1214 := f1213.keep K1056
          have f1215 := f1214.keep K1067
          have f1216 := f1215.keep K1071
          have f1217 := f1216.keep K1076
          have f1218 := f1217.keep K1082
          have f1219 := f1218.keep K1089
          have f1220 := f1219.keep K1097
          have f1221 := f1220.keep K1110
          have f1222 := f1221.keep K1125
          have f1223 := f1222.keep K1128
          have f1224 := f1223.keep K1140
          have f1225 := f1224.keep K1152
          have f1226 := f1225.keep K1165
          have f1227 := f1226.keep K1179
          have f1228 := f1227.keep K1194
          have f1229 := f1228.keep K1210
          have f1230 := f989.keep K990 nin0
          have f1231 := f1230.keep K998 (ninS (Nat.ne_of_lt (Nat.lt_of_lt_of_le (Nat.lt_of_lt_of_le U708 (Nat.le_trans K712.1 K988.1)) G990)) nin0)
          have f1232 := f1231.keep K1056 nin0
          have f1233 := f1232.keep K1067 nin0
          have f1234 := f1233.keep K1071 nin0
          have f1235 := f1234.keep K1076 nin0
          have f1236 := f1235.keep K1082 nin0
          have f1237 := f1236.keep K1089 nin0
          have f1238 := f1237.keep K1097 nin0
          have f1239 := f1238.keep K1110 nin0
          have f1240 := f1239.keep K1125 nin0
          have f1241 := f1240.keep K1128 nin0
          have f1242 := f1241.keep K1140 nin0
          have f1243 := f1242.keep K1152 nin0
          have f1244 := f1243.keep K1165 nin0
          have f1245 := f1244.keep K1179 nin0
          have f1246 := f1245.keep K1194 nin0
          have f1247 := f1246.keep K1210 nin0
          refine own_face X1210 303 (a := b708) (argsL := []) (rest := []) at_298 f1229 (rm26 l Z a0 hw n0 h1210 hWd [] X1210.old b708 (1 : Int32) f1247 ) (hw _ (List.mem_of_getElem? (i := 162) rfl)) (hw _ (List.mem_of_getElem? (i := 163) rfl)) (hw _ (List.mem_of_getElem? (i := 164) rfl)) (hw _ (List.mem_of_getElem? (i := 165) rfl)) (hw _ (List.mem_of_getElem? (i := 166) rfl)) (hw _ (List.mem_of_getElem? (i := 167) rfl)) (hw _ (List.mem_of_getElem? (i := 168) rfl)) (hw _ (List.mem_of_getElem? (i := 128) rfl)) (hw _ (List.mem_of_getElem? (i := 32) rfl)) (hw _ (List.mem_of_getElem? (i := 169) rfl)) (by decide) (lenOf pd__28_29I rfl) rfl rfl rfl (W := 0) rfl (by decide) (by decide) (by decide) (by decide) all0 rfl ?_
          intro T1248 h1248 v1248 X1248 K1248 hQ1248
          obtain rfl := hQ1248
          show OGo _ _ _ _ T1248 (mkF m 303 #[.val (.int pc), .val (.long ps), .second, .val (.long pl), .second, .val (.int ph), .val (.long pt), .second, .val (.int pf), .val (.ref b1), .val (.ref b7), .val (.int (1 : Int32)), .val (.int ((1 : Int32) + ((ph &&& (2147483647 : Int32)) % (2147483647 : Int32)))), .val (.ref b708), .val (.ref b990), .val (.ref r1056), .val (.int (1 : Int32))] [(.int (1 : Int32))])
          refine og_aload X1248 305 at_303 rfl rfl rfl ?_
          have f1249 := f1229.keep K1248
          have f1250 := f1247.keep K1248 nin0
          refine own_face X1248 310 (a := b708) (argsL := []) (rest := [(.int (1 : Int32))]) at_305 f1249 (rm26 l Z a0 hw n0 h1248 hWd [] X1248.old b708 (1 : Int32) f1250 ) (hw _ (List.mem_of_getElem? (i := 162) rfl)) (hw _ (List.mem_of_getElem? (i := 163) rfl)) (hw _ (List.mem_of_getElem? (i := 164) rfl)) (hw _ (List.mem_of_getElem? (i := 165) rfl)) (hw _ (List.mem_of_getElem? (i := 166) rfl)) (hw _ (List.mem_of_getElem? (i := 167) rfl)) (hw _ (List.mem_of_getElem? (i := 168) rfl)) (hw _ (List.mem_of_getElem? (i := 128) rfl)) (hw _ (List.mem_of_getElem? (i := 32) rfl)) (hw _ (List.mem_of_getElem? (i := 169) rfl)) (by decide) (lenOf pd__28_29I rfl) rfl rfl rfl (W := 1) rfl (by decide) (by decide) (by decide) (by decide) all0 rfl ?_
          intro T1251 h1251 v1251 X1251 K1251 hQ1251
          obtain rfl := hQ1251
          show OGo _ _ _ _ T1251 (mkF m 310 #[.val (.int pc), .val (.long ps), .second, .val (.long pl), .second, .val (.int ph), .val (.long pt), .second, .val (.int pf), .val (.ref b1), .val (.ref b7), .val (.int (1 : Int32)), .val (.int ((1 : Int32) + ((ph &&& (2147483647 : Int32)) % (2147483647 : Int32)))), .val (.ref b708), .val (.ref b990), .val (.ref r1056), .val (.int (1 : Int32))] [(.int (1 : Int32)), (.int (1 : Int32))])
          refine og_icmpN X1251 313 at_310 (XT.ii_ne_f (by decide)) rfl ?_
          refine og_aload X1251 315 at_313 rfl rfl rfl ?_
          have f1252 := f1195.keep K1210
          have f1253 := f1252.keep K1248
          have f1254 := f1253.keep K1251
          have f1255 := f1209.keep K1210 nin0
          have f1256 := f1255.keep K1248 nin0
          have f1257 := f1256.keep K1251 nin0
          refine own_virt X1251 318 (a := r1056) (argsL := []) (rest := []) at_315 f1254 (fun _ hZ => notFace_of_selects (args := #[]) (mvT hZ (hw _ (List.mem_of_getElem? (i := 160) rfl)))) (rm25 l Z a0 hw n0 h1251 hWd [] X1251.old r1056 b708 f1257 ) (hw _ (List.mem_of_getElem? (i := 157) rfl)) (hw _ (List.mem_of_getElem? (i := 158) rfl)) (hw _ (List.mem_of_getElem? (i := 160) rfl)) (hw _ (List.mem_of_getElem? (i := 159) rfl)) (hw _ (List.mem_of_getElem? (i := 56) rfl)) (hw _ (List.mem_of_getElem? (i := 161) rfl)) (by decide) (lenOf pd__28_29Ljava_2futil_2fList_3b rfl) rfl rfl rfl (W := 0) rfl (by decide) (by decide) (by decide) (by decide) all0 rfl ?_
          intro T1258 h1258 v1258 X1258 K1258 hQ1258
          obtain rfl := hQ1258
          show OGo _ _ _ _ T1258 (mkF m 318 #[.val (.int pc), .val (.long ps), .second, .val (.long pl), .second, .val (.int ph), .val (.long pt), .second, .val (.int pf), .val (.ref b1), .val (.ref b7), .val (.int (1 : Int32)), .val (.int ((1 : Int32) + ((ph &&& (2147483647 : Int32)) % (2147483647 : Int32)))), .val (.ref b708), .val (.ref b990), .val (.ref r1056), .val (.int (1 : Int32))] [(.ref b708)])
          refine og_aload X1258 320 at_318 rfl rfl rfl ?_
          have f1259 := f1249.keep K1251
          have f1260 := f1259.keep K1258
          refine own_face X1258 325 (a := b708) (argsL := [(.ref b708)]) (rest := []) at_320 f1260 (rm27 l Z a0 hw n0 h1258 hWd [] X1258.old b708  ) (hw _ (List.mem_of_getElem? (i := 170) rfl)) (hw _ (List.mem_of_getElem? (i := 171) rfl)) (hw _ (List.mem_of_getElem? (i := 172) rfl)) (hw _ (List.mem_of_getElem? (i := 173) rfl)) (hw _ (List.mem_of_getElem? (i := 174) rfl)) (hw _ (List.mem_of_getElem? (i := 175) rfl)) (hw _ (List.mem_of_getElem? (i := 176) rfl)) (hw _ (List.mem_of_getElem? (i := 128) rfl)) (hw _ (List.mem_of_getElem? (i := 32) rfl)) (hw _ (List.mem_of_getElem? (i := 177) rfl)) (by decide) (lenOf pd__28Ljava_2flang_2fObject_3b_29Z rfl) rfl rfl rfl (W := 0) rfl (by decide) (by decide) (by decide) (by decide) all0 rfl ?_
          intro T1261 h1261 v1261 X1261 K1261 hQ1261
          obtain rfl := hQ1261
          show OGo _ _ _ _ T1261 (mkF m 325 #[.val (.int pc), .val (.long ps), .second, .val (.long pl), .second, .val (.int ph), .val (.long pt), .second, .val (.int pf), .val (.ref b1), .val (.ref b7), .val (.int (1 : Int32)), .val (.int ((1 : Int32) + ((ph &&& (2147483647 : Int32)) % (2147483647 : Int32)))), .val (.ref b708), .val (.ref b990), .val (.ref r1056), .val (.int (1 : Int32))] [(.int (1 : Int32))])
          refine og_ifN X1261 328 at_325 (XT.i0_eq_f (by decide)) rfl ?_
          refine og_iload X1261 330 at_328 rfl rfl ?_
          refine og_ifN X1261 333 at_330 (XT.i0_eq_f (by decide)) rfl ?_
          refine og_iconst X1261 334 (1 : Int32) at_333 rfl rfl ?_
          refine og_goto X1261 338 at_334 (by decide) (by decide) ?_
          refine own_retZ X1261 at_338 hret rfl (by decide) (by decide) ?_
          exact rfl
    · -- not
      refine og_ifN X11 60 at_57 (XT.i0_eq_f hc707) rfl ?_
      refine og_iconst X11 61 (1 : Int32) at_60 rfl rfl ?_
      refine og_goto X11 74 at_61 (by decide) (by decide) ?_
      refine og_istore X11 76 #[.val (.int pc), .val (.long ps), .second, .val (.long pl), .second, .val (.int ph), .val (.long pt), .second, .val (.int pf), .val (.ref b1), .val (.ref b7), .val (.int (1 : Int32)), .val (.int (1 : Int32)), .unset, .unset, .unset, .unset] at_74 rfl rfl ?_
      refine own_new X11 79 at_76 (hw _ (List.mem_of_getElem? (i := 30) rfl)) (hw _ (List.mem_of_getElem? (i := 31) rfl)) (hw _ (List.mem_of_getElem? (i := 32) rfl)) (by decide) (by decide) rfl ?_
      intro T1262 h1262 b1262 X1262 K1262 G1262 U1262 E1262 D1262
      have f1263 : Fld Z h1262 b1262 "java/util/AbstractList" "modCount" "I" (.int (0 : Int32)) := D1262 (Or.inl (hw _ (List.mem_of_getElem? (i := 50) rfl))) (ty := .int) (by decide)
      have f1264 : Fld Z h1262 b1262 "java/util/ArrayList" "elementData" "[Ljava/lang/Object;" .null := D1262 (Or.inl (hw _ (List.mem_of_getElem? (i := 53) rfl))) (ty := (.array (.object "java/lang/Object"))) (by decide)
      have f1265 : Fld Z h1262 b1262 "java/util/ArrayList" "size" "I" (.int (0 : Int32)) := D1262 (Or.inl (hw _ (List.mem_of_getElem? (i := 133) rfl))) (ty := .int) (by decide)
      refine og_dup X1262 80 at_79 rfl rfl ?_
      refine own_spec X1262 83 (a := b1262) (argsL := []) (rest := [(.ref b1262)]) at_80 rfl (rm7 l Z a0 hw n0 h1262 hWd [] X1262.old b1262 (0 : Int32) .null (0 : Int32) E1262 f1263 f1264 f1265 (own_svb X1262 (List.mem_of_getElem? (i := 0) rfl))) (hw _ (List.mem_of_getElem? (i := 33) rfl)) (hw _ (List.mem_of_getElem? (i := 34) rfl)) (hw _ (List.mem_of_getElem? (i := 32) rfl)) (hw _ (List.mem_of_getElem? (i := 35) rfl)) (by decide) (lenOf pd__28_29V rfl) rfl rfl rfl (W := 1) rfl (by decide) (by decide) (by decide) (by decide) (allS (List.mem_of_getElem? (i := 0) rfl) all0) rfl ?_
      intro T1266 h1266 v1266 X1266 K1266 hQ1266
      obtain ⟨rfl, f1267, f1268, f1269⟩ := hQ1266
      show OGo _ _ _ _ T1266 (mkF m 83 #[.val (.int pc), .val (.long ps), .second, .val (.long pl), .second, .val (.int ph), .val (.long pt), .second, .val (.int pf), .val (.ref b1), .val (.ref b7), .val (.int (1 : Int32)), .val (.int (1 : Int32)), .unset, .unset, .unset, .unset] [(.ref b1262)])
      refine og_astore X1266 85 #[.val (.int pc), .val (.long ps), .second, .val (.long pl), .second, .val (.int ph), .val (.long pt), .second, .val (.int pf), .val (.ref b1), .val (.ref b7), .val (.int (1 : Int32)), .val (.int (1 : Int32)), .val (.ref b1262), .unset, .unset, .unset] at_83 rfl rfl rfl ?_
      refine og_iload X1266 87 at_85 rfl rfl ?_
      refine og_iconst X1266 88 (4 : Int32) at_87 rfl rfl ?_
      refine og_iand X1266 89 at_88 rfl ?_
      by_cases hc1270 : (pf &&& (4 : Int32)) = 0
      · -- (pf &&& (4 : Int32)) = 0
        refine og_ifY X1266 101 at_89 (XT.i0_eq_t hc1270) (by decide) (by decide) ?_
        refine own_new X1266 104 at_101 (hw _ (List.mem_of_getElem? (i := 54) rfl)) (hw _ (List.mem_of_getElem? (i := 55) rfl)) (hw _ (List.mem_of_getElem? (i := 56) rfl)) (by decide) (by decide) rfl ?_
        intro T1271 h1271 b1271 X1271 K1271 G1271 U1271 E1271 D1271
        have f1272 : Fld Z h1271 b1271 "com/example/synlock/synlock/Holds$Grant" "owner" "Ljava/lang/String;" .null := D1271 (Or.inr (hw _ (List.mem_of_getElem? (i := 67) rfl))) (ty := (.object "java/lang/String")) (by decide)
        have f1273 : Fld Z h1271 b1271 "com/example/synlock/synlock/Holds$Grant" "sentNanos" "J" (.long (0 : Int64)) := D1271 (Or.inr (hw _ (List.mem_of_getElem? (i := 69) rfl))) (ty := .long) (by decide)
        have f1274 : Fld Z h1271 b1271 "com/example/synlock/synlock/Holds$Grant" "leaseNanos" "J" (.long (0 : Int64)) := D1271 (Or.inr (hw _ (List.mem_of_getElem? (i := 71) rfl))) (ty := .long) (by decide)
        have f1275 : Fld Z h1271 b1271 "com/example/synlock/synlock/Holds$Grant" "holds" "I" (.int (0 : Int32)) := D1271 (Or.inr (hw _ (List.mem_of_getElem? (i := 73) rfl))) (ty := .int) (by decide)
        have f1276 : Fld Z h1271 b1271 "com/example/synlock/synlock/Holds$Grant" "token" "J" (.long (0 : Int64)) := D1271 (Or.inr (hw _ (List.mem_of_getElem? (i := 75) rfl))) (ty := .long) (by decide)
        have f1277 : Fld Z h1271 b1271 "com/example/synlock/synlock/Holds$Grant" "renewed" "Z" (.int (0 : Int32)) := D1271 (Or.inr (hw _ (List.mem_of_getElem? (i := 77) rfl))) (ty := .boolean) (by decide)
        have f1278 : Fld Z h1271 b1271 "com/example/synlock/synlock/Holds$Grant" "listeners" "Ljava/util/List;" .null := D1271 (Or.inr (hw _ (List.mem_of_getElem? (i := 79) rfl))) (ty := (.object "java/util/List")) (by decide)
        refine og_dup X1271 105 at_104 rfl rfl ?_
        refine og_aload X1271 107 at_105 rfl rfl rfl ?_
        refine og_lloadN X1271 108 at_107 rfl rfl ?_
        refine og_lloadN X1271 109 at_108 rfl rfl ?_
        refine og_iload X1271 111 at_109 rfl rfl ?_
        refine og_lload X1271 113 at_111 rfl rfl ?_
        refine og_iload X1271 115 at_113 rfl rfl ?_
        refine og_aload X1271 117 at_115 rfl rfl rfl ?_
        refine own_spec X1271 120 (a := b1271) (argsL := [(.ref b7), (.long ps), (.long pl), (.int (1 : Int32)), (.long pt), (.int (1 : Int32)), (.ref b1262)]) (rest := [(.ref b1271)]) at_117 rfl (rm10 l Z a0 hw n0 h1271 hWd [] X1271.old b1271 b7 ps pl (1 : Int32) pt (1 : Int32) b1262 E1271 f1272 f1273 f1274 f1275 f1276 f1277 f1278 (by decide) (own_svb X1271 (List.mem_of_getElem? (i := 0) rfl))) (hw _ (List.mem_of_getElem? (i := 57) rfl)) (hw _ (List.mem_of_getElem? (i := 58) rfl)) (hw _ (List.mem_of_getElem? (i := 56) rfl)) (hw _ (List.mem_of_getElem? (i := 59) rfl)) (by decide) (lenOf pd__28Ljava_2flang_2fString_3bJJIJZLjava_2futil_2fList_3b_29V rfl) rfl rfl rfl (W := 1) rfl (by decide) (by decide) (by decide) (by decide) (allS (List.mem_of_getElem? (i := 0) rfl) all0) rfl ?_
        intro T1279 h1279 v1279 X1279 K1279 hQ1279
        obtain ⟨rfl, f1280, f1281, f1282, f1283, f1284, f1285, f1286⟩ := hQ1279
        show OGo _ _ _ _ T1279 (mkF m 120 #[.val (.int pc), .val (.long ps), .second, .val (.long pl), .second, .val (.int ph), .val (.long pt), .second, .val (.int pf), .val (.ref b1), .val (.ref b7), .val (.int (1 : Int32)), .val (.int (1 : Int32)), .val (.ref b1262), .unset, .unset, .unset] [(.ref b1271)])
        refine og_astore X1279 122 #[.val (.int pc), .val (.long ps), .second, .val (.long pl), .second, .val (.int ph), .val (.long pt), .second, .val (.int pf), .val (.ref b1), .val (.ref b7), .val (.int (1 : Int32)), .val (.int (1 : Int32)), .val (.ref b1262), .val (.ref b1271), .unset, .unset] at_120 rfl rfl rfl ?_
        refine og_aload X1279 124 at_122 rfl rfl rfl ?_
        have f1287 := E1271.keep K1279
        refine own_virt X1279 127 (a := b1271) (argsL := []) (rest := []) at_124 f1287 (fun _ hZ => notFace_of_selects (args := #[]) (mvT hZ (hw _ (List.mem_of_getElem? (i := 83) rfl)))) (rm_rel0 l Z a0 hw n0 h1279 hWd [] X1279.old b1271 (1 : Int32) f1283 (by decide) ) (hw _ (List.mem_of_getElem? (i := 80) rfl)) (hw _ (List.mem_of_getElem? (i := 81) rfl)) (hw _ (List.mem_of_getElem? (i := 83) rfl)) (hw _ (List.mem_of_getElem? (i := 82) rfl)) (hw _ (List.mem_of_getElem? (i := 56) rfl)) (hw _ (List.mem_of_getElem? (i := 84) rfl)) (by decide) (lenOf pd__28_29Lcom_2fexample_2fsynlock_2fsynlock_2fHolds_24Grant_3b rfl) rfl rfl rfl (W := 0) rfl (by decide) (by decide) (by decide) (by decide) all0 rfl ?_
        intro T1288 h1288 v1288 X1288 K1288 hQ1288
        obtain rfl := hQ1288
        show OGo _ _ _ _ T1288 (mkF m 127 #[.val (.int pc), .val (.long ps), .second, .val (.long pl), .second, .val (.int ph), .val (.long pt), .second, .val (.int pf), .val (.ref b1), .val (.ref b7), .val (.int (1 : Int32)), .val (.int (1 : Int32)), .val (.ref b1262), .val (.ref b1271), .unset, .unset] [.null])
        refine og_astore X1288 129 #[.val (.int pc), .val (.long ps), .second, .val (.long pl), .second, .val (.int ph), .val (.long pt), .second, .val (.int pf), .val (.ref b1), .val (.ref b7), .val (.int (1 : Int32)), .val (.int (1 : Int32)), .val (.ref b1262), .val (.ref b1271), .val .null, .unset] at_127 rfl rfl rfl ?_
        refine og_aload X1288 131 at_129 rfl rfl rfl ?_
        have f1289 := f1287.keep K1288
        have f1290 := f1283.keep K1288 nin0
        refine own_virt X1288 134 (a := b1271) (argsL := []) (rest := []) at_131 f1289 (fun _ hZ => notFace_of_selects (args := #[]) (mvT hZ (hw _ (List.mem_of_getElem? (i := 88) rfl)))) (rm13 l Z a0 hw n0 h1288 hWd [] X1288.old b1271 (1 : Int32) f1290 ) (hw _ (List.mem_of_getElem? (i := 85) rfl)) (hw _ (List.mem_of_getElem? (i := 86) rfl)) (hw _ (List.mem_of_getElem? (i := 88) rfl)) (hw _ (List.mem_of_getElem? (i := 87) rfl)) (hw _ (List.mem_of_getElem? (i := 56) rfl)) (hw _ (List.mem_of_getElem? (i := 89) rfl)) (by decide) (lenOf pd__28_29I rfl) rfl rfl rfl (W := 0) rfl (by decide) (by decide) (by decide) (by decide) all0 rfl ?_
        intro T1291 h1291 v1291 X1291 K1291 hQ1291
        obtain rfl := hQ1291
        show OGo _ _ _ _ T1291 (mkF m 134 #[.val (.int pc), .val (.long ps), .second, .val (.long pl), .second, .val (.int ph), .val (.long pt), .second, .val (.int pf), .val (.ref b1), .val (.ref b7), .val (.int (1 : Int32)), .val (.int (1 : Int32)), .val (.ref b1262), .val (.ref b1271), .val .null, .unset] [(.int (1 : Int32))])
        refine og_iload X1291 136 at_134 rfl rfl ?_
        refine og_icmpN X1291 139 at_136 (XT.ii_ne_f (by decide)) rfl ?_
        refine og_aload X1291 141 at_139 rfl rfl rfl ?_
        have f1292 := f1289.keep K1291
        have f1293 := f1281.keep K1288 nin0
        have f1294 := f1293.keep K1291 nin0
        refine own_virt X1291 144 (a := b1271) (argsL := []) (rest := []) at_141 f1292 (fun _ hZ => notFace_of_selects (args := #[]) (mvT hZ (hw _ (List.mem_of_getElem? (i := 93) rfl)))) (rm14 l Z a0 hw n0 h1291 hWd [] X1291.old b1271 ps f1294 ) (hw _ (List.mem_of_getElem? (i := 90) rfl)) (hw _ (List.mem_of_getElem? (i := 91) rfl)) (hw _ (List.mem_of_getElem? (i := 93) rfl)) (hw _ (List.mem_of_getElem? (i := 92) rfl)) (hw _ (List.mem_of_getElem? (i := 56) rfl)) (hw _ (List.mem_of_getElem? (i := 94) rfl)) (by decide) (lenOf pd__28_29J rfl) rfl rfl rfl (W := 0) rfl (by decide) (by decide) (by decide) (by decide) all0 rfl ?_
        intro T1295 h1295 v1295 X1295 K1295 hQ1295
        obtain rfl := hQ1295
        show OGo _ _ _ _ T1295 (mkF m 144 #[.val (.int pc), .val (.long ps), .second, .val (.long pl), .second, .val (.int ph), .val (.long pt), .second, .val (.int pf), .val (.ref b1), .val (.ref b7), .val (.int (1 : Int32)), .val (.int (1 : Int32)), .val (.ref b1262), .val (.ref b1271), .val .null, .unset] [(.long ps)])
        refine og_lloadN X1295 145 at_144 rfl rfl ?_
        refine og_lcmp X1295 146 at_145 rfl ?_
        refine og_ifN X1295 149 at_146 (XT.ll_ne_f rfl) rfl ?_
        refine og_aload X1295 151 at_149 rfl rfl rfl ?_
        have f1296 := f1292.keep K1295
        have f1297 := f1282.keep K1288 nin0
        have f1298 := f1297.keep K1291 nin0
        have f1299 := f1298.keep K1295 nin0
        refine own_virt X1295 154 (a := b1271) (argsL := []) (rest := []) at_151 f1296 (fun _ hZ => notFace_of_selects (args := #[]) (mvT hZ (hw _ (List.mem_of_getElem? (i := 98) rfl)))) (rm15 l Z a0 hw n0 h1295 hWd [] X1295.old b1271 pl f1299 ) (hw _ (List.mem_of_getElem? (i := 95) rfl)) (hw _ (List.mem_of_getElem? (i := 96) rfl)) (hw _ (List.mem_of_getElem? (i := 98) rfl)) (hw _ (List.mem_of_getElem? (i := 97) rfl)) (hw _ (List.mem_of_getElem? (i := 56) rfl)) (hw _ (List.mem_of_getElem? (i := 99) rfl)) (by decide) (lenOf pd__28_29J rfl) rfl rfl rfl (W := 0) rfl (by decide) (by decide) (by decide) (by decide) all0 rfl ?_
        intro T1300 h1300 v1300 X1300 K1300 hQ1300
        obtain rfl := hQ1300
        show OGo _ _ _ _ T1300 (mkF m 154 #[.val (.int pc), .val (.long ps), .second, .val (.long pl), .second, .val (.int ph), .val (.long pt), .second, .val (.int pf), .val (.ref b1), .val (.ref b7), .val (.int (1 : Int32)), .val (.int (1 : Int32)), .val (.ref b1262), .val (.ref b1271), .val .null, .unset] [(.long pl)])
        refine og_lloadN X1300 155 at_154 rfl rfl ?_
        refine og_lcmp X1300 156 at_155 rfl ?_
        refine og_ifN X1300 159 at_156 (XT.ll_ne_f rfl) rfl ?_
        refine og_aload X1300 161 at_159 rfl rfl rfl ?_
        have f1301 := f1296.keep K1300
        have f1302 := f1284.keep K1288 nin0
        have f1303 := f1302.keep K1291 nin0
        have f1304 := f1303.keep K1295 nin0
        have f1305 := f1304.keep K1300 nin0
        refine own_virt X1300 164 (a := b1271) (argsL := []) (rest := []) at_161 f1301 (fun _ hZ => notFace_of_selects (args := #[]) (mvT hZ (hw _ (List.mem_of_getElem? (i := 103) rfl)))) (rm16 l Z a0 hw n0 h1300 hWd [] X1300.old b1271 pt f1305 ) (hw _ (List.mem_of_getElem? (i := 100) rfl)) (hw _ (List.mem_of_getElem? (i := 101) rfl)) (hw _ (List.mem_of_getElem? (i := 103) rfl)) (hw _ (List.mem_of_getElem? (i := 102) rfl)) (hw _ (List.mem_of_getElem? (i := 56) rfl)) (hw _ (List.mem_of_getElem? (i := 104) rfl)) (by decide) (lenOf pd__28_29J rfl) rfl rfl rfl (W := 0) rfl (by decide) (by decide) (by decide) (by decide) all0 rfl ?_
        intro T1306 h1306 v1306 X1306 K1306 hQ1306
        obtain rfl := hQ1306
        show OGo _ _ _ _ T1306 (mkF m 164 #[.val (.int pc), .val (.long ps), .second, .val (.long pl), .second, .val (.int ph), .val (.long pt), .second, .val (.int pf), .val (.ref b1), .val (.ref b7), .val (.int (1 : Int32)), .val (.int (1 : Int32)), .val (.ref b1262), .val (.ref b1271), .val .null, .unset] [(.long pt)])
        refine og_lload X1306 166 at_164 rfl rfl ?_
        refine og_lcmp X1306 167 at_166 rfl ?_
        refine og_ifN X1306 170 at_167 (XT.ll_ne_f rfl) rfl ?_
        refine og_aload X1306 172 at_170 rfl rfl rfl ?_
        have f1307 := f1301.keep K1306
        have f1308 := f1285.keep K1288 nin0
        have f1309 := f1308.keep K1291 nin0
        have f1310 := f1309.keep K1295 nin0
        have f1311 := f1310.keep K1300 nin0
        have f1312 := f1311.keep K1306 nin0
        refine own_virt X1306 175 (a := b1271) (argsL := []) (rest := []) at_172 f1307 (fun _ hZ => notFace_of_selects (args := #[]) (mvT hZ (hw _ (List.mem_of_getElem? (i := 108) rfl)))) (rm17 l Z a0 hw n0 h1306 hWd [] X1306.old b1271 (1 : Int32) f1312 (by decide) ) (hw _ (List.mem_of_getElem? (i := 105) rfl)) (hw _ (List.mem_of_getElem? (i := 106) rfl)) (hw _ (List.mem_of_getElem? (i := 108) rfl)) (hw _ (List.mem_of_getElem? (i := 107) rfl)) (hw _ (List.mem_of_getElem? (i := 56) rfl)) (hw _ (List.mem_of_getElem? (i := 109) rfl)) (by decide) (lenOf pd__28_29Z rfl) rfl rfl rfl (W := 0) rfl (by decide) (by decide) (by decide) (by decide) all0 rfl ?_
        intro T1313 h1313 v1313 X1313 K1313 hQ1313
        obtain rfl := hQ1313
        show OGo _ _ _ _ T1313 (mkF m 175 #[.val (.int pc), .val (.long ps), .second, .val (.long pl), .second, .val (.int ph), .val (.long pt), .second, .val (.int pf), .val (.ref b1), .val (.ref b7), .val (.int (1 : Int32)), .val (.int (1 : Int32)), .val (.ref b1262), .val (.ref b1271), .val .null, .unset] [(.int (1 : Int32))])
        refine og_iload X1313 177 at_175 rfl rfl ?_
        refine og_icmpN X1313 180 at_177 (XT.ii_ne_f (by decide)) rfl ?_
        refine og_aload X1313 182 at_180 rfl rfl rfl ?_
        have f1314 := f1307.keep K1313
        have f1315 := f1280.keep K1288 nin0
        have f1316 := f1315.keep K1291 nin0
        have f1317 := f1316.keep K1295 nin0
        have f1318 := f1317.keep K1300 nin0
        have f1319 := f1318.keep K1306 nin0
        have f1320 := f1319.keep K1313 nin0
        refine own_virt X1313 185 (a := b1271) (argsL := []) (rest := []) at_182 f1314 (fun _ hZ => notFace_of_selects (args := #[]) (mvT hZ (hw _ (List.mem_of_getElem? (i := 113) rfl)))) (rm18 l Z a0 hw n0 h1313 hWd [] X1313.old b1271 b7 f1320 ) (hw _ (List.mem_of_getElem? (i := 110) rfl)) (hw _ (List.mem_of_getElem? (i := 111) rfl)) (hw _ (List.mem_of_getElem? (i := 113) rfl)) (hw _ (List.mem_of_getElem? (i := 112) rfl)) (hw _ (List.mem_of_getElem? (i := 56) rfl)) (hw _ (List.mem_of_getElem? (i := 114) rfl)) (by decide) (lenOf pd__28_29Ljava_2flang_2fString_3b rfl) rfl rfl rfl (W := 0) rfl (by decide) (by decide) (by decide) (by decide) all0 rfl ?_
        intro T1321 h1321 v1321 X1321 K1321 hQ1321
        obtain rfl := hQ1321
        show OGo _ _ _ _ T1321 (mkF m 185 #[.val (.int pc), .val (.long ps), .second, .val (.long pl), .second, .val (.int ph), .val (.long pt), .second, .val (.int pf), .val (.ref b1), .val (.ref b7), .val (.int (1 : Int32)), .val (.int (1 : Int32)), .val (.ref b1262), .val (.ref b1271), .val .null, .unset] [(.ref b7)])
        refine og_aload X1321 187 at_185 rfl rfl rfl ?_
        have f1322 := E11.keep K1262
        have f1323 := f1322.keep K1266
        have f1324 := f1323.keep K1271
        have f1325 := f1324.keep K1279
        have f1326 := f1325.keep K1288
        have f1327 := f1326.keep K1291
        have f1328 := f1327.keep K1295
        have f1329 := f1328.keep K1300
        have f1330 := f1329.keep K1306
        have f1331 := f1330.keep K1313
        have f1332 := f1331.keep K1321
        refine own_virt X1321 190 (a := b7) (argsL := [(.ref b7)]) (rest := []) at_187 f1332 (fun _ hZ => notFace_of_selects (args := #[]) (mvT hZ (hw _ (List.mem_of_getElem? (i := 118) rfl)))) (rm19 l Z a0 hw n0 h1321 hWd [] X1321.old b7  ) (hw _ (List.mem_of_getElem? (i := 115) rfl)) (hw _ (List.mem_of_getElem? (i := 116) rfl)) (hw _ (List.mem_of_getElem? (i := 118) rfl)) (hw _ (List.mem_of_getElem? (i := 117) rfl)) (hw _ (List.mem_of_getElem? (i := 3) rfl)) (hw _ (List.mem_of_getElem? (i := 119) rfl)) (by decide) (lenOf pd__28Ljava_2flang_2fObject_3b_29Z rfl) rfl rfl rfl (W := 0) rfl (by decide) (by decide) (by decide) (by decide) all0 rfl ?_
        intro T1333 h1333 v1333 X1333 K1333 hQ1333
        obtain rfl := hQ1333
        show OGo _ _ _ _ T1333 (mkF m 190 #[.val (.int pc), .val (.long ps), .second, .val (.long pl), .second, .val (.int ph), .val (.long pt), .second, .val (.int pf), .val (.ref b1), .val (.ref b7), .val (.int (1 : Int32)), .val (.int (1 : Int32)), .val (.ref b1262), .val (.ref b1271), .val .null, .unset] [(.int (1 : Int32))])
        refine og_ifN X1333 193 at_190 (XT.i0_eq_f (by decide)) rfl ?_
        refine og_iconst X1333 194 (1 : Int32) at_193 rfl rfl ?_
        refine og_goto X1333 198 at_194 (by decide) (by decide) ?_
        refine og_istore X1333 200 #[.val (.int pc), .val (.long ps), .second, .val (.long pl), .second, .val (.int ph), .val (.long pt), .second, .val (.int pf), .val (.ref b1), .val (.ref b7), .val (.int (1 : Int32)), .val (.int (1 : Int32)), .val (.ref b1262), .val (.ref b1271), .val .null, .val (.int (1 : Int32))] at_198 rfl rfl ?_
        refine og_iload X1333 202 at_200 rfl rfl ?_
        refine og_iconst X1333 203 (1 : Int32) at_202 rfl rfl ?_
        refine og_icmpN X1333 206 at_203 (XT.ii_ne_f (by decide)) rfl ?_
        refine og_aload X1333 208 at_206 rfl rfl rfl ?_
        refine og_nonnullN X1333 211 at_208 rfl ?_
        refine og_iload X1333 213 at_211 rfl rfl ?_
        refine og_ifN X1333 216 at_213 (XT.i0_eq_f (by decide)) rfl ?_
        refine og_iconst X1333 217 (1 : Int32) at_216 rfl rfl ?_
        refine og_goto X1333 221 at_217 (by decide) (by decide) ?_
        refine own_retZ X1333 at_221 hret rfl (by decide) (by decide) ?_
        exact rfl
      · -- not
        refine og_ifN X1266 92 at_89 (XT.i0_eq_f hc1270) rfl ?_
        refine og_aload X1266 94 at_92 rfl rfl rfl ?_
        refine og_aconstNull X1266 95 at_94 rfl ?_
        have f1334 := E1262.keep K1266
        refine own_face X1266 100 (a := b1262) (argsL := [.null]) (rest := []) at_95 f1334 (rm20 l Z a0 hw n0 h1266 hWd [] X1266.old b1262 (0 : Int32) f1334 f1267 f1268 f1269 (own_svb X1266 (List.mem_of_getElem? (i := 0) rfl))) (hw _ (List.mem_of_getElem? (i := 121) rfl)) (hw _ (List.mem_of_getElem? (i := 122) rfl)) (hw _ (List.mem_of_getElem? (i := 123) rfl)) (hw _ (List.mem_of_getElem? (i := 124) rfl)) (hw _ (List.mem_of_getElem? (i := 125) rfl)) (hw _ (List.mem_of_getElem? (i := 126) rfl)) (hw _ (List.mem_of_getElem? (i := 127) rfl)) (hw _ (List.mem_of_getElem? (i := 128) rfl)) (hw _ (List.mem_of_getElem? (i := 32) rfl)) (hw _ (List.mem_of_getElem? (i := 129) rfl)) (by decide) (lenOf pd__28Ljava_2flang_2fObject_3b_29Z rfl) rfl rfl rfl (W := 0) rfl (by decide) (by decide) (by decide) (by decide) (allS (List.mem_of_getElem? (i := 0) rfl) all0) rfl ?_
        intro T1335 h1335 v1335 X1335 K1335 hQ1335
        obtain ⟨rfl, f1336⟩ := hQ1335
        show OGo _ _ _ _ T1335 (mkF m 100 #[.val (.int pc), .val (.long ps), .second, .val (.long pl), .second, .val (.int ph), .val (.long pt), .second, .val (.int pf), .val (.ref b1), .val (.ref b7), .val (.int (1 : Int32)), .val (.int (1 : Int32)), .val (.ref b1262), .unset, .unset, .unset] [(.int (1 : Int32))])
        refine og_pop X1335 101 at_100 rfl rfl ?_
        refine own_new X1335 104 at_101 (hw _ (List.mem_of_getElem? (i := 54) rfl)) (hw _ (List.mem_of_getElem? (i := 55) rfl)) (hw _ (List.mem_of_getElem? (i := 56) rfl)) (by decide) (by decide) rfl ?_
        intro T1337 h1337 b1337 X1337 K1337 G1337 U1337 E1337 D1337
        have f1338 : Fld Z h1337 b1337 "com/example/synlock/synlock/Holds$Grant" "owner" "Ljava/lang/String;" .null := D1337 (Or.inr (hw _ (List.mem_of_getElem? (i := 67) rfl))) (ty := (.object "java/lang/String")) (by decide)
        have f1339 : Fld Z h1337 b1337 "com/example/synlock/synlock/Holds$Grant" "sentNanos" "J" (.long (0 : Int64)) := D1337 (Or.inr (hw _ (List.mem_of_getElem? (i := 69) rfl))) (ty := .long) (by decide)
        have f1340 : Fld Z h1337 b1337 "com/example/synlock/synlock/Holds$Grant" "leaseNanos" "J" (.long (0 : Int64)) := D1337 (Or.inr (hw _ (List.mem_of_getElem? (i := 71) rfl))) (ty := .long) (by decide)
        have f1341 : Fld Z h1337 b1337 "com/example/synlock/synlock/Holds$Grant" "holds" "I" (.int (0 : Int32)) := D1337 (Or.inr (hw _ (List.mem_of_getElem? (i := 73) rfl))) (ty := .int) (by decide)
        have f1342 : Fld Z h1337 b1337 "com/example/synlock/synlock/Holds$Grant" "token" "J" (.long (0 : Int64)) := D1337 (Or.inr (hw _ (List.mem_of_getElem? (i := 75) rfl))) (ty := .long) (by decide)
        have f1343 : Fld Z h1337 b1337 "com/example/synlock/synlock/Holds$Grant" "renewed" "Z" (.int (0 : Int32)) := D1337 (Or.inr (hw _ (List.mem_of_getElem? (i := 77) rfl))) (ty := .boolean) (by decide)
        have f1344 : Fld Z h1337 b1337 "com/example/synlock/synlock/Holds$Grant" "listeners" "Ljava/util/List;" .null := D1337 (Or.inr (hw _ (List.mem_of_getElem? (i := 79) rfl))) (ty := (.object "java/util/List")) (by decide)
        refine og_dup X1337 105 at_104 rfl rfl ?_
        refine og_aload X1337 107 at_105 rfl rfl rfl ?_
        refine og_lloadN X1337 108 at_107 rfl rfl ?_
        refine og_lloadN X1337 109 at_108 rfl rfl ?_
        refine og_iload X1337 111 at_109 rfl rfl ?_
        refine og_lload X1337 113 at_111 rfl rfl ?_
        refine og_iload X1337 115 at_113 rfl rfl ?_
        refine og_aload X1337 117 at_115 rfl rfl rfl ?_
        refine own_spec X1337 120 (a := b1337) (argsL := [(.ref b7), (.long ps), (.long pl), (.int (1 : Int32)), (.long pt), (.int (1 : Int32)), (.ref b1262)]) (rest := [(.ref b1337)]) at_117 rfl (rm10 l Z a0 hw n0 h1337 hWd [] X1337.old b1337 b7 ps pl (1 : Int32) pt (1 : Int32) b1262 E1337 f1338 f1339 f1340 f1341 f1342 f1343 f1344 (by decide) (own_svb X1337 (List.mem_of_getElem? (i := 0) rfl))) (hw _ (List.mem_of_getElem? (i := 57) rfl)) (hw _ (List.mem_of_getElem? (i := 58) rfl)) (hw _ (List.mem_of_getElem? (i := 56) rfl)) (hw _ (List.mem_of_getElem? (i := 59) rfl)) (by decide) (lenOf pd__28Ljava_2flang_2fString_3bJJIJZLjava_2futil_2fList_3b_29V rfl) rfl rfl rfl (W := 1) rfl (by decide) (by decide) (by decide) (by decide) (allS (List.mem_of_getElem? (i := 0) rfl) all0) rfl ?_
        intro T1345 h1345 v1345 X1345 K1345 hQ1345
        obtain ⟨rfl, f1346, f1347, f1348, f1349, f1350, f1351, f1352⟩ := hQ1345
        show OGo _ _ _ _ T1345 (mkF m 120 #[.val (.int pc), .val (.long ps), .second, .val (.long pl), .second, .val (.int ph), .val (.long pt), .second, .val (.int pf), .val (.ref b1), .val (.ref b7), .val (.int (1 : Int32)), .val (.int (1 : Int32)), .val (.ref b1262), .unset, .unset, .unset] [(.ref b1337)])
        refine og_astore X1345 122 #[.val (.int pc), .val (.long ps), .second, .val (.long pl), .second, .val (.int ph), .val (.long pt), .second, .val (.int pf), .val (.ref b1), .val (.ref b7), .val (.int (1 : Int32)), .val (.int (1 : Int32)), .val (.ref b1262), .val (.ref b1337), .unset, .unset] at_120 rfl rfl rfl ?_
        refine og_aload X1345 124 at_122 rfl rfl rfl ?_
        have f1353 := E1337.keep K1345
        refine own_virt X1345 127 (a := b1337) (argsL := []) (rest := []) at_124 f1353 (fun _ hZ => notFace_of_selects (args := #[]) (mvT hZ (hw _ (List.mem_of_getElem? (i := 83) rfl)))) (rm_rel0 l Z a0 hw n0 h1345 hWd [] X1345.old b1337 (1 : Int32) f1349 (by decide) ) (hw _ (List.mem_of_getElem? (i := 80) rfl)) (hw _ (List.mem_of_getElem? (i := 81) rfl)) (hw _ (List.mem_of_getElem? (i := 83) rfl)) (hw _ (List.mem_of_getElem? (i := 82) rfl)) (hw _ (List.mem_of_getElem? (i := 56) rfl)) (hw _ (List.mem_of_getElem? (i := 84) rfl)) (by decide) (lenOf pd__28_29Lcom_2fexample_2fsynlock_2fsynlock_2fHolds_24Grant_3b rfl) rfl rfl rfl (W := 0) rfl (by decide) (by decide) (by decide) (by decide) all0 rfl ?_
        intro T1354 h1354 v1354 X1354 K1354 hQ1354
        obtain rfl := hQ1354
        show OGo _ _ _ _ T1354 (mkF m 127 #[.val (.int pc), .val (.long ps), .second, .val (.long pl), .second, .val (.int ph), .val (.long pt), .second, .val (.int pf), .val (.ref b1), .val (.ref b7), .val (.int (1 : Int32)), .val (.int (1 : Int32)), .val (.ref b1262), .val (.ref b1337), .unset, .unset] [.null])
        refine og_astore X1354 129 #[.val (.int pc), .val (.long ps), .second, .val (.long pl), .second, .val (.int ph), .val (.long pt), .second, .val (.int pf), .val (.ref b1), .val (.ref b7), .val (.int (1 : Int32)), .val (.int (1 : Int32)), .val (.ref b1262), .val (.ref b1337), .val .null, .unset] at_127 rfl rfl rfl ?_
        refine og_aload X1354 131 at_129 rfl rfl rfl ?_
        have f1355 := f1353.keep K1354
        have f1356 := f1349.keep K1354 nin0
        refine own_virt X1354 134 (a := b1337) (argsL := []) (rest := []) at_131 f1355 (fun _ hZ => notFace_of_selects (args := #[]) (mvT hZ (hw _ (List.mem_of_getElem? (i := 88) rfl)))) (rm13 l Z a0 hw n0 h1354 hWd [] X1354.old b1337 (1 : Int32) f1356 ) (hw _ (List.mem_of_getElem? (i := 85) rfl)) (hw _ (List.mem_of_getElem? (i := 86) rfl)) (hw _ (List.mem_of_getElem? (i := 88) rfl)) (hw _ (List.mem_of_getElem? (i := 87) rfl)) (hw _ (List.mem_of_getElem? (i := 56) rfl)) (hw _ (List.mem_of_getElem? (i := 89) rfl)) (by decide) (lenOf pd__28_29I rfl) rfl rfl rfl (W := 0) rfl (by decide) (by decide) (by decide) (by decide) all0 rfl ?_
        intro T1357 h1357 v1357 X1357 K1357 hQ1357
        obtain rfl := hQ1357
        show OGo _ _ _ _ T1357 (mkF m 134 #[.val (.int pc), .val (.long ps), .second, .val (.long pl), .second, .val (.int ph), .val (.long pt), .second, .val (.int pf), .val (.ref b1), .val (.ref b7), .val (.int (1 : Int32)), .val (.int (1 : Int32)), .val (.ref b1262), .val (.ref b1337), .val .null, .unset] [(.int (1 : Int32))])
        refine og_iload X1357 136 at_134 rfl rfl ?_
        refine og_icmpN X1357 139 at_136 (XT.ii_ne_f (by decide)) rfl ?_
        refine og_aload X1357 141 at_139 rfl rfl rfl ?_
        have f1358 := f1355.keep K1357
        have f1359 := f1347.keep K1354 nin0
        have f1360 := f1359.keep K1357 nin0
        refine own_virt X1357 144 (a := b1337) (argsL := []) (rest := []) at_141 f1358 (fun _ hZ => notFace_of_selects (args := #[]) (mvT hZ (hw _ (List.mem_of_getElem? (i := 93) rfl)))) (rm14 l Z a0 hw n0 h1357 hWd [] X1357.old b1337 ps f1360 ) (hw _ (List.mem_of_getElem? (i := 90) rfl)) (hw _ (List.mem_of_getElem? (i := 91) rfl)) (hw _ (List.mem_of_getElem? (i := 93) rfl)) (hw _ (List.mem_of_getElem? (i := 92) rfl)) (hw _ (List.mem_of_getElem? (i := 56) rfl)) (hw _ (List.mem_of_getElem? (i := 94) rfl)) (by decide) (lenOf pd__28_29J rfl) rfl rfl rfl (W := 0) rfl (by decide) (by decide) (by decide) (by decide) all0 rfl ?_
        intro T1361 h1361 v1361 X1361 K1361 hQ1361
        obtain rfl := hQ1361
        show OGo _ _ _ _ T1361 (mkF m 144 #[.val (.int pc), .val (.long ps), .second, .val (.long pl), .second, .val (.int ph), .val (.long pt), .second, .val (.int pf), .val (.ref b1), .val (.ref b7), .val (.int (1 : Int32)), .val (.int (1 : Int32)), .val (.ref b1262), .val (.ref b1337), .val .null, .unset] [(.long ps)])
        refine og_lloadN X1361 145 at_144 rfl rfl ?_
        refine og_lcmp X1361 146 at_145 rfl ?_
        refine og_ifN X1361 149 at_146 (XT.ll_ne_f rfl) rfl ?_
        refine og_aload X1361 151 at_149 rfl rfl rfl ?_
        have f1362 := f1358.keep K1361
        have f1363 := f1348.keep K1354 nin0
        have f1364 := f1363.keep K1357 nin0
        have f1365 := f1364.keep K1361 nin0
        refine own_virt X1361 154 (a := b1337) (argsL := []) (rest := []) at_151 f1362 (fun _ hZ => notFace_of_selects (args := #[]) (mvT hZ (hw _ (List.mem_of_getElem? (i := 98) rfl)))) (rm15 l Z a0 hw n0 h1361 hWd [] X1361.old b1337 pl f1365 ) (hw _ (List.mem_of_getElem? (i := 95) rfl)) (hw _ (List.mem_of_getElem? (i := 96) rfl)) (hw _ (List.mem_of_getElem? (i := 98) rfl)) (hw _ (List.mem_of_getElem? (i := 97) rfl)) (hw _ (List.mem_of_getElem? (i := 56) rfl)) (hw _ (List.mem_of_getElem? (i := 99) rfl)) (by decide) (lenOf pd__28_29J rfl) rfl rfl rfl (W := 0) rfl (by decide) (by decide) (by decide) (by decide) all0 rfl ?_
        intro T1366 h1366 v1366 X1366 K1366 hQ1366
        obtain rfl := hQ1366
        show OGo _ _ _ _ T1366 (mkF m 154 #[.val (.int pc), .val (.long ps), .second, .val (.long pl), .second, .val (.int ph), .val (.long pt), .second, .val (.int pf), .val (.ref b1), .val (.ref b7), .val (.int (1 : Int32)), .val (.int (1 : Int32)), .val (.ref b1262), .val (.ref b1337), .val .null, .unset] [(.long pl)])
        refine og_lloadN X1366 155 at_154 rfl rfl ?_
        refine og_lcmp X1366 156 at_155 rfl ?_
        refine og_ifN X1366 159 at_156 (XT.ll_ne_f rfl) rfl ?_
        refine og_aload X1366 161 at_159 rfl rfl rfl ?_
        have f1367 := f1362.keep K1366
        have f1368 := f1350.keep K1354 nin0
        have f1369 := f1368.keep K1357 nin0
        have f1370 := f1369.keep K1361 nin0
        have f1371 := f1370.keep K1366 nin0
        refine own_virt X1366 164 (a := b1337) (argsL := []) (rest := []) at_161 f1367 (fun _ hZ => notFace_of_selects (args := #[]) (mvT hZ (hw _ (List.mem_of_getElem? (i := 103) rfl)))) (rm16 l Z a0 hw n0 h1366 hWd [] X1366.old b1337 pt f1371 ) (hw _ (List.mem_of_getElem? (i := 100) rfl)) (hw _ (List.mem_of_getElem? (i := 101) rfl)) (hw _ (List.mem_of_getElem? (i := 103) rfl)) (hw _ (List.mem_of_getElem? (i := 102) rfl)) (hw _ (List.mem_of_getElem? (i := 56) rfl)) (hw _ (List.mem_of_getElem? (i := 104) rfl)) (by decide) (lenOf pd__28_29J rfl) rfl rfl rfl (W := 0) rfl (by decide) (by decide) (by decide) (by decide) all0 rfl ?_
        intro T1372 h1372 v1372 X1372 K1372 hQ1372
        obtain rfl := hQ1372
        show OGo _ _ _ _ T1372 (mkF m 164 #[.val (.int pc), .val (.long ps), .second, .val (.long pl), .second, .val (.int ph), .val (.long pt), .second, .val (.int pf), .val (.ref b1), .val (.ref b7), .val (.int (1 : Int32)), .val (.int (1 : Int32)), .val (.ref b1262), .val (.ref b1337), .val .null, .unset] [(.long pt)])
        refine og_lload X1372 166 at_164 rfl rfl ?_
        refine og_lcmp X1372 167 at_166 rfl ?_
        refine og_ifN X1372 170 at_167 (XT.ll_ne_f rfl) rfl ?_
        refine og_aload X1372 172 at_170 rfl rfl rfl ?_
        have f1373 := f1367.keep K1372
        have f1374 := f1351.keep K1354 nin0
        have f1375 := f1374.keep K1357 nin0
        have f1376 := f1375.keep K1361 nin0
        have f1377 := f1376.keep K1366 nin0
        have f1378 := f1377.keep K1372 nin0
        refine own_virt X1372 175 (a := b1337) (argsL := []) (rest := []) at_172 f1373 (fun _ hZ => notFace_of_selects (args := #[]) (mvT hZ (hw _ (List.mem_of_getElem? (i := 108) rfl)))) (rm17 l Z a0 hw n0 h1372 hWd [] X1372.old b1337 (1 : Int32) f1378 (by decide) ) (hw _ (List.mem_of_getElem? (i := 105) rfl)) (hw _ (List.mem_of_getElem? (i := 106) rfl)) (hw _ (List.mem_of_getElem? (i := 108) rfl)) (hw _ (List.mem_of_getElem? (i := 107) rfl)) (hw _ (List.mem_of_getElem? (i := 56) rfl)) (hw _ (List.mem_of_getElem? (i := 109) rfl)) (by decide) (lenOf pd__28_29Z rfl) rfl rfl rfl (W := 0) rfl (by decide) (by decide) (by decide) (by decide) all0 rfl ?_
        intro T1379 h1379 v1379 X1379 K1379 hQ1379
        obtain rfl := hQ1379
        show OGo _ _ _ _ T1379 (mkF m 175 #[.val (.int pc), .val (.long ps), .second, .val (.long pl), .second, .val (.int ph), .val (.long pt), .second, .val (.int pf), .val (.ref b1), .val (.ref b7), .val (.int (1 : Int32)), .val (.int (1 : Int32)), .val (.ref b1262), .val (.ref b1337), .val .null, .unset] [(.int (1 : Int32))])
        refine og_iload X1379 177 at_175 rfl rfl ?_
        refine og_icmpN X1379 180 at_177 (XT.ii_ne_f (by decide)) rfl ?_
        refine og_aload X1379 182 at_180 rfl rfl rfl ?_
        have f1380 := f1373.keep K1379
        have f1381 := f1346.keep K1354 nin0
        have f1382 := f1381.keep K1357 nin0
        have f1383 := f1382.keep K1361 nin0
        have f1384 := f1383.keep K1366 nin0
        have f1385 := f1384.keep K1372 nin0
        have f1386 := f1385.keep K1379 nin0
        refine own_virt X1379 185 (a := b1337) (argsL := []) (rest := []) at_182 f1380 (fun _ hZ => notFace_of_selects (args := #[]) (mvT hZ (hw _ (List.mem_of_getElem? (i := 113) rfl)))) (rm18 l Z a0 hw n0 h1379 hWd [] X1379.old b1337 b7 f1386 ) (hw _ (List.mem_of_getElem? (i := 110) rfl)) (hw _ (List.mem_of_getElem? (i := 111) rfl)) (hw _ (List.mem_of_getElem? (i := 113) rfl)) (hw _ (List.mem_of_getElem? (i := 112) rfl)) (hw _ (List.mem_of_getElem? (i := 56) rfl)) (hw _ (List.mem_of_getElem? (i := 114) rfl)) (by decide) (lenOf pd__28_29Ljava_2flang_2fString_3b rfl) rfl rfl rfl (W := 0) rfl (by decide) (by decide) (by decide) (by decide) all0 rfl ?_
        intro T1387 h1387 v1387 X1387 K1387 hQ1387
        obtain rfl := hQ1387
        show OGo _ _ _ _ T1387 (mkF m 185 #[.val (.int pc), .val (.long ps), .second, .val (.long pl), .second, .val (.int ph), .val (.long pt), .second, .val (.int pf), .val (.ref b1), .val (.ref b7), .val (.int (1 : Int32)), .val (.int (1 : Int32)), .val (.ref b1262), .val (.ref b1337), .val .null, .unset] [(.ref b7)])
        refine og_aload X1387 187 at_185 rfl rfl rfl ?_
        have f1388 := E11.keep K1262
        have f1389 := f1388.keep K1266
        have f1390 := f1389.keep K1335
        have f1391 := f1390.keep K1337
        have f1392 := f1391.keep K1345
        have f1393 := f1392.keep K1354
        have f1394 := f1393.keep K1357
        have f1395 := f1394.keep K1361
        have f1396 := f1395.keep K1366
        have f1397 := f1396.keep K1372
        have f1398 := f1397.keep K1379
        have f1399 := f1398.keep K1387
        refine own_virt X1387 190 (a := b7) (argsL := [(.ref b7)]) (rest := []) at_187 f1399 (fun _ hZ => notFace_of_selects (args := #[]) (mvT hZ (hw _ (List.mem_of_getElem? (i := 118) rfl)))) (rm19 l Z a0 hw n0 h1387 hWd [] X1387.old b7  ) (hw _ (List.mem_of_getElem? (i := 115) rfl)) (hw _ (List.mem_of_getElem? (i := 116) rfl)) (hw _ (List.mem_of_getElem? (i := 118) rfl)) (hw _ (List.mem_of_getElem? (i := 117) rfl)) (hw _ (List.mem_of_getElem? (i := 3) rfl)) (hw _ (List.mem_of_getElem? (i := 119) rfl)) (by decide) (lenOf pd__28Ljava_2flang_2fObject_3b_29Z rfl) rfl rfl rfl (W := 0) rfl (by decide) (by decide) (by decide) (by decide) all0 rfl ?_
        intro T1400 h1400 v1400 X1400 K1400 hQ1400
        obtain rfl := hQ1400
        show OGo _ _ _ _ T1400 (mkF m 190 #[.val (.int pc), .val (.long ps), .second, .val (.long pl), .second, .val (.int ph), .val (.long pt), .second, .val (.int pf), .val (.ref b1), .val (.ref b7), .val (.int (1 : Int32)), .val (.int (1 : Int32)), .val (.ref b1262), .val (.ref b1337), .val .null, .unset] [(.int (1 : Int32))])
        refine og_ifN X1400 193 at_190 (XT.i0_eq_f (by decide)) rfl ?_
        refine og_iconst X1400 194 (1 : Int32) at_193 rfl rfl ?_
        refine og_goto X1400 198 at_194 (by decide) (by decide) ?_
        refine og_istore X1400 200 #[.val (.int pc), .val (.long ps), .second, .val (.long pl), .second, .val (.int ph), .val (.long pt), .second, .val (.int pf), .val (.ref b1), .val (.ref b7), .val (.int (1 : Int32)), .val (.int (1 : Int32)), .val (.ref b1262), .val (.ref b1337), .val .null, .val (.int (1 : Int32))] at_198 rfl rfl ?_
        refine og_iload X1400 202 at_200 rfl rfl ?_
        refine og_iconst X1400 203 (1 : Int32) at_202 rfl rfl ?_
        refine og_icmpN X1400 206 at_203 (XT.ii_ne_f (by decide)) rfl ?_
        refine og_aload X1400 208 at_206 rfl rfl rfl ?_
        refine og_nonnullN X1400 211 at_208 rfl ?_
        refine og_iload X1400 213 at_211 rfl rfl ?_
        refine og_ifN X1400 216 at_213 (XT.i0_eq_f (by decide)) rfl ?_
        refine og_iconst X1400 217 (1 : Int32) at_216 rfl rfl ?_
        refine og_goto X1400 221 at_217 (by decide) (by decide) ?_
        refine own_retZ X1400 at_221 hret rfl (by decide) (by decide) ?_
        exact rfl
set_option maxRecDepth 65536 in
set_option maxHeartbeats 40000000 in
theorem comes_1 {Post : Tables → Env → Array Value → State → Outcome → State → Prop} (hpost : ∀ tb e args s v u, (limb_1_1.after args s (.returned v) u = true ∧ limb_1_2.after args s (.returned v) u = true ∧ True) → FrameEnd s (.returned v) u (Jvm.fieldLocs frame_1_writes args s ++ Jvm.arrayLocs frame_1_arrays args s ++ Jvm.staticLocs frame_1_statics s) 24 192 → Post tb e args s (.returned v) u) :
    ArmFor flags0 classFile x code maxLocals ret World_1 tables_1 room_1 Calls_1 rest_1 Pre_1 Post := by
  intro l hfl _ _ p e ha hc hk s m args below hf hA hF happ hP
  obtain ⟨hcalls, hrest, hpre⟩ := hP
  obtain ⟨-, -, -, hnamed, -, -, -, hat⟩ := (Spec.applies_iff hf).mp happ
  obtain ⟨hg, hn⟩ := and_e (Cond.before_iff.mp (show (Jvm.Cond.and given_1 narrow_1).before args s = true from hpre))
  obtain ⟨hcount, g0⟩ := and_e hg
  obtain ⟨i0, g1⟩ := and_e g0
  obtain ⟨i1, g2⟩ := and_e g1
  obtain ⟨i2, g3⟩ := and_e g2
  obtain ⟨i3, g4⟩ := and_e g3
  obtain ⟨i4, g5⟩ := and_e g4
  have i5 := g5
  obtain ⟨w0, w1, w2, w3, w4, w5, rfl⟩ : ∃ w0 w1 w2 w3 w4 w5 : Value, args = #[w0, w1, w2, w3, w4, w5] := by
    have hs : args.size = 6 := by simpa [Cond.value, given_1] using hcount
    obtain ⟨L⟩ := args
    match L, hs with
    | [w0, w1, w2, w3, w4, w5], _ => exact ⟨w0, w1, w2, w3, w4, w5, rfl⟩
  have hw := fun d (hd : d ∈ tables_1) => atoms_spec (ws := Jvm.Cond.code x code maxLocals ret :: tables_1) hat d (List.mem_cons_of_mem _ hd)
  obtain ⟨hsets, hown0⟩ := atoms_of _ (rest_1_c_eq ▸ (show rest_1_c.before _ s = true from hrest))
  obtain ⟨x0, e0⟩ := is_v i0
  obtain rfl : w0 = (.int x0) := Option.some.inj e0
  obtain ⟨x1, e1⟩ := isL_v i1
  obtain rfl : w1 = (.long x1) := Option.some.inj e1
  obtain ⟨x2, e2⟩ := isL_v i2
  obtain rfl : w2 = (.long x2) := Option.some.inj e2
  obtain ⟨x3, e3⟩ := is_v i3
  obtain rfl : w3 = (.int x3) := Option.some.inj e3
  obtain ⟨x4, e4⟩ := isL_v i4
  obtain rfl : w4 = (.long x4) := Option.some.inj e4
  obtain ⟨x5, e5⟩ := is_v i5
  obtain rfl : w5 = (.int x5) := Option.some.inj e5
  have hEL : EW s #[(.int x0), (.long x1), (.long x2), (.int x3), (.long x4), (.int x5)] own_EL := EW.nil
  obtain ⟨r0, f0⟩ := is_v (Cond.before_iff.mp (hsets _ (List.mem_of_getElem? (i := 1) rfl)))
  have t0 : own_sti s "java/lang/String" "COMPACT_STRINGS" "Z" = r0 := own_sti_of f0
  have S0 := Sta.start f0 (Or.inl (hsets _ (List.mem_of_getElem? (i := 0) rfl)))
  have c0 : ¬ (r0 = (0 : Int32)) := gotF (Cond.eq_ints f0 (Term.int_eval (0))) (not_v (Cond.before_iff.mp (hsets _ (List.mem_of_getElem? (i := 2) rfl))))
  have hWd : OWorld s #[(.int x0), (.long x1), (.long x2), (.int x3), (.long x4), (.int x5)] := ⟨hEL, ⟨by rw [t0]; exact S0, by rw [t0]; exact c0⟩, own_arr0 (hsets _ (List.mem_of_getElem? (i := 16) rfl)) (hsets _ (List.mem_of_getElem? (i := 15) rfl)) (hsets _ (List.mem_of_getElem? (i := 17) rfl)) (Or.inr ⟨(hw _ (List.mem_of_getElem? (i := 32) rfl)), (hsets _ (List.mem_of_getElem? (i := 11) rfl))⟩)⟩
  have hCH : CHv s own_EL s.vm s.heap := fun p hp => by cases hp
  obtain ⟨n, o, h1, h2, h3, v, L, rfl, ⟨N, -, hQ⟩, -, hqW, hqN⟩ := rm0 l s _ hw s.heap.size s.heap hWd tables_1 (Old.start s) x0 x1 x2 x3 x4 x5 p e ha hc hk s m _ below hf ((Spec.applies_iff_loose hf).mp happ).1 ⟨rfl, State.Warmed39.refl s, rfl, hCH, fun _ q => nomatch q⟩ trivial
  obtain rfl := hQ
  have hq := hqN rfl
  refine ⟨n, _, h1, h2, h3, hpost _ _ _ _ _ _ ⟨Cond.after_iff.mpr rfl, Cond.after_iff.mpr (eq_i res_at (Term.int_eval (1)) rfl), trivial⟩ ⟨hq.1, hq.2.1, (hq.2.2.sift fun y hy => Or.inr (N y hy)).mono (by decide) (by decide)⟩⟩
theorem main_1_1 : Claimed_1_1 := comes_1 fun _ _ _ _ _ _ h hF => ⟨h.1, hF⟩
theorem main_1_2 : Claimed_1_2 := comes_1 fun _ _ _ _ _ _ h hF => ⟨h.2.1, hF⟩
end Jvm.Pilot.@@N@@
namespace Jvm.Pilot.@@N@@
open Jvm Jvm.ClassFile Sem Op Lib Jvm.Free Jvm.Stand Jvm.Pilot.@@N@@.Jvm.D
/-! MADE BY PROGRAM (witnessworld.py) out of the Statement's table words and the real class files: 31 classes; the members and pool entries that the words name. The judged class is class 1, her method 1. -/
namespace start1
open Jvm.ClassFile
def u (s : String) : CpInfo := .utf8 (stringToUtf16 s)
/-- a pool by its gaps: so many unusable entries, then the entry; so many at the end -/
def gap : Nat → List CpInfo → List CpInfo
  | 0, r => r
  | n + 1, r => .unusable :: gap n r
def poolList (es : List (Nat × CpInfo)) (last : Nat) : List CpInfo := es.foldr (fun e r => gap e.1 (e.2 :: r)) (gap last [])
def pool (es : List (Nat × CpInfo)) (last : Nat) : Array CpInfo := ⟨poolList es last⟩
def fileOf (pool : Array CpInfo) (this : Nat) (attrs : Array Attribute := #[]) (ms : Array MethodInfo := #[]) (fl : Nat := 33) (sup : Nat := 0) (ifs : Array Nat := #[]) (fds : Array FieldInfo := #[]) : ClassFile where
  minorVersion := 0
  majorVersion := 65
  constantPool := pool
  accessFlags := fl
  thisClass := this
  superClass := sup
  interfaces := ifs
  fields := fds
  methods := ms
  attributes := attrs
def plain (name : String) (sup : Option ClassId) : Class where
  name := name
  kind := .ordinary
  loader := none
  accessFlags := 33
  super := sup
  interfaces := #[]
  cf := none
  fields := #[]
  methods := #[]
  instanceTypes := #[]
  staticTypes := #[]
  resolved := #[]
  callSites := []
  init := .initialized
  statics := none
  mirror := none

def pool0 : Array CpInfo := pool [(5, u "<init>"), (0, u "()V"), (1, .class_ 10), (1, u "java/lang/Object")] 113

def k0c0 : Code := { maxStack := 0, maxLocals := 1, code := object_method_1_code, exceptionTable := #[], attributes := #[] }
def k0m0 : Method := { name := "<init>", desc := "()V", sig := { parameters := [], returnType := none }, accessFlags := 1, code := some k0c0 }
/-- java/lang/Object -/
def k0 : Class := { plain "java/lang/Object" none with
  accessFlags := 33
  interfaces := #[]
  cf := some (fileOf pool0 8 #[] #[{ accessFlags := 1, nameIndex := 5, descriptorIndex := 6, attributes := #[] }] 33 0 #[] #[])
  fields := #[]
  methods := #[k0m0]
  instanceTypes := #[]
  staticTypes := #[]
  resolved := Array.replicate 124 none
  statics := none }

def pool1 : Array CpInfo := pool [(2, .class_ 4), (0, .nameAndType 5 6), (0, u "java/lang/Object"), (0, u "<init>"), (0, u "()V"), (0, .class_ 8), (0, u "java/lang/String"), (0, .methodref 7 10), (0, .nameAndType 5 11), (0, u "([C)V"), (0, .integer 2147483647), (2, .class_ 16), (0, u "java/util/ArrayList"), (0, .methodref 15 3), (0, .interfaceMethodref 19 20), (0, .class_ 21), (0, .nameAndType 22 23), (0, u "java/util/List"), (0, u "add"), (0, u "(Ljava/lang/Object;)Z"), (0, .class_ 25), (0, u "com/example/synlock/synlock/Holds$Grant"), (0, .methodref 24 27), (0, .nameAndType 5 28), (0, u "(Ljava/lang/String;JJIJZLjava/util/List;)V"), (0, .methodref 24 30), (0, .nameAndType 31 32), (0, u "releasedOnce"), (0, u "()Lcom/example/synlock/synlock/Holds$Grant;"), (0, .methodref 24 34), (0, .nameAndType 35 36), (0, u "holds"), (0, u "()I"), (0, .methodref 24 38), (0, .nameAndType 39 40), (0, u "sentNanos"), (0, u "()J"), (0, .methodref 24 42), (0, .nameAndType 43 40), (0, u "leaseNanos"), (0, .methodref 24 45), (0, .nameAndType 46 40), (0, u "token"), (0, .methodref 24 48), (0, .nameAndType 49 50), (0, u "renewed"), (0, u "()Z"), (0, .methodref 24 52), (0, .nameAndType 53 54), (0, u "owner"), (0, u "()Ljava/lang/String;"), (0, .methodref 7 56), (0, .nameAndType 57 23), (0, u "equals"), (0, .methodref 24 59), (0, .nameAndType 60 61), (0, u "listeners"), (0, u "()Ljava/util/List;"), (0, .interfaceMethodref 19 63), (0, .nameAndType 64 36), (0, u "size"), (0, .interfaceMethodref 19 56), (0, .class_ 67), (0, u "com/example/synlock/synlock/GrantReleasedOncePinLaw"), (2, u "law"), (0, u "(IJJIJI)Z")] 9

def k1m0 : Method := { name := "<init>", desc := "()V", sig := { parameters := [], returnType := none }, accessFlags := 1, code := none }
def k1c1 : Code := { maxStack := 12, maxLocals := 17, code := code, exceptionTable := #[], attributes := #[] }
def k1m1 : Method := { name := "law", desc := "(IJJIJI)Z", sig := { parameters := [.int, .long, .long, .int, .long, .int], returnType := some .boolean }, accessFlags := 9, code := some k1c1 }
/-- com/example/synlock/synlock/GrantReleasedOncePinLaw -/
def k1 : Class := { plain "com/example/synlock/synlock/GrantReleasedOncePinLaw" (some 0) with
  accessFlags := 49
  interfaces := #[]
  cf := some (fileOf pool1 66 #[] #[{ accessFlags := 1, nameIndex := 5, descriptorIndex := 6, attributes := #[] }, { accessFlags := 9, nameIndex := 70, descriptorIndex := 71, attributes := #[] }] 49 2 #[] #[])
  fields := #[]
  methods := #[k1m0, k1m1]
  instanceTypes := #[]
  staticTypes := #[]
  resolved := Array.replicate 81 none
  statics := none }

def pool2 : Array CpInfo := pool [(1, .class_ 2), (0, u "java/io/Serializable"), (0, .class_ 4), (0, u "java/lang/Object")] 2

/-- java/io/Serializable -/
def k2 : Class := { plain "java/io/Serializable" (some 0) with
  accessFlags := 1537
  interfaces := #[]
  cf := some (fileOf pool2 1 #[] #[] 1537 3 #[] #[])
  fields := #[]
  methods := #[]
  instanceTypes := #[]
  staticTypes := #[]
  resolved := Array.replicate 7 none
  statics := none }

def pool3 : Array CpInfo := pool [(1, .class_ 2), (0, u "java/lang/Comparable"), (0, .class_ 4), (0, u "java/lang/Object")] 7

/-- java/lang/Comparable -/
def k3 : Class := { plain "java/lang/Comparable" (some 0) with
  accessFlags := 1537
  interfaces := #[]
  cf := some (fileOf pool3 1 #[] #[] 1537 3 #[] #[])
  fields := #[]
  methods := #[]
  instanceTypes := #[]
  staticTypes := #[]
  resolved := Array.replicate 12 none
  statics := none }

def pool4 : Array CpInfo := pool [(2, .class_ 4), (1, u "java/lang/CharSequence"), (42, .class_ 48), (0, u "java/lang/CharSequence$1CodePointIterator"), (10, .class_ 60), (0, u "java/lang/CharSequence$1CharIterator"), (5, .class_ 67), (0, u "java/lang/Object")] 63

/-- java/lang/CharSequence -/
def k4 : Class := { plain "java/lang/CharSequence" (some 0) with
  accessFlags := 1537
  interfaces := #[]
  cf := some (fileOf pool4 2 #[.nestMembers #[47, 59]] #[] 1537 66 #[] #[])
  fields := #[]
  methods := #[]
  instanceTypes := #[]
  staticTypes := #[]
  resolved := Array.replicate 131 none
  statics := none }

def pool5 : Array CpInfo := pool [(1, .class_ 2), (0, u "java/lang/constant/Constable"), (0, .class_ 4), (0, u "java/lang/Object")] 6

/-- java/lang/constant/Constable -/
def k5 : Class := { plain "java/lang/constant/Constable" (some 0) with
  accessFlags := 1537
  interfaces := #[]
  cf := some (fileOf pool5 1 #[] #[] 1537 3 #[] #[])
  fields := #[]
  methods := #[]
  instanceTypes := #[]
  staticTypes := #[]
  resolved := Array.replicate 11 none
  statics := none }

def pool6 : Array CpInfo := pool [(1, .class_ 2), (0, u "java/lang/constant/ConstantDesc"), (0, .class_ 4), (0, u "java/lang/Object")] 32

/-- java/lang/constant/ConstantDesc -/
def k6 : Class := { plain "java/lang/constant/ConstantDesc" (some 0) with
  accessFlags := 1537
  interfaces := #[]
  cf := some (fileOf pool6 1 #[] #[] 1537 3 #[] #[])
  fields := #[]
  methods := #[]
  instanceTypes := #[]
  staticTypes := #[]
  resolved := Array.replicate 37 none
  statics := none }

def pool7 : Array CpInfo := pool [(1, .methodref 2 3), (0, .class_ 4), (0, .nameAndType 5 6), (0, u "java/lang/Object"), (0, u "<init>"), (0, u "()V"), (2, .fieldref 10 11), (0, .class_ 12), (0, .nameAndType 13 14), (0, u "java/lang/String"), (0, u "value"), (0, u "[B"), (0, .fieldref 10 16), (0, .nameAndType 17 18), (0, u "coder"), (0, u "B"), (2, u "hash"), (0, u "I"), (2, u "hashIsZero"), (0, u "Z"), (0, .methodref 10 28), (0, .nameAndType 5 29), (0, u "([CIILjava/lang/Void;)V"), (8, .fieldref 10 39), (0, .nameAndType 40 26), (0, u "COMPACT_STRINGS"), (1, .class_ 44), (1, u "java/lang/StringUTF16"), (0, u "compress"), (1, .methodref 42 48), (0, .nameAndType 49 50), (0, u "coderFromArrayLen"), (0, u "([BI)B"), (126, .methodref 42 178), (0, .nameAndType 45 179), (0, u "([CII)[B"), (363, u "equals"), (29, u "(Ljava/lang/Object;)Z"), (1, .class_ 576), (0, u "java/lang/CharSequence"), (22, u "CASE_INSENSITIVE_ORDER"), (0, u "Ljava/util/Comparator;"), (409, u "([C)V"), (90, u "serialPersistentFields"), (0, u "[Ljava/io/ObjectStreamField;"), (0, .class_ 1104), (0, u "java/lang/String$CaseInsensitiveComparator"), (1, .class_ 1107), (0, u "java/io/Serializable"), (0, .class_ 1109), (0, u "java/lang/Comparable"), (0, .class_ 1111), (0, u "java/lang/constant/Constable"), (0, .class_ 1113), (0, u "java/lang/constant/ConstantDesc"), (2, u "serialVersionUID"), (0, u "J"), (3, u "REPL"), (0, u "C"), (2, u "LATIN1"), (1, u "UTF16")] 323

def k7m0 : Method := { name := "<init>", desc := "()V", sig := { parameters := [], returnType := none }, accessFlags := 1, code := none }
def k7c1 : Code := { maxStack := 5, maxLocals := 2, code := jdk_42_method_3_code, exceptionTable := #[], attributes := #[] }
def k7m1 : Method := { name := "<init>", desc := "([C)V", sig := { parameters := [(.array .char)], returnType := none }, accessFlags := 1, code := some k7c1 }
def k7c2 : Code := { maxStack := 2, maxLocals := 3, code := jdk_42_method_66_code, exceptionTable := #[], attributes := #[] }
def k7m2 : Method := { name := "equals", desc := "(Ljava/lang/Object;)Z", sig := { parameters := [(.object "java/lang/Object")], returnType := some .boolean }, accessFlags := 1, code := some k7c2 }
def k7c3 : Code := { maxStack := 4, maxLocals := 6, code := jdk_42_method_149_code, exceptionTable := #[], attributes := #[] }
def k7m3 : Method := { name := "<init>", desc := "([CIILjava/lang/Void;)V", sig := { parameters := [(.array .char), .int, .int, (.object "java/lang/Void")], returnType := none }, accessFlags := 2, code := some k7c3 }
/-- java/lang/String -/
def k7 : Class := { plain "java/lang/String" (some 0) with
  accessFlags := 49
  interfaces := #[2, 3, 4, 5, 6]
  cf := some (fileOf pool7 10 #[.nestMembers #[1103]] #[{ accessFlags := 1, nameIndex := 5, descriptorIndex := 6, attributes := #[] }, { accessFlags := 1, nameIndex := 5, descriptorIndex := 1010, attributes := #[] }, { accessFlags := 1, nameIndex := 543, descriptorIndex := 573, attributes := #[] }, { accessFlags := 2, nameIndex := 5, descriptorIndex := 29, attributes := #[] }] 49 2 #[1106, 1108, 575, 1110, 1112] #[{ accessFlags := 18, nameIndex := 13, descriptorIndex := 14, attributes := #[] }, { accessFlags := 18, nameIndex := 17, descriptorIndex := 18, attributes := #[] }, { accessFlags := 2, nameIndex := 21, descriptorIndex := 22, attributes := #[] }, { accessFlags := 2, nameIndex := 25, descriptorIndex := 26, attributes := #[] }, { accessFlags := 26, nameIndex := 1116, descriptorIndex := 1117, attributes := #[] }, { accessFlags := 24, nameIndex := 40, descriptorIndex := 26, attributes := #[] }, { accessFlags := 26, nameIndex := 1101, descriptorIndex := 1102, attributes := #[] }, { accessFlags := 26, nameIndex := 1121, descriptorIndex := 1122, attributes := #[] }, { accessFlags := 25, nameIndex := 599, descriptorIndex := 600, attributes := #[] }, { accessFlags := 24, nameIndex := 1125, descriptorIndex := 18, attributes := #[] }, { accessFlags := 24, nameIndex := 1127, descriptorIndex := 18, attributes := #[] }])
  fields := #[{ name := "value", type := (.array .byte), accessFlags := 18, slot := 0, constantValue := 0 }, { name := "coder", type := .byte, accessFlags := 18, slot := 1, constantValue := 0 }, { name := "hash", type := .int, accessFlags := 2, slot := 2, constantValue := 0 }, { name := "hashIsZero", type := .boolean, accessFlags := 2, slot := 3, constantValue := 0 }, { name := "serialVersionUID", type := .long, accessFlags := 26, slot := 0, constantValue := 0 }, { name := "COMPACT_STRINGS", type := .boolean, accessFlags := 24, slot := 1, constantValue := 0 }, { name := "serialPersistentFields", type := (.array (.object "java/io/ObjectStreamField")), accessFlags := 26, slot := 2, constantValue := 0 }, { name := "REPL", type := .char, accessFlags := 26, slot := 3, constantValue := 0 }, { name := "CASE_INSENSITIVE_ORDER", type := (.object "java/util/Comparator"), accessFlags := 25, slot := 4, constantValue := 0 }, { name := "LATIN1", type := .byte, accessFlags := 24, slot := 5, constantValue := 0 }, { name := "UTF16", type := .byte, accessFlags := 24, slot := 6, constantValue := 0 }]
  methods := #[k7m0, k7m1, k7m2, k7m3]
  instanceTypes := #[(.array .byte), .byte, .int, .boolean]
  staticTypes := #[.long, .boolean, (.array (.object "java/io/ObjectStreamField")), .char, (.object "java/util/Comparator"), .byte, .byte]
  resolved := Array.replicate 1451 none
  statics := some 0 }

def pool8 : Array CpInfo := pool [(6, .class_ 8), (1, u "java/lang/Object"), (0, u "<init>"), (0, u "()V"), (1, .class_ 14), (1, u "java/lang/StringUTF16"), (31, u "$assertionsDisabled"), (0, u "Z"), (13, u "HI_BYTE_SHIFT"), (0, u "I"), (2, u "LO_BYTE_SHIFT"), (49, .methodref 12 116), (0, .nameAndType 117 118), (0, u "compress"), (0, u "([CI[BII)I"), (3, u "([CII)[B"), (138, u "coderFromArrayLen"), (0, u "([BI)B"), (106, .class_ 371), (1, u "java/lang/StringUTF16$LinesSpliterator"), (58, u "MAX_LENGTH"), (196, .class_ 628), (0, u "java/lang/StringUTF16$CodePointsSpliterator"), (0, .class_ 630), (0, u "java/lang/StringUTF16$CharsSpliterator")] 4

def k8m0 : Method := { name := "<init>", desc := "()V", sig := { parameters := [], returnType := none }, accessFlags := 0, code := none }
def k8c1 : Code := { maxStack := 2, maxLocals := 2, code := jdk_52_method_15_code, exceptionTable := #[], attributes := #[] }
def k8m1 : Method := { name := "coderFromArrayLen", desc := "([BI)B", sig := { parameters := [(.array .byte), .int], returnType := some .byte }, accessFlags := 8, code := some k8c1 }
def k8c2 : Code := { maxStack := 5, maxLocals := 6, code := jdk_52_method_16_code, exceptionTable := #[], attributes := #[] }
def k8m2 : Method := { name := "compress", desc := "([CII)[B", sig := { parameters := [(.array .char), .int, .int], returnType := some (.array .byte) }, accessFlags := 9, code := some k8c2 }
def k8c3 : Code := { maxStack := 3, maxLocals := 7, code := jdk_52_method_21_code, exceptionTable := #[], attributes := #[] }
def k8m3 : Method := { name := "compress", desc := "([CI[BII)I", sig := { parameters := [(.array .char), .int, (.array .byte), .int, .int], returnType := some .int }, accessFlags := 9, code := some k8c3 }
/-- java/lang/StringUTF16 -/
def k8 : Class := { plain "java/lang/StringUTF16" (some 0) with
  accessFlags := 48
  interfaces := #[]
  cf := some (fileOf pool8 12 #[.nestMembers #[627, 629, 369]] #[{ accessFlags := 0, nameIndex := 9, descriptorIndex := 10, attributes := #[] }, { accessFlags := 8, nameIndex := 261, descriptorIndex := 262, attributes := #[] }, { accessFlags := 9, nameIndex := 117, descriptorIndex := 122, attributes := #[] }, { accessFlags := 9, nameIndex := 117, descriptorIndex := 118, attributes := #[] }] 48 6 #[] #[{ accessFlags := 26, nameIndex := 61, descriptorIndex := 62, attributes := #[] }, { accessFlags := 26, nameIndex := 65, descriptorIndex := 62, attributes := #[] }, { accessFlags := 24, nameIndex := 430, descriptorIndex := 62, attributes := #[] }, { accessFlags := 4120, nameIndex := 46, descriptorIndex := 47, attributes := #[] }])
  fields := #[{ name := "HI_BYTE_SHIFT", type := .int, accessFlags := 26, slot := 0, constantValue := 0 }, { name := "LO_BYTE_SHIFT", type := .int, accessFlags := 26, slot := 1, constantValue := 0 }, { name := "MAX_LENGTH", type := .int, accessFlags := 24, slot := 2, constantValue := 0 }, { name := "$assertionsDisabled", type := .boolean, accessFlags := 4120, slot := 3, constantValue := 0 }]
  methods := #[k8m0, k8m1, k8m2, k8m3]
  instanceTypes := #[]
  staticTypes := #[.int, .int, .int, .boolean]
  resolved := Array.replicate 635 none
  statics := none }

def pool9 : Array CpInfo := pool [(8, .class_ 10), (1, u "java/lang/Iterable"), (24, .class_ 36), (0, u "java/lang/Object")] 25

/-- java/lang/Iterable -/
def k9 : Class := { plain "java/lang/Iterable" (some 0) with
  accessFlags := 1537
  interfaces := #[]
  cf := some (fileOf pool9 8 #[] #[] 1537 35 #[] #[])
  fields := #[]
  methods := #[]
  instanceTypes := #[]
  staticTypes := #[]
  resolved := Array.replicate 62 none
  statics := none }

def pool10 : Array CpInfo := pool [(10, .class_ 12), (1, u "java/util/Collection"), (47, .class_ 61), (0, u "java/lang/Object"), (0, .class_ 63), (0, u "java/lang/Iterable")] 51

/-- java/util/Collection -/
def k10 : Class := { plain "java/util/Collection" (some 0) with
  accessFlags := 1537
  interfaces := #[9]
  cf := some (fileOf pool10 10 #[] #[] 1537 60 #[62] #[])
  fields := #[]
  methods := #[]
  instanceTypes := #[]
  staticTypes := #[]
  resolved := Array.replicate 115 none
  statics := none }

def pool11 : Array CpInfo := pool [(1, .methodref 2 3), (0, .class_ 4), (0, .nameAndType 5 6), (0, u "java/lang/Object"), (0, u "<init>"), (0, u "()V"), (1, .class_ 10), (1, u "java/util/AbstractCollection"), (66, .class_ 78), (0, u "java/util/Collection")] 81

def k11c0 : Code := { maxStack := 1, maxLocals := 1, code := jdk_22_method_1_code, exceptionTable := #[], attributes := #[] }
def k11m0 : Method := { name := "<init>", desc := "()V", sig := { parameters := [], returnType := none }, accessFlags := 4, code := some k11c0 }
/-- java/util/AbstractCollection -/
def k11 : Class := { plain "java/util/AbstractCollection" (some 0) with
  accessFlags := 1057
  interfaces := #[10]
  cf := some (fileOf pool11 8 #[] #[{ accessFlags := 4, nameIndex := 5, descriptorIndex := 6, attributes := #[] }] 1057 2 #[77] #[])
  fields := #[]
  methods := #[k11m0]
  instanceTypes := #[]
  staticTypes := #[]
  resolved := Array.replicate 160 none
  statics := none }

def pool12 : Array CpInfo := pool [(8, .class_ 10), (1, u "java/util/SequencedCollection"), (15, .class_ 27), (0, u "java/lang/Object"), (0, .class_ 29), (0, u "java/util/Collection")] 27

/-- java/util/SequencedCollection -/
def k12 : Class := { plain "java/util/SequencedCollection" (some 0) with
  accessFlags := 1537
  interfaces := #[10]
  cf := some (fileOf pool12 8 #[] #[] 1537 26 #[28] #[])
  fields := #[]
  methods := #[]
  instanceTypes := #[]
  staticTypes := #[]
  resolved := Array.replicate 57 none
  statics := none }

def pool13 : Array CpInfo := pool [(8, .class_ 10), (1, u "java/util/List"), (49, u "add"), (3, u "(Ljava/lang/Object;)Z"), (14, u "size"), (0, u "()I"), (22, .class_ 104), (0, u "java/lang/Object"), (15, .class_ 121), (0, u "java/util/SequencedCollection"), (48, u "equals")] 80

def k13m0 : Method := { name := "size", desc := "()I", sig := { parameters := [], returnType := some .int }, accessFlags := 1025, code := none }
def k13m1 : Method := { name := "add", desc := "(Ljava/lang/Object;)Z", sig := { parameters := [(.object "java/lang/Object")], returnType := some .boolean }, accessFlags := 1025, code := none }
def k13m2 : Method := { name := "equals", desc := "(Ljava/lang/Object;)Z", sig := { parameters := [(.object "java/lang/Object")], returnType := some .boolean }, accessFlags := 1025, code := none }
/-- java/util/List -/
def k13 : Class := { plain "java/util/List" (some 0) with
  accessFlags := 1537
  interfaces := #[12]
  cf := some (fileOf pool13 8 #[] #[{ accessFlags := 1025, nameIndex := 79, descriptorIndex := 80, attributes := #[] }, { accessFlags := 1025, nameIndex := 60, descriptorIndex := 64, attributes := #[] }, { accessFlags := 1025, nameIndex := 170, descriptorIndex := 64, attributes := #[] }] 1537 103 #[120] #[])
  fields := #[]
  methods := #[k13m0, k13m1, k13m2]
  instanceTypes := #[]
  staticTypes := #[]
  resolved := Array.replicate 251 none
  statics := none }

def pool14 : Array CpInfo := pool [(1, .methodref 2 3), (0, .class_ 4), (0, .nameAndType 5 6), (0, u "java/util/AbstractCollection"), (0, u "<init>"), (0, u "()V"), (0, .fieldref 8 9), (0, .class_ 10), (0, .nameAndType 11 12), (0, u "java/util/AbstractList"), (0, u "modCount"), (0, u "I"), (64, .class_ 78), (0, u "java/util/AbstractList$Itr"), (3, .class_ 83), (0, u "java/util/AbstractList$ListItr"), (9, .class_ 94), (0, u "java/util/AbstractList$RandomAccessSubList"), (3, .class_ 99), (0, u "java/util/AbstractList$SubList"), (33, .class_ 134), (0, u "java/util/List"), (73, .class_ 209), (0, u "java/util/AbstractList$SubList$1"), (0, .class_ 211), (0, u "java/util/AbstractList$RandomAccessSpliterator")] 6

def k14c0 : Code := { maxStack := 2, maxLocals := 1, code := jdk_39_method_1_code, exceptionTable := #[], attributes := #[] }
def k14m0 : Method := { name := "<init>", desc := "()V", sig := { parameters := [], returnType := none }, accessFlags := 4, code := some k14c0 }
/-- java/util/AbstractList -/
def k14 : Class := { plain "java/util/AbstractList" (some 11) with
  accessFlags := 1057
  interfaces := #[13]
  cf := some (fileOf pool14 8 #[.nestMembers #[93, 98, 208, 210, 82, 77]] #[{ accessFlags := 4, nameIndex := 5, descriptorIndex := 6, attributes := #[] }] 1057 2 #[133] #[{ accessFlags := 132, nameIndex := 11, descriptorIndex := 12, attributes := #[] }])
  fields := #[{ name := "modCount", type := .int, accessFlags := 132, slot := 0, constantValue := 0 }]
  methods := #[k14m0]
  instanceTypes := #[.int]
  staticTypes := #[]
  resolved := Array.replicate 218 none
  statics := none }

def pool15 : Array CpInfo := pool [(1, .class_ 2), (0, u "java/util/RandomAccess"), (0, .class_ 4), (0, u "java/lang/Object")] 2

/-- java/util/RandomAccess -/
def k15 : Class := { plain "java/util/RandomAccess" (some 0) with
  accessFlags := 1537
  interfaces := #[]
  cf := some (fileOf pool15 1 #[] #[] 1537 3 #[] #[])
  fields := #[]
  methods := #[]
  instanceTypes := #[]
  staticTypes := #[]
  resolved := Array.replicate 7 none
  statics := none }

def pool16 : Array CpInfo := pool [(1, .class_ 2), (0, u "java/lang/Cloneable"), (0, .class_ 4), (0, u "java/lang/Object")] 2

/-- java/lang/Cloneable -/
def k16 : Class := { plain "java/lang/Cloneable" (some 0) with
  accessFlags := 1537
  interfaces := #[]
  cf := some (fileOf pool16 1 #[] #[] 1537 3 #[] #[])
  fields := #[]
  methods := #[]
  instanceTypes := #[]
  staticTypes := #[]
  resolved := Array.replicate 7 none
  statics := none }

def pool17 : Array CpInfo := pool [(1, .methodref 2 3), (0, .class_ 4), (0, .nameAndType 5 6), (0, u "java/util/AbstractList"), (0, u "<init>"), (0, u "()V"), (0, .class_ 8), (0, u "java/lang/Object"), (0, .fieldref 10 11), (0, .class_ 12), (0, .nameAndType 13 14), (0, u "java/util/ArrayList"), (0, u "elementData"), (0, u "[Ljava/lang/Object;"), (2, u "EMPTY_ELEMENTDATA"), (21, .fieldref 10 40), (0, .nameAndType 41 14), (0, u "DEFAULTCAPACITY_EMPTY_ELEMENTDATA"), (5, u "()[Ljava/lang/Object;"), (0, .fieldref 10 49), (0, .nameAndType 50 51), (0, u "size"), (0, u "I"), (11, .fieldref 10 64), (0, .nameAndType 65 51), (0, u "modCount"), (3, .methodref 10 70), (0, .nameAndType 71 72), (0, u "grow"), (0, u "(I)[Ljava/lang/Object;"), (6, .methodref 80 81), (0, .class_ 82), (0, .nameAndType 83 84), (0, u "java/lang/Math"), (0, u "max"), (0, u "(II)I"), (10, u "equals"), (0, u "(Ljava/lang/Object;)Z"), (32, .methodref 10 130), (0, .nameAndType 71 47), (0, .methodref 10 132), (0, .nameAndType 133 134), (0, u "add"), (0, u "(Ljava/lang/Object;[Ljava/lang/Object;I)V"), (13, .class_ 149), (0, u "java/util/List"), (36, u "()I"), (75, .class_ 263), (0, u "java/util/ArrayList$ListItr"), (3, .class_ 268), (0, u "java/util/ArrayList$Itr"), (7, .class_ 277), (0, u "java/util/ArrayList$SubList"), (12, .class_ 291), (0, u "java/util/ArrayList$ArrayListSpliterator"), (37, .class_ 330), (0, u "java/util/RandomAccess"), (0, .class_ 332), (0, u "java/lang/Cloneable"), (0, .class_ 334), (0, u "java/io/Serializable"), (0, u "serialVersionUID"), (0, u "J"), (3, u "DEFAULT_CAPACITY"), (159, .class_ 501), (0, u "java/util/ArrayList$SubList$2"), (0, .class_ 503), (0, u "java/util/ArrayList$SubList$1")] 5

def k17c0 : Code := { maxStack := 2, maxLocals := 1, code := jdk_38_method_2_code, exceptionTable := #[], attributes := #[] }
def k17m0 : Method := { name := "<init>", desc := "()V", sig := { parameters := [], returnType := none }, accessFlags := 1, code := some k17c0 }
def k17c1 : Code := { maxStack := 4, maxLocals := 4, code := jdk_38_method_6_code, exceptionTable := #[], attributes := #[] }
def k17m1 : Method := { name := "grow", desc := "(I)[Ljava/lang/Object;", sig := { parameters := [.int], returnType := some (.array (.object "java/lang/Object")) }, accessFlags := 2, code := some k17c1 }
def k17c2 : Code := { maxStack := 3, maxLocals := 1, code := jdk_38_method_7_code, exceptionTable := #[], attributes := #[] }
def k17m2 : Method := { name := "grow", desc := "()[Ljava/lang/Object;", sig := { parameters := [], returnType := some (.array (.object "java/lang/Object")) }, accessFlags := 2, code := some k17c2 }
def k17c3 : Code := { maxStack := 1, maxLocals := 1, code := jdk_38_method_8_code, exceptionTable := #[], attributes := #[] }
def k17m3 : Method := { name := "size", desc := "()I", sig := { parameters := [], returnType := some .int }, accessFlags := 1, code := some k17c3 }
def k17c4 : Code := { maxStack := 3, maxLocals := 4, code := jdk_38_method_24_code, exceptionTable := #[], attributes := #[] }
def k17m4 : Method := { name := "add", desc := "(Ljava/lang/Object;[Ljava/lang/Object;I)V", sig := { parameters := [(.object "java/lang/Object"), (.array (.object "java/lang/Object")), .int], returnType := none }, accessFlags := 2, code := some k17c4 }
def k17c5 : Code := { maxStack := 4, maxLocals := 2, code := jdk_38_method_25_code, exceptionTable := #[], attributes := #[] }
def k17m5 : Method := { name := "add", desc := "(Ljava/lang/Object;)Z", sig := { parameters := [(.object "java/lang/Object")], returnType := some .boolean }, accessFlags := 1, code := some k17c5 }
def k17c6 : Code := { maxStack := 4, maxLocals := 4, code := jdk_38_method_32_code, exceptionTable := #[], attributes := #[] }
def k17m6 : Method := { name := "equals", desc := "(Ljava/lang/Object;)Z", sig := { parameters := [(.object "java/lang/Object")], returnType := some .boolean }, accessFlags := 1, code := some k17c6 }
/-- java/util/ArrayList -/
def k17 : Class := { plain "java/util/ArrayList" (some 14) with
  accessFlags := 33
  interfaces := #[13, 15, 16, 2]
  cf := some (fileOf pool17 10 #[.nestMembers #[290, 276, 500, 502, 262, 267]] #[{ accessFlags := 1, nameIndex := 5, descriptorIndex := 6, attributes := #[] }, { accessFlags := 2, nameIndex := 71, descriptorIndex := 72, attributes := #[] }, { accessFlags := 2, nameIndex := 71, descriptorIndex := 47, attributes := #[] }, { accessFlags := 1, nameIndex := 50, descriptorIndex := 186, attributes := #[] }, { accessFlags := 2, nameIndex := 133, descriptorIndex := 134, attributes := #[] }, { accessFlags := 1, nameIndex := 133, descriptorIndex := 96, attributes := #[] }, { accessFlags := 1, nameIndex := 95, descriptorIndex := 96, attributes := #[] }] 33 2 #[148, 329, 331, 333] #[{ accessFlags := 26, nameIndex := 335, descriptorIndex := 336, attributes := #[] }, { accessFlags := 26, nameIndex := 340, descriptorIndex := 51, attributes := #[] }, { accessFlags := 26, nameIndex := 17, descriptorIndex := 14, attributes := #[] }, { accessFlags := 26, nameIndex := 41, descriptorIndex := 14, attributes := #[] }, { accessFlags := 128, nameIndex := 13, descriptorIndex := 14, attributes := #[] }, { accessFlags := 2, nameIndex := 50, descriptorIndex := 51, attributes := #[] }])
  fields := #[{ name := "serialVersionUID", type := .long, accessFlags := 26, slot := 0, constantValue := 0 }, { name := "DEFAULT_CAPACITY", type := .int, accessFlags := 26, slot := 1, constantValue := 0 }, { name := "EMPTY_ELEMENTDATA", type := (.array (.object "java/lang/Object")), accessFlags := 26, slot := 2, constantValue := 0 }, { name := "DEFAULTCAPACITY_EMPTY_ELEMENTDATA", type := (.array (.object "java/lang/Object")), accessFlags := 26, slot := 3, constantValue := 0 }, { name := "elementData", type := (.array (.object "java/lang/Object")), accessFlags := 128, slot := 1, constantValue := 0 }, { name := "size", type := .int, accessFlags := 2, slot := 2, constantValue := 0 }]
  methods := #[k17m0, k17m1, k17m2, k17m3, k17m4, k17m5, k17m6]
  instanceTypes := #[.int, (.array (.object "java/lang/Object")), .int]
  staticTypes := #[.long, .int, (.array (.object "java/lang/Object")), (.array (.object "java/lang/Object"))]
  resolved := Array.replicate 509 none
  statics := some 1 }

def pool18 : Array CpInfo := pool [(1, .methodref 2 3), (0, .class_ 4), (0, .nameAndType 5 6), (0, u "java/lang/Object"), (0, u "<init>"), (0, u "()V"), (0, .class_ 8), (0, u "java/lang/Record")] 13

def k18c0 : Code := { maxStack := 1, maxLocals := 1, code := jdk_30_method_1_code, exceptionTable := #[], attributes := #[] }
def k18m0 : Method := { name := "<init>", desc := "()V", sig := { parameters := [], returnType := none }, accessFlags := 4, code := some k18c0 }
/-- java/lang/Record -/
def k18 : Class := { plain "java/lang/Record" (some 0) with
  accessFlags := 1057
  interfaces := #[]
  cf := some (fileOf pool18 7 #[] #[{ accessFlags := 4, nameIndex := 5, descriptorIndex := 6, attributes := #[] }] 1057 2 #[] #[])
  fields := #[]
  methods := #[k18m0]
  instanceTypes := #[]
  staticTypes := #[]
  resolved := Array.replicate 22 none
  statics := none }

def pool19 : Array CpInfo := pool [(1, .methodref 2 3), (0, .class_ 4), (0, .nameAndType 5 6), (0, u "java/lang/Record"), (0, u "<init>"), (0, u "()V"), (0, .fieldref 8 9), (0, .class_ 10), (0, .nameAndType 11 12), (0, u "com/example/synlock/synlock/Holds$Grant"), (0, u "owner"), (0, u "Ljava/lang/String;"), (0, .fieldref 8 14), (0, .nameAndType 15 16), (0, u "sentNanos"), (0, u "J"), (0, .fieldref 8 18), (0, .nameAndType 19 16), (0, u "leaseNanos"), (0, .fieldref 8 21), (0, .nameAndType 22 23), (0, u "holds"), (0, u "I"), (0, .fieldref 8 25), (0, .nameAndType 26 16), (0, u "token"), (0, .fieldref 8 28), (0, .nameAndType 29 30), (0, u "renewed"), (0, u "Z"), (0, .fieldref 8 32), (0, .nameAndType 33 34), (0, u "listeners"), (0, u "Ljava/util/List;"), (5, u "()Ljava/util/List;"), (0, .methodref 8 42), (0, .nameAndType 5 43), (0, u "(Ljava/lang/String;JJIJZLjava/util/List;)V"), (63, u "releasedOnce"), (0, u "()Lcom/example/synlock/synlock/Holds$Grant;"), (5, u "()Ljava/lang/String;"), (0, u "()I"), (0, u "()J"), (0, u "()Z"), (4, .class_ 123), (0, u "com/example/synlock/synlock/Holds")] 25

def k19c0 : Code := { maxStack := 3, maxLocals := 11, code := prog_3_method_2_code, exceptionTable := #[], attributes := #[] }
def k19m0 : Method := { name := "<init>", desc := "(Ljava/lang/String;JJIJZLjava/util/List;)V", sig := { parameters := [(.object "java/lang/String"), .long, .long, .int, .long, .boolean, (.object "java/util/List")], returnType := none }, accessFlags := 0, code := some k19c0 }
def k19c1 : Code := { maxStack := 12, maxLocals := 1, code := prog_3_method_6_code, exceptionTable := #[], attributes := #[] }
def k19m1 : Method := { name := "releasedOnce", desc := "()Lcom/example/synlock/synlock/Holds$Grant;", sig := { parameters := [], returnType := some (.object "com/example/synlock/synlock/Holds$Grant") }, accessFlags := 0, code := some k19c1 }
def k19c2 : Code := { maxStack := 1, maxLocals := 1, code := prog_3_method_14_code, exceptionTable := #[], attributes := #[] }
def k19m2 : Method := { name := "owner", desc := "()Ljava/lang/String;", sig := { parameters := [], returnType := some (.object "java/lang/String") }, accessFlags := 1, code := some k19c2 }
def k19c3 : Code := { maxStack := 2, maxLocals := 1, code := prog_3_method_15_code, exceptionTable := #[], attributes := #[] }
def k19m3 : Method := { name := "sentNanos", desc := "()J", sig := { parameters := [], returnType := some .long }, accessFlags := 1, code := some k19c3 }
def k19c4 : Code := { maxStack := 2, maxLocals := 1, code := prog_3_method_16_code, exceptionTable := #[], attributes := #[] }
def k19m4 : Method := { name := "leaseNanos", desc := "()J", sig := { parameters := [], returnType := some .long }, accessFlags := 1, code := some k19c4 }
def k19c5 : Code := { maxStack := 1, maxLocals := 1, code := prog_3_method_17_code, exceptionTable := #[], attributes := #[] }
def k19m5 : Method := { name := "holds", desc := "()I", sig := { parameters := [], returnType := some .int }, accessFlags := 1, code := some k19c5 }
def k19c6 : Code := { maxStack := 2, maxLocals := 1, code := prog_3_method_18_code, exceptionTable := #[], attributes := #[] }
def k19m6 : Method := { name := "token", desc := "()J", sig := { parameters := [], returnType := some .long }, accessFlags := 1, code := some k19c6 }
def k19c7 : Code := { maxStack := 1, maxLocals := 1, code := prog_3_method_19_code, exceptionTable := #[], attributes := #[] }
def k19m7 : Method := { name := "renewed", desc := "()Z", sig := { parameters := [], returnType := some .boolean }, accessFlags := 1, code := some k19c7 }
def k19c8 : Code := { maxStack := 1, maxLocals := 1, code := prog_3_method_20_code, exceptionTable := #[], attributes := #[] }
def k19m8 : Method := { name := "listeners", desc := "()Ljava/util/List;", sig := { parameters := [], returnType := some (.object "java/util/List") }, accessFlags := 1, code := some k19c8 }
/-- com/example/synlock/synlock/Holds$Grant -/
def k19 : Class := { plain "com/example/synlock/synlock/Holds$Grant" (some 18) with
  accessFlags := 48
  interfaces := #[]
  cf := some (fileOf pool19 8 #[.nestHost 122] #[{ accessFlags := 0, nameIndex := 5, descriptorIndex := 43, attributes := #[] }, { accessFlags := 0, nameIndex := 107, descriptorIndex := 108, attributes := #[] }, { accessFlags := 1, nameIndex := 11, descriptorIndex := 114, attributes := #[] }, { accessFlags := 1, nameIndex := 15, descriptorIndex := 116, attributes := #[] }, { accessFlags := 1, nameIndex := 19, descriptorIndex := 116, attributes := #[] }, { accessFlags := 1, nameIndex := 22, descriptorIndex := 115, attributes := #[] }, { accessFlags := 1, nameIndex := 26, descriptorIndex := 116, attributes := #[] }, { accessFlags := 1, nameIndex := 29, descriptorIndex := 117, attributes := #[] }, { accessFlags := 1, nameIndex := 33, descriptorIndex := 40, attributes := #[] }] 48 2 #[] #[{ accessFlags := 18, nameIndex := 11, descriptorIndex := 12, attributes := #[] }, { accessFlags := 18, nameIndex := 15, descriptorIndex := 16, attributes := #[] }, { accessFlags := 18, nameIndex := 19, descriptorIndex := 16, attributes := #[] }, { accessFlags := 18, nameIndex := 22, descriptorIndex := 23, attributes := #[] }, { accessFlags := 18, nameIndex := 26, descriptorIndex := 16, attributes := #[] }, { accessFlags := 18, nameIndex := 29, descriptorIndex := 30, attributes := #[] }, { accessFlags := 18, nameIndex := 33, descriptorIndex := 34, attributes := #[] }])
  fields := #[{ name := "owner", type := (.object "java/lang/String"), accessFlags := 18, slot := 0, constantValue := 0 }, { name := "sentNanos", type := .long, accessFlags := 18, slot := 1, constantValue := 0 }, { name := "leaseNanos", type := .long, accessFlags := 18, slot := 2, constantValue := 0 }, { name := "holds", type := .int, accessFlags := 18, slot := 3, constantValue := 0 }, { name := "token", type := .long, accessFlags := 18, slot := 4, constantValue := 0 }, { name := "renewed", type := .boolean, accessFlags := 18, slot := 5, constantValue := 0 }, { name := "listeners", type := (.object "java/util/List"), accessFlags := 18, slot := 6, constantValue := 0 }]
  methods := #[k19m0, k19m1, k19m2, k19m3, k19m4, k19m5, k19m6, k19m7, k19m8]
  instanceTypes := #[(.object "java/lang/String"), .long, .long, .int, .long, .boolean, (.object "java/util/List")]
  staticTypes := #[]
  resolved := Array.replicate 149 none
  statics := none }

def pool20 : Array CpInfo := pool [(1, .class_ 2), (0, u "java/lang/Math"), (1, .class_ 6), (1, u "java/lang/Object"), (0, u "<init>"), (0, u "()V"), (89, .class_ 100), (1, u "java/lang/Math$RandomNumberGeneratorHolder"), (71, u "negativeZeroFloatBits"), (0, u "J"), (2, u "negativeZeroDoubleBits"), (21, u "max"), (46, u "$assertionsDisabled"), (0, u "Z"), (88, u "(II)I"), (2, u "twoToTheDoubleScaleDown"), (0, u "D"), (4, u "twoToTheDoubleScaleUp"), (9, u "E"), (3, u "PI"), (2, u "TAU"), (2, u "DEGREES_TO_RADIANS"), (0, u "RADIANS_TO_DEGREES")] 94

def k20m0 : Method := { name := "<init>", desc := "()V", sig := { parameters := [], returnType := none }, accessFlags := 2, code := none }
def k20c1 : Code := { maxStack := 2, maxLocals := 2, code := jdk_29_method_65_code, exceptionTable := #[], attributes := #[] }
def k20m1 : Method := { name := "max", desc := "(II)I", sig := { parameters := [.int, .int], returnType := some .int }, accessFlags := 9, code := some k20c1 }
/-- java/lang/Math -/
def k20 : Class := { plain "java/lang/Math" (some 0) with
  accessFlags := 49
  interfaces := #[]
  cf := some (fileOf pool20 1 #[.nestMembers #[98]] #[{ accessFlags := 2, nameIndex := 7, descriptorIndex := 8, attributes := #[] }, { accessFlags := 9, nameIndex := 198, descriptorIndex := 335, attributes := #[] }] 49 4 #[] #[{ accessFlags := 25, nameIndex := 354, descriptorIndex := 339, attributes := #[] }, { accessFlags := 25, nameIndex := 358, descriptorIndex := 339, attributes := #[] }, { accessFlags := 25, nameIndex := 361, descriptorIndex := 339, attributes := #[] }, { accessFlags := 26, nameIndex := 364, descriptorIndex := 339, attributes := #[] }, { accessFlags := 26, nameIndex := 365, descriptorIndex := 339, attributes := #[] }, { accessFlags := 26, nameIndex := 172, descriptorIndex := 173, attributes := #[] }, { accessFlags := 26, nameIndex := 176, descriptorIndex := 173, attributes := #[] }, { accessFlags := 8, nameIndex := 344, descriptorIndex := 339, attributes := #[] }, { accessFlags := 8, nameIndex := 338, descriptorIndex := 339, attributes := #[] }, { accessFlags := 4120, nameIndex := 245, descriptorIndex := 246, attributes := #[] }])
  fields := #[{ name := "E", type := .double, accessFlags := 25, slot := 0, constantValue := 0 }, { name := "PI", type := .double, accessFlags := 25, slot := 1, constantValue := 0 }, { name := "TAU", type := .double, accessFlags := 25, slot := 2, constantValue := 0 }, { name := "DEGREES_TO_RADIANS", type := .double, accessFlags := 26, slot := 3, constantValue := 0 }, { name := "RADIANS_TO_DEGREES", type := .double, accessFlags := 26, slot := 4, constantValue := 0 }, { name := "negativeZeroFloatBits", type := .long, accessFlags := 26, slot := 5, constantValue := 0 }, { name := "negativeZeroDoubleBits", type := .long, accessFlags := 26, slot := 6, constantValue := 0 }, { name := "twoToTheDoubleScaleUp", type := .double, accessFlags := 8, slot := 7, constantValue := 0 }, { name := "twoToTheDoubleScaleDown", type := .double, accessFlags := 8, slot := 8, constantValue := 0 }, { name := "$assertionsDisabled", type := .boolean, accessFlags := 4120, slot := 9, constantValue := 0 }]
  methods := #[k20m0, k20m1]
  instanceTypes := #[]
  staticTypes := #[.double, .double, .double, .double, .double, .long, .long, .double, .double, .boolean]
  resolved := Array.replicate 460 none
  statics := none }

def pool21 : Array CpInfo := pool [(4, .class_ 6), (1, u "java/lang/Object"), (0, u "<init>"), (0, u "()V"), (5, .class_ 16), (1, u "java/lang/StringLatin1"), (104, u "$assertionsDisabled"), (0, u "Z"), (98, .class_ 223), (1, u "java/lang/StringLatin1$LinesSpliterator"), (166, .class_ 391), (0, u "java/lang/StringLatin1$CharsSpliterator")] 3

def k21m0 : Method := { name := "<init>", desc := "()V", sig := { parameters := [], returnType := none }, accessFlags := 0, code := none }
/-- java/lang/StringLatin1 -/
def k21 : Class := { plain "java/lang/StringLatin1" (some 0) with
  accessFlags := 48
  interfaces := #[]
  cf := some (fileOf pool21 14 #[.nestMembers #[390, 221]] #[{ accessFlags := 0, nameIndex := 7, descriptorIndex := 8, attributes := #[] }] 48 4 #[] #[{ accessFlags := 4120, nameIndex := 121, descriptorIndex := 122, attributes := #[] }])
  fields := #[{ name := "$assertionsDisabled", type := .boolean, accessFlags := 4120, slot := 0, constantValue := 0 }]
  methods := #[k21m0]
  instanceTypes := #[]
  staticTypes := #[.boolean]
  resolved := Array.replicate 395 none
  statics := none }

def pool22 : Array CpInfo := pool [(2, .class_ 4), (1, u "java/lang/Object"), (0, u "<init>"), (0, u "()V"), (17, .class_ 26), (1, u "jdk/internal/util/Preconditions"), (28, .class_ 56), (0, u "jdk/internal/util/Preconditions$4"), (57, .class_ 115), (0, u "jdk/internal/util/Preconditions$1"), (7, u "SIOOBE_FORMATTER"), (0, u "Ljava/util/function/BiFunction;"), (0, .class_ 126), (0, u "jdk/internal/util/Preconditions$2"), (3, u "AIOOBE_FORMATTER"), (0, .class_ 132), (0, u "jdk/internal/util/Preconditions$3"), (3, u "IOOBE_FORMATTER")] 57

def k22m0 : Method := { name := "<init>", desc := "()V", sig := { parameters := [], returnType := none }, accessFlags := 1, code := none }
/-- jdk/internal/util/Preconditions -/
def k22 : Class := { plain "jdk/internal/util/Preconditions" (some 0) with
  accessFlags := 33
  interfaces := #[]
  cf := some (fileOf pool22 24 #[.nestMembers #[55, 131, 125, 114]] #[{ accessFlags := 1, nameIndex := 5, descriptorIndex := 6, attributes := #[] }] 33 2 #[] #[{ accessFlags := 25, nameIndex := 123, descriptorIndex := 124, attributes := #[] }, { accessFlags := 25, nameIndex := 130, descriptorIndex := 124, attributes := #[] }, { accessFlags := 25, nameIndex := 136, descriptorIndex := 124, attributes := #[] }])
  fields := #[{ name := "SIOOBE_FORMATTER", type := (.object "java/util/function/BiFunction"), accessFlags := 25, slot := 0, constantValue := 0 }, { name := "AIOOBE_FORMATTER", type := (.object "java/util/function/BiFunction"), accessFlags := 25, slot := 1, constantValue := 0 }, { name := "IOOBE_FORMATTER", type := (.object "java/util/function/BiFunction"), accessFlags := 25, slot := 2, constantValue := 0 }]
  methods := #[k22m0]
  instanceTypes := #[]
  staticTypes := #[(.object "java/util/function/BiFunction"), (.object "java/util/function/BiFunction"), (.object "java/util/function/BiFunction")]
  resolved := Array.replicate 194 none
  statics := some 2 }

def pool23 : Array CpInfo := pool [(9, u "<init>"), (6, .class_ 18), (1, u "java/lang/Object"), (0, u "()V"), (1, .class_ 23), (1, u "jdk/internal/util/ArraysSupport"), (0, u "LOG2_ARRAY_LONG_INDEX_SCALE"), (0, u "I"), (2, u "U"), (0, u "Ljdk/internal/misc/Unsafe;"), (8, u "BIG_ENDIAN"), (0, u "Z"), (8, u "LOG2_BYTE_BIT_SIZE"), (4, u "LOG2_ARRAY_INT_INDEX_SCALE"), (54, u "JLA"), (0, u "Ljdk/internal/access/JavaLangAccess;"), (11, u "LOG2_ARRAY_BOOLEAN_INDEX_SCALE"), (9, u "LOG2_ARRAY_BYTE_INDEX_SCALE"), (5, u "LOG2_ARRAY_CHAR_INDEX_SCALE"), (5, u "LOG2_ARRAY_SHORT_INDEX_SCALE"), (18, u "LOG2_ARRAY_FLOAT_INDEX_SCALE"), (24, u "LOG2_ARRAY_DOUBLE_INDEX_SCALE"), (89, u "T_BOOLEAN"), (2, u "T_CHAR"), (1, u "T_FLOAT"), (1, u "T_DOUBLE"), (1, u "T_BYTE"), (1, u "T_SHORT"), (1, u "T_INT"), (1, u "T_LONG"), (1, u "SOFT_MAX_ARRAY_LENGTH")] 83

def k23m0 : Method := { name := "<init>", desc := "()V", sig := { parameters := [], returnType := none }, accessFlags := 2, code := none }
/-- jdk/internal/util/ArraysSupport -/
def k23 : Class := { plain "jdk/internal/util/ArraysSupport" (some 0) with
  accessFlags := 33
  interfaces := #[]
  cf := some (fileOf pool23 21 #[] #[{ accessFlags := 2, nameIndex := 9, descriptorIndex := 19, attributes := #[] }] 33 16 #[] #[{ accessFlags := 24, nameIndex := 28, descriptorIndex := 29, attributes := #[] }, { accessFlags := 26, nameIndex := 38, descriptorIndex := 39, attributes := #[] }, { accessFlags := 25, nameIndex := 121, descriptorIndex := 25, attributes := #[] }, { accessFlags := 25, nameIndex := 131, descriptorIndex := 25, attributes := #[] }, { accessFlags := 25, nameIndex := 137, descriptorIndex := 25, attributes := #[] }, { accessFlags := 25, nameIndex := 143, descriptorIndex := 25, attributes := #[] }, { accessFlags := 25, nameIndex := 53, descriptorIndex := 25, attributes := #[] }, { accessFlags := 25, nameIndex := 24, descriptorIndex := 25, attributes := #[] }, { accessFlags := 25, nameIndex := 162, descriptorIndex := 25, attributes := #[] }, { accessFlags := 25, nameIndex := 187, descriptorIndex := 25, attributes := #[] }, { accessFlags := 26, nameIndex := 48, descriptorIndex := 25, attributes := #[] }, { accessFlags := 25, nameIndex := 277, descriptorIndex := 25, attributes := #[] }, { accessFlags := 25, nameIndex := 280, descriptorIndex := 25, attributes := #[] }, { accessFlags := 25, nameIndex := 282, descriptorIndex := 25, attributes := #[] }, { accessFlags := 25, nameIndex := 284, descriptorIndex := 25, attributes := #[] }, { accessFlags := 25, nameIndex := 286, descriptorIndex := 25, attributes := #[] }, { accessFlags := 25, nameIndex := 288, descriptorIndex := 25, attributes := #[] }, { accessFlags := 25, nameIndex := 290, descriptorIndex := 25, attributes := #[] }, { accessFlags := 25, nameIndex := 292, descriptorIndex := 25, attributes := #[] }, { accessFlags := 26, nameIndex := 108, descriptorIndex := 109, attributes := #[] }, { accessFlags := 25, nameIndex := 294, descriptorIndex := 25, attributes := #[] }])
  fields := #[{ name := "U", type := (.object "jdk/internal/misc/Unsafe"), accessFlags := 24, slot := 0, constantValue := 0 }, { name := "BIG_ENDIAN", type := .boolean, accessFlags := 26, slot := 1, constantValue := 0 }, { name := "LOG2_ARRAY_BOOLEAN_INDEX_SCALE", type := .int, accessFlags := 25, slot := 2, constantValue := 0 }, { name := "LOG2_ARRAY_BYTE_INDEX_SCALE", type := .int, accessFlags := 25, slot := 3, constantValue := 0 }, { name := "LOG2_ARRAY_CHAR_INDEX_SCALE", type := .int, accessFlags := 25, slot := 4, constantValue := 0 }, { name := "LOG2_ARRAY_SHORT_INDEX_SCALE", type := .int, accessFlags := 25, slot := 5, constantValue := 0 }, { name := "LOG2_ARRAY_INT_INDEX_SCALE", type := .int, accessFlags := 25, slot := 6, constantValue := 0 }, { name := "LOG2_ARRAY_LONG_INDEX_SCALE", type := .int, accessFlags := 25, slot := 7, constantValue := 0 }, { name := "LOG2_ARRAY_FLOAT_INDEX_SCALE", type := .int, accessFlags := 25, slot := 8, constantValue := 0 }, { name := "LOG2_ARRAY_DOUBLE_INDEX_SCALE", type := .int, accessFlags := 25, slot := 9, constantValue := 0 }, { name := "LOG2_BYTE_BIT_SIZE", type := .int, accessFlags := 26, slot := 10, constantValue := 0 }, { name := "T_BOOLEAN", type := .int, accessFlags := 25, slot := 11, constantValue := 0 }, { name := "T_CHAR", type := .int, accessFlags := 25, slot := 12, constantValue := 0 }, { name := "T_FLOAT", type := .int, accessFlags := 25, slot := 13, constantValue := 0 }, { name := "T_DOUBLE", type := .int, accessFlags := 25, slot := 14, constantValue := 0 }, { name := "T_BYTE", type := .int, accessFlags := 25, slot := 15, constantValue := 0 }, { name := "T_SHORT", type := .int, accessFlags := 25, slot := 16, constantValue := 0 }, { name := "T_INT", type := .int, accessFlags := 25, slot := 17, constantValue := 0 }, { name := "T_LONG", type := .int, accessFlags := 25, slot := 18, constantValue := 0 }, { name := "JLA", type := (.object "jdk/internal/access/JavaLangAccess"), accessFlags := 26, slot := 19, constantValue := 0 }, { name := "SOFT_MAX_ARRAY_LENGTH", type := .int, accessFlags := 25, slot := 20, constantValue := 0 }]
  methods := #[k23m0]
  instanceTypes := #[]
  staticTypes := #[(.object "jdk/internal/misc/Unsafe"), .boolean, .int, .int, .int, .int, .int, .int, .int, .int, .int, .int, .int, .int, .int, .int, .int, .int, .int, (.object "jdk/internal/access/JavaLangAccess"), .int]
  resolved := Array.replicate 378 none
  statics := none }

/-- the primitive byte -/
def k24 : Class := { plain "byte" none with kind := .primitive 'B', accessFlags := 0x411 }
/-- [B -/
def k25 : Class := { plain "[B" (some 0) with kind := .array 24 .byte, interfaces := #[16, 2], accessFlags := 1041 }

/-- the primitive char -/
def k26 : Class := { plain "char" none with kind := .primitive 'C', accessFlags := 0x411 }
/-- [C -/
def k27 : Class := { plain "[C" (some 0) with kind := .array 26 .char, interfaces := #[16, 2], accessFlags := 1041 }

/-- the primitive int -/
def k28 : Class := { plain "int" none with kind := .primitive 'I', accessFlags := 0x411 }
/-- [I -/
def k29 : Class := { plain "[I" (some 0) with kind := .array 28 .int, interfaces := #[16, 2], accessFlags := 1041 }

/-- [Ljava/lang/Object; -/
def k30 : Class := { plain "[Ljava/lang/Object;" (some 0) with kind := .array 0 (.object "java/lang/Object"), interfaces := #[16, 2], accessFlags := 1041 }

def heap : Heap := #[{ cls := 7, slots := #[.long 0, .int 1, .null, .int 0, .null, .int 0, .int 0], vm := .statics 7 },
  { cls := 17, slots := #[.long 0, .int 0, .ref 3, .ref 4], vm := .statics 17 },
  { cls := 22, slots := #[.null, .null, .null], vm := .statics 22 },
  { cls := 30, slots := #[], vm := .none },
  { cls := 30, slots := #[], vm := .none }]
def classes : Array Class := #[k0, k1, k2, k3, k4, k5, k6, k7, k8, k9, k10, k11, k12, k13, k14, k15, k16, k17, k18, k19, k20, k21, k22, k23, k24, k25, k26, k27, k28, k29, k30]
def interned : List (Array UInt16 × Addr) := []
def slotsUsed : Nat := 14
def theMethod : MethodId := ⟨1, 1⟩
def args0 : Array Value := #[.int 5, .long 5, .long 5, .int 5, .long 5, .int 5]
def aboutOver (below : List Frame) : State where
  vm := { classes := classes, interned := interned.toArray }
  heap := heap
  slotsUsed := slotsUsed
  threads := #[{ frames := .invoking theMethod args0 :: below }]
def below0 : List Frame := [.native { method := ⟨0, 0⟩, args := #[] }]
def about1 : State := aboutOver below0
def p0 : Program := .bare "" "" ""
def e0 : Env := launch0.env 0 0 0
theorem w_frames : about1.frames = Frame.invoking theMethod args0 :: below0 := rfl
set_option maxRecDepth 65536 in
theorem w_args : argsFit about1.vm theMethod args0 = true := by decide +kernel
set_option maxRecDepth 65536 in
theorem w_heap : heapFits about1 = true := by decide +kernel
set_option maxRecDepth 65536 in
theorem w_runnable : about1.curStatus? = some .runnable := by decide +kernel
set_option maxRecDepth 65536 in
theorem w_alone : about1.alone = true := by decide +kernel
set_option maxRecDepth 65536 in
theorem w_named : about1.methodNamed? x = some theMethod := by decide +kernel
set_option maxRecDepth 65536 in
theorem w_hears : about1.hears theMethod below0 = true := by decide +kernel
set_option maxRecDepth 65536 in
theorem w_ripe : about1.ripe theMethod args0 below0 = true := by decide +kernel
theorem w_running : about1.status = .running := rfl
set_option maxRecDepth 65536 in
theorem w_room : about1.hasRoom e0.platform room_1 = true :=
  launch0.hasRoom_least _ room_1 (by decide +kernel) (by decide +kernel) (by decide +kernel) (by decide +kernel) (by decide +kernel) (by decide +kernel)
theorem allAtoms_all (ts : List Jvm.Cond) (a : Array Jvm.Value) (st : Jvm.State) : (allAtoms ts).before a st = ts.all (fun c => c.before a st) := by
  induction ts with
  | nil => rfl
  | cons c t ih =>
    show (Jvm.Cond.and c (allAtoms t)).before a st = _
    rw [Jvm.Cond.before_and, ih, List.all_cons]
def words1 : List Jvm.Cond := Jvm.Cond.code x code maxLocals ret :: tables_1
/-- a 'code' word, met by the world's own term for the bytes: nothing is compared byte by byte -/
theorem code_word {y : MethodName} {bytes : ByteArray} {mx : Nat} {rt : Option FieldType} {a : Array Value} {s : State} {m : MethodId} {meth : Method} {c : Code} (h1 : s.methodNamed? y = some m) (h2 : s.vm.method? m = some meth) (h3 : meth.code = some c) (h4 : c.code = bytes)
    (h5 : (c.maxLocals == mx && c.exceptionTable.isEmpty && decide (c.maxStack ≤ mostOperands) && decide (meth.sig.returnType = rt) && !meth.locks && decide (parseMethodDescriptor y.desc = some meth.sig)) = true) : (Jvm.Cond.code y bytes mx rt).before a s = true := by
  simp only [Bool.and_eq_true, beq_iff_eq, Bool.not_eq_true', decide_eq_true_eq] at h5
  obtain ⟨⟨⟨⟨⟨g1, g2⟩, g3⟩, g4⟩, g5⟩, g6⟩ := h5
  simp [Cond.before, Cond.holds, Cond.value, h1, h2, h3, h4, g1, g2, g3, g4, g5, g6]
def isCode : Jvm.Cond → Bool
  | .code _ _ _ _ => true
  | _ => false
theorem all_split {L : List Jvm.Cond} {P : Jvm.Cond → Bool} (h1 : L.all (fun c => isCode c || P c) = true) (h2 : ∀ c ∈ L.filter isCode, P c = true) : L.all P = true := by
  refine List.all_eq_true.mpr fun c hc => ?_
  have h := List.all_eq_true.mp h1 c hc
  rcases Bool.eq_false_or_eq_true (isCode c) with hi | hi
  · exact h2 c (List.mem_filter.mpr ⟨hc, hi⟩)
  · simpa [hi] using h
set_option maxRecDepth 65536 in
theorem w_c0 : (Jvm.Cond.code x code maxLocals ret).before args0 about1 = true := code_word (m := ⟨1, 1⟩) (meth := k1m1) (c := k1c1) (by decide +kernel) rfl rfl rfl (by decide +kernel)
set_option maxRecDepth 65536 in
theorem w_c1 : (Jvm.Cond.code ({ cls := "java/lang/String", name := "<init>", desc := "([C)V" } : Jvm.MethodName) jdk_42_method_3_code (2 : Nat) (Option.none : Option Jvm.ClassFile.FieldType)).before args0 about1 = true := code_word (m := ⟨7, 1⟩) (meth := k7m1) (c := k7c1) (by decide +kernel) rfl rfl rfl (by decide +kernel)
set_option maxRecDepth 65536 in
theorem w_c2 : (Jvm.Cond.code ({ cls := "java/lang/String", name := "<init>", desc := "([CIILjava/lang/Void;)V" } : Jvm.MethodName) jdk_42_method_149_code (6 : Nat) (Option.none : Option Jvm.ClassFile.FieldType)).before args0 about1 = true := code_word (m := ⟨7, 3⟩) (meth := k7m3) (c := k7c3) (by decide +kernel) rfl rfl rfl (by decide +kernel)
set_option maxRecDepth 65536 in
theorem w_c3 : (Jvm.Cond.code ({ cls := "java/lang/Object", name := "<init>", desc := "()V" } : Jvm.MethodName) object_method_1_code (1 : Nat) (Option.none : Option Jvm.ClassFile.FieldType)).before args0 about1 = true := code_word (m := ⟨0, 0⟩) (meth := k0m0) (c := k0c0) (by decide +kernel) rfl rfl rfl (by decide +kernel)
set_option maxRecDepth 65536 in
theorem w_c4 : (Jvm.Cond.code ({ cls := "java/lang/StringUTF16", name := "compress", desc := "([CII)[B" } : Jvm.MethodName) jdk_52_method_16_code (6 : Nat) (Option.some (Jvm.ClassFile.FieldType.array Jvm.ClassFile.FieldType.byte))).before args0 about1 = true := code_word (m := ⟨8, 2⟩) (meth := k8m2) (c := k8c2) (by decide +kernel) rfl rfl rfl (by decide +kernel)
set_option maxRecDepth 65536 in
theorem w_c5 : (Jvm.Cond.code ({ cls := "java/lang/StringUTF16", name := "compress", desc := "([CI[BII)I" } : Jvm.MethodName) jdk_52_method_21_code (7 : Nat) (Option.some Jvm.ClassFile.FieldType.int)).before args0 about1 = true := code_word (m := ⟨8, 3⟩) (meth := k8m3) (c := k8c3) (by decide +kernel) rfl rfl rfl (by decide +kernel)
set_option maxRecDepth 65536 in
theorem w_c6 : (Jvm.Cond.code ({ cls := "java/lang/StringUTF16", name := "coderFromArrayLen", desc := "([BI)B" } : Jvm.MethodName) jdk_52_method_15_code (2 : Nat) (Option.some Jvm.ClassFile.FieldType.byte)).before args0 about1 = true := code_word (m := ⟨8, 1⟩) (meth := k8m1) (c := k8c1) (by decide +kernel) rfl rfl rfl (by decide +kernel)
set_option maxRecDepth 65536 in
theorem w_c7 : (Jvm.Cond.code ({ cls := "java/util/ArrayList", name := "<init>", desc := "()V" } : Jvm.MethodName) jdk_38_method_2_code (1 : Nat) (Option.none : Option Jvm.ClassFile.FieldType)).before args0 about1 = true := code_word (m := ⟨17, 0⟩) (meth := k17m0) (c := k17c0) (by decide +kernel) rfl rfl rfl (by decide +kernel)
set_option maxRecDepth 65536 in
theorem w_c8 : (Jvm.Cond.code ({ cls := "java/util/AbstractList", name := "<init>", desc := "()V" } : Jvm.MethodName) jdk_39_method_1_code (1 : Nat) (Option.none : Option Jvm.ClassFile.FieldType)).before args0 about1 = true := code_word (m := ⟨14, 0⟩) (meth := k14m0) (c := k14c0) (by decide +kernel) rfl rfl rfl (by decide +kernel)
set_option maxRecDepth 65536 in
theorem w_c9 : (Jvm.Cond.code ({ cls := "java/util/AbstractCollection", name := "<init>", desc := "()V" } : Jvm.MethodName) jdk_22_method_1_code (1 : Nat) (Option.none : Option Jvm.ClassFile.FieldType)).before args0 about1 = true := code_word (m := ⟨11, 0⟩) (meth := k11m0) (c := k11c0) (by decide +kernel) rfl rfl rfl (by decide +kernel)
set_option maxRecDepth 65536 in
theorem w_c10 : (Jvm.Cond.code ({ cls := "com/example/synlock/synlock/Holds$Grant", name := "<init>", desc := "(Ljava/lang/String;JJIJZLjava/util/List;)V" } : Jvm.MethodName) prog_3_method_2_code (11 : Nat) (Option.none : Option Jvm.ClassFile.FieldType)).before args0 about1 = true := code_word (m := ⟨19, 0⟩) (meth := k19m0) (c := k19c0) (by decide +kernel) rfl rfl rfl (by decide +kernel)
set_option maxRecDepth 65536 in
theorem w_c11 : (Jvm.Cond.code ({ cls := "java/lang/Record", name := "<init>", desc := "()V" } : Jvm.MethodName) jdk_30_method_1_code (1 : Nat) (Option.none : Option Jvm.ClassFile.FieldType)).before args0 about1 = true := code_word (m := ⟨18, 0⟩) (meth := k18m0) (c := k18c0) (by decide +kernel) rfl rfl rfl (by decide +kernel)
set_option maxRecDepth 65536 in
theorem w_c12 : (Jvm.Cond.code ({ cls := "com/example/synlock/synlock/Holds$Grant", name := "releasedOnce", desc := "()Lcom/example/synlock/synlock/Holds$Grant;" } : Jvm.MethodName) prog_3_method_6_code (1 : Nat) (Option.some (Jvm.ClassFile.FieldType.object "com/example/synlock/synlock/Holds$Grant"))).before args0 about1 = true := code_word (m := ⟨19, 1⟩) (meth := k19m1) (c := k19c1) (by decide +kernel) rfl rfl rfl (by decide +kernel)
set_option maxRecDepth 65536 in
theorem w_c13 : (Jvm.Cond.code ({ cls := "com/example/synlock/synlock/Holds$Grant", name := "holds", desc := "()I" } : Jvm.MethodName) prog_3_method_17_code (1 : Nat) (Option.some Jvm.ClassFile.FieldType.int)).before args0 about1 = true := code_word (m := ⟨19, 5⟩) (meth := k19m5) (c := k19c5) (by decide +kernel) rfl rfl rfl (by decide +kernel)
set_option maxRecDepth 65536 in
theorem w_c14 : (Jvm.Cond.code ({ cls := "com/example/synlock/synlock/Holds$Grant", name := "sentNanos", desc := "()J" } : Jvm.MethodName) prog_3_method_15_code (1 : Nat) (Option.some Jvm.ClassFile.FieldType.long)).before args0 about1 = true := code_word (m := ⟨19, 3⟩) (meth := k19m3) (c := k19c3) (by decide +kernel) rfl rfl rfl (by decide +kernel)
set_option maxRecDepth 65536 in
theorem w_c15 : (Jvm.Cond.code ({ cls := "com/example/synlock/synlock/Holds$Grant", name := "leaseNanos", desc := "()J" } : Jvm.MethodName) prog_3_method_16_code (1 : Nat) (Option.some Jvm.ClassFile.FieldType.long)).before args0 about1 = true := code_word (m := ⟨19, 4⟩) (meth := k19m4) (c := k19c4) (by decide +kernel) rfl rfl rfl (by decide +kernel)
set_option maxRecDepth 65536 in
theorem w_c16 : (Jvm.Cond.code ({ cls := "com/example/synlock/synlock/Holds$Grant", name := "token", desc := "()J" } : Jvm.MethodName) prog_3_method_18_code (1 : Nat) (Option.some Jvm.ClassFile.FieldType.long)).before args0 about1 = true := code_word (m := ⟨19, 6⟩) (meth := k19m6) (c := k19c6) (by decide +kernel) rfl rfl rfl (by decide +kernel)
set_option maxRecDepth 65536 in
theorem w_c17 : (Jvm.Cond.code ({ cls := "com/example/synlock/synlock/Holds$Grant", name := "renewed", desc := "()Z" } : Jvm.MethodName) prog_3_method_19_code (1 : Nat) (Option.some Jvm.ClassFile.FieldType.boolean)).before args0 about1 = true := code_word (m := ⟨19, 7⟩) (meth := k19m7) (c := k19c7) (by decide +kernel) rfl rfl rfl (by decide +kernel)
set_option maxRecDepth 65536 in
theorem w_c18 : (Jvm.Cond.code ({ cls := "com/example/synlock/synlock/Holds$Grant", name := "owner", desc := "()Ljava/lang/String;" } : Jvm.MethodName) prog_3_method_14_code (1 : Nat) (Option.some (Jvm.ClassFile.FieldType.object "java/lang/String"))).before args0 about1 = true := code_word (m := ⟨19, 2⟩) (meth := k19m2) (c := k19c2) (by decide +kernel) rfl rfl rfl (by decide +kernel)
set_option maxRecDepth 65536 in
theorem w_c19 : (Jvm.Cond.code ({ cls := "java/lang/String", name := "equals", desc := "(Ljava/lang/Object;)Z" } : Jvm.MethodName) jdk_42_method_66_code (3 : Nat) (Option.some Jvm.ClassFile.FieldType.boolean)).before args0 about1 = true := code_word (m := ⟨7, 2⟩) (meth := k7m2) (c := k7c2) (by decide +kernel) rfl rfl rfl (by decide +kernel)
set_option maxRecDepth 65536 in
theorem w_c20 : (Jvm.Cond.code ({ cls := "java/util/ArrayList", name := "add", desc := "(Ljava/lang/Object;)Z" } : Jvm.MethodName) jdk_38_method_25_code (2 : Nat) (Option.some Jvm.ClassFile.FieldType.boolean)).before args0 about1 = true := code_word (m := ⟨17, 5⟩) (meth := k17m5) (c := k17c5) (by decide +kernel) rfl rfl rfl (by decide +kernel)
set_option maxRecDepth 65536 in
theorem w_c21 : (Jvm.Cond.code ({ cls := "java/util/ArrayList", name := "add", desc := "(Ljava/lang/Object;[Ljava/lang/Object;I)V" } : Jvm.MethodName) jdk_38_method_24_code (4 : Nat) (Option.none : Option Jvm.ClassFile.FieldType)).before args0 about1 = true := code_word (m := ⟨17, 4⟩) (meth := k17m4) (c := k17c4) (by decide +kernel) rfl rfl rfl (by decide +kernel)
set_option maxRecDepth 65536 in
theorem w_c22 : (Jvm.Cond.code ({ cls := "java/util/ArrayList", name := "grow", desc := "()[Ljava/lang/Object;" } : Jvm.MethodName) jdk_38_method_7_code (1 : Nat) (Option.some (Jvm.ClassFile.FieldType.array (Jvm.ClassFile.FieldType.object "java/lang/Object")))).before args0 about1 = true := code_word (m := ⟨17, 2⟩) (meth := k17m2) (c := k17c2) (by decide +kernel) rfl rfl rfl (by decide +kernel)
set_option maxRecDepth 65536 in
theorem w_c23 : (Jvm.Cond.code ({ cls := "java/util/ArrayList", name := "grow", desc := "(I)[Ljava/lang/Object;" } : Jvm.MethodName) jdk_38_method_6_code (4 : Nat) (Option.some (Jvm.ClassFile.FieldType.array (Jvm.ClassFile.FieldType.object "java/lang/Object")))).before args0 about1 = true := code_word (m := ⟨17, 1⟩) (meth := k17m1) (c := k17c1) (by decide +kernel) rfl rfl rfl (by decide +kernel)
set_option maxRecDepth 65536 in
theorem w_c24 : (Jvm.Cond.code ({ cls := "java/lang/Math", name := "max", desc := "(II)I" } : Jvm.MethodName) jdk_29_method_65_code (2 : Nat) (Option.some Jvm.ClassFile.FieldType.int)).before args0 about1 = true := code_word (m := ⟨20, 1⟩) (meth := k20m1) (c := k20c1) (by decide +kernel) rfl rfl rfl (by decide +kernel)
set_option maxRecDepth 65536 in
theorem w_c25 : (Jvm.Cond.code ({ cls := "com/example/synlock/synlock/Holds$Grant", name := "listeners", desc := "()Ljava/util/List;" } : Jvm.MethodName) prog_3_method_20_code (1 : Nat) (Option.some (Jvm.ClassFile.FieldType.object "java/util/List"))).before args0 about1 = true := code_word (m := ⟨19, 8⟩) (meth := k19m8) (c := k19c8) (by decide +kernel) rfl rfl rfl (by decide +kernel)
set_option maxRecDepth 65536 in
theorem w_c26 : (Jvm.Cond.code ({ cls := "java/util/ArrayList", name := "size", desc := "()I" } : Jvm.MethodName) jdk_38_method_8_code (1 : Nat) (Option.some Jvm.ClassFile.FieldType.int)).before args0 about1 = true := code_word (m := ⟨17, 3⟩) (meth := k17m3) (c := k17c3) (by decide +kernel) rfl rfl rfl (by decide +kernel)
set_option maxRecDepth 65536 in
theorem w_c27 : (Jvm.Cond.code ({ cls := "java/util/ArrayList", name := "equals", desc := "(Ljava/lang/Object;)Z" } : Jvm.MethodName) jdk_38_method_32_code (4 : Nat) (Option.some Jvm.ClassFile.FieldType.boolean)).before args0 about1 = true := code_word (m := ⟨17, 6⟩) (meth := k17m6) (c := k17c6) (by decide +kernel) rfl rfl rfl (by decide +kernel)
def codes1 : List Jvm.Cond := [Jvm.Cond.code x code maxLocals ret, Jvm.Cond.code ({ cls := "java/lang/String", name := "<init>", desc := "([C)V" } : Jvm.MethodName) jdk_42_method_3_code (2 : Nat) (Option.none : Option Jvm.ClassFile.FieldType), Jvm.Cond.code ({ cls := "java/lang/String", name := "<init>", desc := "([CIILjava/lang/Void;)V" } : Jvm.MethodName) jdk_42_method_149_code (6 : Nat) (Option.none : Option Jvm.ClassFile.FieldType), Jvm.Cond.code ({ cls := "java/lang/Object", name := "<init>", desc := "()V" } : Jvm.MethodName) object_method_1_code (1 : Nat) (Option.none : Option Jvm.ClassFile.FieldType), Jvm.Cond.code ({ cls := "java/lang/StringUTF16", name := "compress", desc := "([CII)[B" } : Jvm.MethodName) jdk_52_method_16_code (6 : Nat) (Option.some (Jvm.ClassFile.FieldType.array Jvm.ClassFile.FieldType.byte)), Jvm.Cond.code ({ cls := "java/lang/StringUTF16", name := "compress", desc := "([CI[BII)I" } : Jvm.MethodName) jdk_52_method_21_code (7 : Nat) (Option.some Jvm.ClassFile.FieldType.int), Jvm.Cond.code ({ cls := "java/lang/StringUTF16", name := "coderFromArrayLen", desc := "([BI)B" } : Jvm.MethodName) jdk_52_method_15_code (2 : Nat) (Option.some Jvm.ClassFile.FieldType.byte), Jvm.Cond.code ({ cls := "java/util/ArrayList", name := "<init>", desc := "()V" } : Jvm.MethodName) jdk_38_method_2_code (1 : Nat) (Option.none : Option Jvm.ClassFile.FieldType), Jvm.Cond.code ({ cls := "java/util/AbstractList", name := "<init>", desc := "()V" } : Jvm.MethodName) jdk_39_method_1_code (1 : Nat) (Option.none : Option Jvm.ClassFile.FieldType), Jvm.Cond.code ({ cls := "java/util/AbstractCollection", name := "<init>", desc := "()V" } : Jvm.MethodName) jdk_22_method_1_code (1 : Nat) (Option.none : Option Jvm.ClassFile.FieldType), Jvm.Cond.code ({ cls := "com/example/synlock/synlock/Holds$Grant", name := "<init>", desc := "(Ljava/lang/String;JJIJZLjava/util/List;)V" } : Jvm.MethodName) prog_3_method_2_code (11 : Nat) (Option.none : Option Jvm.ClassFile.FieldType), Jvm.Cond.code ({ cls := "java/lang/Record", name := "<init>", desc := "()V" } : Jvm.MethodName) jdk_30_method_1_code (1 : Nat) (Option.none : Option Jvm.ClassFile.FieldType), Jvm.Cond.code ({ cls := "com/example/synlock/synlock/Holds$Grant", name := "releasedOnce", desc := "()Lcom/example/synlock/synlock/Holds$Grant;" } : Jvm.MethodName) prog_3_method_6_code (1 : Nat) (Option.some (Jvm.ClassFile.FieldType.object "com/example/synlock/synlock/Holds$Grant")), Jvm.Cond.code ({ cls := "com/example/synlock/synlock/Holds$Grant", name := "holds", desc := "()I" } : Jvm.MethodName) prog_3_method_17_code (1 : Nat) (Option.some Jvm.ClassFile.FieldType.int), Jvm.Cond.code ({ cls := "com/example/synlock/synlock/Holds$Grant", name := "sentNanos", desc := "()J" } : Jvm.MethodName) prog_3_method_15_code (1 : Nat) (Option.some Jvm.ClassFile.FieldType.long), Jvm.Cond.code ({ cls := "com/example/synlock/synlock/Holds$Grant", name := "leaseNanos", desc := "()J" } : Jvm.MethodName) prog_3_method_16_code (1 : Nat) (Option.some Jvm.ClassFile.FieldType.long), Jvm.Cond.code ({ cls := "com/example/synlock/synlock/Holds$Grant", name := "token", desc := "()J" } : Jvm.MethodName) prog_3_method_18_code (1 : Nat) (Option.some Jvm.ClassFile.FieldType.long), Jvm.Cond.code ({ cls := "com/example/synlock/synlock/Holds$Grant", name := "renewed", desc := "()Z" } : Jvm.MethodName) prog_3_method_19_code (1 : Nat) (Option.some Jvm.ClassFile.FieldType.boolean), Jvm.Cond.code ({ cls := "com/example/synlock/synlock/Holds$Grant", name := "owner", desc := "()Ljava/lang/String;" } : Jvm.MethodName) prog_3_method_14_code (1 : Nat) (Option.some (Jvm.ClassFile.FieldType.object "java/lang/String")), Jvm.Cond.code ({ cls := "java/lang/String", name := "equals", desc := "(Ljava/lang/Object;)Z" } : Jvm.MethodName) jdk_42_method_66_code (3 : Nat) (Option.some Jvm.ClassFile.FieldType.boolean), Jvm.Cond.code ({ cls := "java/util/ArrayList", name := "add", desc := "(Ljava/lang/Object;)Z" } : Jvm.MethodName) jdk_38_method_25_code (2 : Nat) (Option.some Jvm.ClassFile.FieldType.boolean), Jvm.Cond.code ({ cls := "java/util/ArrayList", name := "add", desc := "(Ljava/lang/Object;[Ljava/lang/Object;I)V" } : Jvm.MethodName) jdk_38_method_24_code (4 : Nat) (Option.none : Option Jvm.ClassFile.FieldType), Jvm.Cond.code ({ cls := "java/util/ArrayList", name := "grow", desc := "()[Ljava/lang/Object;" } : Jvm.MethodName) jdk_38_method_7_code (1 : Nat) (Option.some (Jvm.ClassFile.FieldType.array (Jvm.ClassFile.FieldType.object "java/lang/Object"))), Jvm.Cond.code ({ cls := "java/util/ArrayList", name := "grow", desc := "(I)[Ljava/lang/Object;" } : Jvm.MethodName) jdk_38_method_6_code (4 : Nat) (Option.some (Jvm.ClassFile.FieldType.array (Jvm.ClassFile.FieldType.object "java/lang/Object"))), Jvm.Cond.code ({ cls := "java/lang/Math", name := "max", desc := "(II)I" } : Jvm.MethodName) jdk_29_method_65_code (2 : Nat) (Option.some Jvm.ClassFile.FieldType.int), Jvm.Cond.code ({ cls := "com/example/synlock/synlock/Holds$Grant", name := "listeners", desc := "()Ljava/util/List;" } : Jvm.MethodName) prog_3_method_20_code (1 : Nat) (Option.some (Jvm.ClassFile.FieldType.object "java/util/List")), Jvm.Cond.code ({ cls := "java/util/ArrayList", name := "size", desc := "()I" } : Jvm.MethodName) jdk_38_method_8_code (1 : Nat) (Option.some Jvm.ClassFile.FieldType.int), Jvm.Cond.code ({ cls := "java/util/ArrayList", name := "equals", desc := "(Ljava/lang/Object;)Z" } : Jvm.MethodName) jdk_38_method_32_code (4 : Nat) (Option.some Jvm.ClassFile.FieldType.boolean)]
set_option maxRecDepth 65536 in
theorem codes_eq : words1.filter isCode = codes1 := rfl
theorem w_codes : ∀ c ∈ words1.filter isCode, c.before args0 about1 = true := by
  rw [codes_eq]
  intro c hc
  simp only [codes1, List.mem_cons, List.not_mem_nil, or_false] at hc
  rcases hc with rfl | rfl | rfl | rfl | rfl | rfl | rfl | rfl | rfl | rfl | rfl | rfl | rfl | rfl | rfl | rfl | rfl | rfl | rfl | rfl | rfl | rfl | rfl | rfl | rfl | rfl | rfl | rfl
  · exact w_c0
  · exact w_c1
  · exact w_c2
  · exact w_c3
  · exact w_c4
  · exact w_c5
  · exact w_c6
  · exact w_c7
  · exact w_c8
  · exact w_c9
  · exact w_c10
  · exact w_c11
  · exact w_c12
  · exact w_c13
  · exact w_c14
  · exact w_c15
  · exact w_c16
  · exact w_c17
  · exact w_c18
  · exact w_c19
  · exact w_c20
  · exact w_c21
  · exact w_c22
  · exact w_c23
  · exact w_c24
  · exact w_c25
  · exact w_c26
  · exact w_c27
set_option maxRecDepth 65536 in
theorem w_t1 : (words1.take 24).all (fun c => isCode c || c.before args0 about1) = true := by decide +kernel
set_option maxRecDepth 65536 in
theorem w_t2 : ((words1.drop 24).take 24).all (fun c => isCode c || c.before args0 about1) = true := by decide +kernel
set_option maxRecDepth 65536 in
theorem w_t3 : (((words1.drop 24).drop 24).take 24).all (fun c => isCode c || c.before args0 about1) = true := by decide +kernel
set_option maxRecDepth 65536 in
theorem w_t4 : ((((words1.drop 24).drop 24).drop 24).take 24).all (fun c => isCode c || c.before args0 about1) = true := by decide +kernel
set_option maxRecDepth 65536 in
theorem w_t5 : (((((words1.drop 24).drop 24).drop 24).drop 24).take 24).all (fun c => isCode c || c.before args0 about1) = true := by decide +kernel
set_option maxRecDepth 65536 in
theorem w_t6 : ((((((words1.drop 24).drop 24).drop 24).drop 24).drop 24).take 24).all (fun c => isCode c || c.before args0 about1) = true := by decide +kernel
set_option maxRecDepth 65536 in
theorem w_t7 : (((((((words1.drop 24).drop 24).drop 24).drop 24).drop 24).drop 24).take 24).all (fun c => isCode c || c.before args0 about1) = true := by decide +kernel
set_option maxRecDepth 65536 in
theorem w_t8 : (((((((words1.drop 24).drop 24).drop 24).drop 24).drop 24).drop 24).drop 24).all (fun c => isCode c || c.before args0 about1) = true := by decide +kernel
theorem w_tables : (allAtoms (Jvm.Cond.code x code maxLocals ret :: tables_1)).before args0 about1 = true := by
  rw [allAtoms_all]
  show words1.all (fun c => c.before args0 about1) = true
  refine all_split ?_ w_codes
  rw [← List.take_append_drop 24 words1, List.all_append, w_t1, ← List.take_append_drop 24 (words1.drop 24), List.all_append, w_t2, ← List.take_append_drop 24 ((words1.drop 24).drop 24), List.all_append, w_t3, ← List.take_append_drop 24 (((words1.drop 24).drop 24).drop 24), List.all_append, w_t4, ← List.take_append_drop 24 ((((words1.drop 24).drop 24).drop 24).drop 24), List.all_append, w_t5, ← List.take_append_drop 24 (((((words1.drop 24).drop 24).drop 24).drop 24).drop 24), List.all_append, w_t6, ← List.take_append_drop 24 ((((((words1.drop 24).drop 24).drop 24).drop 24).drop 24).drop 24), List.all_append, w_t7, w_t8]
  rfl
set_option maxRecDepth 65536 in
theorem w_rest : rest_1_c.before args0 about1 = true := by decide +kernel
set_option maxRecDepth 65536 in
theorem w_case : (Jvm.Cond.and given_1 narrow_1).before args0 about1 = true := by decide +kernel
theorem w_applies : (headSpec (Jvm.Cond.code x code maxLocals ret :: tables_1) room_1).applies x e0.platform about1 = true :=
  (Spec.applies_iff w_frames).mpr ⟨w_running, w_runnable, w_alone, w_named, w_hears, w_ripe, w_room, w_tables⟩
theorem atStart : AtStart classFile x code maxLocals ret World_1 tables_1 room_1 Calls_1 rest_1 Pre_1 launch0 p0 e0 about1 theMethod args0 below0 :=
  ⟨lists_1, trivial, launch0.admits_env _ _ _, launch0.least_env, fairChoices_fair.cas, fairChoices_fair.clock, w_frames, w_args, w_heap, w_applies, trivial, w_rest, w_case⟩
end start1
theorem witness_1 : WitnessClaimed_1 := ⟨start1.p0, start1.e0, start1.about1, start1.theMethod, start1.args0, start1.below0, start1.atStart⟩
end Jvm.Pilot.@@N@@
