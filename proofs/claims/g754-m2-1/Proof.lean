import JvmDerived
import JvmDerived.Pilot.@@N@@Statement
import JvmDerived.Pilot.@@N@@Code
set_option linter.unusedVariables false
set_option linter.unusedSimpArgs false
/- laws to paste: Road.backV, Road.lenW, Road.codOf, lo8_inj (cut by pick.py; bodies as the Statement names them) -/
namespace Jvm.Pilot.@@N@@
namespace StrChars
open Jvm Sem ClassFile Op Lib Jvm.Stand Jvm.Free.XT Jvm.Free.ALB Jvm.Free.JM Jvm.Free
open Jvm.Lib.Cold (StaticIs)
/-- a char array whose places are chars -/
def Ch (a : Addr) (A : Cell) (U : State) : Prop := Arr .char a A U ∧ Typed .char A
theorem Ch.mv {a : Addr} {A : Cell} {U U' : State} (h : Ch a A U) (hal : U.vm.Alike U'.vm) (hh : U'.heap = U.heap) : Ch a A U' := ⟨h.1.mv hal hh, h.2⟩
theorem Ch.keep {a : Addr} {A : Cell} {U U' : State} (h : Ch a A U) (hal : U.vm.Alike U'.vm) (hk : U'.heap[a]? = some A) : Ch a A U' := ⟨h.1.keep hal hk, h.2⟩
/-- what place i of a char[]'s cell holds -/
def cv (A : Cell) (i : Nat) : Int32 := match A.slots[i]? with | some (.int x) => x | _ => 0
theorem Ch.get {a : Addr} {A : Cell} {U : State} (h : Ch a A U) {i : Nat} (hi : i < A.slots.size) : A.slots[i]? = some (.int (cv A i)) := by
  have e := Array.getElem?_eq_getElem hi
  have f := h.2 i _ e
  unfold cv; rw [e]
  generalize A.slots[i] = v at f
  cases v <;> simp [fits] at f ⊢
/-- the byte that i2b leaves of a char -/
def lo8 (x : Int32) : Int32 := x.toInt8.toInt32
theorem fits_lo8 (y : Int32) : fits .byte (.int (lo8 y)) = true := by
  have h1 := y.toInt8.le_toInt
  have h2 := y.toInt8.toInt_lt
  simp only [lo8, fits, Bool.and_eq_true, decide_eq_true_eq, Int32.le_iff_toInt_le, Int8.toInt_toInt32, show (-128 : Int32).toInt = -128 from by decide, show (127 : Int32).toInt = 127 from by decide]
  omega
/-- A' is A but that each place j of lo .. hi - 1 holds f j -/
def Laid (A A' : Cell) (lo hi : Nat) (f : Nat → Value) : Prop := A'.cls = A.cls ∧ A'.vm = A.vm ∧ A'.slots.size = A.slots.size ∧ ∀ i, A'.slots[i]? = if lo ≤ i ∧ i < hi then some (f i) else A.slots[i]?
theorem Laid.zero (A : Cell) (lo : Nat) (f : Nat → Value) : Laid A A lo (lo + 0) f := ⟨rfl, rfl, rfl, fun i => by rw [if_neg (by omega)]⟩
theorem Laid.step {A Ak : Cell} {lo k : Nat} {f : Nat → Value} {v : Value} (h : Laid A Ak lo k f) (hlo : lo ≤ k) (hk : k < Ak.slots.size) (hv : v = f k) : Laid A (Ak.setSlot k v) lo (k + 1) f := by
  refine ⟨h.1, h.2.1, by simpa [Cell.setSlot] using h.2.2.1, fun i => ?_⟩
  by_cases e : k = i
  · subst e; rw [Cell.slots_setSlot_self v hk, if_pos (by omega), hv]
  · rw [Cell.slots_setSlot_ne v e, h.2.2.2 i]
    by_cases q : lo ≤ i ∧ i < k
    · rw [if_pos q, if_pos (by omega)]
    · rw [if_neg q, if_neg (by omega)]
def U16 : String := "java/lang/StringUTF16"
namespace Cmp5
def yN : MethodName := ⟨"java/lang/StringUTF16", "compress", "([CI[BII)I"⟩
abbrev yB : ByteArray := jdk_52_method_21_code
theorem d0 : decode yB 0 = .ok (.iconst 0, 1) := by decide +kernel
theorem d1 : decode yB 1 = .ok (.istore 5, 2) := by decide +kernel
theorem d3 : decode yB 3 = .ok (.iload 5, 2) := by decide +kernel
theorem d5 : decode yB 5 = .ok (.iload 4, 2) := by decide +kernel
theorem d7 : decode yB 7 = .ok (.if_icmp (.ge) 37, 3) := by decide +kernel
theorem d10 : decode yB 10 = .ok (.aload_n 0, 1) := by decide +kernel
theorem d11 : decode yB 11 = .ok (.iload_n 1, 1) := by decide +kernel
theorem d12 : decode yB 12 = .ok (.caload, 1) := by decide +kernel
theorem d13 : decode yB 13 = .ok (.istore 6, 2) := by decide +kernel
theorem d15 : decode yB 15 = .ok (.iload 6, 2) := by decide +kernel
theorem d17 : decode yB 17 = .ok (.sipush 255, 3) := by decide +kernel
theorem d20 : decode yB 20 = .ok (.if_icmp (.le) 6, 3) := by decide +kernel
theorem d26 : decode yB 26 = .ok (.aload_n 2, 1) := by decide +kernel
theorem d27 : decode yB 27 = .ok (.iload_n 3, 1) := by decide +kernel
theorem d28 : decode yB 28 = .ok (.iload 6, 2) := by decide +kernel
theorem d30 : decode yB 30 = .ok (.i2b, 1) := by decide +kernel
theorem d31 : decode yB 31 = .ok (.bastore, 1) := by decide +kernel
theorem d32 : decode yB 32 = .ok (.iinc 1 1, 3) := by decide +kernel
theorem d35 : decode yB 35 = .ok (.iinc 3 1, 3) := by decide +kernel
theorem d38 : decode yB 38 = .ok (.iinc 5 1, 3) := by decide +kernel
theorem d41 : decode yB 41 = .ok (.goto (-38), 3) := by decide +kernel
theorem d44 : decode yB 44 = .ok (.iload 4, 2) := by decide +kernel
theorem d46 : decode yB 46 = .ok (.ireturn, 1) := by decide +kernel
def site : List Cond := []
def tab : Cond := tabOf yN yB 7 (some .int) site
def P (b : Addr) (A : Cell) (d : Addr) (B : Cell) (o q len : Nat) (args : Array Value) (s : State) : Prop := args = #[.ref b, .int (Int32.ofNat o), .ref d, .int (Int32.ofNat q), .int (Int32.ofNat len)] ∧ Ch b A s ∧ Arr .byte d B s ∧ b ≠ d ∧ o + len ≤ A.slots.size ∧ q + len ≤ B.slots.size ∧ ∀ i, i < len → ¬ 255 < cv A (o + i)
def E (b : Addr) (A : Cell) (d : Addr) (B : Cell) (o q len : Nat) (r : Option Value) (s u : State) : Prop := r = some (.int (Int32.ofNat len)) ∧ ∃ B', Put d B' s u ∧ Laid B B' q (q + len) (fun j => Value.int (lo8 (cv A (o + (j - q)))))
/-- no char of the range above 255: len; the places written hold each char's low byte -/
theorem law (l : Launch) (b : Addr) (A : Cell) (d : Addr) (B : Cell) (o q len : Nat) : Law l yN 5 5 0 0 yB 7 (some .int) site (P b A d B o q len) (E b A d B o q len) (copyLocs d q len) 0 0 := by
  refine Law.of_walk (plainFor_of_name (by decide +kernel)) (by decide +kernel) (by decide +kernel) (by decide) (fun _ _ h => by rw [h.1]; rfl) (fun _ U U' hal hh h => ⟨h.1, h.2.1.mv hal hh, h.2.2.1.mv hal hh, h.2.2.2⟩) (fun r U U' V V' h1 hal h2 h => ⟨h.1, h.2.elim fun B' q => ⟨B', q.1.mv h1 h2, q.2⟩⟩) ?_
  intro p e s m args below meth c s₁ X0 hexec hbytes hml hret hlk hnm hown hh0 W hP
  obtain ⟨rfl, hA, hB, hne, l1, l2, hp⟩ := hP
  have c1 : Steps p.tables e below (s₁.setTop (entryFrame m #[.ref b, .int (Int32.ofNat o), .ref d, .int (Int32.ofNat q), .int (Int32.ofNat len)] 7)) (s₁.setTop (mkF m 0 #[.val (.ref b), .val (.int (Int32.ofNat o)), .val (.ref d), .val (.int (Int32.ofNat q)), .val (.int (Int32.ofNat len)), .unset, .unset] [])) := entry rfl
  have hA0 := hA.1.mv X0.warmed.alike hh0
  have hB0 := hB.mv X0.warmed.alike hh0
  have a31 := hA.1.2.2.2
  have c2 : Steps p.tables e below (s₁.setTop (entryFrame m #[.ref b, .int (Int32.ofNat o), .ref d, .int (Int32.ofNat q), .int (Int32.ofNat len)] 7)) (s₁.setTop (mkF m 3 #[.val (.ref b), .val (.int (Int32.ofNat o)), .val (.ref d), .val (.int (Int32.ofNat q)), .val (.int (Int32.ofNat len)), .val (.int 0), .unset] [])) := c1.trans (by
    refine iconstV X0.here hexec rfl 0 (hb hbytes d0) (by decide) ?_
    refine XS.istore X0.here hexec rfl (hb hbytes d1) rfl rfl ?_
    exact Steps.refl _)
  have loop : ∀ (r i : Nat), i + r = len → ∀ (z : Slot), (z = .unset ∨ ∃ w, z = .val w ∧ w.category = 1) → ∀ (Tl : State) (Bk : Cell), Stand p l e { frames := 0, locals := 0, cells := 0, slots := 0 } s m #[.ref b, .int (Int32.ofNat o), .ref d, .int (Int32.ofNat q), .int (Int32.ofNat len)] below meth c Tl ([] ++ copyLocs d q i) 0 0 → Put d Bk s₁ Tl → Laid B Bk q (q + i) (fun j => Value.int (lo8 (cv A (o + (j - q))))) →
      Steps p.tables e below (s₁.setTop (entryFrame m #[.ref b, .int (Int32.ofNat o), .ref d, .int (Int32.ofNat q), .int (Int32.ofNat len)] 7)) (Tl.setTop (mkF m 3 #[.val (.ref b), .val (.int (Int32.ofNat (o + i))), .val (.ref d), .val (.int (Int32.ofNat (q + i))), .val (.int (Int32.ofNat len)), .val (.int (Int32.ofNat i)), z] [])) → ∃ (T' : State) (B' : Cell) (z' : Slot), Stand p l e { frames := 0, locals := 0, cells := 0, slots := 0 } s m #[.ref b, .int (Int32.ofNat o), .ref d, .int (Int32.ofNat q), .int (Int32.ofNat len)] below meth c T' ([] ++ copyLocs d q len) 0 0 ∧ Put d B' s₁ T' ∧ Laid B B' q (q + len) (fun j => Value.int (lo8 (cv A (o + (j - q))))) ∧
      Steps p.tables e below (s₁.setTop (entryFrame m #[.ref b, .int (Int32.ofNat o), .ref d, .int (Int32.ofNat q), .int (Int32.ofNat len)] 7)) (T'.setTop (mkF m 3 #[.val (.ref b), .val (.int (Int32.ofNat (o + len))), .val (.ref d), .val (.int (Int32.ofNat (q + len))), .val (.int (Int32.ofNat len)), .val (.int (Int32.ofNat len)), z'] [])) := by
    intro r
    induction r with
    | zero =>
      intro i hi z hz Tl Bk Xl pl fl cl
      have hil : i = len := by omega
      rw [hil] at Xl fl cl
      exact ⟨Tl, Bk, z, Xl, pl, fl, cl⟩
    | succ r ih =>
      intro i hi z hz Tl Bk Xl pl fl cl
      have all := X0.warmed.alike.symm.trans Xl.warmed.alike
      have hAl := hA0.keep all (pl.other hne hA0.1)
      have hBk := hB0.like all pl.1 fl.1 fl.2.1 fl.2.2.1
      have hlt : q + i < Bk.slots.size := by rw [fl.2.2.1]; omega
      have c3 : Steps p.tables e below (s₁.setTop (entryFrame m #[.ref b, .int (Int32.ofNat o), .ref d, .int (Int32.ofNat q), .int (Int32.ofNat len)] 7)) (Tl.setTop (mkF m 12 #[.val (.ref b), .val (.int (Int32.ofNat (o + i))), .val (.ref d), .val (.int (Int32.ofNat (q + i))), .val (.int (Int32.ofNat len)), .val (.int (Int32.ofNat i)), z] [.int (Int32.ofNat (o + i)), .ref b])) := cl.trans (by
        refine XS.iload Xl.here hexec rfl (hb hbytes d3) rfl ?_
        refine XS.iload Xl.here hexec rfl (hb hbytes d5) rfl ?_
        refine XS.icmpNo Xl.here hexec rfl (hb hbytes d7) rfl (ii_ge_f (lt32 (by omega) (by omega))) ?_
        refine XS.aloadN Xl.here hexec rfl (hb hbytes d10) rfl rfl ?_
        refine XS.iloadN Xl.here hexec rfl (hb hbytes d11) rfl ?_
        exact Steps.refl _)
      have c4 : Steps p.tables e below (s₁.setTop (entryFrame m #[.ref b, .int (Int32.ofNat o), .ref d, .int (Int32.ofNat q), .int (Int32.ofNat len)] 7)) (Tl.setTop (mkF m 13 #[.val (.ref b), .val (.int (Int32.ofNat (o + i))), .val (.ref d), .val (.int (Int32.ofNat (q + i))), .val (.int (Int32.ofNat len)), .val (.int (Int32.ofNat i)), z] [.int (cv A (o + i))])) := c3.trans (by
        refine Xl.aget hexec hAl rfl (hA.get (i := o + i) (by omega)) rfl rfl (hb hbytes d12) ?_
        exact Steps.refl _)
      have c5 : Steps p.tables e below (s₁.setTop (entryFrame m #[.ref b, .int (Int32.ofNat o), .ref d, .int (Int32.ofNat q), .int (Int32.ofNat len)] 7)) (Tl.setTop (mkF m 15 #[.val (.ref b), .val (.int (Int32.ofNat (o + i))), .val (.ref d), .val (.int (Int32.ofNat (q + i))), .val (.int (Int32.ofNat len)), .val (.int (Int32.ofNat i)), .val (.int (cv A (o + i)))] [])) := c4.trans (by
        refine XS.istoreS Xl.here hexec rfl (hb hbytes d13) rfl rfl hz ?_
        exact Steps.refl _)
      have c6 : Steps p.tables e below (s₁.setTop (entryFrame m #[.ref b, .int (Int32.ofNat o), .ref d, .int (Int32.ofNat q), .int (Int32.ofNat len)] 7)) (Tl.setTop (mkF m 31 #[.val (.ref b), .val (.int (Int32.ofNat (o + i))), .val (.ref d), .val (.int (Int32.ofNat (q + i))), .val (.int (Int32.ofNat len)), .val (.int (Int32.ofNat i)), .val (.int (cv A (o + i)))] [.int (lo8 (cv A (o + i))), .int (Int32.ofNat (q + i)), .ref d])) := c5.trans (by
        refine XS.iload Xl.here hexec rfl (hb hbytes d15) rfl ?_
        refine sipushV Xl.here hexec rfl 255 (hb hbytes d17) (by decide) ?_
        refine XS.icmpYes Xl.here hexec rfl (pc0 := 20) rfl (hb hbytes d20) rfl (ii_le_t (hp i (by omega))) (by decide) rfl ?_
        refine XS.aloadN Xl.here hexec rfl (hb hbytes d26) rfl rfl ?_
        refine XS.iloadN Xl.here hexec rfl (hb hbytes d27) rfl ?_
        refine XS.iload Xl.here hexec rfl (hb hbytes d28) rfl ?_
        refine i2b Xl.here hexec rfl (hb hbytes d30) rfl ?_
        exact Steps.refl _)
      obtain ⟨T7, X7, p7, st7⟩ := Xl.aput hexec hBk rfl hlt rfl (fits_lo8 (cv A (o + i))) (g := (mkF m 31 #[.val (.ref b), .val (.int (Int32.ofNat (o + i))), .val (.ref d), .val (.int (Int32.ofNat (q + i))), .val (.int (Int32.ofNat len)), .val (.int (Int32.ofNat i)), .val (.int (cv A (o + i)))] [.int (lo8 (cv A (o + i))), .int (Int32.ofNat (q + i)), .ref d])) rfl (rest := []) rfl (hb hbytes d31)
      have c8 : Steps p.tables e below (s₁.setTop (entryFrame m #[.ref b, .int (Int32.ofNat o), .ref d, .int (Int32.ofNat q), .int (Int32.ofNat len)] 7)) (T7.setTop (mkF m 32 #[.val (.ref b), .val (.int (Int32.ofNat (o + i))), .val (.ref d), .val (.int (Int32.ofNat (q + i))), .val (.int (Int32.ofNat len)), .val (.int (Int32.ofNat i)), .val (.int (cv A (o + i)))] [])) := c6.trans (st7 _ (Steps.refl _))
      have c9 : Steps p.tables e below (s₁.setTop (entryFrame m #[.ref b, .int (Int32.ofNat o), .ref d, .int (Int32.ofNat q), .int (Int32.ofNat len)] 7)) (T7.setTop (mkF m 3 #[.val (.ref b), .val (.int (Int32.ofNat (o + i) + 1)), .val (.ref d), .val (.int (Int32.ofNat (q + i) + 1)), .val (.int (Int32.ofNat len)), .val (.int (Int32.ofNat i + 1)), .val (.int (cv A (o + i)))] [])) := c8.trans (by
        refine iincV X7.here hexec rfl 1 (hb hbytes d32) (by decide) rfl rfl ?_
        refine iincV X7.here hexec rfl 1 (hb hbytes d35) (by decide) rfl rfl ?_
        refine iincV X7.here hexec rfl 1 (hb hbytes d38) (by decide) rfl rfl ?_
        refine XS.goto X7.here hexec rfl (pc0 := 41) rfl (hb hbytes d41) (by decide) rfl ?_
        exact Steps.refl _)
      have c10 : Steps p.tables e below (s₁.setTop (entryFrame m #[.ref b, .int (Int32.ofNat o), .ref d, .int (Int32.ofNat q), .int (Int32.ofNat len)] 7)) (T7.setTop (mkF m 3 #[.val (.ref b), .val (.int (Int32.ofNat (o + (i + 1)))), .val (.ref d), .val (.int (Int32.ofNat (q + (i + 1)))), .val (.int (Int32.ofNat len)), .val (.int (Int32.ofNat (i + 1))), .val (.int (cv A (o + i)))] [])) := by
        have := c9
        rw [succ32, succ32, succ32] at this
        exact this
      exact ih (i + 1) (by omega) _ (Or.inr ⟨_, rfl, rfl⟩) T7 _ (by rw [copyLocs_step, ← List.append_assoc]; exact X7) (pl.trans p7) (fl.step (by omega) hlt (by simp)) c10
  obtain ⟨T9, B9, z9, X9, p9, f9, g9⟩ := loop len 0 (by omega) .unset (Or.inl rfl) s₁ B (by simpa [copyLocs] using X0) ⟨hB0.1, fun _ _ => rfl, rfl⟩ (Laid.zero _ _ _) c2
  have c11 : Steps p.tables e below (s₁.setTop (entryFrame m #[.ref b, .int (Int32.ofNat o), .ref d, .int (Int32.ofNat q), .int (Int32.ofNat len)] 7)) (T9.setTop (mkF m 46 #[.val (.ref b), .val (.int (Int32.ofNat (o + len))), .val (.ref d), .val (.int (Int32.ofNat (q + len))), .val (.int (Int32.ofNat len)), .val (.int (Int32.ofNat len)), z9] [.int (Int32.ofNat len)])) := g9.trans (by
    refine XS.iload X9.here hexec rfl (hb hbytes d3) rfl ?_
    refine XS.iload X9.here hexec rfl (hb hbytes d5) rfl ?_
    refine XS.icmpYes X9.here hexec rfl (pc0 := 7) rfl (hb hbytes d7) rfl (ii_ge_t (nlt32 (by omega) (Nat.le_refl _))) (by decide) rfl ?_
    refine XS.iload X9.here hexec rfl (hb hbytes d44) rfl ?_
    exact Steps.refl _)
  exact ⟨T9, some (.int (Int32.ofNat len)), _, _, _, X9, by simp, rfl, rfl, (fun h => by cases h), ⟨rfl, B9, p9.from hh0, f9⟩, fun fs hl => c11.trans (X9.ireturnOut hexec hret rfl (Or.inl rfl) (hb hbytes d46) hl)⟩
end Cmp5
namespace Cmp3
def yN : MethodName := ⟨"java/lang/StringUTF16", "compress", "([CII)[B"⟩
abbrev yB : ByteArray := jdk_52_method_16_code
theorem d0 : decode yB 0 = .ok (.iload_n 2, 1) := by decide +kernel
theorem d1 : decode yB 1 = .ok (.newarray .byte, 2) := by decide +kernel
theorem d3 : decode yB 3 = .ok (.astore_n 3, 1) := by decide +kernel
theorem d4 : decode yB 4 = .ok (.aload_n 0, 1) := by decide +kernel
theorem d5 : decode yB 5 = .ok (.iload_n 1, 1) := by decide +kernel
theorem d6 : decode yB 6 = .ok (.aload_n 3, 1) := by decide +kernel
theorem d7 : decode yB 7 = .ok (.iconst 0, 1) := by decide +kernel
theorem d8 : decode yB 8 = .ok (.iload_n 2, 1) := by decide +kernel
theorem d9 : decode yB 9 = .ok (.invokestatic 115, 3) := by decide +kernel
theorem d12 : decode yB 12 = .ok (.istore 4, 2) := by decide +kernel
theorem d14 : decode yB 14 = .ok (.iload 4, 2) := by decide +kernel
theorem d16 : decode yB 16 = .ok (.iload_n 2, 1) := by decide +kernel
theorem d17 : decode yB 17 = .ok (.if_icmp (.eq) 40, 3) := by decide +kernel
theorem d57 : decode yB 57 = .ok (.aload_n 3, 1) := by decide +kernel
theorem d58 : decode yB 58 = .ok (.areturn, 1) := by decide +kernel
def site : List Cond := [.arrayClass .byte, Cmp5.tab] ++ staticW U16 115 Cmp5.yN
def tab : Cond := tabOf yN yB 6 (some (.array .byte)) site
def P (b : Addr) (A : Cell) (o len : Nat) (args : Array Value) (s : State) : Prop := args = #[.ref b, .int (Int32.ofNat o), .int (Int32.ofNat len)] ∧ Ch b A s ∧ o + len ≤ A.slots.size ∧ len ≤ 536870912 ∧ ∀ i, i < len → ¬ 255 < cv A (o + i)
def E (b : Addr) (A : Cell) (o len : Nat) (r : Option Value) (s u : State) : Prop := NewArr .byte "[B" len (fun j => .int (lo8 (cv A (o + j)))) r s u ∧ u.heap.size = s.heap.size + 1
/-- no char of the range above 255: a new byte[] of their low bytes -/
theorem law (l : Launch) (b : Addr) (A : Cell) (o len : Nat) : Law l yN 3 3 1 18 yB 6 (some (.array .byte)) site (P b A o len) (E b A o len) [] 1 len := by
  refine Law.of_walk (plainFor_of_name (by decide +kernel)) (by decide +kernel) (by decide +kernel) (by decide) (fun _ _ h => by rw [h.1]; rfl) (fun _ U U' hal hh h => ⟨h.1, h.2.1.mv hal hh, h.2.2⟩) (fun r U U' V V' h1 hal h2 h => ⟨NewArr.mv r U U' V V' h1 hal h2 h.1, by rw [h1, h2]; exact h.2⟩) ?_
  intro p e s m args below meth c s₁ X0 hexec hbytes hml hret hlk hnm hown hh0 W hP
  obtain ⟨rfl, hA, l1, l2, hp⟩ := hP
  have a31 := hA.1.2.2.2
  have c1 : Steps p.tables e below (s₁.setTop (entryFrame m #[.ref b, .int (Int32.ofNat o), .int (Int32.ofNat len)] 6)) (s₁.setTop (mkF m 0 #[.val (.ref b), .val (.int (Int32.ofNat o)), .val (.int (Int32.ofNat len)), .unset, .unset, .unset] [])) := entry rfl
  have c2 : Steps p.tables e below (s₁.setTop (entryFrame m #[.ref b, .int (Int32.ofNat o), .int (Int32.ofNat len)] 6)) (s₁.setTop (mkF m 1 #[.val (.ref b), .val (.int (Int32.ofNat o)), .val (.int (Int32.ofNat len)), .unset, .unset, .unset] [.int (Int32.ofNat len)])) := c1.trans (by
    refine XS.iloadN X0.here hexec rfl (hb hbytes d0) rfl ?_
    exact Steps.refl _)
  obtain ⟨T3, B3, X3, ba3, bs3, bv3, bh3, bf3, st3⟩ := X0.anew hexec (atype := .byte) (wk W (.arrayClass .byte)) rfl (by show len * 1 ≤ _; omega) (by omega) (g := (mkF m 1 #[.val (.ref b), .val (.int (Int32.ofNat o)), .val (.int (Int32.ofNat len)), .unset, .unset, .unset] [.int (Int32.ofNat len)])) rfl (hb hbytes d1) (rest := []) rfl (Nat.le_refl _) (by show 0 + len ≤ len; omega)
  rw [hh0] at ba3 st3
  have kp3 : XT.Kept s T3 := (XT.Kept.of_eq hh0).push bh3
  have hA3 := hA.keep X3.warmed.alike (kp3 _ _ hA.1.1)
  have hne : b ≠ s.heap.size := hA.1.ne
  have c4 : Steps p.tables e below (s₁.setTop (entryFrame m #[.ref b, .int (Int32.ofNat o), .int (Int32.ofNat len)] 6)) (T3.setTop (mkF m 3 #[.val (.ref b), .val (.int (Int32.ofNat o)), .val (.int (Int32.ofNat len)), .unset, .unset, .unset] [.ref s.heap.size])) := c2.trans (st3 _ (Steps.refl _))
  have c5 : Steps p.tables e below (s₁.setTop (entryFrame m #[.ref b, .int (Int32.ofNat o), .int (Int32.ofNat len)] 6)) (T3.setTop (mkF m 9 #[.val (.ref b), .val (.int (Int32.ofNat o)), .val (.int (Int32.ofNat len)), .val (.ref s.heap.size), .unset, .unset] [.int (Int32.ofNat len), .int 0, .ref s.heap.size, .int (Int32.ofNat o), .ref b])) := c4.trans (by
    refine XS.astoreN X3.here hexec rfl (hb hbytes d3) rfl rfl rfl ?_
    refine XS.aloadN X3.here hexec rfl (hb hbytes d4) rfl rfl ?_
    refine XS.iloadN X3.here hexec rfl (hb hbytes d5) rfl ?_
    refine XS.aloadN X3.here hexec rfl (hb hbytes d6) rfl rfl ?_
    refine iconstV X3.here hexec rfl 0 (hb hbytes d7) (by decide) ?_
    refine XS.iloadN X3.here hexec rfl (hb hbytes d8) rfl ?_
    exact Steps.refl _)
  obtain ⟨v6, T6, X6, E6, g6⟩ := X3.callS hexec (Cmp5.law l b A s.heap.size B3 o 0 len) hown (wks W (staticW U16 115 Cmp5.yN)) (wk W Cmp5.tab) (W := 0) (Nat.le_of_ble_eq_true rfl) (Nat.le_of_ble_eq_true rfl) (Nat.le_refl _) (by show 0 + len + 0 ≤ len; omega) (g := (mkF m 9 #[.val (.ref b), .val (.int (Int32.ofNat o)), .val (.int (Int32.ofNat len)), .val (.ref s.heap.size), .unset, .unset] [.int (Int32.ofNat len), .int (Int32.ofNat 0), .ref s.heap.size, .int (Int32.ofNat o), .ref b])) rfl (by rw [hml]; rfl) c5 (argsL := [.ref b, .int (Int32.ofNat o), .ref s.heap.size, .int (Int32.ofNat 0), .int (Int32.ofNat len)]) (rest := []) rfl rfl (by show 2 * 0 + 0 ≤ _; decide) (hb hbytes d9) (⟨rfl, hA3, ba3, hne, l1, by rw [bs3]; simp, hp⟩)
  obtain ⟨rfl, B6, p6, f6⟩ := E6
  have c7 : Steps p.tables e below (s₁.setTop (entryFrame m #[.ref b, .int (Int32.ofNat o), .int (Int32.ofNat len)] 6)) (T6.setTop (mkF m 12 #[.val (.ref b), .val (.int (Int32.ofNat o)), .val (.int (Int32.ofNat len)), .val (.ref s.heap.size), .unset, .unset] [.int (Int32.ofNat len)])) := g6
  have c8 : Steps p.tables e below (s₁.setTop (entryFrame m #[.ref b, .int (Int32.ofNat o), .int (Int32.ofNat len)] 6)) (T6.setTop (mkF m 58 #[.val (.ref b), .val (.int (Int32.ofNat o)), .val (.int (Int32.ofNat len)), .val (.ref s.heap.size), .val (.int (Int32.ofNat len)), .unset] [.ref s.heap.size])) := c7.trans (by
    refine XS.istore X6.here hexec rfl (hb hbytes d12) rfl rfl ?_
    refine XS.iload X6.here hexec rfl (hb hbytes d14) rfl ?_
    refine XS.iloadN X6.here hexec rfl (hb hbytes d16) rfl ?_
    refine XS.icmpYes X6.here hexec rfl (pc0 := 17) rfl (hb hbytes d17) rfl (ii_eq_t rfl) (by decide) rfl ?_
    refine XS.aloadN X6.here hexec rfl (hb hbytes d57) rfl rfl ?_
    exact Steps.refl _)
  have X8 := X6.wide (L' := []) (cells' := 1) (slots' := len) (fun x hx hlt => by
    simp only [List.nil_append, copyLocs, List.mem_map, List.mem_range] at hx
    obtain ⟨i, -, rfl⟩ := hx
    exact absurd hlt (Nat.lt_irrefl _)) (Nat.le_refl _) (by omega)
  exact ⟨T6, some (.ref s.heap.size), _, _, _, X8, rfl, rfl, rfl, (fun h => by cases h), ⟨⟨rfl, B6, ba3.like (X3.warmed.alike.symm.trans X6.warmed.alike) p6.1 f6.1 f6.2.1 f6.2.2.1, f6.2.1.trans bv3, by rw [X6.warmed.alike.findClass, f6.1]; exact bf3, by rw [f6.2.2.1, bs3]; simp, fun j hj => by rw [f6.2.2.2 j, if_pos (by omega)]; rfl, kp3.put p6 (Nat.le_refl _)⟩, by rw [p6.2.2, bh3, hh0]; simp⟩, fun fs hl => c8.trans (X8.areturnOut hexec rfl hret rfl (hb hbytes d58) hl)⟩
end Cmp3
namespace CodL
def yN : MethodName := ⟨"java/lang/StringUTF16", "coderFromArrayLen", "([BI)B"⟩
abbrev yB : ByteArray := jdk_52_method_15_code
theorem d0 : decode yB 0 = .ok (.iload_n 1, 1) := by decide +kernel
theorem d1 : decode yB 1 = .ok (.aload_n 0, 1) := by decide +kernel
theorem d2 : decode yB 2 = .ok (.arraylength, 1) := by decide +kernel
theorem d3 : decode yB 3 = .ok (.isub, 1) := by decide +kernel
theorem d4 : decode yB 4 = .ok (.bipush 31, 2) := by decide +kernel
theorem d6 : decode yB 6 = .ok (.iushr, 1) := by decide +kernel
theorem d7 : decode yB 7 = .ok (.i2b, 1) := by decide +kernel
theorem d8 : decode yB 8 = .ok (.ireturn, 1) := by decide +kernel
def site : List Cond := []
def tab : Cond := tabOf yN yB 2 (some .byte) site
def P (d : Addr) (B : Cell) (args : Array Value) (s : State) : Prop := args = #[.ref d, .int (Int32.ofNat B.slots.size)] ∧ Arr .byte d B s
def E (r : Option Value) (s u : State) : Prop := XT.PureE (some (.int 0)) r s u
/-- an array as long as the number of chars: LATIN1 -/
theorem law (l : Launch) (d : Addr) (B : Cell) : Law l yN 2 2 0 0 yB 2 (some .byte) site (P d B) E [] 0 0 := by
  refine Law.of_walk (plainFor_of_name (by decide +kernel)) (by decide +kernel) (by decide +kernel) (by decide) (fun _ _ h => by rw [h.1]; rfl) (fun _ U U' hal hh h => ⟨h.1, h.2.mv hal hh⟩) (fun r U U' V V' h1 hal h2 h => XT.PureE.mv r U U' V V' h1 hal h2 h) ?_
  intro p e s m args below meth c s₁ X0 hexec hbytes hml hret hlk hnm hown hh0 W hP
  obtain ⟨rfl, hB⟩ := hP
  have hB0 := hB.mv X0.warmed.alike hh0
  have c1 : Steps p.tables e below (s₁.setTop (entryFrame m #[.ref d, .int (Int32.ofNat B.slots.size)] 2)) (s₁.setTop (mkF m 0 #[.val (.ref d), .val (.int (Int32.ofNat B.slots.size))] [])) := entry rfl
  have c2 : Steps p.tables e below (s₁.setTop (entryFrame m #[.ref d, .int (Int32.ofNat B.slots.size)] 2)) (s₁.setTop (mkF m 2 #[.val (.ref d), .val (.int (Int32.ofNat B.slots.size))] [.ref d, .int (Int32.ofNat B.slots.size)])) := c1.trans (by
    refine XS.iloadN X0.here hexec rfl (hb hbytes d0) rfl ?_
    refine XS.aloadN X0.here hexec rfl (hb hbytes d1) rfl rfl ?_
    exact Steps.refl _)
  have c3 : Steps p.tables e below (s₁.setTop (entryFrame m #[.ref d, .int (Int32.ofNat B.slots.size)] 2)) (s₁.setTop (mkF m 8 #[.val (.ref d), .val (.int (Int32.ofNat B.slots.size))] [.int (lo8 (ushr (Int32.ofNat B.slots.size - Int32.ofNat B.slots.size) 31))])) := c2.trans (by
    refine X0.alen hexec hB0 rfl rfl (hb hbytes d2) ?_
    refine XS.isub X0.here hexec rfl (hb hbytes d3) rfl ?_
    refine bipushV X0.here hexec rfl 31 (hb hbytes d4) (by decide) ?_
    refine iushr X0.here hexec rfl (hb hbytes d6) rfl ?_
    refine i2b X0.here hexec rfl (hb hbytes d7) rfl ?_
    exact Steps.refl _)
  have e0 : lo8 (ushr (Int32.ofNat B.slots.size - Int32.ofNat B.slots.size) 31) = 0 := by rw [Int32.sub_self]; decide
  rw [e0] at c3
  exact ⟨s₁, some (.int 0), _, _, _, X0, rfl, rfl, rfl, (fun h => by cases h), ⟨rfl, hh0⟩, fun fs hl => c3.trans (X0.ireturnOut hexec hret rfl (Or.inr (Or.inr (Or.inl rfl))) (hb hbytes d8) hl)⟩
end CodL
/-- the String at a is Latin-1 over a new byte[] (the heap's one new cell): the low bytes of the len chars of A from o on; every cell but a is kept -/
def Got (a : Addr) (D : Cell) (fV fC : Field) (A : Cell) (o len : Nat) (r : Option Value) (s u : State) : Prop := r = none ∧ ∃ D' V : Cell, Blank "java/lang/String" a D' u ∧ Same D D' [fV.slot, fC.slot] ∧ D'.slots[fV.slot]? = some (.ref s.heap.size) ∧ D'.slots[fC.slot]? = some (.int 0) ∧ Arr .byte s.heap.size V u ∧ V.vm = .none ∧ u.vm.findClass "[B" = some V.cls ∧ V.slots.size = len ∧ (∀ j, j < len → V.slots[j]? = some (.int (lo8 (cv A (o + j))))) ∧ (∀ (y : Addr) (c : Cell), y ≠ a → s.heap[y]? = some c → u.heap[y]? = some c) ∧ u.heap.size = s.heap.size + 1
theorem Got.mv {a : Addr} {D A : Cell} {fV fC : Field} {o len : Nat} : ∀ r (U U' V V' : State), U'.heap = U.heap → V.vm.Alike V'.vm → V'.heap = V.heap → Got a D fV fC A o len r U V → Got a D fV fC A o len r U' V' :=
  fun r U U' V V' h1 hal h2 ⟨e0, D', X, a1, a2, a3, a4, a5, a6, a7, a8, a9, a10, a11⟩ => ⟨e0, D', X, a1.mv hal h2, a2, by rw [h1]; exact a3, a4, by rw [h1]; exact a5.mv hal h2, a6, by rw [hal.findClass]; exact a7, a8, a9, by rw [h1, h2]; exact a10, by rw [h1, h2]; exact a11⟩
namespace New4
def yN : MethodName := ⟨"java/lang/String", "<init>", "([CIILjava/lang/Void;)V"⟩
abbrev yB : ByteArray := jdk_42_method_149_code
theorem d0 : decode yB 0 = .ok (.aload_n 0, 1) := by decide +kernel
theorem d1 : decode yB 1 = .ok (.invokespecial 1, 3) := by decide +kernel
theorem d4 : decode yB 4 = .ok (.iload_n 3, 1) := by decide +kernel
theorem d5 : decode yB 5 = .ok (.ifCond (.ne) 22, 3) := by decide +kernel
theorem d27 : decode yB 27 = .ok (.getstatic 38, 3) := by decide +kernel
theorem d30 : decode yB 30 = .ok (.ifCond (.eq) 28, 3) := by decide +kernel
theorem d33 : decode yB 33 = .ok (.aload_n 1, 1) := by decide +kernel
theorem d34 : decode yB 34 = .ok (.iload_n 2, 1) := by decide +kernel
theorem d35 : decode yB 35 = .ok (.iload_n 3, 1) := by decide +kernel
theorem d36 : decode yB 36 = .ok (.invokestatic 177, 3) := by decide +kernel
theorem d39 : decode yB 39 = .ok (.astore 5, 2) := by decide +kernel
theorem d41 : decode yB 41 = .ok (.aload_n 0, 1) := by decide +kernel
theorem d42 : decode yB 42 = .ok (.aload 5, 2) := by decide +kernel
theorem d44 : decode yB 44 = .ok (.iload_n 3, 1) := by decide +kernel
theorem d45 : decode yB 45 = .ok (.invokestatic 47, 3) := by decide +kernel
theorem d48 : decode yB 48 = .ok (.putfield 15, 3) := by decide +kernel
theorem d51 : decode yB 51 = .ok (.aload_n 0, 1) := by decide +kernel
theorem d52 : decode yB 52 = .ok (.aload 5, 2) := by decide +kernel
theorem d54 : decode yB 54 = .ok (.putfield 9, 3) := by decide +kernel
theorem d57 : decode yB 57 = .ok (.return_, 1) := by decide +kernel
def site : List Cond := [.fieldLink "java/lang/String" 38 "java/lang/String" "COMPACT_STRINGS" "Z", Cmp3.tab, CodL.tab, .laysFinal "java/lang/String" "java/lang/String" "value" "[B", .fieldLink "java/lang/String" 9 "java/lang/String" "value" "[B", .laysFinal "java/lang/String" "java/lang/String" "coder" "B", .fieldLink "java/lang/String" 15 "java/lang/String" "coder" "B"] ++ objW "java/lang/String" 1 ++ staticW "java/lang/String" 177 Cmp3.yN ++ staticW "java/lang/String" 47 CodL.yN
def tab : Cond := tabOf yN yB 6 none site
def P (a : Addr) (D : Cell) (fV fC : Field) (b : Addr) (A : Cell) (z : Int32) (o len : Nat) (args : Array Value) (s : State) : Prop := args = #[.ref a, .ref b, .int (Int32.ofNat o), .int (Int32.ofNat len), .null] ∧ Blank "java/lang/String" a D s ∧ Found "java/lang/String" "value" "[B" fV s ∧ Found "java/lang/String" "coder" "B" fC s ∧ Ch b A s ∧ StaticIs s "java/lang/String" "COMPACT_STRINGS" "Z" (.int z) ∧ ¬ z = 0 ∧ 0 < len ∧ o + len ≤ A.slots.size ∧ len ≤ 536870912 ∧ ∀ i, i < len → ¬ 255 < cv A (o + i)
def E (a : Addr) (D : Cell) (fV fC : Field) (A : Cell) (o len : Nat) (r : Option Value) (s u : State) : Prop := Got a D fV fC A o len r s u
/-- len > 0, no char of the range above 255: a Latin-1 String of their low bytes -/
theorem law (l : Launch) (a : Addr) (D : Cell) (fV fC : Field) (b : Addr) (A : Cell) (z : Int32) (o len : Nat) : Law l yN 5 4 2 35 yB 6 none site (P a D fV fC b A z o len) (E a D fV fC A o len) [⟨a, fC.slot⟩, ⟨a, fV.slot⟩] 1 len := by
  refine Law.of_walk (plainFor_of_name (by decide +kernel)) (by decide +kernel) (by decide +kernel) (by decide) (fun _ _ h => by rw [h.1]; rfl) (fun _ U U' hal hh h => ⟨h.1, h.2.1.mv hal hh, h.2.2.1.al hal, h.2.2.2.1.al hal, h.2.2.2.2.1.mv hal hh, h.2.2.2.2.2.1.there hal hh, h.2.2.2.2.2.2⟩) (fun r U U' V V' h1 hal h2 h => Got.mv r U U' V V' h1 hal h2 h) ?_
  intro p e s m args below meth c s₁ X0 hexec hbytes hml hret hlk hnm hown hh0 W hP
  obtain ⟨rfl, hB, f1, f2, hA, s1, hz, l0, l1, l2, hp⟩ := hP
  have a31 := hA.1.2.2.2
  have c1 : Steps p.tables e below (s₁.setTop (entryFrame m #[.ref a, .ref b, .int (Int32.ofNat o), .int (Int32.ofNat len), .null] 6)) (s₁.setTop (mkF m 0 #[.val (.ref a), .val (.ref b), .val (.int (Int32.ofNat o)), .val (.int (Int32.ofNat len)), .val .null, .unset] [])) := entry rfl
  have c2 : Steps p.tables e below (s₁.setTop (entryFrame m #[.ref a, .ref b, .int (Int32.ofNat o), .int (Int32.ofNat len), .null] 6)) (s₁.setTop (mkF m 1 #[.val (.ref a), .val (.ref b), .val (.int (Int32.ofNat o)), .val (.int (Int32.ofNat len)), .val .null, .unset] [.ref a])) := c1.trans (by
    refine XS.aloadN X0.here hexec rfl (hb hbytes d0) rfl rfl ?_
    exact Steps.refl _)
  obtain ⟨T3, X3, q3, st3⟩ := X0.oinit hexec hown (wks W (objW "java/lang/String" 1)) (g := (mkF m 1 #[.val (.ref a), .val (.ref b), .val (.int (Int32.ofNat o)), .val (.int (Int32.ofNat len)), .val .null, .unset] [.ref a])) rfl (by rw [hml]; rfl) (rest := []) rfl (hb hbytes d1) (W := 0) (by show 2 * 0 + 0 ≤ _; decide) (Nat.le_of_ble_eq_true rfl) (Nat.le_of_ble_eq_true rfl)
  have hh3 := q3.trans hh0
  have c4 : Steps p.tables e below (s₁.setTop (entryFrame m #[.ref a, .ref b, .int (Int32.ofNat o), .int (Int32.ofNat len), .null] 6)) (T3.setTop (mkF m 27 #[.val (.ref a), .val (.ref b), .val (.int (Int32.ofNat o)), .val (.int (Int32.ofNat len)), .val .null, .unset] [])) := (c2.trans (st3 _ (Steps.refl _))).trans (by
    refine XS.iloadN X3.here hexec rfl (hb hbytes d4) rfl ?_
    refine XS.ifYes X3.here hexec rfl (pc0 := 5) rfl (hb hbytes d5) rfl (i0_ne_t (nz32 (by omega) l0)) (by decide) rfl ?_
    exact Steps.refl _)
  obtain ⟨T5, X5, q5, st5⟩ := X3.sget hexec hown (wk W (.fieldLink "java/lang/String" 38 "java/lang/String" "COMPACT_STRINGS" "Z")) s1 (fun _ _ h => by rw [hh3]; exact h) (g := (mkF m 27 #[.val (.ref a), .val (.ref b), .val (.int (Int32.ofNat o)), .val (.int (Int32.ofNat len)), .val .null, .unset] [])) rfl (hb hbytes d27)
  have hh5 := q5.trans hh3
  have c6 : Steps p.tables e below (s₁.setTop (entryFrame m #[.ref a, .ref b, .int (Int32.ofNat o), .int (Int32.ofNat len), .null] 6)) (T5.setTop (mkF m 30 #[.val (.ref a), .val (.ref b), .val (.int (Int32.ofNat o)), .val (.int (Int32.ofNat len)), .val .null, .unset] [.int z])) := c4.trans (st5 _ (Steps.refl _))
  have c7 : Steps p.tables e below (s₁.setTop (entryFrame m #[.ref a, .ref b, .int (Int32.ofNat o), .int (Int32.ofNat len), .null] 6)) (T5.setTop (mkF m 36 #[.val (.ref a), .val (.ref b), .val (.int (Int32.ofNat o)), .val (.int (Int32.ofNat len)), .val .null, .unset] [.int (Int32.ofNat len), .int (Int32.ofNat o), .ref b])) := c6.trans (by
    refine XS.ifNo X5.here hexec rfl (hb hbytes d30) rfl (i0_eq_f hz) ?_
    refine XS.aloadN X5.here hexec rfl (hb hbytes d33) rfl rfl ?_
    refine XS.iloadN X5.here hexec rfl (hb hbytes d34) rfl ?_
    refine XS.iloadN X5.here hexec rfl (hb hbytes d35) rfl ?_
    exact Steps.refl _)
  obtain ⟨v8, T8, X8, E8, g8⟩ := X5.callS hexec (Cmp3.law l b A o len) hown (wks W (staticW "java/lang/String" 177 Cmp3.yN)) (wk W Cmp3.tab) (W := 0) (Nat.le_of_ble_eq_true rfl) (Nat.le_of_ble_eq_true rfl) (Nat.le_refl _) (by show 0 + len ≤ len; omega) (g := (mkF m 36 #[.val (.ref a), .val (.ref b), .val (.int (Int32.ofNat o)), .val (.int (Int32.ofNat len)), .val .null, .unset] [.int (Int32.ofNat len), .int (Int32.ofNat o), .ref b])) rfl (by rw [hml]; rfl) c7 (argsL := [.ref b, .int (Int32.ofNat o), .int (Int32.ofNat len)]) (rest := []) rfl rfl (by show 2 * 0 + 0 ≤ _; decide) (hb hbytes d36) (⟨rfl, hA.mv X5.warmed.alike hh5, l1, l2, hp⟩)
  obtain ⟨e8, z8⟩ := E8
  obtain ⟨rfl, N, n1, n2, n3, n4, n5, n6⟩ := NewArr.mv _ T5 s _ _ hh5.symm (Vm.Alike.refl _) rfl e8
  rw [hh5] at z8
  have hB1 := hB.keep X8.warmed.alike (n6 _ _ hB.1)
  have hne : s.heap.size ≠ a := (Nat.ne_of_lt (Array.getElem?_eq_some_iff.mp hB.1).1).symm
  have c9 : Steps p.tables e below (s₁.setTop (entryFrame m #[.ref a, .ref b, .int (Int32.ofNat o), .int (Int32.ofNat len), .null] 6)) (T8.setTop (mkF m 39 #[.val (.ref a), .val (.ref b), .val (.int (Int32.ofNat o)), .val (.int (Int32.ofNat len)), .val .null, .unset] [.ref s.heap.size])) := g8
  have c10 : Steps p.tables e below (s₁.setTop (entryFrame m #[.ref a, .ref b, .int (Int32.ofNat o), .int (Int32.ofNat len), .null] 6)) (T8.setTop (mkF m 45 #[.val (.ref a), .val (.ref b), .val (.int (Int32.ofNat o)), .val (.int (Int32.ofNat len)), .val .null, .val (.ref s.heap.size)] [.int (Int32.ofNat N.slots.size), .ref s.heap.size, .ref a])) := by
    have hc : Steps p.tables e below (s₁.setTop (entryFrame m #[.ref a, .ref b, .int (Int32.ofNat o), .int (Int32.ofNat len), .null] 6)) (T8.setTop (mkF m 45 #[.val (.ref a), .val (.ref b), .val (.int (Int32.ofNat o)), .val (.int (Int32.ofNat len)), .val .null, .val (.ref s.heap.size)] [.int (Int32.ofNat len), .ref s.heap.size, .ref a])) := c9.trans (by
      refine XS.astore X8.here hexec rfl (hb hbytes d39) rfl rfl rfl ?_
      refine XS.aloadN X8.here hexec rfl (hb hbytes d41) rfl rfl ?_
      refine XS.aload X8.here hexec rfl (hb hbytes d42) rfl rfl ?_
      refine XS.iloadN X8.here hexec rfl (hb hbytes d44) rfl ?_
      exact Steps.refl _)
    rw [n4]; exact hc
  obtain ⟨v11, T11, X11, E11, g11⟩ := X8.callS hexec (CodL.law l s.heap.size N) hown (wks W (staticW "java/lang/String" 47 CodL.yN)) (wk W CodL.tab) (W := 1) (Nat.le_of_ble_eq_true rfl) (Nat.le_of_ble_eq_true rfl) (Nat.le_refl _) (by show 0 + len + 0 ≤ len; omega) (g := (mkF m 45 #[.val (.ref a), .val (.ref b), .val (.int (Int32.ofNat o)), .val (.int (Int32.ofNat len)), .val .null, .val (.ref s.heap.size)] [.int (Int32.ofNat N.slots.size), .ref s.heap.size, .ref a])) rfl (by rw [hml]; rfl) c10 (argsL := [.ref s.heap.size, .int (Int32.ofNat N.slots.size)]) (rest := [.ref a]) rfl rfl (by show 2 * 0 + (1 + 0) ≤ _; decide) (hb hbytes d45) (⟨rfl, n1⟩)
  obtain ⟨rfl, q11⟩ := E11
  have hB11 := hB1.mv (X8.warmed.alike.symm.trans X11.warmed.alike) q11
  have c12 : Steps p.tables e below (s₁.setTop (entryFrame m #[.ref a, .ref b, .int (Int32.ofNat o), .int (Int32.ofNat len), .null] 6)) (T11.setTop (mkF m 48 #[.val (.ref a), .val (.ref b), .val (.int (Int32.ofNat o)), .val (.int (Int32.ofNat len)), .val .null, .val (.ref s.heap.size)] [.int 0, .ref a])) := g11
  obtain ⟨T13, X13, p13, bl13, sl13, st13⟩ := X11.finit hexec hown (wk W (.fieldLink "java/lang/String" 15 "java/lang/String" "coder" "B")) (Or.inr ⟨_, (wk W (.laysFinal "java/lang/String" "java/lang/String" "coder" "B"))⟩) (Or.inl ⟨rfl, hnm⟩) f2 (Or.inl rfl) hB11 (t := .byte) (by decide +kernel) rfl (g := (mkF m 48 #[.val (.ref a), .val (.ref b), .val (.int (Int32.ofNat o)), .val (.int (Int32.ofNat len)), .val .null, .val (.ref s.heap.size)] [.int 0, .ref a])) rfl (rest := []) rfl (hb hbytes d48)
  have c14 : Steps p.tables e below (s₁.setTop (entryFrame m #[.ref a, .ref b, .int (Int32.ofNat o), .int (Int32.ofNat len), .null] 6)) (T13.setTop (mkF m 54 #[.val (.ref a), .val (.ref b), .val (.int (Int32.ofNat o)), .val (.int (Int32.ofNat len)), .val .null, .val (.ref s.heap.size)] [.ref s.heap.size, .ref a])) := (c12.trans (st13 _ (Steps.refl _))).trans (by
    refine XS.aloadN X13.here hexec rfl (hb hbytes d51) rfl rfl ?_
    refine XS.aload X13.here hexec rfl (hb hbytes d52) rfl rfl ?_
    exact Steps.refl _)
  obtain ⟨T15, X15, p15, bl15, sl15, st15⟩ := X13.finit hexec hown (wk W (.fieldLink "java/lang/String" 9 "java/lang/String" "value" "[B")) (Or.inr ⟨_, (wk W (.laysFinal "java/lang/String" "java/lang/String" "value" "[B"))⟩) (Or.inl ⟨rfl, hnm⟩) f1 (Or.inl rfl) bl13 (t := (.array .byte)) (by decide +kernel) rfl (g := (mkF m 54 #[.val (.ref a), .val (.ref b), .val (.int (Int32.ofNat o)), .val (.int (Int32.ofNat len)), .val .null, .val (.ref s.heap.size)] [.ref s.heap.size, .ref a])) rfl (rest := []) rfl (hb hbytes d54)
  have c16 : Steps p.tables e below (s₁.setTop (entryFrame m #[.ref a, .ref b, .int (Int32.ofNat o), .int (Int32.ofNat len), .null] 6)) (T15.setTop (mkF m 57 #[.val (.ref a), .val (.ref b), .val (.int (Int32.ofNat o)), .val (.int (Int32.ofNat len)), .val .null, .val (.ref s.heap.size)] [])) := c14.trans (st15 _ (Steps.refl _))
  have ap := apart (Or.inr ⟨_, (wk W (.laysFinal "java/lang/String" "java/lang/String" "value" "[B"))⟩) (Or.inr ⟨_, (wk W (.laysFinal "java/lang/String" "java/lang/String" "coder" "B"))⟩) f1 f2 (t₁ := .array .byte) (t₂ := .byte) (by decide +kernel) (by decide +kernel) (by decide)
  have al := X8.warmed.alike.symm.trans X15.warmed.alike
  have n7 : T11.heap[s.heap.size]? = some N := by rw [q11]; exact n1.1
  exact ⟨T15, none, _, _, _, X15, by simp, rfl, by omega, (fun _ => rfl), ⟨rfl, _, N, bl15, ((Same.refl D _).set _ (by simp)).set _ (by simp), sl15, (Cell.slots_setSlot_ne _ ap).trans sl13, n1.keep al (p15.other hne (p13.other hne n7)), n2, by rw [al.findClass]; exact n3, n4, n5, fun y c h1 h2 => p15.other h1 (p13.other h1 (by rw [q11]; exact n6 y c h2)), by rw [p15.2.2, p13.2.2, q11]; exact z8⟩, fun fs hl => c16.trans (X15.returnOut hexec hret (hb hbytes d57) hl)⟩
end New4
namespace New1
def yN : MethodName := ⟨"java/lang/String", "<init>", "([C)V"⟩
abbrev yB : ByteArray := jdk_42_method_3_code
theorem d0 : decode yB 0 = .ok (.aload_n 0, 1) := by decide +kernel
theorem d1 : decode yB 1 = .ok (.aload_n 1, 1) := by decide +kernel
theorem d2 : decode yB 2 = .ok (.iconst 0, 1) := by decide +kernel
theorem d3 : decode yB 3 = .ok (.aload_n 1, 1) := by decide +kernel
theorem d4 : decode yB 4 = .ok (.arraylength, 1) := by decide +kernel
theorem d5 : decode yB 5 = .ok (.aconst_null, 1) := by decide +kernel
theorem d6 : decode yB 6 = .ok (.invokespecial 27, 3) := by decide +kernel
theorem d9 : decode yB 9 = .ok (.return_, 1) := by decide +kernel
def site : List Cond := [New4.tab] ++ initW "java/lang/String" 27 New4.yN
def tab : Cond := tabOf yN yB 2 none site
def P (a : Addr) (D : Cell) (fV fC : Field) (b : Addr) (A : Cell) (z : Int32) (args : Array Value) (s : State) : Prop := args = #[.ref a, .ref b] ∧ Blank "java/lang/String" a D s ∧ Found "java/lang/String" "value" "[B" fV s ∧ Found "java/lang/String" "coder" "B" fC s ∧ Ch b A s ∧ StaticIs s "java/lang/String" "COMPACT_STRINGS" "Z" (.int z) ∧ ¬ z = 0 ∧ 0 < A.slots.size ∧ A.slots.size ≤ 536870912 ∧ ∀ i, i < A.slots.size → ¬ 255 < cv A i
def E (a : Addr) (D : Cell) (fV fC : Field) (A : Cell) (r : Option Value) (s u : State) : Prop := Got a D fV fC A 0 A.slots.size r s u
/-- new String(chars), not empty, no char above 255: a Latin-1 String of their low bytes -/
theorem law (l : Launch) (a : Addr) (D : Cell) (fV fC : Field) (b : Addr) (A : Cell) (z : Int32) : Law l yN 2 1 3 52 yB 2 none site (P a D fV fC b A z) (E a D fV fC A) [⟨a, fC.slot⟩, ⟨a, fV.slot⟩] 1 A.slots.size := by
  refine Law.of_walk (plainFor_of_name (by decide +kernel)) (by decide +kernel) (by decide +kernel) (by decide) (fun _ _ h => by rw [h.1]; rfl) (fun _ U U' hal hh h => ⟨h.1, h.2.1.mv hal hh, h.2.2.1.al hal, h.2.2.2.1.al hal, h.2.2.2.2.1.mv hal hh, h.2.2.2.2.2.1.there hal hh, h.2.2.2.2.2.2⟩) (fun r U U' V V' h1 hal h2 h => Got.mv r U U' V V' h1 hal h2 h) ?_
  intro p e s m args below meth c s₁ X0 hexec hbytes hml hret hlk hnm hown hh0 W hP
  obtain ⟨rfl, hB, f1, f2, hA, s1, hz, l0, l2, hp⟩ := hP
  have c1 : Steps p.tables e below (s₁.setTop (entryFrame m #[.ref a, .ref b] 2)) (s₁.setTop (mkF m 0 #[.val (.ref a), .val (.ref b)] [])) := entry rfl
  have c2 : Steps p.tables e below (s₁.setTop (entryFrame m #[.ref a, .ref b] 2)) (s₁.setTop (mkF m 6 #[.val (.ref a), .val (.ref b)] [.null, .int (Int32.ofNat A.slots.size), .int 0, .ref b, .ref a])) := c1.trans (by
    refine XS.aloadN X0.here hexec rfl (hb hbytes d0) rfl rfl ?_
    refine XS.aloadN X0.here hexec rfl (hb hbytes d1) rfl rfl ?_
    refine iconstV X0.here hexec rfl 0 (hb hbytes d2) (by decide) ?_
    refine XS.aloadN X0.here hexec rfl (hb hbytes d3) rfl rfl ?_
    refine X0.alen hexec (hA.1.mv X0.warmed.alike hh0) rfl rfl (hb hbytes d4) ?_
    refine XS.aconstNull X0.here hexec rfl (hb hbytes d5) ?_
    exact Steps.refl _)
  obtain ⟨v3, T3, X3, E3, g3⟩ := X0.callN hexec (New4.law l a D fV fC b A z 0 A.slots.size) rfl hown (wks W (initW "java/lang/String" 27 New4.yN)) (W New4.tab (by simp only [site, List.mem_cons, List.mem_append, true_or, or_true])) (W := 0) (Nat.le_of_ble_eq_true rfl) (Nat.le_of_ble_eq_true rfl) (Nat.le_refl _) (by show 0 + A.slots.size ≤ A.slots.size; omega) (g := (mkF m 6 #[.val (.ref a), .val (.ref b)] [.null, .int (Int32.ofNat A.slots.size), .int (Int32.ofNat 0), .ref b, .ref a])) rfl (by rw [hml]; rfl) c2 (argsL := [.ref b, .int (Int32.ofNat 0), .int (Int32.ofNat A.slots.size), .null]) (rest := []) rfl rfl (by show 2 * 0 + 0 ≤ _; decide) (hb hbytes d6) (⟨rfl, hB.mv X0.warmed.alike hh0, f1.al X0.warmed.alike, f2.al X0.warmed.alike, hA.mv X0.warmed.alike hh0, s1.there X0.warmed.alike hh0, hz, l0, by omega, l2, fun i hi => by rw [Nat.zero_add]; exact hp i hi⟩)
  have e0 := Got.mv _ s₁ s _ _ hh0.symm (Vm.Alike.refl _) rfl E3
  obtain rfl := e0.1
  have c4 : Steps p.tables e below (s₁.setTop (entryFrame m #[.ref a, .ref b] 2)) (T3.setTop (mkF m 9 #[.val (.ref a), .val (.ref b)] [])) := g3
  exact ⟨T3, none, _, _, _, X3, by simp, rfl, by omega, (fun _ => rfl), e0, fun fs hl => c4.trans (X3.returnOut hexec hret (hb hbytes d9) hl)⟩
theorem pays {l : Launch} {R : Room} {p : Program} {e : Env} {below : List Frame} {s : State} {sargs : Array Value} {len W : Nat} (a : Addr) (D : Cell) (fV fC : Field) (b : Addr) (A : Cell) (z : Int32) (htab : tab.before sargs s = true) (hfr : 4 ≤ R.frames) (hlo : W + 65 ≤ R.locals) :
    Back l R p e below s sargs yN len W (fun A₁ a₁ => A₁.cells + 1 ≤ R.cells ∧ A₁.slots + A.slots.size ≤ R.slots ∧ P a D fV fC b A z a₁ A₁.U) (fun A₁ _ v₁ B₁ => E a D fV fC A v₁ A₁.U B₁.U ∧ B₁.locs = A₁.locs ++ [⟨a, fC.slot⟩, ⟨a, fV.slot⟩] ∧ B₁.cells = A₁.cells + 1 ∧ B₁.slots = A₁.slots + A.slots.size) :=
  (law l a D fV fC b A z).pays htab hfr (by omega)
end New1
/-- the byte, read back as charAt reads it, is the char -/
theorem lo8_mask {x : Int32} (h0 : ¬ x < 0) (h1 : ¬ 255 < x) : lo8 x &&& 255 = x := by
  have t : ∀ k : Fin 256, lo8 (Int32.ofNat k.val) &&& 255 = Int32.ofNat k.val := by decide +kernel
  rw [Int32.lt_iff_toInt_lt] at h0 h1
  have e0 : (0 : Int32).toInt = 0 := rfl
  have e1 : (255 : Int32).toInt = 255 := rfl
  obtain ⟨k, hk⟩ : ∃ k : Nat, x.toInt = k := ⟨x.toInt.toNat, by omega⟩
  have hx : x = Int32.ofNat k := Int32.toInt_inj.mp (by rw [hk, Int32.toInt_ofNat_small (by omega)])
  rw [hx]
  exact t ⟨k, by omega⟩
end StrChars
namespace StrChars.Road
open Jvm Sem ClassFile Op Lib Jvm.Stand Jvm.Free Jvm.Free.XT
open Jvm.Lib.Cold (StaticIs)
abbrev ST : String := "java/lang/String"
/-- every table word that New1's law asks, flat -/
abbrev words : List Jvm.Cond := [.code New1.yN New1.yB 2 none, .initialized ST, .methodLink ST 27 New4.yN, .instanceMethod New4.yN,
  .code New4.yN New4.yB 6 none, .fieldLink ST 38 ST "COMPACT_STRINGS" "Z", .laysFinal ST ST "value" "[B", .fieldLink ST 9 ST "value" "[B", .laysFinal ST ST "coder" "B", .fieldLink ST 15 ST "coder" "B",
  .methodLink ST 1 Lib.objectInit, .instanceMethod Lib.objectInit, .code Lib.objectInit ⟨#[0xb1]⟩ 1 none, .methodLink ST 177 Cmp3.yN, .static Cmp3.yN, .methodLink ST 47 CodL.yN, .static CodL.yN,
  .code Cmp3.yN Cmp3.yB 6 (some (.array .byte)), .initialized U16, .arrayClass .byte, .methodLink U16 115 Cmp5.yN, .static Cmp5.yN, .code Cmp5.yN Cmp5.yB 7 (some .int), .code CodL.yN CodL.yB 2 (some .byte)]
theorem tab_of {a : Array Value} {s : State} (h : ∀ w ∈ words, w.before a s = true) : New1.tab.before a s = true := by
  have h5 : Cmp5.tab.before a s = true := unparts (wk h (.code Cmp5.yN Cmp5.yB 7 (some .int))) (wks h (.initialized Cmp5.yN.cls :: Cmp5.site))
  have hc : CodL.tab.before a s = true := unparts (wk h (.code CodL.yN CodL.yB 2 (some .byte))) (wks h (.initialized CodL.yN.cls :: CodL.site))
  have q5 : ∀ w ∈ Cmp5.tab :: words, w.before a s = true := fun w hw => (List.mem_cons.mp hw).elim (fun e => e ▸ h5) (h w)
  have h3 : Cmp3.tab.before a s = true := unparts (wk q5 (.code Cmp3.yN Cmp3.yB 6 (some (.array .byte)))) (wks q5 (.initialized Cmp3.yN.cls :: Cmp3.site))
  have q3 : ∀ w ∈ Cmp3.tab :: CodL.tab :: words, w.before a s = true := fun w hw => (List.mem_cons.mp hw).elim (fun e => e ▸ h3) fun hw => (List.mem_cons.mp hw).elim (fun e => e ▸ hc) (h w)
  have h4 : New4.tab.before a s = true := unparts (wk q3 (.code New4.yN New4.yB 6 none)) (wks q3 (.initialized New4.yN.cls :: New4.site))
  have q4 : ∀ w ∈ New4.tab :: words, w.before a s = true := fun w hw => (List.mem_cons.mp hw).elim (fun e => e ▸ h4) (h w)
  exact unparts (wk q4 (.code New1.yN New1.yB 2 none)) (wks q4 (.initialized New1.yN.cls :: New1.site))
/-- the words ride from the start Z to the walk's own state -/
theorem moved {Z s : State} {a0 args : Array Value} (hZ : Z.Warmed39 s.vm) (hw : ∀ d ∈ words, d.before a0 Z = true) : ∀ d ∈ words, d.before args s = true := fun d hd => by
  have q := hw d hd
  have t : ∀ d ∈ words, d = .arrayClass .byte ∨ (d.onTables && d.keepsFace) = true := by decide +kernel
  rcases t d hd with rfl | t
  · exact RoadKit.mvA hZ q
  · exact RoadKit.mv hZ q t
/-- WHAT COMES BACK, over the tables of the start Z: h the heap at the call, h' behind it -/
def Q (Z : State) (x : Addr) (A : Cell) (h : Heap) (v : Option Value) (h' : Heap) (L : List Loc) : Prop := v = none ∧ (∀ y ∈ L, y.base = x) ∧ RoadKit.Keep h h' [x] ∧ h'.size = h.size + 1 ∧ RoadKit.Exa Z h' x ST ∧ RoadKit.Fld Z h' x ST "value" "[B" (.ref h.size) ∧ RoadKit.Fld Z h' x ST "coder" "B" (.int 0) ∧
  (∃ V : Cell, RoadKit.Arr Z h' h.size V .byte ∧ V.vm = .none ∧ Z.vm.findClass "[B" = some V.cls ∧ V.slots.size = A.slots.size ∧ ∀ j, j < A.slots.size → V.slots[j]? = some (.int (lo8 (cv A j)))) ∧
  ∀ (O n d : String) (w : Value), RoadKit.Fld Z h x O n d w → RoadKit.slotOf Z O n d ≠ RoadKit.slotOf Z ST "value" "[B" → RoadKit.slotOf Z O n d ≠ RoadKit.slotOf Z ST "coder" "B" → RoadKit.Fld Z h' x O n d w
/-- **new String(chars) AT A CALL, IN THE ROAD'S FORM**: for specialBack behind newO: x the fresh String, b the char[] with the cell A -/
theorem back {p : Program} {l : Launch} {e : Env} {R : Room} {s : State} {args : Array Value} {below : List Frame} {len W : Nat} {Z : State} {a0 : Array Value} {h : Heap} (hZ : Z.Warmed39 s.vm) (hw : ∀ d ∈ words, d.before a0 Z = true) {kI : Nat} (wi : (Jvm.Cond.instantiable ST kI).before a0 Z = true)
    {x b : Addr} {A : Cell} {z : Int32} {v0 c0 : Value} (E : RoadKit.Exa Z h x ST) (V : RoadKit.Fld Z h x ST "value" "[B" v0) (C : RoadKit.Fld Z h x ST "coder" "B" c0) (K : RoadKit.Arr Z h b A .char) (hty : Typed .char A) (S : RoadKit.Sta Z h ST "COMPACT_STRINGS" "Z" (.int z)) (hz : ¬ z = 0)
    (l0 : 0 < A.slots.size) (l2 : A.slots.size ≤ 536870912) (hp : ∀ i, i < A.slots.size → ¬ 255 < cv A i) (hfr : 4 ≤ R.frames) (hlo : W + 65 ≤ R.locals) :
    Back l R p e below s args New1.yN len W (fun P a => a = #[.ref x, .ref b] ∧ P.U.heap = h ∧ P.cells + 1 ≤ R.cells ∧ P.slots + A.slots.size ≤ R.slots)
      (fun P _ v B => ∃ L, Q Z x A h v B.U.heap L ∧ B.locs = P.locs ++ L ∧ B.cells = P.cells + 1 ∧ B.slots = P.slots + A.slots.size) := by
  intro m meth c P g ig mk a X hg hsize hdg hW hn hp'
  obtain ⟨rfl, rfl, r1, r2⟩ := hp'
  have al : Z.vm.Alike P.U.vm := hZ.alike.trans X.warmed.alike
  obtain ⟨D, cfV, kV, iV, fV, hD, gV, stV, knV, obV, asV, slV⟩ := id V
  obtain ⟨D', cfC, kC, iC, fC, hD', gC, stC, -, -, asC, slC⟩ := id C
  cases hD.symm.trans hD'
  obtain ⟨D2, kD, e1, e2, e3, e4, e5⟩ := id E
  cases hD.symm.trans e1
  obtain ⟨c2, k2, i1, i2, i3, -⟩ := Cond.instantiable_spec wi
  cases e2.symm.trans i1
  cases e3.symm.trans i2
  obtain ⟨kU, u1, u2⟩ := al.2.2 _ _ e3
  have hB : Blank ST x D P.U := ⟨hD, ⟨knV, fun q hq => by rw [hq] at obV; cases obV⟩, by rw [al.findClass]; exact e2, kU, u1, by rw [u2]; exact i3, by rw [u2]; exact e5 i3⟩
  have F1 : Found ST "value" "[B" fV P.U := ⟨SBG.found_only al ⟨cfV, kV, iV, gV⟩, stV⟩
  have F2 : Found ST "coder" "B" fC P.U := ⟨SBG.found_only al ⟨cfC, kC, iC, gC⟩, stC⟩
  have hA : Ch b A P.U := ⟨⟨K.1, State.isArrayOf_alike al K.2.1, K.2.2, by omega⟩, hty⟩
  have hS : StaticIs P.U ST "COMPACT_STRINGS" "Z" (.int z) := by
    obtain ⟨cfS, iS, kS, fS, st, cS, t1, t2, t3, t4, t5, t6, t7⟩ := S
    exact StaticIs.there (s := { Z with heap := P.U.heap }) ⟨cfS, iS, kS, fS, st, cS, t1, t2, t3, t4, t5, (fun q => by rw [q] at t6; cases t6), t7⟩ al rfl
  obtain ⟨v, B, X', ⟨⟨hv, E', V', q1, q2, q3, q4, q5, q6, q7, q8, q9, q10, q11⟩, hl, hc, hs⟩, st⟩ := New1.pays x D fV fC b A z (tab_of (moved hZ hw)) hfr hlo m meth c P g ig mk _ X hg hsize hdg hW hn ⟨r1, r2, rfl, hB, F1, F2, hA, hS, hz, l0, l2, hp⟩
  have al' : Z.vm.Alike B.U.vm := hZ.alike.trans X'.warmed.alike
  have hsz : E'.slots.size = D.slots.size := by
    obtain ⟨-, -, -, kB, w1, w2, w3⟩ := q1
    obtain ⟨kB', y1, y2⟩ := al'.2.2 _ _ e3
    rw [q2.2.1] at w1
    cases w1.symm.trans y1
    rw [w3, e5 i3, y2]
  refine ⟨v, B, X', ⟨_, ⟨hv, ?_, ⟨by omega, fun y cy hy hn' => q10 y cy (by simpa using hn') hy, fun y cy hy => ?_⟩, q11, ⟨E', _, q1.1, by rw [q2.2.1]; exact e2, by rw [q2.2.1]; exact e3, by rw [q2.1]; exact obV, fun _ => by rw [hsz]; exact e5 i3⟩,
    ⟨E', cfV, kV, iV, fV, q1.1, gV, stV, by rw [q2.1]; exact knV, by rw [q2.1]; exact obV, by rw [q2.2.1]; exact asV, q3⟩, ⟨E', cfC, kC, iC, fC, q1.1, gC, stC, by rw [q2.1]; exact knV, by rw [q2.1]; exact obV, by rw [q2.2.1]; exact asC, q4⟩,
    ⟨V', ⟨q5.1, State.isArrayOf_alike al'.symm q5.2.1, q5.2.2.1⟩, q6, by rw [← al'.findClass]; exact q7, q8, fun j hj => by have := q9 j hj; rwa [Nat.zero_add] at this⟩, fun O n d w F n1 n2 => ?_⟩, hl, hc, hs⟩, st⟩
  · intro y hy
    simp only [List.mem_cons, List.not_mem_nil, or_false] at hy
    rcases hy with rfl | rfl <;> rfl
  · by_cases q : y = x
    · subst q
      cases hD.symm.trans hy
      exact ⟨E', q1.1, q2.2.1, q2.1, hsz⟩
    · exact ⟨cy, q10 y cy q hy, rfl, rfl, rfl⟩
  · obtain ⟨D3, cf, k, i, f, g1, g2, g3, g4, g5, g6, g7⟩ := F
    cases hD.symm.trans g1
    simp only [RoadKit.slotOf, g2, gV, gC, Option.map_some, Option.getD_some] at n1 n2
    exact ⟨E', cf, k, i, f, q1.1, g2, g3, by rw [q2.1]; exact g4, by rw [q2.1]; exact g5, by rw [q2.2.1]; exact g6, by rw [q2.2.2 f.slot (by simp [n1, n2])]; exact g7⟩
end StrChars.Road
namespace StrChars.Road
open Jvm Sem ClassFile Op Lib Jvm.Stand Jvm.Free Jvm.Free.XT
/-- WHAT COMES BACK, the byte[] as a list of values -/
def QA (Z : State) (x : Addr) (zn : Int32) (cs : List Int32) (h : Heap) (v : Option Value) (h' : Heap) (L : List Loc) : Prop := v = none ∧ (∀ y ∈ L, y.base = x) ∧ RoadKit.Keep h h' [x] ∧ h'.size = h.size + 1 ∧ RoadKit.Exa Z h' x ST ∧ RoadKit.Fld Z h' x ST "value" "[B" (.ref h.size) ∧ RoadKit.Fld Z h' x ST "coder" "B" (.int 0) ∧
  (∃ kb, Z.vm.findClass "[B" = some kb ∧ RoadKit.Arv Z h' h.size kb .byte zn (cs.map fun c => .int (lo8 c)) (.int 0)) ∧
  ∀ (O n d : String) (w : Value), RoadKit.Fld Z h x O n d w → RoadKit.slotOf Z O n d ≠ RoadKit.slotOf Z ST "value" "[B" → RoadKit.slotOf Z O n d ≠ RoadKit.slotOf Z ST "coder" "B" → RoadKit.Fld Z h' x O n d w
/-- **new String(chars) AT A CALL, THE ARRAYS AS LISTS**: the char[] at b holds cs, not empty, no char above 255 -/
theorem backArv {p : Program} {l : Launch} {e : Env} {R : Room} {s : State} {args : Array Value} {below : List Frame} {len W : Nat} {Z : State} {a0 : Array Value} {h : Heap} (hZ : Z.Warmed39 s.vm) (hw : ∀ d ∈ words, d.before a0 Z = true) {kI : Nat} (wi : (Jvm.Cond.instantiable ST kI).before a0 Z = true)
    {x b : Addr} {k : ClassId} {zn z : Int32} {cs : List Int32} {dv v0 c0 : Value} (E : RoadKit.Exa Z h x ST) (V : RoadKit.Fld Z h x ST "value" "[B" v0) (C : RoadKit.Fld Z h x ST "coder" "B" c0) (K : RoadKit.Arv Z h b k .char zn (cs.map Value.int) dv) (S : RoadKit.Sta Z h ST "COMPACT_STRINGS" "Z" (.int z)) (hz : ¬ z = 0)
    (hlen : zn.toNatClampNeg = cs.length) (h0 : 0 < cs.length) (hbig : cs.length ≤ 536870912) (hall : ∀ c ∈ cs, ¬ 255 < c) (hfr : 4 ≤ R.frames) (hlo : W + 65 ≤ R.locals) :
    Back l R p e below s args New1.yN len W (fun P a => a = #[.ref x, .ref b] ∧ P.U.heap = h ∧ P.cells + 1 ≤ R.cells ∧ P.slots + cs.length ≤ R.slots)
      (fun P _ v B => ∃ L, QA Z x zn cs h v B.U.heap L ∧ B.locs = P.locs ++ L ∧ B.cells = P.cells + 1 ∧ B.slots = P.slots + cs.length) := by
  obtain ⟨A, K1, K2, K3, K4, K5, K6⟩ := K
  have e : A.slots.size = cs.length := K3.trans hlen
  have hat : ∀ (i : Nat) (hi : i < cs.length), A.slots[i]? = some (.int cs[i]) := fun i hi => by rw [K5 i (by omega)]; simp [List.getD_eq_getElem?_getD, hi]
  have hcv : ∀ (i : Nat) (hi : i < cs.length), cv A i = cs[i] := fun i hi => by unfold cv; rw [hat i hi]
  have hty : Typed .char A := fun i v hv => by
    have hi : i < A.slots.size := (Array.getElem?_eq_some_iff.mp hv).1
    have q := K5 i hi
    rw [hv] at q
    rw [Option.some.inj q]
    exact K6 i hi
  refine Back.mono (back hZ hw wi E V C K1 hty S hz (by omega) (by omega) (fun i hi => by rw [hcv i (by omega)]; exact hall _ (List.getElem_mem _)) hfr hlo) (fun P a hp => ⟨hp.1, hp.2.1, hp.2.2.1, by rw [e]; exact hp.2.2.2⟩) (fun P a v B hp hq => ?_)
  obtain ⟨L, ⟨q1, q2, q3, q4, q5, q6, q7, ⟨V', v1, v2, v3, v4, v5⟩, q9⟩, hl, hc, hs⟩ := hq
  refine ⟨L, ⟨q1, q2, q3, q4, q5, q6, q7, ⟨V'.cls, v3, V', v1, rfl, by rw [v4, e, hlen], K4, fun i hi => ?_, fun i hi => ?_⟩, q9⟩, hl, hc, by rw [hs, e]⟩
  · have hi' : i < cs.length := by omega
    rw [v5 i (by omega), hcv i hi']; simp [List.getD_eq_getElem?_getD, hi']
  · have hi' : i < cs.length := by omega
    simp only [List.getD_eq_getElem?_getD, List.getElem?_map, List.getElem?_eq_getElem hi', Option.map_some, Option.getD_some]
    exact fits_lo8 _
end StrChars.Road
namespace StrChars.Road
open Jvm Sem ClassFile Op Lib Jvm.Stand Jvm.Free Jvm.Free.XT
/-- WHAT COMES BACK, in the writer's own shape -/
def QV (Z : State) (x : Addr) (N : Int32) (bs : List Int32) (h : Heap) (n0 : Nat) (v : Option Value) (h' : Heap) (L : List Loc) : Prop := v = none ∧ RoadKit.Fr n0 L ∧ RoadKit.Keep h h' [x] ∧ RoadKit.Exa Z h' x ST ∧ RoadKit.Fld Z h' x ST "coder" "B" (.int 0) ∧
  ∃ (t : Addr) (kb : ClassId), n0 ≤ t ∧ h.size ≤ t ∧ ¬ t = x ∧ RoadKit.Fld Z h' x ST "value" "[B" (.ref t) ∧ RoadKit.Arv Z h' t kb .byte N (bs.map Value.int) (.int 0)
/-- **new String(chars) AT A CALL, FOR THE WRITER**: a char[] of n known ints, each 0 to 255 -/
theorem backV {p : Program} {l : Launch} {e : Env} {R : Room} {s : State} {args : Array Value} {below : List Frame} {len W : Nat} {Z : State} {a0 : Array Value} {h : Heap} (hZ : Z.Warmed39 s.vm) (hw : ∀ d ∈ words, d.before a0 Z = true) {kI : Nat} (wi : (Jvm.Cond.instantiable ST kI).before a0 Z = true)
    {x b : Addr} {kC : ClassId} {cs bs : List Int32} {d v0 c0 : Value} {z N : Int32} {n n0 : Nat} (hx0 : n0 ≤ x) (hh0 : n0 ≤ h.size) (E : RoadKit.Exa Z h x ST) (V : RoadKit.Fld Z h x ST "value" "[B" v0) (C : RoadKit.Fld Z h x ST "coder" "B" c0) (K : RoadKit.Arv Z h b kC .char N (cs.map Value.int) d) (S : RoadKit.Sta Z h ST "COMPACT_STRINGS" "Z" (.int z)) (hz : ¬ z = 0)
    (hn : cs.length = n) (hN : N = Int32.ofNat n) (l0 : 0 < n) (l2 : n ≤ 4000) (hp : ∀ c ∈ cs, ¬ c < 0 ∧ ¬ (255 : Int32) < c) (hb : bs = cs.map (fun c => c.toInt8.toInt32)) (hfr : 4 ≤ R.frames) (hlo : W + 65 ≤ R.locals) :
    Back l R p e below s args (⟨"java/lang/String", "<init>", "([C)V"⟩ : MethodName) len W (fun P a => a = #[.ref x, .ref b] ∧ P.U.heap = h ∧ P.cells + 1 ≤ R.cells ∧ P.slots + n ≤ R.slots)
      (fun P _ v B => ∃ L, QV Z x N bs h n0 v B.U.heap L ∧ B.locs = P.locs ++ L ∧ B.cells = P.cells + 1 ∧ B.slots = P.slots + n) := by
  subst hn hN hb
  refine Back.mono (backArv hZ hw wi E V C K S hz (n32 (by omega)) l0 (by omega) (fun c hc => (hp c hc).2) hfr hlo) (fun P a hp => hp) (fun P a v B hp hq => ?_)
  obtain ⟨L, ⟨q1, q2, q3, q4, q5, q6, q7, ⟨kb, v1, v2⟩, q9⟩, hl, hc, hs⟩ := hq
  exact ⟨L, ⟨q1, fun y hy => by rw [q2 y hy]; exact hx0, q3, q5, q7, h.size, kb, hh0, Nat.le_refl _, Nat.ne_of_gt E.lt, q6, by rw [List.map_map]; exact v2⟩, hl, hc, hs⟩
end StrChars.Road
namespace StrChars
open Jvm Sem ClassFile Op Lib Jvm.Stand Jvm.Free.XT Jvm.Free.ALB Jvm.Free.JM Jvm.Free
open Jvm.Lib.Cold (StaticIs)
def hi8 (x : Int32) : Int32 := lo8 (x >>> ((8 : Int32) &&& 31))
theorem shr0 (c : Int32) : c >>> ((0 : Int32) &&& 31) = c := by
  have e : ((0 : Int32) &&& 31) = 0 := by decide
  rw [e]
  apply Int32.toBitVec_inj.mp
  rw [Int32.toBitVec_shiftRight]
  have e1 : ((0 : Int32).toBitVec.smod 32) = 0#32 := by decide
  rw [e1, BitVec.sshiftRight_eq']
  exact BitVec.sshiftRight_zero
end StrChars
namespace StrChars
open Jvm Sem ClassFile Op Lib Jvm.Stand Jvm.Free.XT Jvm.Free.ALB Jvm.Free.JM Jvm.Free
open Jvm.Lib.Cold (StaticIs)
theorem shr1 {n : Nat} (h : 2 * n < 2 ^ 31) : Int32.ofNat (2 * n) >>> ((1 : Int32) &&& 31) = Int32.ofNat n := by
  have e : ((1 : Int32) &&& 31) = 1 := by decide
  rw [e]
  apply Int32.toBitVec_inj.mp
  rw [Int32.toBitVec_shiftRight]
  have e1 : ((1 : Int32).toBitVec.smod 32) = 1#32 := by decide
  have hm : (BitVec.ofNat 32 (2 * n)).toNat = 2 * n := by rw [BitVec.toNat_ofNat, Nat.mod_eq_of_lt (by omega)]
  rw [e1, BitVec.sshiftRight_eq']
  apply BitVec.eq_of_toNat_eq
  show ((BitVec.ofNat 32 (2 * n)).sshiftRight 1).toNat = (BitVec.ofNat 32 n).toNat
  rw [BitVec.toNat_sshiftRight_of_msb_false (by rw [BitVec.msb_eq_false_iff_two_mul_lt, hm]; omega), hm, BitVec.toNat_ofNat, Nat.shiftRight_eq_div_pow]
  omega
/-- the array's cell V codes the n chars f 0 .. f (n - 1) by the coder cd, as the JDK does: coder 1 just where some char is above 255 -/
def Cod (cd : Int32) (n : Nat) (f : Nat → Int32) (V : Cell) : Prop := (cd = 0 ∧ V.slots.size = n ∧ ∀ j, j < n → V.slots[j]? = some (.int (lo8 (f j))) ∧ ¬ 255 < f j) ∨ (cd = 1 ∧ V.slots.size = 2 * n ∧ (∀ j, j < n → V.slots[2 * j]? = some (.int (lo8 (f j))) ∧ V.slots[2 * j + 1]? = some (.int (hi8 (f j)))) ∧ ∃ j, j < n ∧ 255 < f j)
theorem Cod.cd {cd : Int32} {n : Nat} {f : Nat → Int32} {V : Cell} (h : Cod cd n f V) : cd = 0 ∨ cd = 1 := h.imp (fun q => q.1) fun q => q.1
theorem Cod.len {cd : Int32} {n : Nat} {f : Nat → Int32} {V : Cell} (h : Cod cd n f V) (hs : V.slots.size < 2 ^ 31) : Int32.ofNat V.slots.size >>> (cd &&& 31) = Int32.ofNat n := by
  rcases h with ⟨rfl, h, -⟩ | ⟨rfl, h, -⟩
  · rw [shr0, h]
  · rw [h, shr1 (by omega)]
/-- **x is a String of the n chars f 0 .. f (n - 1)**, Latin-1 or UTF-16; its array at t has the cell V -/
def Txt (x t : Addr) (V : Cell) (cd : Int32) (n : Nat) (f : Nat → Int32) (U : State) : Prop := Exact "java/lang/String" x U ∧ Has x "java/lang/String" "value" "[B" (.ref t) U ∧ Has x "java/lang/String" "coder" "B" (.int cd) U ∧ XT.Arr .byte t V U ∧ Cod cd n f V ∧ ∀ j, j < n → ¬ f j < 0 ∧ ¬ 65535 < f j
theorem Txt.mv {x t : Addr} {V : Cell} {cd : Int32} {n : Nat} {f : Nat → Int32} {U U' : State} (h : Txt x t V cd n f U) (hal : U.vm.Alike U'.vm) (hh : U'.heap = U.heap) : Txt x t V cd n f U' := ⟨h.1.mv hal hh, h.2.1.mv hal hh, h.2.2.1.mv hal hh, h.2.2.2.1.mv hal hh, h.2.2.2.2⟩
namespace Cdr
def yN : MethodName := ⟨"java/lang/String", "coder", "()B"⟩
abbrev yB : ByteArray := jdk_42_method_152_code
theorem d0 : decode yB 0 = .ok (.getstatic 38, 3) := by decide +kernel
theorem d3 : decode yB 3 = .ok (.ifCond (.eq) 10, 3) := by decide +kernel
theorem d6 : decode yB 6 = .ok (.aload_n 0, 1) := by decide +kernel
theorem d7 : decode yB 7 = .ok (.getfield 15, 3) := by decide +kernel
theorem d10 : decode yB 10 = .ok (.goto 4, 3) := by decide +kernel
theorem d14 : decode yB 14 = .ok (.ireturn, 1) := by decide +kernel
def site : List Cond := [.fieldLink "java/lang/String" 38 "java/lang/String" "COMPACT_STRINGS" "Z", .fieldLink "java/lang/String" 15 "java/lang/String" "coder" "B"]
def tab : Cond := tabOf yN yB 1 (some .byte) site
def P (x : Addr) (cd z : Int32) (args : Array Value) (s : State) : Prop := args = #[.ref x] ∧ Has x "java/lang/String" "coder" "B" (.int cd) s ∧ (cd = 0 ∨ cd = 1) ∧ StaticIs s "java/lang/String" "COMPACT_STRINGS" "Z" (.int z) ∧ ¬ z = 0
def E (cd : Int32) (r : Option Value) (s u : State) : Prop := XT.PureE (some (.int cd)) r s u
theorem law (l : Launch) (x : Addr) (cd z : Int32) : Law l yN 1 0 0 0 yB 1 (some .byte) site (P x cd z) (E cd) [] 0 0 := by
  refine Law.of_walk (plainFor_of_name (by decide +kernel)) (by decide +kernel) (by decide +kernel) (by decide) (fun _ _ h => by rw [h.1]; rfl) (fun _ U U' hal hh h => ⟨h.1, h.2.1.mv hal hh, h.2.2.1, h.2.2.2.1.there hal hh, h.2.2.2.2⟩) (fun r U U' V V' h1 hal h2 h => XT.PureE.mv r U U' V V' h1 hal h2 h) ?_
  intro p e s m args below meth c s₁ X0 hexec hbytes hml hret hlk hnm hown hh0 W hP
  obtain ⟨rfl, hx, hc, s1, hz⟩ := hP
  have c1 : Steps p.tables e below (s₁.setTop (entryFrame m #[.ref x] 1)) (s₁.setTop (mkF m 0 #[.val (.ref x)] [])) := entry rfl
  obtain ⟨T2, X2, q2, st2⟩ := X0.sget hexec hown (wk W (.fieldLink "java/lang/String" 38 "java/lang/String" "COMPACT_STRINGS" "Z")) s1 (fun _ _ h => by rw [hh0]; exact h) (g := (mkF m 0 #[.val (.ref x)] [])) rfl (hb hbytes d0)
  have hh2 := q2.trans hh0
  have c3 : Steps p.tables e below (s₁.setTop (entryFrame m #[.ref x] 1)) (T2.setTop (mkF m 7 #[.val (.ref x)] [.ref x])) := (c1.trans (st2 _ (Steps.refl _))).trans (by
    refine XS.ifNo X2.here hexec rfl (hb hbytes d3) rfl (i0_eq_f hz) ?_
    refine XS.aloadN X2.here hexec rfl (hb hbytes d6) rfl rfl ?_
    exact Steps.refl _)
  obtain ⟨T4, X4, q4, st4⟩ := X2.hget hexec hown (wk W (.fieldLink "java/lang/String" 15 "java/lang/String" "coder" "B")) (hx.mv X2.warmed.alike hh2) (g := (mkF m 7 #[.val (.ref x)] [.ref x])) rfl (rest := []) rfl (hb hbytes d7)
  have c5 : Steps p.tables e below (s₁.setTop (entryFrame m #[.ref x] 1)) (T4.setTop (mkF m 14 #[.val (.ref x)] [.int cd])) := (c3.trans (st4 _ (Steps.refl _))).trans (by
    refine XS.goto X4.here hexec rfl (pc0 := 10) rfl (hb hbytes d10) (by decide) rfl ?_
    exact Steps.refl _)
  exact ⟨T4, some (.int cd), _, _, _, X4, rfl, rfl, rfl, (fun h => by cases h), ⟨rfl, q4.trans hh2⟩, fun fs hl => c5.trans (X4.ireturnOut hexec hret (by rcases hc with rfl | rfl <;> rfl) (Or.inr (Or.inr (Or.inl rfl))) (hb hbytes d14) hl)⟩
end Cdr
namespace Len
def yN : MethodName := ⟨"java/lang/String", "length", "()I"⟩
abbrev yB : ByteArray := jdk_42_method_54_code
theorem d0 : decode yB 0 = .ok (.aload_n 0, 1) := by decide +kernel
theorem d1 : decode yB 1 = .ok (.getfield 9, 3) := by decide +kernel
theorem d4 : decode yB 4 = .ok (.arraylength, 1) := by decide +kernel
theorem d5 : decode yB 5 = .ok (.aload_n 0, 1) := by decide +kernel
theorem d6 : decode yB 6 = .ok (.invokevirtual 335, 3) := by decide +kernel
theorem d9 : decode yB 9 = .ok (.ishr, 1) := by decide +kernel
theorem d10 : decode yB 10 = .ok (.ireturn, 1) := by decide +kernel
def site : List Cond := [.fieldLink "java/lang/String" 9 "java/lang/String" "value" "[B", Cdr.tab] ++ virtW "java/lang/String" 335 "java/lang/String" Cdr.yN Cdr.yN
def tab : Cond := tabOf yN yB 1 (some .int) site
def P (x t : Addr) (V : Cell) (cd : Int32) (n : Nat) (f : Nat → Int32) (z : Int32) (args : Array Value) (s : State) : Prop := args = #[.ref x] ∧ Txt x t V cd n f s ∧ StaticIs s "java/lang/String" "COMPACT_STRINGS" "Z" (.int z) ∧ ¬ z = 0
def E (n : Nat) (r : Option Value) (s u : State) : Prop := XT.PureE (some (.int (Int32.ofNat n))) r s u
/-- length() of a String of n chars, in either coding -/
theorem law (l : Launch) (x t : Addr) (V : Cell) (cd : Int32) (n : Nat) (f : Nat → Int32) (z : Int32) : Law l yN 1 0 1 13 yB 1 (some .int) site (P x t V cd n f z) (E n) [] 0 0 := by
  refine Law.of_walk (plainFor_of_name (by decide +kernel)) (by decide +kernel) (by decide +kernel) (by decide) (fun _ _ h => by rw [h.1]; rfl) (fun _ U U' hal hh h => ⟨h.1, h.2.1.mv hal hh, h.2.2.1.there hal hh, h.2.2.2⟩) (fun r U U' V V' h1 hal h2 h => XT.PureE.mv r U U' V V' h1 hal h2 h) ?_
  intro p e s m args below meth c s₁ X0 hexec hbytes hml hret hlk hnm hown hh0 W hP
  obtain ⟨rfl, hx, s1, hz⟩ := hP
  have v31 := hx.2.2.2.1.2.2.2
  have c1 : Steps p.tables e below (s₁.setTop (entryFrame m #[.ref x] 1)) (s₁.setTop (mkF m 1 #[.val (.ref x)] [.ref x])) := Steps.trans (entry rfl) (by
    show Steps p.tables e below (s₁.setTop (mkF m 0 #[.val (.ref x)] [])) _
    refine XS.aloadN X0.here hexec rfl (hb hbytes d0) rfl rfl ?_
    exact Steps.refl _)
  obtain ⟨T2, X2, q2, st2⟩ := X0.hget hexec hown (wk W (.fieldLink "java/lang/String" 9 "java/lang/String" "value" "[B")) (hx.mv X0.warmed.alike hh0).2.1 (g := (mkF m 1 #[.val (.ref x)] [.ref x])) rfl (rest := []) rfl (hb hbytes d1)
  have hh2 := q2.trans hh0
  have hx2 := hx.mv X2.warmed.alike hh2
  have c3 : Steps p.tables e below (s₁.setTop (entryFrame m #[.ref x] 1)) (T2.setTop (mkF m 6 #[.val (.ref x)] [.ref x, .int (Int32.ofNat V.slots.size)])) := (c1.trans (st2 _ (Steps.refl _))).trans (by
    refine X2.alen hexec hx2.2.2.2.1 rfl rfl (hb hbytes d4) ?_
    refine XS.aloadN X2.here hexec rfl (hb hbytes d5) rfl rfl ?_
    exact Steps.refl _)
  obtain ⟨v4, T4, X4, E4, g4⟩ := X2.callV hexec (Cdr.law l x cd z) hown (wks W (virtW "java/lang/String" 335 "java/lang/String" Cdr.yN Cdr.yN)) rfl (by decide) (wk W Cdr.tab) (W := 1) (Nat.le_of_ble_eq_true rfl) (Nat.le_of_ble_eq_true rfl) (Nat.le_refl _) (Nat.le_refl _) (hx2.1.fc X2.warmed.alike) hx2.1.is (g := (mkF m 6 #[.val (.ref x)] [.ref x, .int (Int32.ofNat V.slots.size)])) rfl (by rw [hml]; rfl) c3 (argsL := []) (rest := [.int (Int32.ofNat V.slots.size)]) rfl rfl (by show 2 * 0 + (1 + 0) ≤ _; decide) (hb hbytes d6) (⟨rfl, hx2.2.2.1, hx.2.2.2.2.1.cd, s1.there X2.warmed.alike hh2, hz⟩)
  obtain ⟨rfl, q4⟩ := E4
  have c5 : Steps p.tables e below (s₁.setTop (entryFrame m #[.ref x] 1)) (T4.setTop (mkF m 10 #[.val (.ref x)] [.int (Int32.ofNat V.slots.size >>> (cd &&& 31))])) := Steps.trans g4 (by
    refine ishr X4.here hexec rfl (hb hbytes d9) rfl ?_
    exact Steps.refl _)
  rw [hx.2.2.2.2.1.len v31] at c5
  exact ⟨T4, some (.int (Int32.ofNat n)), _, _, _, X4, rfl, rfl, rfl, (fun h => by cases h), ⟨rfl, q4.trans hh2⟩, fun fs hl => c5.trans (X4.ireturnOut hexec hret rfl (Or.inl rfl) (hb hbytes d10) hl)⟩
theorem pays {l : Launch} {R : Room} {p : Program} {e : Env} {below : List Frame} {s : State} {sargs : Array Value} {len W : Nat} (x t : Addr) (V : Cell) (cd : Int32) (n : Nat) (f : Nat → Int32) (z : Int32) (htab : tab.before sargs s = true) (hfr : 2 ≤ R.frames) (hlo : W + 25 ≤ R.locals) :
    Back l R p e below s sargs yN len W (fun A₁ a₁ => A₁.cells + 0 ≤ R.cells ∧ A₁.slots + 0 ≤ R.slots ∧ P x t V cd n f z a₁ A₁.U) (fun A₁ _ v₁ B₁ => E n v₁ A₁.U B₁.U ∧ B₁.locs = A₁.locs ++ [] ∧ B₁.cells = A₁.cells + 0 ∧ B₁.slots = A₁.slots + 0) :=
  (law l x t V cd n f z).pays htab hfr (by omega)
end Len
end StrChars
namespace StrChars.Road
open Jvm Sem ClassFile Op Lib Jvm.Stand Jvm.Free Jvm.Free.XT
open Jvm.Lib.Cold (StaticIs)
theorem consq {a : Array Value} {s : State} {c : Jvm.Cond} {L : List Jvm.Cond} (h0 : c.before a s = true) (h : ∀ w ∈ L, w.before a s = true) : ∀ w ∈ c :: L, w.before a s = true := fun w hw => (List.mem_cons.mp hw).elim (fun e => e ▸ h0) (h w)
/-- the words of String.length(), either coding -/
abbrev wordsLen : List Jvm.Cond := [.code Len.yN Len.yB 1 (some .int), .initialized ST, .fieldLink ST 9 ST "value" "[B", .fieldLink ST 38 ST "COMPACT_STRINGS" "Z", .fieldLink ST 15 ST "coder" "B", .code Cdr.yN Cdr.yB 1 (some .byte), .methodLink ST 335 Cdr.yN, .declares Cdr.yN, .selects ST Cdr.yN Cdr.yN, .instanceMethod Cdr.yN]
theorem tabLen_of {a : Array Value} {s : State} (h : ∀ w ∈ wordsLen, w.before a s = true) : Len.tab.before a s = true := by
  have hc : Cdr.tab.before a s = true := unparts (wk h (.code Cdr.yN Cdr.yB 1 (some .byte))) (wks h (.initialized Cdr.yN.cls :: Cdr.site))
  have q := consq hc h
  exact unparts (wk q (.code Len.yN Len.yB 1 (some .int))) (wks q (.initialized Len.yN.cls :: Len.site))
theorem movedLen {Z s : State} {a0 args : Array Value} (hZ : Z.Warmed39 s.vm) (hw : ∀ d ∈ wordsLen, d.before a0 Z = true) : ∀ d ∈ wordsLen, d.before args s = true := fun d hd => by
  have q := hw d hd
  have t : ∀ d ∈ wordsLen, d = .arrayClass .byte ∨ (d.onTables && d.keepsFace) = true := by decide +kernel
  rcases t d hd with rfl | t
  · exact RoadKit.mvA hZ q
  · exact RoadKit.mv hZ q t
/-- the bytes of the chars cs, low before high -/
def wideBytes : List Int32 → List Value
  | [] => []
  | c :: cs => .int (lo8 c) :: .int (hi8 c) :: wideBytes cs
theorem wide_lo (d : Value) : ∀ (cs : List Int32) (j : Nat), j < cs.length → (wideBytes cs).getD (2 * j) d = .int (lo8 (cs.getD j 0))
  | [], j, h => absurd h (Nat.not_lt_zero j)
  | c :: cs, 0, _ => rfl
  | c :: cs, j + 1, h => by
    have q := wide_lo d cs j (by simpa using h)
    rw [show 2 * (j + 1) = 2 * j + 1 + 1 from by omega]
    simpa [wideBytes] using q
theorem wide_hi (d : Value) : ∀ (cs : List Int32) (j : Nat), j < cs.length → (wideBytes cs).getD (2 * j + 1) d = .int (hi8 (cs.getD j 0))
  | [], j, h => absurd h (Nat.not_lt_zero j)
  | c :: cs, 0, _ => rfl
  | c :: cs, j + 1, h => by
    have q := wide_hi d cs j (by simpa using h)
    rw [show 2 * (j + 1) + 1 = 2 * j + 1 + 1 + 1 from by omega]
    simpa [wideBytes] using q
theorem low_at (d : Value) (cs : List Int32) (j : Nat) (h : j < cs.length) : (cs.map fun c => Value.int (lo8 c)).getD j d = .int (lo8 (cs.getD j 0)) := by
  simp [List.getD_eq_getElem?_getD, h]
/-- an array of N2 bytes vs codes the chars cs by the coder cd -/
def CodA (cs : List Int32) (cd N2 : Int32) (vs : List Value) : Prop := (cd = 0 ∧ N2 = Int32.ofNat cs.length ∧ vs = (cs.map fun c => Value.int (lo8 c)) ∧ ∀ c ∈ cs, ¬ 255 < c) ∨ (cd = 1 ∧ N2 = Int32.ofNat (2 * cs.length) ∧ vs = wideBytes cs ∧ ∃ c ∈ cs, 255 < c)
theorem CodA.cod {cs : List Int32} {cd N2 : Int32} {vs : List Value} {V : Cell} (h : CodA cs cd N2 vs) (hn : 2 * cs.length < 2 ^ 31) (hs : V.slots.size = N2.toNatClampNeg) (hv : RoadKit.Has V vs (.int 0)) : Cod cd cs.length (fun j => cs.getD j 0) V := by
  rcases h with ⟨rfl, rfl, rfl, h⟩ | ⟨rfl, rfl, rfl, c, hc, hw⟩
  · rw [n32 (by omega)] at hs
    exact Or.inl ⟨rfl, hs, fun j hj => ⟨by rw [hv j (by omega), low_at _ _ _ hj], by
      have e : cs.getD j 0 = cs[j] := by simp [List.getD_eq_getElem?_getD, hj]
      show ¬ 255 < cs.getD j 0
      rw [e]; exact h _ (List.getElem_mem _)⟩⟩
  · rw [n32 (by omega)] at hs
    obtain ⟨j, hj, rfl⟩ := List.getElem_of_mem hc
    exact Or.inr ⟨rfl, hs, fun j hj => ⟨by rw [hv _ (by omega), wide_lo _ _ _ hj], by rw [hv _ (by omega), wide_hi _ _ _ hj]⟩, j, hj, by
      have e : cs.getD j 0 = cs[j] := by simp [List.getD_eq_getElem?_getD, hj]
      show 255 < cs.getD j 0
      rw [e]; exact hw⟩
/-- an object of exactly java/lang/String, its two fields found: as the laws ask it -/
theorem strObj {Z U : State} {a0 : Array Value} {kI : Nat} (wi : (Jvm.Cond.instantiable ST kI).before a0 Z = true) (al : Z.vm.Alike U.vm) {x : Addr} {v0 c0 : Value} (E : RoadKit.Exa Z U.heap x ST) (V : RoadKit.Fld Z U.heap x ST "value" "[B" v0) (C : RoadKit.Fld Z U.heap x ST "coder" "B" c0) :
    ∃ (D : Cell) (fV fC : Field), Blank ST x D U ∧ Found ST "value" "[B" fV U ∧ Found ST "coder" "B" fC U ∧ D.slots[fV.slot]? = some v0 ∧ D.slots[fC.slot]? = some c0 ∧ RoadKit.slotOf Z ST "value" "[B" = fV.slot ∧ RoadKit.slotOf Z ST "coder" "B" = fC.slot := by
  obtain ⟨D, cfV, kV, iV, fV, hD, gV, stV, knV, obV, asV, slV⟩ := V
  obtain ⟨D', cfC, kC, iC, fC, hD', gC, stC, -, -, asC, slC⟩ := C
  cases hD.symm.trans hD'
  obtain ⟨D2, kD, e1, e2, e3, e4, e5⟩ := E
  cases hD.symm.trans e1
  obtain ⟨c2, k2, i1, i2, i3, -⟩ := Cond.instantiable_spec wi
  cases e2.symm.trans i1
  cases e3.symm.trans i2
  obtain ⟨kU, u1, u2⟩ := al.2.2 _ _ e3
  exact ⟨D, fV, fC, ⟨hD, ⟨knV, fun q hq => by rw [hq] at obV; cases obV⟩, by rw [al.findClass]; exact e2, kU, u1, by rw [u2]; exact i3, by rw [u2]; exact e5 i3⟩, ⟨SBG.found_only al ⟨cfV, kV, iV, gV⟩, stV⟩, ⟨SBG.found_only al ⟨cfC, kC, iC, gC⟩, stC⟩, slV, slC, by simp [RoadKit.slotOf, gV], by simp [RoadKit.slotOf, gC]⟩
theorem sta_is {Z U : State} (al : Z.vm.Alike U.vm) {C n d : String} {v : Value} (S : RoadKit.Sta Z U.heap C n d v) : StaticIs U C n d v := by
  obtain ⟨cfS, iS, kS, fS, st, cS, t1, t2, t3, t4, t5, t6, t7⟩ := S
  exact StaticIs.there (s := { Z with heap := U.heap }) ⟨cfS, iS, kS, fS, st, cS, t1, t2, t3, t4, t5, (fun q => by rw [q] at t6; cases t6), t7⟩ al rfl
/-- **length() OF SUCH A STRING** -/
theorem lenW {p : Program} {l : Launch} {e : Env} {R : Room} {s : State} {args : Array Value} {below : List Frame} {len W : Nat} {Z : State} {a0 : Array Value} {h : Heap} (hZ : Z.Warmed39 s.vm) (hw : ∀ d ∈ wordsLen, d.before a0 Z = true) {kI : Nat} (wi : (Jvm.Cond.instantiable ST kI).before a0 Z = true)
    {x t : Addr} {kb : ClassId} {cs : List Int32} {cd N2 z : Int32} {vs : List Value} (E : RoadKit.Exa Z h x ST) (V : RoadKit.Fld Z h x ST "value" "[B" (.ref t)) (C : RoadKit.Fld Z h x ST "coder" "B" (.int cd)) (K : RoadKit.Arv Z h t kb .byte N2 vs (.int 0)) (hc : CodA cs cd N2 vs) (hb : ∀ c ∈ cs, ¬ c < 0 ∧ ¬ (65535 : Int32) < c)
    (S : RoadKit.Sta Z h ST "COMPACT_STRINGS" "Z" (.int z)) (hz : ¬ z = 0) (l2 : cs.length ≤ 4000) (hfr : 2 ≤ R.frames) (hlo : W + 25 ≤ R.locals) :
    Back l R p e below s args (⟨"java/lang/String", "length", "()I"⟩ : MethodName) len W (fun P a => a = #[.ref x] ∧ P.U.heap = h ∧ P.cells + 0 ≤ R.cells ∧ P.slots + 0 ≤ R.slots)
      (fun P _ v B => ∃ L, (v = some (.int (Int32.ofNat cs.length)) ∧ L = [] ∧ B.U.heap = h) ∧ B.locs = P.locs ++ L ∧ B.cells = P.cells + 0 ∧ B.slots = P.slots + 0) := by
  obtain ⟨A, K1, K2, K3, K4, K5, K6⟩ := K
  have hcod := hc.cod (by omega) K3 K5
  intro m meth c P g ig mk a X hg hsize hdg hW hn hp'
  obtain ⟨rfl, rfl, r1, r2⟩ := hp'
  have al : Z.vm.Alike P.U.vm := hZ.alike.trans X.warmed.alike
  obtain ⟨D, fV, fC, hB, F1, F2, g1, g2, -, -⟩ := strObj wi al E V C
  have hx : Txt x t A cd cs.length (fun j => cs.getD j 0) P.U := ⟨⟨_, hB.2.2.1, D, hB.1, rfl, by cases q : D.vm <;> first | rfl | exact absurd q (hB.2.1.2 _)⟩, Has.of hB F1 g1, Has.of hB F2 g2, ⟨K1.1, State.isArrayOf_alike al K1.2.1, K1.2.2, by rcases hcod with ⟨-, q, -⟩ | ⟨-, q, -⟩ <;> omega⟩, hcod, fun j hj => by
    have e : cs.getD j 0 = cs[j] := by simp [List.getD_eq_getElem?_getD, hj]
    show ¬ cs.getD j 0 < 0 ∧ ¬ 65535 < cs.getD j 0
    rw [e]; exact hb _ (List.getElem_mem _)⟩
  obtain ⟨v, B, X', ⟨⟨hv, hh⟩, hl, hk, hs⟩, st⟩ := Len.pays x t A cd cs.length (fun j => cs.getD j 0) z (tabLen_of (movedLen hZ hw)) hfr hlo m meth c P g ig mk _ X hg hsize hdg hW hn ⟨r1, r2, rfl, hx, sta_is al S, hz⟩
  exact ⟨v, B, X', ⟨[], ⟨hv, rfl, hh⟩, hl, hk, hs⟩, st⟩
end StrChars.Road
namespace StrChars
open Jvm Sem ClassFile Op Lib Jvm.Stand Jvm.Free.XT Jvm.Free.ALB Jvm.Free.JM Jvm.Free
open Jvm.Lib.Cold (StaticIs)
theorem lo8_inj {x y : Int32} (h0 : ¬ x < 0) (h1 : ¬ 255 < x) (k0 : ¬ y < 0) (k1 : ¬ 255 < y) (h : lo8 x = lo8 y) : x = y := by
  rw [← lo8_mask h0 h1, ← lo8_mask k0 k1, h]
end StrChars
namespace StrChars.Road
open Jvm Sem ClassFile Op Lib Jvm.Stand Jvm.Free Jvm.Free.XT
open Jvm.Lib.Cold (StaticIs)
/-- what backV says of its String, as the contracts of this text ask it: cs's low bytes, coder 0 -/
theorem codOf {cs : List Int32} {n : Nat} (hn : cs.length = n) (hb : ∀ c ∈ cs, ¬ 255 < c) : CodA cs 0 (Int32.ofNat n) ((cs.map lo8).map Value.int) := Or.inl ⟨rfl, by rw [hn], by simp [List.map_map, Function.comp_def], hb⟩
end StrChars.Road
end Jvm.Pilot.@@N@@
namespace Jvm.Pilot.@@N@@
open Jvm Jvm.ClassFile Sem Op Lib Jvm.Free Jvm.Stand Jvm.LawKit Jvm.RoadKit Bundle Jvm.Pilot.@@N@@.Jvm.D
section OwnKit
variable {Z : State} {EL : List (String × Nat)} {a0 : Array Value} {n0 : Nat} {h0 : Heap} {ws : List Addr} {own : String} {bytes : ByteArray} {mx : Nat} {p : Program} {l : Launch} {e : Env} {R : Room} {s : State} {m : MethodId} {args : Array Value} {below : List Frame} {meth : Method} {c : Code} {sv : List Addr} {T : State} {h : Heap} {k n : Nat} {P : Outcome → State → Prop} {pc : Nat} {Ls : Array Slot} {st : List Value}
def OGo (tb : Tables) (e : Env) (below : List Frame) (P : Outcome → State → Prop) (T : State) (g : JFrame) : Prop := ∃ (t : State) (o : Outcome), Steps tb e below (T.setTop g) t ∧ t.status = .running ∧ Ended t below o ∧ P o t
theorem og {tb : Tables} {T' : State} {g g' : JFrame} (st : ∀ t, Steps tb e below (T'.setTop g') t → Steps tb e below (T.setTop g) t) (K : OGo tb e below P T' g') : OGo tb e below P T g := by
  obtain ⟨t, o, h1, h2⟩ := K
  exact ⟨t, o, st t h1, h2⟩
def OEnd (Z : State) (EL : List (String × Nat)) (n0 : Nat) (h0 : Heap) (ws : List Addr) (s : State) (Q : Option Value → Heap → Prop) (k n : Nat) (o : Outcome) (t : State) : Prop :=
  ∃ v L, o = .returned v ∧ (Fr n0 L ∧ Keep h0 t.heap ws ∧ Q v t.heap) ∧ CHr Z EL s.vm s.heap t.vm t.heap ∧ ReturnedEndW s o t L k n ∧ (EL = [] → FrameEnd s o t L k n)
def OIn (Z : State) (EL : List (String × Nat)) (a0 : Array Value) (n0 : Nat) (h0 : Heap) (ws : List Addr) (own : String) (s : State) (m : MethodId) (sv : List Addr) (vm0 : Vm) (locs : List Loc) (h : Heap) : Prop :=
  s.heap = h0 ∧ Old Z n0 h ∧ Keep h0 h ws ∧ (∃ k0, s.Since vm0 k0 ∧ k0 ≤ h.size) ∧ Z.Warmed39 vm0 ∧ vm0.findClass own = some m.cls ∧ EW Z a0 EL ∧ CHr Z EL s.vm s.heap vm0 h ∧ (EL = [] → vm0 = s.vm) ∧ Fr n0 locs ∧ ∀ x ∈ sv, n0 ≤ x ∧ x < h.size ∧ (x ∈ ws ∨ h0.size ≤ x) ∧ Safe Z EL vm0 h x
def OSt (Z : State) (EL : List (String × Nat)) (a0 : Array Value) (n0 : Nat) (h0 : Heap) (ws : List Addr) (own : String) (bytes : ByteArray) (mx : Nat) (p : Program) (l : Launch) (e : Env) (R : Room) (s : State) (m : MethodId) (args : Array Value) (below : List Frame) (meth : Method) (c : Code) (sv : List Addr) (T : State) (h : Heap) (k n : Nat) : Prop :=
  p.tables.exec = Jvm.exec ∧ c.code = bytes ∧ c.maxLocals = mx ∧ T.heap = h ∧ meth.locks = false ∧ ∃ (vm0 : Vm) (locs : List Loc), Stand p l e R (s.setVm vm0) m args below meth c T locs k n ∧ OIn Z EL a0 n0 h0 ws own s m sv vm0 locs h
theorem OSt.here (X : OSt Z EL a0 n0 h0 ws own bytes mx p l e R s m args below meth c sv T h k n) : At T m c below := by obtain ⟨-, -, -, -, -, _, _, Y, -⟩ := X; exact Y.here
theorem OSt.hx (X : OSt Z EL a0 n0 h0 ws own bytes mx p l e R s m args below meth c sv T h k n) : p.tables.exec = Jvm.exec := X.1
theorem OSt.hd (X : OSt Z EL a0 n0 h0 ws own bytes mx p l e R s m args below meth c sv T h k n) {r : Except ClassFile.DecodeError (ClassFile.Instr × Nat)} (hd : decode bytes pc = r) : decode c.code pc = r := hb X.2.1 hd
theorem OSt.old (X : OSt Z EL a0 n0 h0 ws own bytes mx p l e R s m args below meth c sv T h k n) : Old Z n0 h := by obtain ⟨-, -, -, -, -, _, _, -, -, I, -⟩ := X; exact I
theorem OSt.more (X : OSt Z EL a0 n0 h0 ws own bytes mx p l e R s m args below meth c sv T h k n) {k' n' : Nat} (hk : k ≤ k') (hn : n ≤ n') : OSt Z EL a0 n0 h0 ws own bytes mx p l e R s m args below meth c sv T h k' n' := by
  obtain ⟨a1, a2, a3, a4, a5, vm0, locs, Y, I⟩ := X
  exact ⟨a1, a2, a3, a4, a5, vm0, locs, Y.more hk hn, I⟩
theorem OIn.ext {vm0 : Vm} {locs : List Loc} {h' : Heap} (I : OIn Z EL a0 n0 h0 ws own s m sv vm0 locs h) (E : Ext h h') : OIn Z EL a0 n0 h0 ws own s m sv vm0 locs h' := by
  obtain ⟨b1, b2, b3, ⟨k0, b4, b4'⟩, b5, b6, b7, b8, b9, b10, b11⟩ := I
  exact ⟨b1, b2.ext E, b3.ext E, ⟨k0, b4, Nat.le_trans b4' E.1⟩, b5, b6, b7, b8.trans (CHr.ext E b8.1), b9, b10, fun x hx => let q := b11 x hx; ⟨q.1, Nat.lt_of_lt_of_le q.2.1 E.1, q.2.2.1, Safe.ext E b8.1 q.2.2.2⟩⟩
theorem OIn.new {vm0 : Vm} {locs : List Loc} {h' : Heap} (I : OIn Z EL a0 n0 h0 ws own s m sv vm0 locs h) (E : Ext h h') {b : Addr} (h1 : h.size ≤ b) (h2 : b < h'.size) : OIn Z EL a0 n0 h0 ws own s m (b :: sv) vm0 locs h' := by
  have I' := I.ext E
  obtain ⟨b1, b2, b3, -, -, -, -, b8, -⟩ := I
  obtain ⟨c1, c2, c3, c4, c5, c6, c7, c8, c9, c10, c11⟩ := I'
  refine ⟨c1, c2, c3, c4, c5, c6, c7, c8, c9, c10, fun x hx => ?_⟩
  rcases List.mem_cons.mp hx with rfl | hx
  · exact ⟨Nat.le_trans (Nat.le_of_eq b2.1.symm) (Nat.le_trans b2.2.1 h1), h2, Or.inr (Nat.le_trans b3.1 h1), Safe.ext E b8.1 (Safe.new h1)⟩
  · exact c11 x hx
theorem OIn.wr {vm0 : Vm} {locs : List Loc} {h' : Heap} (I : OIn Z EL a0 n0 h0 ws own s m sv vm0 locs h) {a : Addr} {sl : Nat} {v : Value} (ha : a ∈ sv) (W : Wr h h' a sl v) : OIn Z EL a0 n0 h0 ws own s m sv vm0 (locs ++ [⟨a, sl⟩]) h' := by
  obtain ⟨b1, b2, b3, ⟨k0, b4, b4'⟩, b5, b6, b7, b8, b9, b10, b11⟩ := I
  obtain ⟨q1, q2, q3, q4⟩ := b11 a ha
  refine ⟨b1, b2.wr W q1, b3.wr W q3, ⟨k0, b4, by rw [W.size]; exact b4'⟩, b5, b6, b7, b8.trans (CHr.wr W q4 b8.1), b9, b10.app fun y hy => ?_, fun x hx => let r := b11 x hx; ⟨r.1, by rw [W.size]; exact r.2.1, r.2.2.1, Safe.wr W q4 b8.1 r.2.2.2⟩⟩
  cases List.mem_singleton.mp hy; exact q1
theorem OIn.keep {vm0 : Vm} {locs : List Loc} {h' : Heap} (I : OIn Z EL a0 n0 h0 ws own s m sv vm0 locs h) {ws' : List Addr} {L : List Loc} (K : Keep h h' ws') (hs : ∀ x ∈ ws', x ∈ sv) (N : Fr n0 L) : OIn Z EL a0 n0 h0 ws own s m sv vm0 (locs ++ L) h' := by
  obtain ⟨b1, b2, b3, ⟨k0, b4, b4'⟩, b5, b6, b7, b8, b9, b10, b11⟩ := I
  have sf : ∀ x ∈ ws', Safe Z EL vm0 h x := fun x hx => (b11 x (hs x hx)).2.2.2
  exact ⟨b1, b2.keep K fun x hx => (b11 x (hs x hx)).1, b3.trans K fun x hx => (b11 x (hs x hx)).2.2.1, ⟨k0, b4, Nat.le_trans b4' K.1⟩, b5, b6, b7, b8.trans (CHr.keep K sf b8.1), b9, b10.app N, fun x hx => let r := b11 x hx; ⟨r.1, Nat.lt_of_lt_of_le r.2.1 K.1, r.2.2.1, Safe.keep K sf b8.1 r.2.2.2⟩⟩
theorem OIn.call {vm0 : Vm} {locs : List Loc} {h' : Heap} {vm1 : Vm} (I : OIn Z EL a0 n0 h0 ws own s m sv vm0 locs h) {ws' : List Addr} {L : List Loc} (K : Keep h h' ws') (hs : ∀ x ∈ ws', x ∈ sv) (N : Fr n0 L) (C : CHr Z EL vm0 h vm1 h') (S : (s.setVm vm0).Since vm1 h'.size) (hne : EL = [] → vm1 = vm0) : OIn Z EL a0 n0 h0 ws own s m sv vm1 (locs ++ L) h' := by
  obtain ⟨b1, b2, b3, ⟨k0, b4, b4'⟩, b5, b6, b7, b8, b9, b10, b11⟩ := I
  exact ⟨b1, b2.keep K fun x hx => (b11 x (hs x hx)).1, b3.trans K fun x hx => (b11 x (hs x hx)).2.2.1, ⟨_, b4.trans S (Nat.le_trans b4' K.1), Nat.le_refl _⟩, State.Warmed39.trans (t := s.setVm vm0) b5 S.1, by rw [S.1.alike.findClass]; exact b6, b7, b8.trans C, fun q => (hne q).trans (b9 q), b10.app N, fun x hx => let r := b11 x hx; ⟨r.1, Nat.lt_of_lt_of_le r.2.1 K.1, r.2.2.1, C.safe r.2.1 r.2.2.2⟩⟩
theorem og_aload (X : OSt Z EL a0 n0 h0 ws own bytes mx p l e R s m args below meth c sv T h k n) (pc' : Nat) {j : Nat} {v : Value} (hd : decode bytes pc = .ok (.aload j, 2)) (hl : Ls[j]? = some (.val (v))) (hv : v.isRef = true) (hq : pc' = pc + 2) (K : OGo p.tables e below P T (mkF m pc' Ls (v :: st))) : OGo p.tables e below P T (mkF m pc Ls st) := by
  subst hq
  exact og (fun _ q => XS.aload X.here X.hx rfl (X.hd hd) hl hv q) K
theorem og_aloadN (X : OSt Z EL a0 n0 h0 ws own bytes mx p l e R s m args below meth c sv T h k n) (pc' : Nat) {j : Fin 4} {v : Value} (hd : decode bytes pc = .ok (.aload_n j, 1)) (hl : Ls[j.val]? = some (.val (v))) (hv : v.isRef = true) (hq : pc' = pc + 1) (K : OGo p.tables e below P T (mkF m pc' Ls (v :: st))) : OGo p.tables e below P T (mkF m pc Ls st) := by
  subst hq
  exact og (fun _ q => XS.aloadN X.here X.hx rfl (X.hd hd) hl hv q) K
theorem og_iload (X : OSt Z EL a0 n0 h0 ws own bytes mx p l e R s m args below meth c sv T h k n) (pc' : Nat) {j : Nat} {v : Int32} (hd : decode bytes pc = .ok (.iload j, 2)) (hl : Ls[j]? = some (.val (.int v))) (hq : pc' = pc + 2) (K : OGo p.tables e below P T (mkF m pc' Ls (.int v :: st))) : OGo p.tables e below P T (mkF m pc Ls st) := by
  subst hq
  exact og (fun _ q => XS.iload X.here X.hx rfl (X.hd hd) hl q) K
theorem og_iloadN (X : OSt Z EL a0 n0 h0 ws own bytes mx p l e R s m args below meth c sv T h k n) (pc' : Nat) {j : Fin 4} {v : Int32} (hd : decode bytes pc = .ok (.iload_n j, 1)) (hl : Ls[j.val]? = some (.val (.int v))) (hq : pc' = pc + 1) (K : OGo p.tables e below P T (mkF m pc' Ls (.int v :: st))) : OGo p.tables e below P T (mkF m pc Ls st) := by
  subst hq
  exact og (fun _ q => XS.iloadN X.here X.hx rfl (X.hd hd) hl q) K
theorem og_iconst (X : OSt Z EL a0 n0 h0 ws own bytes mx p l e R s m args below meth c sv T h k n) (pc' : Nat) (v : Int32) {i : Int} (hd : decode bytes pc = .ok (.iconst i, 1)) (hv : Int32.ofInt i = v) (hq : pc' = pc + 1) (K : OGo p.tables e below P T (mkF m pc' Ls (.int v :: st))) : OGo p.tables e below P T (mkF m pc Ls st) := by
  subst hq hv
  exact og (fun _ q => XS.iconst X.here X.hx rfl (X.hd hd) q) K
theorem og_bipush (X : OSt Z EL a0 n0 h0 ws own bytes mx p l e R s m args below meth c sv T h k n) (pc' : Nat) (v : Int32) {i : Int} (hd : decode bytes pc = .ok (.bipush i, 2)) (hv : (Int8.ofInt i).toInt32 = v) (hq : pc' = pc + 2) (K : OGo p.tables e below P T (mkF m pc' Ls (.int v :: st))) : OGo p.tables e below P T (mkF m pc Ls st) := by
  subst hq hv
  exact og (fun _ q => XS.bipush X.here X.hx rfl (X.hd hd) q) K
theorem og_sipush (X : OSt Z EL a0 n0 h0 ws own bytes mx p l e R s m args below meth c sv T h k n) (pc' : Nat) (v : Int32) {i : Int} (hd : decode bytes pc = .ok (.sipush i, 3)) (hv : (Int16.ofInt i).toInt32 = v) (hq : pc' = pc + 3) (K : OGo p.tables e below P T (mkF m pc' Ls (.int v :: st))) : OGo p.tables e below P T (mkF m pc Ls st) := by
  subst hq hv
  exact og (fun _ q => XS.sipush X.here X.hx rfl (X.hd hd) q) K
theorem og_aconstNull (X : OSt Z EL a0 n0 h0 ws own bytes mx p l e R s m args below meth c sv T h k n) (pc' : Nat)  (hd : decode bytes pc = .ok (.aconst_null, 1))  (hq : pc' = pc + 1) (K : OGo p.tables e below P T (mkF m pc' Ls (.null :: st))) : OGo p.tables e below P T (mkF m pc Ls st) := by
  subst hq
  exact og (fun _ q => XS.aconstNull X.here X.hx rfl (X.hd hd) q) K
theorem og_iadd (X : OSt Z EL a0 n0 h0 ws own bytes mx p l e R s m args below meth c sv T h k n) (pc' : Nat) {x y : Int32} (hd : decode bytes pc = .ok (.iadd, 1))  (hq : pc' = pc + 1) (K : OGo p.tables e below P T (mkF m pc' Ls (.int (x + y) :: st))) : OGo p.tables e below P T (mkF m pc Ls (.int y :: .int x :: st)) := by
  subst hq
  exact og (fun _ q => XS.iadd X.here X.hx rfl (X.hd hd) rfl q) K
theorem og_isub (X : OSt Z EL a0 n0 h0 ws own bytes mx p l e R s m args below meth c sv T h k n) (pc' : Nat) {x y : Int32} (hd : decode bytes pc = .ok (.isub, 1))  (hq : pc' = pc + 1) (K : OGo p.tables e below P T (mkF m pc' Ls (.int (x - y) :: st))) : OGo p.tables e below P T (mkF m pc Ls (.int y :: .int x :: st)) := by
  subst hq
  exact og (fun _ q => XS.isub X.here X.hx rfl (X.hd hd) rfl q) K
theorem og_iand (X : OSt Z EL a0 n0 h0 ws own bytes mx p l e R s m args below meth c sv T h k n) (pc' : Nat) {x y : Int32} (hd : decode bytes pc = .ok (.iand, 1))  (hq : pc' = pc + 1) (K : OGo p.tables e below P T (mkF m pc' Ls (.int (x &&& y) :: st))) : OGo p.tables e below P T (mkF m pc Ls (.int y :: .int x :: st)) := by
  subst hq
  exact og (fun _ q => XS.iand X.here X.hx rfl (X.hd hd) rfl q) K
theorem og_iushr (X : OSt Z EL a0 n0 h0 ws own bytes mx p l e R s m args below meth c sv T h k n) (pc' : Nat) {x y : Int32} (hd : decode bytes pc = .ok (.iushr, 1))  (hq : pc' = pc + 1) (K : OGo p.tables e below P T (mkF m pc' Ls (.int (Jvm.Free.XT.ushr x y) :: st))) : OGo p.tables e below P T (mkF m pc Ls (.int y :: .int x :: st)) := by
  subst hq
  exact og (fun _ q => XT.iushr X.here X.hx rfl (X.hd hd) rfl q) K
theorem og_i2b (X : OSt Z EL a0 n0 h0 ws own bytes mx p l e R s m args below meth c sv T h k n) (pc' : Nat) {x : Int32} (hd : decode bytes pc = .ok (.i2b, 1))  (hq : pc' = pc + 1) (K : OGo p.tables e below P T (mkF m pc' Ls (.int x.toInt8.toInt32 :: st))) : OGo p.tables e below P T (mkF m pc Ls (.int x :: st)) := by
  subst hq
  exact og (fun _ q => XT.i2b X.here X.hx rfl (X.hd hd) rfl q) K
theorem og_i2c8 (X : OSt Z EL a0 n0 h0 ws own bytes mx p l e R s m args below meth c sv T h k n) (pc' : Nat) {x : Int32} (hd : decode bytes pc = .ok (.i2c, 1)) (hq : pc' = pc + 1) (K : OGo p.tables e below P T (mkF m pc' Ls (.int (x &&& 255) :: st))) : OGo p.tables e below P T (mkF m pc Ls (.int (x &&& 255) :: st)) := by
  subst hq
  exact og (fun _ q => XT.i2c X.here X.hx rfl (X.hd hd) rfl (by rw [i2c_mask]; exact q)) K
theorem og_dup (X : OSt Z EL a0 n0 h0 ws own bytes mx p l e R s m args below meth c sv T h k n) (pc' : Nat) {x : Value} (hd : decode bytes pc = .ok (.dup, 1)) (hc : x.category = 1) (hq : pc' = pc + 1) (K : OGo p.tables e below P T (mkF m pc' Ls (x :: x :: st))) : OGo p.tables e below P T (mkF m pc Ls (x :: st)) := by
  subst hq
  exact og (fun _ q => XS.dup X.here X.hx rfl (X.hd hd) rfl hc q) K
theorem og_pop (X : OSt Z EL a0 n0 h0 ws own bytes mx p l e R s m args below meth c sv T h k n) (pc' : Nat) {x : Value} (hd : decode bytes pc = .ok (.pop, 1)) (hc : x.category = 1) (hq : pc' = pc + 1) (K : OGo p.tables e below P T (mkF m pc' Ls st)) : OGo p.tables e below P T (mkF m pc Ls (x :: st)) := by
  subst hq
  exact og (fun _ q => XT.pop X.here X.hx rfl (X.hd hd) rfl hc q) K
theorem og_istore (X : OSt Z EL a0 n0 h0 ws own bytes mx p l e R s m args below meth c sv T h k n) (pc' : Nat) (l' : Array Slot) {j : Nat} {x : Int32} (hd : decode bytes pc = .ok (.istore j, 2)) (hl : storeLocals Ls j (.int x) = some l') (hq : pc' = pc + 2) (K : OGo p.tables e below P T (mkF m pc' l' st)) : OGo p.tables e below P T (mkF m pc Ls (.int x :: st)) := by
  subst hq
  exact og (fun _ q => XS.istore X.here X.hx rfl (X.hd hd) rfl hl q) K
theorem og_istoreN (X : OSt Z EL a0 n0 h0 ws own bytes mx p l e R s m args below meth c sv T h k n) (pc' : Nat) (l' : Array Slot) {j : Fin 4} {x : Int32} (hd : decode bytes pc = .ok (.istore_n j, 1)) (hl : storeLocals Ls j.val (.int x) = some l') (hq : pc' = pc + 1) (K : OGo p.tables e below P T (mkF m pc' l' st)) : OGo p.tables e below P T (mkF m pc Ls (.int x :: st)) := by
  subst hq
  exact og (fun _ q => XS.istoreN X.here X.hx rfl (X.hd hd) rfl hl q) K
theorem og_astore (X : OSt Z EL a0 n0 h0 ws own bytes mx p l e R s m args below meth c sv T h k n) (pc' : Nat) (l' : Array Slot) {j : Nat} {x : Value} (hd : decode bytes pc = .ok (.astore j, 2)) (hv : x.isRef = true) (hl : storeLocals Ls j x = some l') (hq : pc' = pc + 2) (K : OGo p.tables e below P T (mkF m pc' l' st)) : OGo p.tables e below P T (mkF m pc Ls (x :: st)) := by
  subst hq
  exact og (fun _ q => XS.astore X.here X.hx rfl (X.hd hd) rfl hv hl q) K
theorem og_astoreN (X : OSt Z EL a0 n0 h0 ws own bytes mx p l e R s m args below meth c sv T h k n) (pc' : Nat) (l' : Array Slot) {j : Fin 4} {x : Value} (hd : decode bytes pc = .ok (.astore_n j, 1)) (hv : x.isRef = true) (hl : storeLocals Ls j.val x = some l') (hq : pc' = pc + 1) (K : OGo p.tables e below P T (mkF m pc' l' st)) : OGo p.tables e below P T (mkF m pc Ls (x :: st)) := by
  subst hq
  exact og (fun _ q => XS.astoreN X.here X.hx rfl (X.hd hd) rfl hv hl q) K
theorem og_iinc (X : OSt Z EL a0 n0 h0 ws own bytes mx p l e R s m args below meth c sv T h k n) (pc' : Nat) (l' : Array Slot) {j : Nat} {i : Int} {x : Int32} (hd : decode bytes pc = .ok (.iinc j i, 3)) (hl : Ls[j]? = some (.val (.int x))) (hl' : storeLocals Ls j (.int (x + Int32.ofInt i)) = some l') (hq : pc' = pc + 3) (K : OGo p.tables e below P T (mkF m pc' l' st)) : OGo p.tables e below P T (mkF m pc Ls st) := by
  subst hq
  exact og (fun _ q => XS.iinc X.here X.hx rfl (X.hd hd) hl hl' q) K
theorem og_goto (X : OSt Z EL a0 n0 h0 ws own bytes mx p l e R s m args below meth c sv T h k n) (pc' : Nat)  {o : Int} (hd : decode bytes pc = .ok (.goto o, 3))  (ho : 0 ≤ (pc : Int) + o) (hp : ((pc : Int) + o).toNat = pc') (K : OGo p.tables e below P T (mkF m pc' Ls st)) : OGo p.tables e below P T (mkF m pc Ls st) := og (fun _ q => XS.goto X.here X.hx rfl rfl (X.hd hd) ho hp q) K
theorem og_ifY (X : OSt Z EL a0 n0 h0 ws own bytes mx p l e R s m args below meth c sv T h k n) (pc' : Nat) {cd : ClassFile.Cond} {x : Int32} {o : Int} (hd : decode bytes pc = .ok (.ifCond cd o, 3)) (hc : ifCond.holds cd x = true) (ho : 0 ≤ (pc : Int) + o) (hp : ((pc : Int) + o).toNat = pc') (K : OGo p.tables e below P T (mkF m pc' Ls st)) : OGo p.tables e below P T (mkF m pc Ls (.int x :: st)) := og (fun _ q => XS.ifYes X.here X.hx rfl rfl (X.hd hd) rfl hc ho hp q) K
theorem og_icmpY (X : OSt Z EL a0 n0 h0 ws own bytes mx p l e R s m args below meth c sv T h k n) (pc' : Nat) {cd : ClassFile.Cond} {x y : Int32} {o : Int} (hd : decode bytes pc = .ok (.if_icmp cd o, 3)) (hc : if_icmp.holds cd x y = true) (ho : 0 ≤ (pc : Int) + o) (hp : ((pc : Int) + o).toNat = pc') (K : OGo p.tables e below P T (mkF m pc' Ls st)) : OGo p.tables e below P T (mkF m pc Ls (.int y :: .int x :: st)) := og (fun _ q => XS.icmpYes X.here X.hx rfl rfl (X.hd hd) rfl hc ho hp q) K
theorem og_ifN (X : OSt Z EL a0 n0 h0 ws own bytes mx p l e R s m args below meth c sv T h k n) (pc' : Nat) {cd : ClassFile.Cond} {o : Int} {x : Int32} (hd : decode bytes pc = .ok (.ifCond cd o, 3)) (hc : ifCond.holds cd x = false) (hq : pc' = pc + 3) (K : OGo p.tables e below P T (mkF m pc' Ls st)) : OGo p.tables e below P T (mkF m pc Ls (.int x :: st)) := by
  subst hq
  exact og (fun _ q => XS.ifNo X.here X.hx rfl (X.hd hd) rfl hc q) K
theorem og_icmpN (X : OSt Z EL a0 n0 h0 ws own bytes mx p l e R s m args below meth c sv T h k n) (pc' : Nat) {cd : ClassFile.Cond} {o : Int} {x y : Int32} (hd : decode bytes pc = .ok (.if_icmp cd o, 3)) (hc : if_icmp.holds cd x y = false) (hq : pc' = pc + 3) (K : OGo p.tables e below P T (mkF m pc' Ls st)) : OGo p.tables e below P T (mkF m pc Ls (.int y :: .int x :: st)) := by
  subst hq
  exact og (fun _ q => XS.icmpNo X.here X.hx rfl (X.hd hd) rfl hc q) K
theorem own_u16 (u : UInt16) : (u.toUInt32.toInt32).toInt = u.toNat := by
  have hu := u.toNat_lt
  show ((u.toUInt32).toBitVec).toInt = _
  have hm : (u.toUInt32).toBitVec.toNat = u.toNat := by
    show (u.toUInt32).toNat = _
    simp
  rw [BitVec.toInt_eq_toNat_cond, hm, if_pos (by omega)]
theorem own_lat8 (x : Int32) : ¬ (x &&& 255) < 0 ∧ ¬ (255 : Int32) < (x &&& 255) := by
  have t : ∀ k : Fin 256, ¬ (Int32.ofNat k.val) < 0 ∧ ¬ (255 : Int32) < (Int32.ofNat k.val) := by decide +kernel
  have h : (x &&& 255).toBitVec.toNat < 256 := by
    simp only [Int32.toBitVec_and, BitVec.toNat_and]
    exact Nat.lt_succ_of_le Nat.and_le_right
  have e : (x &&& 255) = Int32.ofNat (x &&& 255).toBitVec.toNat := by
    apply Int32.toBitVec_inj.mp
    show _ = BitVec.ofNat 32 _
    rw [BitVec.ofNat_toNat]; simp
  rw [e]
  exact t ⟨_, h⟩
theorem own_up8 {c : Int32} (h : ¬ (255 : Int32) < c) : ¬ (65535 : Int32) < c := fun q => h (by rw [Int32.lt_iff_toInt_lt] at q ⊢; have e1 : (65535 : Int32).toInt = 65535 := rfl; have e2 : (255 : Int32).toInt = 255 := rfl; omega)
def own_stv (Z : State) (C n d : String) : Value := ((Term.static C n d).eval #[] Z none [] Z).getD .null
def own_sti (Z : State) (C n d : String) : Int32 := match (Term.static C n d).eval #[] Z none [] Z with | some (.int z) => z | _ => 0
theorem own_stv_of {Z : State} {C n d : String} {v : Value} {a : Array Value} (h : (Term.static C n d).eval a Z none [] Z = some v) : own_stv Z C n d = v := by
  have q : (Term.static C n d).eval #[] Z none [] Z = some v := h
  simp [own_stv, q]
theorem own_sti_of {Z : State} {C n d : String} {v : Int32} {a : Array Value} (h : (Term.static C n d).eval a Z none [] Z = some (.int v)) : own_sti Z C n d = v := by
  have q : (Term.static C n d).eval #[] Z none [] Z = some (.int v) := h
  simp [own_sti, q]
theorem own_l0 {P : Int32 → Prop} : ∀ c ∈ ([] : List Int32), P c := fun _ q => nomatch q
theorem own_lS {P : Int32 → Prop} {y : Int32} {M : List Int32} (q : P y) (r : ∀ x ∈ M, P x) : ∀ x ∈ y :: M, P x := fun x z => (List.mem_cons.mp z).elim (fun u => u ▸ q) (r x)
def own_N (x : Int32) : Nat := x.toBitVec.toNat
theorem own_N_inj {x y : Int32} : own_N x = own_N y ↔ x = y := ⟨fun h => Int32.toBitVec_inj.mp (BitVec.eq_of_toNat_eq h), fun h => by rw [h]⟩
theorem own_N_and {x m : Int32} (k : Nat) (hm : m.toBitVec.toNat = 2 ^ k - 1) : own_N (x &&& m) = own_N x % 2 ^ k := by
  unfold own_N; rw [Int32.toBitVec_and, BitVec.toNat_and, hm, Nat.and_two_pow_sub_one_eq_mod]
theorem own_N3 (x : Int32) : own_N (x &&& 3) = own_N x % 4 := own_N_and 2 rfl
theorem own_nch {c : Int32} (h0 : ¬ c < 0) (h1 : ¬ (65535 : Int32) < c) : nar .char c = c := by
  rw [Int32.lt_iff_toInt_lt] at h0 h1
  have e0 : (0 : Int32).toInt = 0 := rfl
  have e1 : (65535 : Int32).toInt = 65535 := rfl
  rw [e0] at h0; rw [e1] at h1
  have hn : c.toUInt32.toNat = c.toInt.toNat := by
    have : c.toInt = (c.toBitVec).toInt := rfl
    have h2 : (c.toBitVec).toInt = if 2 * c.toBitVec.toNat < 2 ^ 32 then (c.toBitVec.toNat : Int) else (c.toBitVec.toNat : Int) - 2 ^ 32 := BitVec.toInt_eq_toNat_cond _
    have h3 : c.toUInt32.toNat = c.toBitVec.toNat := rfl
    have := c.toBitVec.isLt
    split at h2 <;> omega
  apply Int32.toInt_inj.mp
  show (c.toUInt32.toUInt16.toUInt32.toInt32).toInt = _
  rw [own_u16]
  show ((c.toUInt32.toUInt16.toNat : Nat) : Int) = _
  have h4 : c.toUInt32.toUInt16.toNat = c.toUInt32.toNat % 65536 := by simp
  rw [h4, hn]; omega
theorem own_and3 (y : Int32) : y &&& 3 = 0 ∨ y &&& 3 = 1 ∨ y &&& 3 = 2 ∨ y &&& 3 = 3 := by
  have c0 : own_N 0 = 0 := rfl
  have c1 : own_N 1 = 1 := rfl
  have c2 : own_N 2 = 2 := rfl
  have c3 : own_N 3 = 3 := rfl
  simp only [← own_N_inj, own_N3, c0, c1, c2, c3]
  omega
theorem own_new (X : OSt Z EL a0 n0 h0 ws own bytes mx p l e R s m args below meth c sv T h k n) (pc' : Nat) {C : String} {index z : Nat} (hd : decode bytes pc = .ok (.new index, 3)) (w : (Cond.classLink own index C).before a0 Z = true) (wi : (Cond.instantiable C z).before a0 Z = true) (wz : (Cond.initialized C).before a0 Z = true) (hc : k + 1 ≤ R.cells) (hl : n + z ≤ R.slots) (hq : pc' = pc + 3)
    (K : ∀ (T' : State) (h' : Heap) (b : Addr), OSt Z EL a0 n0 h0 ws own bytes mx p l e R s m args below meth c (b :: sv) T' h' (k + 1) (n + z) → Keep h h' [] → h.size ≤ b → b < h'.size → Exa Z h' b C → (∀ {O nm d : String} {ty : FieldType}, Laid Z a0 C O nm d → parseFieldDescriptor d = some ty → Fld Z h' b O nm d (defaultValue ty)) → OGo p.tables e below P T' (mkF m pc' Ls (.ref b :: st))) : OGo p.tables e below P T (mkF m pc Ls st) := by
  subst hq
  obtain ⟨hx, hby, hml, eT, hlk, vm0, locs, Y, I⟩ := X
  obtain ⟨T', h', Y', e', E, A, D, -, stp⟩ := newO Y hx (show Z.Warmed39 (s.setVm vm0).vm from I.2.2.2.2.1) (show (s.setVm vm0).vm.findClass own = _ from I.2.2.2.2.2.1) w wi wz eT (g := mkF m pc Ls st) rfl (hb hby hd) hc hl
  exact og stp (K T' h' h.size ⟨hx, hby, hml, e', hlk, vm0, locs, Y', I.new E (Nat.le_refl _) A.lt⟩ ((Keep.refl _ _).ext E) (Nat.le_refl _) A.lt A D)
theorem own_arr (X : OSt Z EL a0 n0 h0 ws own bytes mx p l e R s m args below meth c sv T h k n) (pc' : Nat) {aty : ArrayType} {z : Int32} (hd : decode bytes pc = .ok (.newarray aty, 2)) (w : (Cond.arrayClass (newarray.typeOf aty)).before a0 Z = true) (hz : ¬ z < 0) {cap : Nat} (hcap : z.toNatClampNeg = cap) (hbig : cap * 8 ≤ 536870912) (hc : k + 1 ≤ R.cells) (hl : n + cap ≤ R.slots) (hq : pc' = pc + 2)
    (K : ∀ (T' : State) (h' : Heap) (b : Addr) (kb : ClassId), OSt Z EL a0 n0 h0 ws own bytes mx p l e R s m args below meth c (b :: sv) T' h' (k + 1) (n + cap) → Keep h h' [] → h.size ≤ b → b < h'.size → Arv Z h' b kb (newarray.typeOf aty) z (List.replicate cap (defaultValue (newarray.typeOf aty))) (defaultValue (newarray.typeOf aty)) → OGo p.tables e below P T' (mkF m pc' Ls (.ref b :: st))) : OGo p.tables e below P T (mkF m pc Ls (.int z :: st)) := by
  subst hq
  obtain ⟨hx, hby, hml, eT, hlk, vm0, locs, Y, I⟩ := X
  obtain ⟨T', h', kb, Y', e', E, A, stp⟩ := newP Y hx (show Z.Warmed39 (s.setVm vm0).vm from I.2.2.2.2.1) w eT (g := mkF m pc Ls (.int z :: st)) rfl (hb hby hd) rfl hz (cap := cap) (Nat.le_of_eq hcap) hbig hc hl
  have V := (Arv.new A hz).pad (pad_rep [] (defaultValue (newarray.typeOf aty)) cap)
  rw [List.nil_append] at V
  exact og stp (K T' h' h.size kb ⟨hx, hby, hml, e', hlk, vm0, locs, Y', I.new E (Nat.le_refl _) A.lt⟩ ((Keep.refl _ _).ext E) (Nat.le_refl _) A.lt V)
theorem own_put (X : OSt Z EL a0 n0 h0 ws own bytes mx p l e R s m args below meth c sv T h k n) (pc' : Nat) {R0 O nm d host C : String} {index kk : Nat} {ty : FieldType} {a : Addr} {v old : Value} (hd : decode bytes pc = .ok (.putfield index, 3)) (w : (Cond.fieldLink own index R0 nm d).before a0 Z = true ∨ (Cond.fieldLinkNest own index R0 nm d host).before a0 Z = true) (via : Via Z R0 O nm d)
    (F : Fld Z h a O nm d old) (E : Exa Z h a C) (L : (Cond.lays C O nm d).before a0 Z = true ∨ ((Cond.laysFinal C O nm d).before a0 Z = true ∧ own = O ∧ meth.name = "<init>")) (wi : (Cond.instantiable C kk).before a0 Z = true) (hty : parseFieldDescriptor d = some ty) (hn : narrow ty v = v) (hf : fits ty v = true) (ha : a ∈ sv) (hq : pc' = pc + 3)
    (K : ∀ (T' : State) (h' : Heap), OSt Z EL a0 n0 h0 ws own bytes mx p l e R s m args below meth c sv T' h' k n → Wr h h' a (RoadKit.slotOf Z O nm d) v → Keep h h' [a] → Fld Z h' a O nm d v → OGo p.tables e below P T' (mkF m pc' Ls st)) : OGo p.tables e below P T (mkF m pc Ls (v :: .ref a :: st)) := by
  subst hq
  obtain ⟨hx, hby, hml, eT, hlk, vm0, locs, Y, I⟩ := X
  obtain ⟨T', h', Y', e', W, stp⟩ := putF Y hx (show Z.Warmed39 (s.setVm vm0).vm from I.2.2.2.2.1) (show (s.setVm vm0).vm.findClass own = _ from I.2.2.2.2.2.1) w via eT F E L wi hty hn hf (g := mkF m pc Ls (v :: .ref a :: st)) rfl rfl (hb hby hd)
  exact og stp (K T' h' ⟨hx, hby, hml, e', hlk, vm0, _, Y', I.wr ha W⟩ W (Keep.of_wr W) (F.same W))
theorem own_get (X : OSt Z EL a0 n0 h0 ws own bytes mx p l e R s m args below meth c sv T h k n) (pc' : Nat) {R0 O nm d host : String} {index : Nat} {a : Addr} {v : Value} (hd : decode bytes pc = .ok (.getfield index, 3)) (w : (Cond.fieldLink own index R0 nm d).before a0 Z = true ∨ (Cond.fieldLinkNest own index R0 nm d host).before a0 Z = true) (via : Via Z R0 O nm d) (F : Fld Z h a O nm d v) (hq : pc' = pc + 3)
    (K : ∀ (T' : State), OSt Z EL a0 n0 h0 ws own bytes mx p l e R s m args below meth c sv T' h k n → OGo p.tables e below P T' (mkF m pc' Ls (v :: st))) : OGo p.tables e below P T (mkF m pc Ls (.ref a :: st)) := by
  subst hq
  obtain ⟨hx, hby, hml, eT, hlk, vm0, locs, Y, I⟩ := X
  obtain ⟨T', Y', e', stp⟩ := getF Y hx (show Z.Warmed39 (s.setVm vm0).vm from I.2.2.2.2.1) (show (s.setVm vm0).vm.findClass own = _ from I.2.2.2.2.2.1) w via eT F (g := mkF m pc Ls (.ref a :: st)) rfl rfl (hb hby hd)
  exact og stp (K T' ⟨hx, hby, hml, e', hlk, vm0, _, Y', I⟩)
theorem own_getS (X : OSt Z EL a0 n0 h0 ws own bytes mx p l e R s m args below meth c sv T h k n) (pc' : Nat) {R0 O nm d host : String} {index : Nat} {v : Value} (hd : decode bytes pc = .ok (.getstatic index, 3)) (w : (Cond.fieldLink own index R0 nm d).before a0 Z = true ∨ (Cond.fieldLinkNest own index R0 nm d host).before a0 Z = true) (via : Via Z R0 O nm d) (F : Sta Z Z.heap O nm d v) (hq : pc' = pc + 3)
    (K : ∀ (T' : State), OSt Z EL a0 n0 h0 ws own bytes mx p l e R s m args below meth c sv T' h k n → OGo p.tables e below P T' (mkF m pc' Ls (v :: st))) : OGo p.tables e below P T (mkF m pc Ls st) := by
  subst hq
  have O1 := X.old
  obtain ⟨hx, hby, hml, eT, hlk, vm0, locs, Y, I⟩ := X
  obtain ⟨T', Y', e', stp⟩ := getS2 Y hx (show Z.Warmed39 (s.setVm vm0).vm from I.2.2.2.2.1) (show (s.setVm vm0).vm.findClass own = _ from I.2.2.2.2.2.1) w via eT (F.ext O1.2) (g := mkF m pc Ls st) rfl (hb hby hd)
  exact og stp (K T' ⟨hx, hby, hml, e', hlk, vm0, _, Y', I⟩)
theorem own_obj0 (X : OSt Z EL a0 n0 h0 ws own bytes mx p l e R s m args below meth c sv T h k n) (pc' : Nat) {index : Nat} {a : Addr} (hd : decode bytes pc = .ok (.invokespecial index, 3)) (w1 : (Cond.methodLink own index Lib.objectInit).before a0 Z = true) (w2 : (Cond.instanceMethod Lib.objectInit).before a0 Z = true) (w3 : (Cond.code Lib.objectInit ⟨#[0xb1]⟩ 1 none).before a0 Z = true) (hsz : Ls.size = mx) {W : Nat} (hW : (st.map fun v => v.category).sum = W) (hf : 1 ≤ R.frames) (hl : W + 12 ≤ R.locals) (hq : pc' = pc + 3)
    (K : ∀ (T' : State), OSt Z EL a0 n0 h0 ws own bytes mx p l e R s m args below meth c sv T' h k n → OGo p.tables e below P T' (mkF m pc' Ls st)) : OGo p.tables e below P T (mkF m pc Ls (.ref a :: st)) := by
  subst hq
  obtain ⟨hx, hby, hml, eT, hlk, vm0, locs, Y, I⟩ := X
  obtain ⟨T', Y', e', stp⟩ := initO Y hx (show Z.Warmed39 (s.setVm vm0).vm from I.2.2.2.2.1) (show (s.setVm vm0).vm.findClass own = _ from I.2.2.2.2.2.1) w1 w2 w3 eT (g := mkF m pc Ls (.ref a :: st)) rfl (by rw [hml]; exact hsz) rfl (hb hby hd) hf (W := W) (by show 2 * 0 + _ ≤ _; rw [hW]; omega) hl
  exact og stp (K T' ⟨hx, hby, hml, e', hlk, vm0, _, Y', I⟩)
theorem own_inb {cl : Cell} {z j : Int32} (S : cl.slots.size = z.toNatClampNeg) (h1 : ¬ j < 0) (h2 : j < z) : ¬ (j < 0 ∨ cl.slots.size ≤ j.toNatClampNeg) := inb_of S ⟨h1, h2⟩
theorem own_stC (X : OSt Z EL a0 n0 h0 ws own bytes mx p l e R s m args below meth c sv T h k n) (pc' : Nat) {a : Addr} {kb : ClassId} {z j x x' : Int32} {vs : List Value} {dv : Value} (hd : decode bytes pc = .ok (.castore, 1)) (A : Arv Z h a kb .char z vs dv) (hx' : nar .char x = x') (h1 : ¬ j < 0) (h2 : j < z) {i : Nat} (hi : j.toNatClampNeg = i) (hl : i < vs.length) (ha : a ∈ sv) (hq : pc' = pc + 1)
    (K : ∀ (T' : State) (h' : Heap), OSt Z EL a0 n0 h0 ws own bytes mx p l e R s m args below meth c sv T' h' k n → Wr h h' a j.toNatClampNeg (.int x') → Keep h h' [a] → Arv Z h' a kb .char z (vs.set i (.int x')) dv → OGo p.tables e below P T' (mkF m pc' Ls st)) : OGo p.tables e below P T (mkF m pc Ls (.int x :: .int j :: .ref a :: st)) := by
  subst hq hx'
  obtain ⟨hx, hby, hml, eT, hlk, vm0, locs, Y, I⟩ := X
  obtain ⟨cl, Ar, q, S, N, Hs, G⟩ := A
  obtain ⟨T', h', Y', e', W, stp⟩ := stC Y hx (show Z.Warmed39 (s.setVm vm0).vm from I.2.2.2.2.1) eT Ar (j := j) (x := x) (own_inb S h1 h2) (g := mkF m pc Ls (.int x :: .int j :: .ref a :: st)) rfl rfl (hb hby hd)
  exact og stp (K T' h' ⟨hx, hby, hml, e', hlk, vm0, _, Y', I.wr ha W⟩ W (Keep.of_wr W) (Arv.set Ar q S N Hs G (fits_nar_char _) W i hi hl))
theorem own_len (X : OSt Z EL a0 n0 h0 ws own bytes mx p l e R s m args below meth c sv T h k n) (pc' : Nat) {a : Addr} {kb : ClassId} {ty : FieldType} {z : Int32} {vs : List Value} {dv : Value} (hd : decode bytes pc = .ok (.arraylength, 1)) (A : Arv Z h a kb ty z vs dv) (hq : pc' = pc + 1) (K : OGo p.tables e below P T (mkF m pc' Ls (.int z :: st))) : OGo p.tables e below P T (mkF m pc Ls (.ref a :: st)) := by
  subst hq
  obtain ⟨hx, hby, hml, eT, hlk, vm0, locs, Y, I⟩ := X
  obtain ⟨cl, Ar, q, S, N, Hs, G⟩ := A
  refine og (fun _ r => Y.arraylength hx (by rw [eT]; exact Ar.1) (State.isArrayOf_alike (show Z.Warmed39 (s.setVm vm0).vm from I.2.2.2.2.1).alike Ar.2.1) (g := mkF m pc Ls (.ref a :: st)) rfl rfl (hb hby hd) _ r) ?_
  rw [len_of S N]; exact K
theorem own_ldB (X : OSt Z EL a0 n0 h0 ws own bytes mx p l e R s m args below meth c sv T h k n) (pc' : Nat) {a : Addr} {kb : ClassId} {z j : Int32} {v : Value} {vs : List Value} {dv : Value} (hd : decode bytes pc = .ok (.baload, 1)) (A : Arv Z h a kb .byte z vs dv) (h1 : ¬ j < 0) (h2 : j < z) (hv : vs.getD j.toNatClampNeg dv = v) (hq : pc' = pc + 1) (K : OGo p.tables e below P T (mkF m pc' Ls (v :: st))) : OGo p.tables e below P T (mkF m pc Ls (.int j :: .ref a :: st)) := by
  subst hq
  obtain ⟨hx, hby, hml, eT, hlk, vm0, locs, Y, I⟩ := X
  obtain ⟨cl, Ar, q, S, N, Hs, G⟩ := A
  exact og (fun _ r => Y.baloadBytes hx (j := j) (v := v) (by rw [eT]; exact Ar.1) (State.isArrayOf_alike (show Z.Warmed39 (s.setVm vm0).vm from I.2.2.2.2.1).alike Ar.2.1) Ar.2.2 (own_inb S h1 h2) (Hs.at (own_inb S h1 h2) hv) (g := mkF m pc Ls (.int j :: .ref a :: st)) rfl rfl (hb hby hd) _ r) K
def OMet (l : Launch) (Z : State) (EL : List (String × Nat)) (n0 : Nat) (y : MethodName) (wc : List Jvm.Cond) (rm : Room) (as' : Array Value) (h0 : Heap) (ws : List Addr) (Q : Option Value → Heap → Prop) : Prop :=
  MetFree l y (head1 wc rm) (fun a U => a = as' ∧ Z.Warmed39 U.vm ∧ U.heap = h0 ∧ CHv Z EL U.vm h0 ∧ ∀ x ∈ ws, Safe Z EL U.vm h0 x) (fun _ _ _ _ _ => True) (fun _ U o U' => OEnd Z EL n0 h0 ws U Q rm.cells rm.slots o U')
theorem own_enter {y : MethodName} {ret : Option FieldType} {wc : List Jvm.Cond} {rm : Room} {as' : Array Value} {Q : Option Value → Heap → Prop} (Ls : Array Slot) (hn : plainFor y = true) (ef : ∀ m, entryFrame m as' mx = mkF m 0 Ls []) (hEL : EW Z a0 EL) (O : Old Z n0 h0) (hlt : ∀ x ∈ ws, n0 ≤ x ∧ x < h0.size)
    (K : ∀ (p : Program) (e : Env) (s : State) (m : MethodId) (below : List Frame) (meth : Method) (c : Code) (T : State), OSt Z EL a0 n0 h0 ws y.cls bytes mx p l e rm s m as' below meth c ws T h0 0 0 → meth.name = y.name → meth.sig.returnType = ret → OGo p.tables e below (OEnd Z EL n0 h0 ws s Q rm.cells rm.slots) T (mkF m 0 Ls [])) :
    OMet l Z EL n0 y (Jvm.Cond.code y bytes mx ret :: wc) rm as' h0 ws Q := by
  refine MetFree.of_bodySF hn hisR ?_
  intro p e s m args below meth c s₁ Bd hml hP _
  obtain ⟨rfl, hZ, hh, hC, hS⟩ := hP
  have Y : Stand p l e rm (s.setVm s.vm) m args below meth c s₁ [] 0 0 := Stand.of_body Bd
  have hown := findClass_of_methodNamed Bd.named
  have e0 : s₁.heap = h0 := by rw [← hh, Bd.state]; rfl
  obtain ⟨t, o, g1, g2⟩ := K p e s m below meth c s₁ ⟨Bd.exec, Bd.bytes, hml, e0, Bd.notSynchronized, s.vm, [], Y, hh, O, Keep.refl _ _, ⟨_, (State.WarmedH.refl s).since _, Nat.le_refl _⟩, hZ, hown, hEL, by rw [hh]; exact CHr.refl hC, fun _ => rfl, Fr.nil _, fun x hx => ⟨(hlt x hx).1, (hlt x hx).2, Or.inl hx, hS x hx⟩⟩ (name_of_methodNamed Bd.named Bd.method).1 Bd.returns
  exact ⟨t, o, castTop (ef m) g1, g2⟩
theorem own_leave (X : OSt Z EL a0 n0 h0 ws own bytes mx p l e R s m args below meth c sv T h k n) {v : Option Value} {Q : Option Value → Heap → Prop} {k' n' : Nat} (hv : meth.sig.returnType = none → v = none) (hk : k ≤ k') (hn : n ≤ n') (hQ : Q v h) :
    ∃ fs, (∀ (f : JFrame) (acts : List Action), f.method = m → f.locked = none → f.entered = [] → (doReturn e (T.setTop f) acts v).1 = T.setFrames fs) ∧ (T.setFrames fs).status = .running ∧ Ended (T.setFrames fs) below (.returned v) ∧ OEnd Z EL n0 h0 ws s Q k' n' (.returned v) (T.setFrames fs) := by
  obtain ⟨hx, hby, hml, eT, hlk, vm0, locs, Y, b1, b2, b3, ⟨k0, b4, b4'⟩, b5, b6, b7, b8, b9, b10, b11⟩ := X.more hk hn
  obtain ⟨fs, h1, h2, h3, hW, hs⟩ := Y.leave hv hlk
  have C := CHv.at Y b5 b7 b8.1
  obtain ⟨q1, q2, q3⟩ := b4.ended (U := T.setFrames fs) hW (by show k0 ≤ T.heap.size; rw [eT]; exact b4') hs
  refine ⟨fs, h1, h2, h3, v, locs, rfl, ⟨b10, by show Keep h0 T.heap ws; rw [eT]; exact b3, by show Q v T.heap; rw [eT]; exact hQ⟩, by show CHr Z EL s.vm s.heap T.vm T.heap; rw [eT]; exact b8.trans C, ⟨⟨v, rfl⟩, q1, q2, q3⟩, fun hnil => ?_⟩
  have := b9 hnil
  subst this
  exact ⟨⟨v, rfl⟩, hW, hs⟩
theorem own_retV (X : OSt Z EL a0 n0 h0 ws own bytes mx p l e R s m args below meth c sv T h k n) {Q : Option Value → Heap → Prop} {k' n' : Nat} (hd : decode bytes pc = .ok (.return_, 1)) (hret : meth.sig.returnType = none) (hk : k ≤ k') (hn : n ≤ n') (hQ : Q none h) : OGo p.tables e below (OEnd Z EL n0 h0 ws s Q k' n') T (mkF m pc Ls []) := by
  obtain ⟨fs, h1, h2, h3, h4⟩ := own_leave X (fun _ => rfl) hk hn hQ
  have X' := X
  obtain ⟨hx, hby, hml, eT, hlk, vm0, locs, Y, -⟩ := X'
  exact ⟨_, _, Y.returnOut hx hret (hb hby hd) h1, h2, h3, h4⟩
theorem own_ret (X : OSt Z EL a0 n0 h0 ws own bytes mx p l e R s m args below meth c sv T h k n) {Q : Option Value → Heap → Prop} {k' n' : Nat} {t : FieldType} {w : Value} {i : Instr} (hd : decode bytes pc = .ok (i, 1)) (hret : meth.sig.returnType = some t) (hnw : narrow t w = w)
    (hi : (i = .ireturn ∧ (t = .int ∨ t = .boolean ∨ t = .byte ∨ t = .char ∨ t = .short) ∧ ∃ z, w = .int z) ∨ (i = .lreturn ∧ t = .long ∧ ∃ z, w = .long z) ∨ (i = .dreturn ∧ t = .double ∧ ∃ z, w = .double z) ∨ (i = .freturn ∧ t = .float ∧ ∃ z, w = .float z) ∨ (i = .areturn ∧ t.isReference = true ∧ w.isRef = true))
    (hk : k ≤ k') (hn : n ≤ n') (hQ : Q (some w) h) : OGo p.tables e below (OEnd Z EL n0 h0 ws s Q k' n') T (mkF m pc Ls (w :: st)) := by
  obtain ⟨fs, h1, h2, h3, h4⟩ := own_leave X (fun q => by rw [hret] at q; cases q) hk hn hQ
  have X' := X
  obtain ⟨hx, hby, hml, eT, hlk, vm0, locs, Y, -⟩ := X'
  exact ⟨_, _, retOut Y hx hret hnw hi (hb hby hd) h1, h2, h3, h4⟩
theorem own_retI (X : OSt Z EL a0 n0 h0 ws own bytes mx p l e R s m args below meth c sv T h k n) {Q : Option Value → Heap → Prop} {k' n' : Nat} {z : Int32} (hd : decode bytes pc = .ok (.ireturn, 1)) (hret : meth.sig.returnType = some .int) (hk : k ≤ k') (hn : n ≤ n') (hQ : Q (some (.int z)) h) : OGo p.tables e below (OEnd Z EL n0 h0 ws s Q k' n') T (mkF m pc Ls (.int z :: st)) :=
  own_ret X hd hret rfl (Or.inl ⟨rfl, Or.inl rfl, z, rfl⟩) hk hn hQ
theorem own_retZ (X : OSt Z EL a0 n0 h0 ws own bytes mx p l e R s m args below meth c sv T h k n) {Q : Option Value → Heap → Prop} {k' n' : Nat} {z : Int32} (hd : decode bytes pc = .ok (.ireturn, 1)) (hret : meth.sig.returnType = some .boolean) (hz : narrow .boolean (.int z) = .int z) (hk : k ≤ k') (hn : n ≤ n') (hQ : Q (some (.int z)) h) : OGo p.tables e below (OEnd Z EL n0 h0 ws s Q k' n') T (mkF m pc Ls (.int z :: st)) :=
  own_ret X hd hret hz (Or.inl ⟨rfl, Or.inr (Or.inl rfl), z, rfl⟩) hk hn hQ
theorem own_narR {t : FieldType} {w : Value} (ht : t.isReference = true) (hw : w.isRef = true) : narrow t w = w := by
  rcases ref_cases hw with rfl | ⟨a, rfl⟩ <;> cases t <;> first | rfl | cases ht
theorem own_retA (X : OSt Z EL a0 n0 h0 ws own bytes mx p l e R s m args below meth c sv T h k n) {Q : Option Value → Heap → Prop} {k' n' : Nat} {t : FieldType} {w : Value} (hd : decode bytes pc = .ok (.areturn, 1)) (hret : meth.sig.returnType = some t) (ht : t.isReference = true) (hw : w.isRef = true) (hk : k ≤ k') (hn : n ≤ n') (hQ : Q (some w) h) : OGo p.tables e below (OEnd Z EL n0 h0 ws s Q k' n') T (mkF m pc Ls (w :: st)) :=
  own_ret X hd hret (own_narR ht hw) (Or.inr (Or.inr (Or.inr (Or.inr ⟨rfl, ht, hw⟩)))) hk hn hQ
theorem own_payN {vm0 : Vm} {y : MethodName} {maxL : Nat} {ret : Option FieldType} {rm : Room} {len W : Nat} {as' : Array Value} {ws' : List Addr} {Q : Option Value → Heap → Prop} {bc : ByteArray} (hnil : EL = []) (hM : OMet l Z EL n0 y [Jvm.Cond.code y bc maxL ret] rm as' h ws' Q) (hZ : Z.Warmed39 vm0) (wc : (Cond.code y bc maxL ret).before a0 Z = true) (wz : (Cond.initialized y.cls).before a0 Z = true) (hf : rm.frames + 1 ≤ R.frames) (hl : W + (maxL + 11) + rm.locals ≤ R.locals) (hEL : EW Z a0 EL) (H : CHv Z EL vm0 h) (hS : ∀ x ∈ ws', x < h.size ∧ Safe Z EL vm0 h x) :
    Back l R p e below (s.setVm vm0) args y len W (fun A a => a = as' ∧ A.U.heap = h ∧ A.cells + rm.cells ≤ R.cells ∧ A.slots + rm.slots ≤ R.slots)
      (fun A _ v B => ∃ L, (Fr n0 L ∧ Keep h B.U.heap ws' ∧ Q v B.U.heap) ∧ B.locs = A.locs ++ L ∧ B.cells = A.cells + rm.cells ∧ B.slots = A.slots + rm.slots) :=
  Back.of_free (bytes := bc) (maxL := maxL) (ret := ret) (E := fun _ _ o t L k n => k = rm.cells ∧ n = rm.slots ∧ ∃ v, o = .returned v ∧ (Fr n0 L ∧ Keep h t.heap ws' ∧ Q v t.heap)) hM hf hl
    (fun m meth c A a Y hp => have hU : Z.Warmed39 A.U.vm := wtrans (s := s.setVm vm0) hZ Y.warmed
      ⟨by show (Cond.and _ .tt).before a A.U = true; rw [Cond.before_and, mv hU wc]; rfl, mv hU wc, mv hU wz, hp.2.2.1, hp.2.2.2⟩)
    (fun m meth c A a g mk Y hp => ⟨hp.1, wtrans (s := s.setVm vm0) hZ Y.warmed, hp.2.1, (CHv.at Y hZ hEL H).1, fun x hx => (CHv.at Y hZ hEL H).safe (hS x hx).1 (hS x hx).2⟩) (fun _ _ _ _ _ _ _ _ _ => trivial)
    (fun _ _ _ _ ⟨v, L, h1, h2, _, _, h3⟩ => ⟨L, _, _, h3 hnil, rfl, rfl, v, h1, h2⟩)
    (fun m meth c A a g mk v t L k n Y hp _ _ ⟨e1, e2, v', e3, e4⟩ => by cases e3; subst e1 e2; exact ⟨L, e4, rfl, rfl, rfl⟩)
theorem own_payW {vm0 : Vm} {y : MethodName} {maxL : Nat} {ret : Option FieldType} {rm : Room} {len W : Nat} {as' : Array Value} {ws' : List Addr} {Q : Option Value → Heap → Prop} {bc : ByteArray} (hM : OMet l Z EL n0 y [Jvm.Cond.code y bc maxL ret] rm as' h ws' Q) (hZ : Z.Warmed39 vm0) (wc : (Cond.code y bc maxL ret).before a0 Z = true) (wz : (Cond.initialized y.cls).before a0 Z = true) (hf : rm.frames + 1 ≤ R.frames) (hl : W + (maxL + 11) + rm.locals ≤ R.locals) (hEL : EW Z a0 EL) (H : CHv Z EL vm0 h) (hS : ∀ x ∈ ws', x < h.size ∧ Safe Z EL vm0 h x) :
    BackS l R p e below (s.setVm vm0) args y len W (fun A a => a = as' ∧ A.U.heap = h ∧ A.cells + rm.cells ≤ R.cells ∧ A.slots + rm.slots ≤ R.slots)
      (fun A _ v B => ∃ L, (Fr n0 L ∧ Keep h B.U.heap ws' ∧ Q v B.U.heap) ∧ B.locs = A.locs ++ L ∧ B.cells = A.cells + rm.cells ∧ B.slots = A.slots + rm.slots ∧ CHr Z EL vm0 h B.U.vm B.U.heap) :=
  BackS.of_freeW (bytes := bc) (maxL := maxL) (ret := ret) (E := fun _ first o t L k n => k = rm.cells ∧ n = rm.slots ∧ (∃ v, o = .returned v ∧ (Fr n0 L ∧ Keep h t.heap ws' ∧ Q v t.heap)) ∧ CHr Z EL first.vm first.heap t.vm t.heap) hM hf hl
    (fun m meth c A a Y hp => have hU : Z.Warmed39 A.U.vm := wtrans (s := s.setVm vm0) hZ Y.warmed
      ⟨by show (Cond.and _ .tt).before a A.U = true; rw [Cond.before_and, mv hU wc]; rfl, mv hU wc, mv hU wz, hp.2.2.1, hp.2.2.2⟩)
    (fun m meth c A a g mk Y hp => ⟨hp.1, wtrans (s := s.setVm vm0) hZ Y.warmed, hp.2.1, (CHv.at Y hZ hEL H).1, fun x hx => (CHv.at Y hZ hEL H).safe (hS x hx).1 (hS x hx).2⟩) (fun _ _ _ _ _ _ _ _ _ => trivial)
    (fun _ _ _ _ ⟨v, L, h1, h2, h3, h4, _⟩ => ⟨L, _, _, h4, rfl, rfl, ⟨v, h1, h2⟩, h3⟩)
    (fun m meth c A a g mk v t L k n Y hp _ _ ⟨e1, e2, ⟨v', e3, e4⟩, e5⟩ => by
      cases e3; subst e1 e2
      refine ⟨L, e4, rfl, rfl, rfl, (CHv.at Y hZ hEL H).trans ?_⟩
      rw [← hp.2.1]; exact e5)
theorem own_stat (X : OSt Z EL a0 n0 h0 ws own bytes mx p l e R s m args below meth c sv T h k n) (pc' : Nat) {y : MethodName} {index maxL W : Nat} {ret : Option FieldType} {rm : Room} {as' : Array Value} {ws' : List Addr} {Q : Option Value → Heap → Prop} {bc : ByteArray} {argsL rest : List Value} (hd : decode bytes pc = .ok (.invokestatic index, 3)) (hM : OMet l Z EL n0 y [Jvm.Cond.code y bc maxL ret] rm as' h ws' Q) (w1 : (Cond.methodLink own index y).before a0 Z = true) (w2 : (Cond.static y).before a0 Z = true) (wz : (Cond.initialized y.cls).before a0 Z = true) (wc : (Cond.code y bc maxL ret).before a0 Z = true) (hy : y.cls ≠ "java/lang/invoke/MethodHandle" ∧ y.cls ≠ "java/lang/invoke/VarHandle")
    (hlen : ∀ sig, parseMethodDescriptor y.desc = some sig → argsL.length = sig.parameters.length) (hst : st = argsL.reverse ++ rest) (has : argsL.toArray = as') (hsz : Ls.size = mx) (hW : (rest.map fun v => v.category).sum = W) (hf : rm.frames + 1 ≤ R.frames) (hl : W + (maxL + 11) + rm.locals ≤ R.locals) (hc : k + rm.cells ≤ R.cells) (hs : n + rm.slots ≤ R.slots) (hsv : ∀ x ∈ ws', x ∈ sv) (hq : pc' = pc + 3)
    (K : ∀ (T' : State) (h' : Heap) (v : Option Value), OSt Z EL a0 n0 h0 ws own bytes mx p l e R s m args below meth c sv T' h' (k + rm.cells) (n + rm.slots) → Keep h h' ws' → Q v h' → OGo p.tables e below P T' (mkF m pc' Ls (v.toList ++ rest))) : OGo p.tables e below P T (mkF m pc Ls st) := by
  subst hq
  obtain ⟨hx, hby, hml, eT, hlk, vm0, locs, Y, I⟩ := X
  have I0 := I
  obtain ⟨b1, b2, b3, b4, b5, b6, b7, b8, b9, b10, b11⟩ := I0
  have hS : ∀ x ∈ ws', x < h.size ∧ Safe Z EL vm0 h x := fun x hx => ⟨(b11 x (hsv x hx)).2.1, (b11 x (hsv x hx)).2.2.2⟩
  have hZ : Z.Warmed39 (s.setVm vm0).vm := b5
  have hW' : 2 * (mkF m pc Ls st).monitorRoom + (rest.map fun v => v.category).sum ≤ W := by show 2 * 0 + _ ≤ _; rw [hW]; omega
  by_cases hnil : EL = []
  · obtain ⟨v, vm₁, ⟨U, L', k', n'⟩, -, Y', ⟨L, ⟨q1, q2, q3⟩, l1, l2, l3⟩, stp⟩ := Jvm.LawKit.callS Y hx (y := y) (show (s.setVm vm0).vm.findClass own = _ from b6) (mvT hZ w1) (mvT hZ w2) (mvT hZ wz) (mvT hZ wc) hy (own_payN hnil hM b5 wc wz hf hl b7 b8.1 hS) (g := mkF m pc Ls st) rfl (by rw [hml]; exact hsz) (argsL := argsL) (rest := rest) hlen hst hW' (hb hby hd) (fun _ _ => ⟨has, eT, hc, hs⟩)
    dsimp only [Pt.U, Pt.locs, Pt.cells, Pt.slots] at Y' l1 l2 l3 q1 q2 q3 stp
    subst l1 l2 l3
    exact og stp (K U U.heap v ⟨hx, hby, hml, rfl, hlk, vm0, _, Y', I.keep q2 hsv q1⟩ q2 q3)
  · obtain ⟨v, vm₁, ⟨U, L', k', n'⟩, -, Y', S', g', ⟨L, ⟨q1, q2, q3⟩, l1, l2, l3, C⟩, stp⟩ := callSS Y hx (y := y) (show (s.setVm vm0).vm.findClass own = _ from b6) (mvT hZ w1) (mvT hZ w2) (mvT hZ wz) (mvT hZ wc) hy (own_payW hM b5 wc wz hf hl b7 b8.1 hS) (g := mkF m pc Ls st) rfl (by rw [hml]; exact hsz) (argsL := argsL) (rest := rest) hlen hst hW' (hb hby hd) (fun _ _ => ⟨has, eT, hc, hs⟩)
    dsimp only [Pt.U, Pt.locs, Pt.cells, Pt.slots] at Y' l1 l2 l3 q1 q2 q3 stp S' g' C
    subst l1 l2 l3
    exact og (fun _ q => stp.trans q) (K U U.heap v ⟨hx, hby, hml, rfl, hlk, U.vm, _, Y', I.call q2 hsv q1 C S' (fun q => absurd q hnil)⟩ q2 q3)
theorem own_spec (X : OSt Z EL a0 n0 h0 ws own bytes mx p l e R s m args below meth c sv T h k n) (pc' : Nat) {y : MethodName} {index maxL W : Nat} {rm : Room} {as' : Array Value} {ws' : List Addr} {Q : Option Value → Heap → Prop} {bc : ByteArray} {a : Addr} {argsL rest : List Value} (hd : decode bytes pc = .ok (.invokespecial index, 3)) (hy1 : y.name = "<init>") (hM : OMet l Z EL n0 y [Jvm.Cond.code y bc maxL none] rm as' h ws' Q) (w1 : (Cond.methodLink own index y).before a0 Z = true) (w2 : (Cond.instanceMethod y).before a0 Z = true) (wz : (Cond.initialized y.cls).before a0 Z = true) (wc : (Cond.code y bc maxL none).before a0 Z = true) (hy : y.cls ≠ "java/lang/invoke/MethodHandle" ∧ y.cls ≠ "java/lang/invoke/VarHandle")
    (hlen : ∀ sig, parseMethodDescriptor y.desc = some sig → argsL.length = sig.parameters.length) (hst : st = argsL.reverse ++ .ref a :: rest) (has : (.ref a :: argsL).toArray = as') (hsz : Ls.size = mx) (hW : (rest.map fun v => v.category).sum = W) (hf : rm.frames + 1 ≤ R.frames) (hl : W + (maxL + 11) + rm.locals ≤ R.locals) (hc : k + rm.cells ≤ R.cells) (hs : n + rm.slots ≤ R.slots) (hsv : ∀ x ∈ ws', x ∈ sv) (hq : pc' = pc + 3)
    (K : ∀ (T' : State) (h' : Heap) (v : Option Value), OSt Z EL a0 n0 h0 ws own bytes mx p l e R s m args below meth c sv T' h' (k + rm.cells) (n + rm.slots) → Keep h h' ws' → Q v h' → OGo p.tables e below P T' (mkF m pc' Ls (v.toList ++ rest))) : OGo p.tables e below P T (mkF m pc Ls st) := by
  subst hq
  obtain ⟨hx, hby, hml, eT, hlk, vm0, locs, Y, I⟩ := X
  have I0 := I
  obtain ⟨b1, b2, b3, b4, b5, b6, b7, b8, b9, b10, b11⟩ := I0
  have hS : ∀ x ∈ ws', x < h.size ∧ Safe Z EL vm0 h x := fun x hx => ⟨(b11 x (hsv x hx)).2.1, (b11 x (hsv x hx)).2.2.2⟩
  have hZ : Z.Warmed39 (s.setVm vm0).vm := b5
  have hW' : 2 * (mkF m pc Ls st).monitorRoom + (rest.map fun v => v.category).sum ≤ W := by show 2 * 0 + _ ≤ _; rw [hW]; omega
  by_cases hnil : EL = []
  · obtain ⟨v, vm₁, ⟨U, L', k', n'⟩, -, Y', ⟨L, ⟨q1, q2, q3⟩, l1, l2, l3⟩, stp⟩ := Y.specialBack hx (y := y) hy1 (show (s.setVm vm0).vm.findClass own = _ from b6) (mvT hZ w1) (mvT hZ w2) (mvT hZ wc) hy (own_payN hnil hM b5 wc wz hf hl b7 b8.1 hS) (g := mkF m pc Ls st) rfl (by rw [hml]; exact hsz) (Steps.refl _) (a := a) (argsL := argsL) (rest := rest) hlen hst hW' (hb hby hd) (fun _ _ => ⟨has, eT, hc, hs⟩)
    dsimp only [Pt.U, Pt.locs, Pt.cells, Pt.slots] at Y' l1 l2 l3 q1 q2 q3 stp
    subst l1 l2 l3
    exact og (fun _ q => stp.trans q) (K U U.heap v ⟨hx, hby, hml, rfl, hlk, vm0, _, Y', I.keep q2 hsv q1⟩ q2 q3)
  · obtain ⟨v, vm₁, ⟨U, L', k', n'⟩, -, Y', S', g', ⟨L, ⟨q1, q2, q3⟩, l1, l2, l3, C⟩, stp⟩ := Y.specialBackS hx (y := y) hy1 (show (s.setVm vm0).vm.findClass own = _ from b6) (mvT hZ w1) (mvT hZ w2) (mvT hZ wc) hy (own_payW hM b5 wc wz hf hl b7 b8.1 hS) (g := mkF m pc Ls st) rfl (by rw [hml]; exact hsz) (Steps.refl _) (a := a) (argsL := argsL) (rest := rest) hlen hst hW' (hb hby hd) (fun _ _ => ⟨has, eT, hc, hs⟩)
    dsimp only [Pt.U, Pt.locs, Pt.cells, Pt.slots] at Y' l1 l2 l3 q1 q2 q3 stp S' g' C
    subst l1 l2 l3
    exact og (fun _ q => stp.trans q) (K U U.heap v ⟨hx, hby, hml, rfl, hlk, U.vm, _, Y', I.call q2 hsv q1 C S' (fun q => absurd q hnil)⟩ q2 q3)
theorem own_virt (X : OSt Z EL a0 n0 h0 ws own bytes mx p l e R s m args below meth c sv T h k n) (pc' : Nat) {y z : MethodName} {C : String} {index maxL W : Nat} {ret : Option FieldType} {rm : Room} {as' : Array Value} {ws' : List Addr} {Q : Option Value → Heap → Prop} {bc : ByteArray} {a : Addr} {argsL rest : List Value} (hd : decode bytes pc = .ok (.invokevirtual index, 3)) (E : Exa Z h a C) (hnf : ∀ vm0, Z.Warmed39 (s.setVm vm0).vm → NotFace (s.setVm vm0) y) (hM : OMet l Z EL n0 z [Jvm.Cond.code z bc maxL ret] rm as' h ws' Q) (w1 : (Cond.methodLink own index y).before a0 Z = true) (w2 : (Cond.declares y).before a0 Z = true) (w3 : (Cond.selects C y z).before a0 Z = true) (w4 : (Cond.instanceMethod z).before a0 Z = true) (wz : (Cond.initialized z.cls).before a0 Z = true) (wc : (Cond.code z bc maxL ret).before a0 Z = true) (hy : y.cls ≠ "java/lang/invoke/MethodHandle" ∧ y.cls ≠ "java/lang/invoke/VarHandle")
    (hlen : ∀ sig, parseMethodDescriptor y.desc = some sig → argsL.length = sig.parameters.length) (hst : st = argsL.reverse ++ .ref a :: rest) (has : (.ref a :: argsL).toArray = as') (hsz : Ls.size = mx) (hW : (rest.map fun v => v.category).sum = W) (hf : rm.frames + 1 ≤ R.frames) (hl : W + (maxL + 11) + rm.locals ≤ R.locals) (hc : k + rm.cells ≤ R.cells) (hs : n + rm.slots ≤ R.slots) (hsv : ∀ x ∈ ws', x ∈ sv) (hq : pc' = pc + 3)
    (K : ∀ (T' : State) (h' : Heap) (v : Option Value), OSt Z EL a0 n0 h0 ws own bytes mx p l e R s m args below meth c sv T' h' (k + rm.cells) (n + rm.slots) → Keep h h' ws' → Q v h' → OGo p.tables e below P T' (mkF m pc' Ls (v.toList ++ rest))) : OGo p.tables e below P T (mkF m pc Ls st) := by
  subst hq
  obtain ⟨hx, hby, hml, eT, hlk, vm0, locs, Y, I⟩ := X
  have I0 := I
  obtain ⟨b1, b2, b3, b4, b5, b6, b7, b8, b9, b10, b11⟩ := I0
  have hS : ∀ x ∈ ws', x < h.size ∧ Safe Z EL vm0 h x := fun x hx => ⟨(b11 x (hsv x hx)).2.1, (b11 x (hsv x hx)).2.2.2⟩
  have hZ : Z.Warmed39 (s.setVm vm0).vm := b5
  have hW' : 2 * (mkF m pc Ls st).monitorRoom + (rest.map fun v => v.category).sum ≤ W := by show 2 * 0 + _ ≤ _; rw [hW]; omega
  obtain ⟨cq, kq, qa, qb, qc⟩ := isOf (s := s.setVm vm0) hZ eT E
  by_cases hnil : EL = []
  · obtain ⟨v, vm₁, ⟨U, L', k', n'⟩, -, Y', ⟨L, ⟨q1, q2, q3⟩, l1, l2, l3⟩, stp⟩ := Y.virtualBack hx (y := y) (z := z) (show (s.setVm vm0).vm.findClass own = _ from b6) (mvT hZ w1) (mvT hZ w2) (hnf vm0 hZ) (mvT hZ w3) (mvT hZ w4) hy (own_payN hnil hM b5 wc wz hf hl b7 b8.1 hS) qa qc (g := mkF m pc Ls st) rfl (by rw [hml]; exact hsz) (Steps.refl _) (argsL := argsL) (rest := rest) hlen hst hW' (hb hby hd) (fun _ _ => ⟨has, eT, hc, hs⟩)
    dsimp only [Pt.U, Pt.locs, Pt.cells, Pt.slots] at Y' l1 l2 l3 q1 q2 q3 stp
    subst l1 l2 l3
    exact og (fun _ q => stp.trans q) (K U U.heap v ⟨hx, hby, hml, rfl, hlk, vm0, _, Y', I.keep q2 hsv q1⟩ q2 q3)
  · obtain ⟨v, vm₁, ⟨U, L', k', n'⟩, -, Y', S', g', ⟨L, ⟨q1, q2, q3⟩, l1, l2, l3, C⟩, stp⟩ := Y.virtualBackS hx (y := y) (z := z) (show (s.setVm vm0).vm.findClass own = _ from b6) (mvT hZ w1) (mvT hZ w2) (hnf vm0 hZ) (mvT hZ w3) (mvT hZ w4) hy (own_payW hM b5 wc wz hf hl b7 b8.1 hS) qa qc (g := mkF m pc Ls st) rfl (by rw [hml]; exact hsz) (Steps.refl _) (argsL := argsL) (rest := rest) hlen hst hW' (hb hby hd) (fun _ _ => ⟨has, eT, hc, hs⟩)
    dsimp only [Pt.U, Pt.locs, Pt.cells, Pt.slots] at Y' l1 l2 l3 q1 q2 q3 stp S' g' C
    subst l1 l2 l3
    exact og (fun _ q => stp.trans q) (K U U.heap v ⟨hx, hby, hml, rfl, hlk, U.vm, _, Y', I.call q2 hsv q1 C S' (fun q => absurd q hnil)⟩ q2 q3)
theorem own_priv (X : OSt Z EL a0 n0 h0 ws own bytes mx p l e R s m args below meth c sv T h k n) (pc' : Nat) {y : MethodName} {C : String} {index maxL W : Nat} {ret : Option FieldType} {rm : Room} {as' : Array Value} {ws' : List Addr} {Q : Option Value → Heap → Prop} {bc : ByteArray} {a : Addr} {argsL rest : List Value} (hd : decode bytes pc = .ok (.invokevirtual index, 3)) (E : Exa Z h a C) (hM : OMet l Z EL n0 y [Jvm.Cond.code y bc maxL ret] rm as' h ws' Q) (w1 : (Cond.methodLink own index y).before a0 Z = true) (w2 : (Cond.instanceMethod y).before a0 Z = true) (w3 : (Cond.selects y.cls y y).before a0 Z = true) (w4 : (Cond.privateMethod y).before a0 Z = true) (wz : (Cond.initialized y.cls).before a0 Z = true) (wc : (Cond.code y bc maxL ret).before a0 Z = true) (hy : y.cls ≠ "java/lang/invoke/MethodHandle" ∧ y.cls ≠ "java/lang/invoke/VarHandle")
    (hlen : ∀ sig, parseMethodDescriptor y.desc = some sig → argsL.length = sig.parameters.length) (hst : st = argsL.reverse ++ .ref a :: rest) (has : (.ref a :: argsL).toArray = as') (hsz : Ls.size = mx) (hW : (rest.map fun v => v.category).sum = W) (hf : rm.frames + 1 ≤ R.frames) (hl : W + (maxL + 11) + rm.locals ≤ R.locals) (hc : k + rm.cells ≤ R.cells) (hs : n + rm.slots ≤ R.slots) (hsv : ∀ x ∈ ws', x ∈ sv) (hq : pc' = pc + 3)
    (K : ∀ (T' : State) (h' : Heap) (v : Option Value), OSt Z EL a0 n0 h0 ws own bytes mx p l e R s m args below meth c sv T' h' (k + rm.cells) (n + rm.slots) → Keep h h' ws' → Q v h' → OGo p.tables e below P T' (mkF m pc' Ls (v.toList ++ rest))) : OGo p.tables e below P T (mkF m pc Ls st) := by
  subst hq
  obtain ⟨hx, hby, hml, eT, hlk, vm0, locs, Y, I⟩ := X
  have I0 := I
  obtain ⟨b1, b2, b3, b4, b5, b6, b7, b8, b9, b10, b11⟩ := I0
  have hS : ∀ x ∈ ws', x < h.size ∧ Safe Z EL vm0 h x := fun x hx => ⟨(b11 x (hsv x hx)).2.1, (b11 x (hsv x hx)).2.2.2⟩
  have hZ : Z.Warmed39 (s.setVm vm0).vm := b5
  have hW' : 2 * (mkF m pc Ls st).monitorRoom + (rest.map fun v => v.category).sum ≤ W := by show 2 * 0 + _ ≤ _; rw [hW]; omega
  obtain ⟨cq, q0, q0'⟩ := E.cell
  by_cases hnil : EL = []
  · obtain ⟨v, vm₁, ⟨U, L', k', n'⟩, -, Y', ⟨L, ⟨q1, q2, q3⟩, l1, l2, l3⟩, stp⟩ := Y.privateBack hx (y := y) (show (s.setVm vm0).vm.findClass own = _ from b6) (mvT hZ w1) (mvT hZ w2) (mvT hZ w3) (Cond.privateMethod_at (mvP hZ w4 (args := #[]))) (mvT hZ wc) hy (own_payN hnil hM b5 wc wz hf hl b7 b8.1 hS) (g := mkF m pc Ls st) rfl (by rw [hml]; exact hsz) (Steps.refl _) (a := a) (by rw [eT]; exact q0) q0' (argsL := argsL) (rest := rest) hlen hst hW' (hb hby hd) (fun _ _ => ⟨has, eT, hc, hs⟩)
    dsimp only [Pt.U, Pt.locs, Pt.cells, Pt.slots] at Y' l1 l2 l3 q1 q2 q3 stp
    subst l1 l2 l3
    exact og (fun _ q => stp.trans q) (K U U.heap v ⟨hx, hby, hml, rfl, hlk, vm0, _, Y', I.keep q2 hsv q1⟩ q2 q3)
  · obtain ⟨v, vm₁, ⟨U, L', k', n'⟩, -, Y', S', g', ⟨L, ⟨q1, q2, q3⟩, l1, l2, l3, C⟩, stp⟩ := Y.privateBackS hx (y := y) (show (s.setVm vm0).vm.findClass own = _ from b6) (mvT hZ w1) (mvT hZ w2) (mvT hZ w3) (Cond.privateMethod_at (mvP hZ w4 (args := #[]))) (mvT hZ wc) hy (own_payW hM b5 wc wz hf hl b7 b8.1 hS) (g := mkF m pc Ls st) rfl (by rw [hml]; exact hsz) (Steps.refl _) (a := a) (by rw [eT]; exact q0) q0' (argsL := argsL) (rest := rest) hlen hst hW' (hb hby hd) (fun _ _ => ⟨has, eT, hc, hs⟩)
    dsimp only [Pt.U, Pt.locs, Pt.cells, Pt.slots] at Y' l1 l2 l3 q1 q2 q3 stp S' g' C
    subst l1 l2 l3
    exact og (fun _ q => stp.trans q) (K U U.heap v ⟨hx, hby, hml, rfl, hlk, U.vm, _, Y', I.call q2 hsv q1 C S' (fun q => absurd q hnil)⟩ q2 q3)
theorem own_specB (X : OSt Z EL a0 n0 h0 ws own bytes mx p l e R s m args below meth c sv T h k n) (pc' : Nat) {y : MethodName} {index maxL W rc rs : Nat} {as' : Array Value} {ws' : List Addr} {Q : Option Value → Heap → List Loc → Prop} {bc : ByteArray} {a : Addr} {argsL rest : List Value} (hd : decode bytes pc = .ok (.invokespecial index, 3)) (hy1 : y.name = "<init>")
    (hK : ∀ vm0, Z.Warmed39 (s.setVm vm0).vm → Back l R p e below (s.setVm vm0) args y 3 W (fun A a => a = as' ∧ A.U.heap = h ∧ A.cells + rc ≤ R.cells ∧ A.slots + rs ≤ R.slots) (fun A _ v B => ∃ L, Q v B.U.heap L ∧ B.locs = A.locs ++ L ∧ B.cells = A.cells + rc ∧ B.slots = A.slots + rs)) (hQ : ∀ v h' L, Q v h' L → Fr n0 L ∧ Keep h h' ws')
    (w1 : (Cond.methodLink own index y).before a0 Z = true) (w2 : (Cond.instanceMethod y).before a0 Z = true) (wc : (Cond.code y bc maxL none).before a0 Z = true) (hy : y.cls ≠ "java/lang/invoke/MethodHandle" ∧ y.cls ≠ "java/lang/invoke/VarHandle")
    (hlen : ∀ sig, parseMethodDescriptor y.desc = some sig → argsL.length = sig.parameters.length) (hst : st = argsL.reverse ++ .ref a :: rest) (has : (.ref a :: argsL).toArray = as') (hsz : Ls.size = mx) (hW : (rest.map fun v => v.category).sum = W) (hc : k + rc ≤ R.cells) (hs : n + rs ≤ R.slots) (hsv : ∀ x ∈ ws', x ∈ sv) (hq : pc' = pc + 3)
    (K : ∀ (T' : State) (h' : Heap) (v : Option Value) (L : List Loc), OSt Z EL a0 n0 h0 ws own bytes mx p l e R s m args below meth c sv T' h' (k + rc) (n + rs) → Keep h h' ws' → Q v h' L → OGo p.tables e below P T' (mkF m pc' Ls (v.toList ++ rest))) : OGo p.tables e below P T (mkF m pc Ls st) := by
  subst hq
  obtain ⟨hx, hby, hml, eT, hlk, vm0, locs, Y, I⟩ := X
  have hZ : Z.Warmed39 (s.setVm vm0).vm := I.2.2.2.2.1
  have hW' : 2 * (mkF m pc Ls st).monitorRoom + (rest.map fun v => v.category).sum ≤ W := by show 2 * 0 + _ ≤ _; rw [hW]; omega
  obtain ⟨v, vm₁, ⟨U, L', k', n'⟩, -, Y', ⟨L, q, l1, l2, l3⟩, stp⟩ := Y.specialBack hx (y := y) hy1 (show (s.setVm vm0).vm.findClass own = _ from I.2.2.2.2.2.1) (mvT hZ w1) (mvT hZ w2) (mvT hZ wc) hy (hK vm0 hZ) (g := mkF m pc Ls st) rfl (by rw [hml]; exact hsz) (Steps.refl _) (a := a) (argsL := argsL) (rest := rest) hlen hst hW' (hb hby hd) (fun _ _ => ⟨has, eT, hc, hs⟩)
  dsimp only [Pt.U, Pt.locs, Pt.cells, Pt.slots] at Y' l1 l2 l3 q stp
  subst l1 l2 l3
  exact og (fun _ q => stp.trans q) (K U U.heap v L ⟨hx, hby, hml, rfl, hlk, vm0, _, Y', I.keep (hQ _ _ _ q).2 hsv (hQ _ _ _ q).1⟩ (hQ _ _ _ q).2 q)
theorem own_virtB (X : OSt Z EL a0 n0 h0 ws own bytes mx p l e R s m args below meth c sv T h k n) (pc' : Nat) {y z : MethodName} {C : String} {index W rc rs : Nat} {as' : Array Value} {ws' : List Addr} {Q : Option Value → Heap → List Loc → Prop} {a : Addr} {argsL rest : List Value} (hd : decode bytes pc = .ok (.invokevirtual index, 3)) (E : Exa Z h a C) (hnf : ∀ vm0, Z.Warmed39 (s.setVm vm0).vm → NotFace (s.setVm vm0) y)
    (hK : ∀ vm0, Z.Warmed39 (s.setVm vm0).vm → Back l R p e below (s.setVm vm0) args z 3 W (fun A a => a = as' ∧ A.U.heap = h ∧ A.cells + rc ≤ R.cells ∧ A.slots + rs ≤ R.slots) (fun A _ v B => ∃ L, Q v B.U.heap L ∧ B.locs = A.locs ++ L ∧ B.cells = A.cells + rc ∧ B.slots = A.slots + rs)) (hQ : ∀ v h' L, Q v h' L → Fr n0 L ∧ Keep h h' ws')
    (w1 : (Cond.methodLink own index y).before a0 Z = true) (w2 : (Cond.declares y).before a0 Z = true) (w3 : (Cond.selects C y z).before a0 Z = true) (w4 : (Cond.instanceMethod z).before a0 Z = true) (hy : y.cls ≠ "java/lang/invoke/MethodHandle" ∧ y.cls ≠ "java/lang/invoke/VarHandle")
    (hlen : ∀ sig, parseMethodDescriptor y.desc = some sig → argsL.length = sig.parameters.length) (hst : st = argsL.reverse ++ .ref a :: rest) (has : (.ref a :: argsL).toArray = as') (hsz : Ls.size = mx) (hW : (rest.map fun v => v.category).sum = W) (hc : k + rc ≤ R.cells) (hs : n + rs ≤ R.slots) (hsv : ∀ x ∈ ws', x ∈ sv) (hq : pc' = pc + 3)
    (K : ∀ (T' : State) (h' : Heap) (v : Option Value) (L : List Loc), OSt Z EL a0 n0 h0 ws own bytes mx p l e R s m args below meth c sv T' h' (k + rc) (n + rs) → Keep h h' ws' → Q v h' L → OGo p.tables e below P T' (mkF m pc' Ls (v.toList ++ rest))) : OGo p.tables e below P T (mkF m pc Ls st) := by
  subst hq
  obtain ⟨hx, hby, hml, eT, hlk, vm0, locs, Y, I⟩ := X
  have hZ : Z.Warmed39 (s.setVm vm0).vm := I.2.2.2.2.1
  have hW' : 2 * (mkF m pc Ls st).monitorRoom + (rest.map fun v => v.category).sum ≤ W := by show 2 * 0 + _ ≤ _; rw [hW]; omega
  obtain ⟨cq, kq, qa, qb, qc⟩ := isOf (s := s.setVm vm0) hZ eT E
  obtain ⟨v, vm₁, ⟨U, L', k', n'⟩, -, Y', ⟨L, q, l1, l2, l3⟩, stp⟩ := Y.virtualBack hx (y := y) (z := z) (show (s.setVm vm0).vm.findClass own = _ from I.2.2.2.2.2.1) (mvT hZ w1) (mvT hZ w2) (hnf vm0 hZ) (mvT hZ w3) (mvT hZ w4) hy (hK vm0 hZ) qa qc (g := mkF m pc Ls st) rfl (by rw [hml]; exact hsz) (Steps.refl _) (argsL := argsL) (rest := rest) hlen hst hW' (hb hby hd) (fun _ _ => ⟨has, eT, hc, hs⟩)
  dsimp only [Pt.U, Pt.locs, Pt.cells, Pt.slots] at Y' l1 l2 l3 q stp
  subst l1 l2 l3
  exact og (fun _ q => stp.trans q) (K U U.heap v L ⟨hx, hby, hml, rfl, hlk, vm0, _, Y', I.keep (hQ _ _ _ q).2 hsv (hQ _ _ _ q).1⟩ (hQ _ _ _ q).2 q)
theorem own_svb (X : OSt Z EL a0 n0 h0 ws own bytes mx p l e R s m args below meth c sv T h k n) {a : Addr} (ha : a ∈ sv) : n0 ≤ a ∧ a < h.size := by
  obtain ⟨-, -, -, -, -, _, _, -, -, -, -, -, -, -, -, -, -, -, q⟩ := X
  exact ⟨(q a ha).1, (q a ha).2.1⟩
theorem own_ldcO (X : OSt Z EL a0 n0 h0 ws own bytes mx p l e R s m args below meth c sv T h k n) (pc' : Nat) {index cap : Nat} {text : String} (hd : decode bytes pc = .ok (.ldc index, 2)) (hne : EL ≠ []) (w : (Cond.stringLink own index text).before a0 Z = true) (wS : ∀ a ∈ Bundle.stringAtoms, a.before a0 Z = true) (hcap : 4 * text.toList.length ≤ cap) (hbig : cap ≤ 536870912) (hc : k + 2 ≤ R.cells) (hl : n + (cap + 4) ≤ R.slots) (hq : pc' = pc + 2)
    (K : ∀ (T' : State) (h' : Heap) (a : Addr), OSt Z EL a0 n0 h0 ws own bytes mx p l e R s m args below meth c sv T' h' (k + 2) (n + (cap + 4)) → Keep h h' [] → OGo p.tables e below P T' (mkF m pc' Ls (.ref a :: st))) : OGo p.tables e below P T (mkF m pc Ls st) := by
  subst hq
  obtain ⟨hx, hby, hml, eT, hlk, vm0, locs, Y, I⟩ := X
  have I0 := I
  obtain ⟨b1, b2, b3, ⟨k0, b4, b4'⟩, b5, b6, b7, b8, b9, b10, b11⟩ := I0
  obtain ⟨a, T', h', k1, Y', e', E, S', hk', hZ', hown', C, -, stp⟩ := ldcOH Y hx b5 b6 w wS eT b4 b4' b7 b8.1 (g := mkF m pc Ls st) rfl (hb hby hd) hcap hbig hc hl
  have hZ' : Z.Warmed39 T'.vm := hZ'
  refine og stp (K T' h' a ⟨hx, hby, hml, e', hlk, T'.vm, locs, Y', b1, b2.ext E, b3.ext E, ⟨k1, S', hk'⟩, hZ', hown', b7, b8.trans C, fun q => absurd q hne, b10, fun x hx => ?_⟩ ((Keep.refl _ _).ext E))
  exact ⟨(b11 x hx).1, Nat.lt_of_lt_of_le (b11 x hx).2.1 E.1, (b11 x hx).2.2.1, C.safe (b11 x hx).2.1 (b11 x hx).2.2.2⟩
theorem own_ldcR (X : OSt Z EL a0 n0 h0 ws own bytes mx p l e R s m args below meth c sv T h k n) (pc' : Nat) {index cap : Nat} {text : String} {vs : List Value} {z : Int32} (hd : decode bytes pc = .ok (.ldc index, 2)) (hmem : (own, index) ∈ EL) (w : (Cond.stringLink own index text).before a0 Z = true) (wS : ∀ a ∈ Bundle.stringAtoms, a.before a0 Z = true) (ht : (∀ c ∈ text.toList, c.toNat < 256) ∧ text.toList.map (fun c => Value.int (Jvm.Lit.byteI c.toNat.toUInt16)) = vs) (hz : ¬ z < 0) (hlz : z.toNatClampNeg = vs.length) (hcap : 4 * text.toList.length ≤ cap) (hbig : cap ≤ 536870912) (hc : k + 2 ≤ R.cells) (hl : n + (cap + 4) ≤ R.slots) (hq : pc' = pc + 2)
    (K : ∀ (T' : State) (h' : Heap) (a b : Addr) (kb : ClassId), OSt Z EL a0 n0 h0 ws own bytes mx p l e R s m args below meth c sv T' h' (k + 2) (n + (cap + 4)) → Keep h h' [] → Exa Z h' a "java/lang/String" → Fld Z h' a "java/lang/String" "coder" "B" (.int 0) → Fld Z h' a "java/lang/String" "value" "[B" (.ref b) → Arv Z h' b kb .byte z vs (.int 0) → (∀ x ∈ sv, x ≠ a ∧ x ≠ b) → OGo p.tables e below P T' (mkF m pc' Ls (.ref a :: st))) : OGo p.tables e below P T (mkF m pc Ls st) := by
  subst hq
  obtain ⟨hx, hby, hml, eT, hlk, vm0, locs, Y, I⟩ := X
  have I0 := I
  obtain ⟨b1, b2, b3, ⟨k0, b4, b4'⟩, b5, b6, b7, b8, b9, b10, b11⟩ := I0
  obtain ⟨a, T', h', k1, b, kb, Y', e', E, S', hk', hZ', hown', r1, r2, r3, r4, r5, r6, C, -, far, stp⟩ := ldcCH Y hx b5 b6 w wS eT b4 b4' b7 hmem b8.1 ht hz hlz (g := mkF m pc Ls st) rfl (hb hby hd) hcap hbig hc hl
  have hZ' : Z.Warmed39 T'.vm := hZ'
  have sf : ∀ x ∈ sv, Safe Z EL T'.vm h' x := fun x hx => C.safe (b11 x hx).2.1 (b11 x hx).2.2.2
  refine og stp (K T' h' a b kb ⟨hx, hby, hml, e', hlk, T'.vm, locs, Y', b1, b2.ext E, b3.ext E, ⟨k1, S', hk'⟩, hZ', hown', b7, b8.trans C, fun q => ?_, b10, fun x hx => ?_⟩ ((Keep.refl _ _).ext E) r1 r2 r3 r4 fun x hx => far x (sf x hx))
  · rw [q] at hmem; cases hmem
  · exact ⟨(b11 x hx).1, Nat.lt_of_lt_of_le (b11 x hx).2.1 E.1, (b11 x hx).2.2.1, sf x hx⟩
theorem own_n0 (X : OSt Z EL a0 n0 h0 ws own bytes mx p l e R s m args below meth c sv T h k n) : n0 ≤ h.size := X.old.1 ▸ X.old.2.1
def OFar (Z : State) (h : Heap) (B : Nat) (y : Addr) : Prop := B ≤ y ∨ ∃ (C : String) (kk : Nat) (a0 : Array Value), Exa Z h y C ∧ C ≠ "java/lang/String" ∧ (Jvm.Cond.instantiable C kk).before a0 Z = true
def OStr (Z : State) (h : Heap) (x : Addr) (cs : List Int32) (B : Nat) : Prop := ∃ (t : Addr) (kb : ClassId) (cd N : Int32) (vs : List Value), Exa Z h x "java/lang/String" ∧ Fld Z h x "java/lang/String" "coder" "B" (.int cd) ∧ Fld Z h x "java/lang/String" "value" "[B" (.ref t) ∧ Arv Z h t kb .byte N vs (.int 0) ∧ StrChars.Road.CodA cs cd N vs ∧ (∀ c ∈ cs, ¬ c < 0 ∧ ¬ (65535 : Int32) < c) ∧ cs.length ≤ 4000 ∧ x < B ∧ t < B
theorem OStr.exa {Z : State} {h : Heap} {x : Addr} {cs : List Int32} {B : Nat} (F : OStr Z h x cs B) : Exa Z h x "java/lang/String" := by obtain ⟨t, kb, cd, N, vs, r, -⟩ := F; exact r
theorem OStr.lt {Z : State} {h : Heap} {x : Addr} {cs : List Int32} {B : Nat} (F : OStr Z h x cs B) : x < h.size := F.exa.lt
theorem OStr.len {Z : State} {h : Heap} {x : Addr} {cs : List Int32} {B : Nat} (F : OStr Z h x cs B) : cs.length ≤ 4000 := by obtain ⟨t, kb, cd, N, vs, -, -, -, -, -, -, r, -, -⟩ := F; exact r
theorem OStr.top {Z : State} {h : Heap} {x : Addr} {cs : List Int32} {B : Nat} (F : OStr Z h x cs B) : OStr Z h x cs h.size := by
  obtain ⟨t, kb, cd, N, vs, r1, r2, r3, r4, r5, r6, r7, -, -⟩ := F
  exact ⟨t, kb, cd, N, vs, r1, r2, r3, r4, r5, r6, r7, r1.lt, r4.lt⟩
theorem OStr.keep {Z : State} {h h' : Heap} {x : Addr} {cs : List Int32} {B : Nat} {ws : List Addr} (F : OStr Z h x cs B) (K : Keep h h' ws) (q : ∀ y ∈ ws, OFar Z h B y) : OStr Z h' x cs B := by
  obtain ⟨t, kb, cd, N, vs, r1, r2, r3, r4, r5, r6, r7, r8, r9⟩ := F
  have nx : x ∉ ws := fun hx => by
    rcases q x hx with u | ⟨C, kk, a0, E, hC, -⟩
    · exact absurd r8 (Nat.not_lt.mpr u)
    · exact ne_exa r1 E (Ne.symm hC) rfl
  have nt : t ∉ ws := fun hx => by
    rcases q t hx with u | ⟨C, kk, a0, E, hC, wi⟩
    · exact absurd r9 (Nat.not_lt.mpr u)
    · obtain ⟨c, A, -⟩ := r4
      exact ne_arr E wi A rfl
  exact ⟨t, kb, cd, N, vs, r1.keep K, r2.keep K nx, r3.keep K nx, r4.keep K nt, r5, r6, r7, r8, r9⟩
theorem own_mkStr {Z : State} {h : Heap} {x t : Addr} {kb : ClassId} {cs bs : List Int32} {N : Int32} {n : Nat} (E : Exa Z h x "java/lang/String") (C : Fld Z h x "java/lang/String" "coder" "B" (.int 0)) (V : Fld Z h x "java/lang/String" "value" "[B" (.ref t)) (A : Arv Z h t kb .byte N (bs.map Value.int) (.int 0)) (hb : bs = cs.map (fun c => c.toInt8.toInt32)) (hp : ∀ c ∈ cs, ¬ c < 0 ∧ ¬ (255 : Int32) < c) (hn : cs.length = n) (hN : N = Int32.ofNat n) (hl : n ≤ 4000) : OStr Z h x cs h.size := by
  subst hn hN hb
  exact ⟨t, kb, 0, _, _, E, C, V, A, StrChars.Road.codOf rfl (fun c hc => (hp c hc).2), fun c hc => ⟨(hp c hc).1, own_up8 (hp c hc).2⟩, hl, E.lt, A.lt⟩
theorem OStr.latin  {x : Addr} {cs : List Int32} {B : Nat} (F : OStr Z h x cs B) (hl : ∀ c ∈ cs, ¬ (255 : Int32) < c) : ∃ (t : Addr) (kb : ClassId) (N : Int32) (vs : List Value), Exa Z h x "java/lang/String" ∧ Fld Z h x "java/lang/String" "coder" "B" (.int 0) ∧ Fld Z h x "java/lang/String" "value" "[B" (.ref t) ∧ Arv Z h t kb .byte N vs (.int 0) ∧ StrChars.Road.CodA cs 0 N vs ∧ (∀ c ∈ cs, ¬ c < 0 ∧ ¬ (65535 : Int32) < c) ∧ cs.length ≤ 4000 := by
  obtain ⟨t, kb, cd, N, vs, r1, r2, r3, r4, r5, r6, r7, -, -⟩ := F
  rcases r5 with ⟨rfl, q⟩ | ⟨rfl, -, -, c, hc, q⟩
  · exact ⟨t, kb, N, vs, r1, r2, r3, r4, Or.inl ⟨rfl, q⟩, r6, r7⟩
  · exact absurd q (hl c hc)
theorem own_strLen  (X : OSt Z EL a0 n0 h0 ws own bytes mx p l e R s m args below meth c sv T h k n) (pc' : Nat) {index W : Nat} {x : Addr} {cs : List Int32} {B1 : Nat} {z0 : Int32} {rest : List Value} (hd : decode bytes pc = .ok (.invokevirtual index, 3)) (S1 : OStr Z h x cs B1) (hwq : ∀ d ∈ StrChars.Road.wordsLen, d.before a0 Z = true) (wi : (Jvm.Cond.instantiable "java/lang/String" 4).before a0 Z = true) (hcs : Sta Z Z.heap "java/lang/String" "COMPACT_STRINGS" "Z" (.int z0)) (hz : ¬ z0 = 0)
    (w1 : (Jvm.Cond.methodLink own index (⟨"java/lang/String", "length", "()I"⟩ : MethodName)).before a0 Z = true) (w2 : (Jvm.Cond.declares (⟨"java/lang/String", "length", "()I"⟩ : MethodName)).before a0 Z = true) (w3 : (Jvm.Cond.selects "java/lang/String" (⟨"java/lang/String", "length", "()I"⟩ : MethodName) (⟨"java/lang/String", "length", "()I"⟩ : MethodName)).before a0 Z = true) (w4 : (Jvm.Cond.instanceMethod (⟨"java/lang/String", "length", "()I"⟩ : MethodName)).before a0 Z = true)
    (hsz : Ls.size = mx) (hW : (rest.map fun v => v.category).sum = W) (hfr : 2 ≤ R.frames) (hlo : W + 25 ≤ R.locals) (hc : k ≤ R.cells) (hs : n ≤ R.slots) (hq : pc' = pc + 3)
    (K : ∀ (T' : State), OSt Z EL a0 n0 h0 ws own bytes mx p l e R s m args below meth c sv T' h k n → OGo p.tables e below P T' (mkF m pc' Ls (.int (Int32.ofNat cs.length) :: rest))) : OGo p.tables e below P T (mkF m pc Ls (.ref x :: rest)) := by
  obtain ⟨t1, k1, cd1, N1, vs1, E1, C1, V1, A1, c1, b1, l1, -, -⟩ := S1
  have O1 := X.old
  have hpd : parseMethodDescriptor "()I" = some ⟨[], some .int⟩ := by decide +kernel
  refine own_virtB X pc' (a := x) (argsL := []) (rest := rest) (Q := fun v h' L => (v = some (.int (Int32.ofNat cs.length)) ∧ L = [] ∧ h' = h)) hd E1 (fun _ hZ => notFace_of_selects (args := #[]) (mvT hZ w3)) (fun vm0 hZ => StrChars.Road.lenW (W := W) hZ hwq (kI := 4) wi E1 V1 C1 A1 c1 b1 (hcs.ext O1.2) hz l1 hfr hlo) (ws' := []) (fun v h' L q => ⟨by obtain ⟨-, rfl, -⟩ := q; exact Fr.nil _, by obtain ⟨-, -, rfl⟩ := q; exact Keep.refl _ _⟩) w1 w2 w3 w4 (by decide) (lenOf hpd rfl) rfl rfl hsz hW hc hs all0 hq ?_
  rintro T' h' v L X' K' ⟨rfl, -, rfl⟩
  exact K T' X'
theorem own_cp (X : OSt Z EL a0 n0 h0 ws own bytes mx p l e R s m args below meth c sv T h k n) (pc' : Nat) {index W : Nat} {a b : Addr} {ka kd : ClassId} {ty : FieldType} {z z' sp dp nn : Int32} {vs vd us : List Value} {dv dd : Value} {rest : List Value} (hd : decode bytes pc = .ok (.invokestatic index, 3)) (A : Arv Z h a ka ty z vs dv) (B : Arv Z h b kd ty z' vd dd) (hty : refKind ty = false) (ha : b ∈ sv)
    (w1 : (Cond.methodLink own index Jvm.Stand.acN).before a0 Z = true) (w2 : (Cond.native Jvm.Stand.acN).before a0 Z = true) (w3 : (Cond.static Jvm.Stand.acN).before a0 Z = true) (w4 : (Cond.initialized "java/lang/System").before a0 Z = true)
    (h1 : ¬ sp < 0) (h2 : ¬ dp < 0) (h3 : ¬ nn < 0) (h4 : sp.toNatClampNeg + nn.toNatClampNeg ≤ z.toNatClampNeg) (h5 : dp.toNatClampNeg + nn.toNatClampNeg ≤ z'.toNatClampNeg) (hus : us = (List.range nn.toNatClampNeg).map fun i => vs.getD (sp.toNatClampNeg + i) dv) (hl : dp.toNatClampNeg + nn.toNatClampNeg ≤ vd.length)
    (hsz : Ls.size = mx) (hW : (rest.map fun v => v.category).sum = W) (hf : 1 ≤ R.frames) (hlo : W + (nativeFrameWords "java/lang/System" "arraycopy" 5 + 11) ≤ R.locals) (hq : pc' = pc + 3)
    (K : ∀ (T' : State) (h' : Heap), OSt Z EL a0 n0 h0 ws own bytes mx p l e R s m args below meth c sv T' h' k n → Keep h h' [b] → Arv Z h' b kd ty z' (vd.take dp.toNatClampNeg ++ us ++ vd.drop (dp.toNatClampNeg + nn.toNatClampNeg)) dd → OGo p.tables e below P T' (mkF m pc' Ls rest)) : OGo p.tables e below P T (mkF m pc Ls (.int nn :: .int dp :: .ref b :: .int sp :: .ref a :: rest)) := by
  subst hq
  obtain ⟨hx, hby, hml, eT, hlk, vm0, locs, Y, I⟩ := X
  have I0 := I
  obtain ⟨b1, b2, b3, b4, b5, b6, b7, b8, b9, b10, b11⟩ := I0
  obtain ⟨T', h', L, Y', e', N', Kp, B', stp⟩ := cpA Y hx (show Z.Warmed39 (s.setVm vm0).vm from b5) (show (s.setVm vm0).vm.findClass own = _ from b6) w1 w2 w3 w4 eT A B (Or.inl ⟨rfl, hty⟩) h1 h2 h3 h4 h5 hus hl b10 (b11 b ha).1 (g := mkF m pc Ls (.int nn :: .int dp :: .ref b :: .int sp :: .ref a :: rest)) rfl (by rw [hml]; exact hsz) rfl (hb hby hd) hf (W := W) (by show 2 * 0 + _ ≤ _; rw [hW]; omega) hlo
  obtain ⟨c1, c2, c3, c4, c5, c6, c7, c8, c9, c10, c11⟩ := OIn.keep I Kp (fun x hx => by cases List.mem_singleton.mp hx; exact ha) (Fr.nil _)
  exact og stp (K T' h' ⟨hx, hby, hml, e', hlk, vm0, L, Y', c1, c2, c3, c4, c5, c6, c7, c8, c9, N', c11⟩ Kp B')
theorem own_nfz {s : State} {args : Array Value} {y y' z' : MethodName} {C : String} (w : (Cond.selects C y' z').before args s = true) (he : z'.cls = y.cls) : NotFace s y := fun r0 h0 => by
  obtain ⟨c2, r2, m2, q1, q2, q3, q4, kP, hkP, hkPi⟩ := Cond.selects_spec w
  have e1 := findClass_of_methodNamed h0
  have e2 := findClass_of_methodNamed q3
  rw [he] at e2
  have e3 : r0.cls = m2.cls := Option.some.inj (e1.symm.trans e2)
  exact ⟨kP, by rw [e3]; exact hkP, hkPi⟩
theorem own_selfsel2 {y y' z' : MethodName} {C : String} (w : (Cond.selects C y' z').before a0 Z = true) (he : z'.cls = y.cls) (w2 : (Cond.instanceMethod y).before a0 Z = true) (w4 : (Cond.privateMethod y).before a0 Z = true) (hy : y.cls ≠ "java/lang/invoke/MethodHandle" ∧ y.cls ≠ "java/lang/invoke/VarHandle") : (Cond.selects y.cls y y).before a0 Z = true := by
  obtain ⟨mk, methM, hnamed, -⟩ := Cond.instanceMethod_spec w2
  obtain ⟨kr, hk, hni⟩ := own_nfz w he mk hnamed
  exact selects_self_of_private (findClass_of_methodNamed hnamed) hk hni (Cond.privateMethod_at w4) w2 hy
theorem own_cut {α : Type} (X : OSt Z EL a0 n0 h0 ws own bytes mx p l e R s m args below meth c sv T h k n) (pc2 : Nat) (Ls2 : α → Array Slot) (st2 : α → List Value) (ok : α → Prop) (J : ∀ (T' : State) (h' : Heap), OSt Z EL a0 n0 h0 ws own bytes mx p l e R s m args below meth c sv T' h' k n → Keep h h' [] → ∀ w : α, ok w → OGo p.tables e below P T' (mkF m pc2 (Ls2 w) ((st2 w)))) (K : (∀ (T' : State) (h' : Heap), OSt Z EL a0 n0 h0 ws own bytes mx p l e R s m args below meth c sv T' h' k n → Keep h h' [] → ∀ w : α, ok w → OGo p.tables e below P T' (mkF m pc2 (Ls2 w) ((st2 w)))) → OGo p.tables e below P T (mkF m pc Ls st)) : OGo p.tables e below P T (mkF m pc Ls st) := K J
end OwnKit
theorem ow {Z : State} {a0 : Array Value} (hw : ∀ d ∈ tables_1, d.before a0 Z = true) (i : Nat) {d : Jvm.Cond} (h : tables_1[i]? = some d) : d.before a0 Z = true := hw d (List.mem_of_getElem? h)
theorem om {α : Type} {L : List α} {a : α} (i : Nat) (h : L[i]? = some a) : a ∈ L := List.mem_of_getElem? h
def own_EL : List (String × Nat) := consts_1
def OWorld (Z : State) (a0 : Array Value) : Prop := EW Z a0 own_EL ∧ (Sta Z Z.heap "java/lang/String" "COMPACT_STRINGS" "Z" (.int (own_sti Z "java/lang/String" "COMPACT_STRINGS" "Z")) ∧ ¬ (own_sti Z "java/lang/String" "COMPACT_STRINGS" "Z") = 0) ∧ (Sta Z Z.heap "jdk/internal/util/Preconditions" "SIOOBE_FORMATTER" "Ljava/util/function/BiFunction;" (own_stv Z "jdk/internal/util/Preconditions" "SIOOBE_FORMATTER" "Ljava/util/function/BiFunction;") ∧ (own_stv Z "jdk/internal/util/Preconditions" "SIOOBE_FORMATTER" "Ljava/util/function/BiFunction;").isRef = true)
def own_ixA : List Int32 → Int32 → Int32
  | [], _ => -1
  | x :: r, k => if x = 9 then k else own_ixA r (k + 1)
def own_ix (cs : List Int32) (i : Nat) : Int32 := own_ixA (cs.drop i) (Int32.ofNat i)
theorem own_tab2 {x : Int32} (b : ¬ x < 0 ∧ ¬ (255 : Int32) < x) (q : StrChars.lo8 x = 9) : x = 9 := StrChars.lo8_inj b.1 b.2 (by decide) (by decide) (q.trans (by decide : (9 : Int32) = StrChars.lo8 9))
theorem own_tab3 {x : Int32} (q : ¬ StrChars.lo8 x = 9) : ¬ x = 9 := fun h => q (by subst h; decide)
theorem own_tab1 {x : Int32} (h : x = 9) : StrChars.lo8 x = 9 := by subst h; decide
theorem own_tab0 {x : Int32} (b : ¬ x < 0 ∧ ¬ (255 : Int32) < x) (h : ¬ x = 9) : ¬ StrChars.lo8 x = 9 := fun q => h (StrChars.lo8_inj b.1 b.2 (by decide) (by decide) (q.trans (by decide : (9 : Int32) = StrChars.lo8 9)))
theorem pn_java_lang_String__init____CIILjava_lang_Void__V : plainFor (⟨"java/lang/String", "<init>", "([CIILjava/lang/Void;)V"⟩ : MethodName) = true := by first | exact plainFor_of_name (by first | (simp [plainName, overriddenIn]; done) | decide +kernel) | decide +kernel
theorem d3_0 : decode jdk_42_method_149_code 0 = .ok (.aload_n 0, 1) := by decide +kernel
theorem d3_1 : decode jdk_42_method_149_code 1 = .ok (.invokespecial 1, 3) := by decide +kernel
theorem d3_4 : decode jdk_42_method_149_code 4 = .ok (.iload_n 3, 1) := by decide +kernel
theorem d3_5 : decode jdk_42_method_149_code 5 = .ok (.ifCond .ne 22, 3) := by decide +kernel
theorem d3_8 : decode jdk_42_method_149_code 8 = .ok (.aload_n 0, 1) := by decide +kernel
theorem d3_9 : decode jdk_42_method_149_code 9 = .ok (.ldc 7, 2) := by decide +kernel
theorem own_wS {Z : State} {a0 : Array Value} (hw : ∀ d ∈ tables_1, d.before a0 Z = true) : ∀ d ∈ Bundle.stringAtoms, d.before a0 Z = true := fun d hd => hw d ((by decide +kernel : ∀ d ∈ Bundle.stringAtoms, d ∈ tables_1) d hd)
theorem d3_11 : decode jdk_42_method_149_code 11 = .ok (.getfield 9, 3) := by decide +kernel
theorem d3_14 : decode jdk_42_method_149_code 14 = .ok (.putfield 9, 3) := by decide +kernel
theorem d3_17 : decode jdk_42_method_149_code 17 = .ok (.aload_n 0, 1) := by decide +kernel
theorem d3_18 : decode jdk_42_method_149_code 18 = .ok (.ldc 7, 2) := by decide +kernel
theorem d3_20 : decode jdk_42_method_149_code 20 = .ok (.getfield 15, 3) := by decide +kernel
theorem d3_23 : decode jdk_42_method_149_code 23 = .ok (.putfield 15, 3) := by decide +kernel
theorem d3_26 : decode jdk_42_method_149_code 26 = .ok (.return_, 1) := by decide +kernel
theorem pn_java_lang_String__init____C_V : plainFor (⟨"java/lang/String", "<init>", "([C)V"⟩ : MethodName) = true := by first | exact plainFor_of_name (by first | (simp [plainName, overriddenIn]; done) | decide +kernel) | decide +kernel
theorem d2_0 : decode jdk_42_method_3_code 0 = .ok (.aload_n 0, 1) := by decide +kernel
theorem d2_1 : decode jdk_42_method_3_code 1 = .ok (.aload_n 1, 1) := by decide +kernel
theorem d2_2 : decode jdk_42_method_3_code 2 = .ok (.iconst 0, 1) := by decide +kernel
theorem d2_3 : decode jdk_42_method_3_code 3 = .ok (.aload_n 1, 1) := by decide +kernel
theorem d2_4 : decode jdk_42_method_3_code 4 = .ok (.arraylength, 1) := by decide +kernel
theorem d2_5 : decode jdk_42_method_3_code 5 = .ok (.aconst_null, 1) := by decide +kernel
theorem d2_6 : decode jdk_42_method_3_code 6 = .ok (.invokespecial 27, 3) := by decide +kernel
theorem pd__28_5bCIILjava_2flang_2fVoid_3b_29V : parseMethodDescriptor "([CIILjava/lang/Void;)V" = some ⟨[(.array .char), .int, .int, (.object "java/lang/Void")], none⟩ := by decide +kernel
theorem d2_9 : decode jdk_42_method_3_code 9 = .ok (.return_, 1) := by decide +kernel
theorem pn_java_lang_Math_max__II_I : plainFor (⟨"java/lang/Math", "max", "(II)I"⟩ : MethodName) = true := by first | exact plainFor_of_name (by first | (simp [plainName, overriddenIn]; done) | decide +kernel) | decide +kernel
theorem d16_0 : decode jdk_29_method_65_code 0 = .ok (.iload_n 0, 1) := by decide +kernel
theorem d16_1 : decode jdk_29_method_65_code 1 = .ok (.iload_n 1, 1) := by decide +kernel
theorem d16_2 : decode jdk_29_method_65_code 2 = .ok (.if_icmp .lt 7, 3) := by decide +kernel
theorem d16_5 : decode jdk_29_method_65_code 5 = .ok (.iload_n 0, 1) := by decide +kernel
theorem d16_6 : decode jdk_29_method_65_code 6 = .ok (.goto 4, 3) := by decide +kernel
theorem d16_10 : decode jdk_29_method_65_code 10 = .ok (.ireturn, 1) := by decide +kernel
theorem pn_java_lang_Math_min__II_I : plainFor (⟨"java/lang/Math", "min", "(II)I"⟩ : MethodName) = true := by first | exact plainFor_of_name (by first | (simp [plainName, overriddenIn]; done) | decide +kernel) | decide +kernel
theorem d17_0 : decode jdk_29_method_69_code 0 = .ok (.iload_n 0, 1) := by decide +kernel
theorem d17_1 : decode jdk_29_method_69_code 1 = .ok (.iload_n 1, 1) := by decide +kernel
theorem d17_2 : decode jdk_29_method_69_code 2 = .ok (.if_icmp .gt 7, 3) := by decide +kernel
theorem d17_5 : decode jdk_29_method_69_code 5 = .ok (.iload_n 0, 1) := by decide +kernel
theorem d17_6 : decode jdk_29_method_69_code 6 = .ok (.goto 4, 3) := by decide +kernel
theorem d17_10 : decode jdk_29_method_69_code 10 = .ok (.ireturn, 1) := by decide +kernel
theorem d17_9 : decode jdk_29_method_69_code 9 = .ok (.iload_n 1, 1) := by decide +kernel
theorem pn_java_util_Arrays_checkLength__II_V : plainFor (⟨"java/util/Arrays", "checkLength", "(II)V"⟩ : MethodName) = true := by first | exact plainFor_of_name (by first | (simp [plainName, overriddenIn]; done) | decide +kernel) | decide +kernel
theorem d28_0 : decode jdk_65_method_131_code 0 = .ok (.iload_n 1, 1) := by decide +kernel
theorem d28_1 : decode jdk_65_method_131_code 1 = .ok (.iload_n 0, 1) := by decide +kernel
theorem d28_2 : decode jdk_65_method_131_code 2 = .ok (.if_icmp .ge 35, 3) := by decide +kernel
theorem d28_37 : decode jdk_65_method_131_code 37 = .ok (.return_, 1) := by decide +kernel
theorem pn_java_lang_StringLatin1_canEncode__I_Z : plainFor (⟨"java/lang/StringLatin1", "canEncode", "(I)Z"⟩ : MethodName) = true := by first | exact plainFor_of_name (by first | (simp [plainName, overriddenIn]; done) | decide +kernel) | decide +kernel
theorem d15_0 : decode jdk_43_method_4_code 0 = .ok (.iload_n 0, 1) := by decide +kernel
theorem d15_1 : decode jdk_43_method_4_code 1 = .ok (.ifCond .lt 14, 3) := by decide +kernel
theorem d15_4 : decode jdk_43_method_4_code 4 = .ok (.iload_n 0, 1) := by decide +kernel
theorem d15_5 : decode jdk_43_method_4_code 5 = .ok (.sipush 255, 3) := by decide +kernel
theorem d15_8 : decode jdk_43_method_4_code 8 = .ok (.if_icmp .gt 7, 3) := by decide +kernel
theorem d15_11 : decode jdk_43_method_4_code 11 = .ok (.iconst 1, 1) := by decide +kernel
theorem d15_12 : decode jdk_43_method_4_code 12 = .ok (.goto 4, 3) := by decide +kernel
theorem d15_16 : decode jdk_43_method_4_code 16 = .ok (.ireturn, 1) := by decide +kernel
theorem pn_java_lang_String_isLatin1___Z : plainFor (⟨"java/lang/String", "isLatin1", "()Z"⟩ : MethodName) = true := by first | exact plainFor_of_name (by first | (simp [plainName, overriddenIn]; done) | decide +kernel) | decide +kernel
theorem d13_0 : decode jdk_42_method_154_code 0 = .ok (.getstatic 38, 3) := by decide +kernel
theorem d13_3 : decode jdk_42_method_154_code 3 = .ok (.ifCond .eq 14, 3) := by decide +kernel
theorem d13_6 : decode jdk_42_method_154_code 6 = .ok (.aload_n 0, 1) := by decide +kernel
theorem d13_7 : decode jdk_42_method_154_code 7 = .ok (.getfield 15, 3) := by decide +kernel
theorem d13_10 : decode jdk_42_method_154_code 10 = .ok (.ifCond .ne 7, 3) := by decide +kernel
theorem d13_13 : decode jdk_42_method_154_code 13 = .ok (.iconst 1, 1) := by decide +kernel
theorem d13_14 : decode jdk_42_method_154_code 14 = .ok (.goto 4, 3) := by decide +kernel
theorem d13_18 : decode jdk_42_method_154_code 18 = .ok (.ireturn, 1) := by decide +kernel
theorem ef_rm20 (x : Int32) (y : Int32) (z : Int32) (fm : Value) (h_fm : fm.isRef = true) (m : MethodId) : entryFrame m #[(.int x), (.int y), (.int z), fm] 4 = mkF m 0 #[.val (.int x), .val (.int y), .val (.int z), .val fm] [] := by simp [entryFrame, mkF, argsToLocals, XT.cat1 h_fm, show (Value.int x).category = 1 from rfl, show (Value.int y).category = 1 from rfl, show (Value.int z).category = 1 from rfl]
theorem pn_jdk_internal_util_Preconditions_checkFromToIndex__IIILjava_util_function_BiFunction__I : plainFor (⟨"jdk/internal/util/Preconditions", "checkFromToIndex", "(IIILjava/util/function/BiFunction;)I"⟩ : MethodName) = true := by first | exact plainFor_of_name (by first | (simp [plainName, overriddenIn]; done) | decide +kernel) | decide +kernel
theorem d20_0 : decode jdk_41_method_12_code 0 = .ok (.iload_n 0, 1) := by decide +kernel
theorem d20_1 : decode jdk_41_method_12_code 1 = .ok (.ifCond .lt 13, 3) := by decide +kernel
theorem d20_4 : decode jdk_41_method_12_code 4 = .ok (.iload_n 0, 1) := by decide +kernel
theorem d20_5 : decode jdk_41_method_12_code 5 = .ok (.iload_n 1, 1) := by decide +kernel
theorem d20_6 : decode jdk_41_method_12_code 6 = .ok (.if_icmp .gt 8, 3) := by decide +kernel
theorem d20_9 : decode jdk_41_method_12_code 9 = .ok (.iload_n 1, 1) := by decide +kernel
theorem d20_10 : decode jdk_41_method_12_code 10 = .ok (.iload_n 2, 1) := by decide +kernel
theorem d20_11 : decode jdk_41_method_12_code 11 = .ok (.if_icmp .le 11, 3) := by decide +kernel
theorem d20_22 : decode jdk_41_method_12_code 22 = .ok (.iload_n 0, 1) := by decide +kernel
theorem d20_23 : decode jdk_41_method_12_code 23 = .ok (.ireturn, 1) := by decide +kernel
theorem pn_java_lang_String_checkBoundsBeginEnd__III_V : plainFor (⟨"java/lang/String", "checkBoundsBeginEnd", "(III)V"⟩ : MethodName) = true := by first | exact plainFor_of_name (by first | (simp [plainName, overriddenIn]; done) | decide +kernel) | decide +kernel
theorem d19_0 : decode jdk_42_method_158_code 0 = .ok (.iload_n 0, 1) := by decide +kernel
theorem d19_1 : decode jdk_42_method_158_code 1 = .ok (.iload_n 1, 1) := by decide +kernel
theorem d19_2 : decode jdk_42_method_158_code 2 = .ok (.iload_n 2, 1) := by decide +kernel
theorem d19_3 : decode jdk_42_method_158_code 3 = .ok (.getstatic 1053, 3) := by decide +kernel
theorem d19_6 : decode jdk_42_method_158_code 6 = .ok (.invokestatic 1062, 3) := by decide +kernel
theorem pd__28IIILjava_2futil_2ffunction_2fBiFunction_3b_29I : parseMethodDescriptor "(IIILjava/util/function/BiFunction;)I" = some ⟨[.int, .int, .int, (.object "java/util/function/BiFunction")], some .int⟩ := by decide +kernel
theorem d19_9 : decode jdk_42_method_158_code 9 = .ok (.pop, 1) := by decide +kernel
theorem d19_10 : decode jdk_42_method_158_code 10 = .ok (.return_, 1) := by decide +kernel
theorem pn_java_lang_String__init____BB_V : plainFor (⟨"java/lang/String", "<init>", "([BB)V"⟩ : MethodName) = true := by first | exact plainFor_of_name (by first | (simp [plainName, overriddenIn]; done) | decide +kernel) | decide +kernel
theorem d29_0 : decode jdk_42_method_151_code 0 = .ok (.aload_n 0, 1) := by decide +kernel
theorem d29_1 : decode jdk_42_method_151_code 1 = .ok (.invokespecial 1, 3) := by decide +kernel
theorem d29_4 : decode jdk_42_method_151_code 4 = .ok (.aload_n 0, 1) := by decide +kernel
theorem d29_5 : decode jdk_42_method_151_code 5 = .ok (.aload_n 1, 1) := by decide +kernel
theorem d29_6 : decode jdk_42_method_151_code 6 = .ok (.putfield 9, 3) := by decide +kernel
theorem d29_9 : decode jdk_42_method_151_code 9 = .ok (.aload_n 0, 1) := by decide +kernel
theorem d29_10 : decode jdk_42_method_151_code 10 = .ok (.iload_n 2, 1) := by decide +kernel
theorem d29_11 : decode jdk_42_method_151_code 11 = .ok (.putfield 15, 3) := by decide +kernel
theorem d29_14 : decode jdk_42_method_151_code 14 = .ok (.return_, 1) := by decide +kernel
theorem pn_com_example_ratable_ratable_core_JournalSums_Fields__init___Ljava_lang_String__V : plainFor (⟨"com/example/ratable/ratable/core/JournalSums$Fields", "<init>", "(Ljava/lang/String;)V"⟩ : MethodName) = true := by first | exact plainFor_of_name (by first | (simp [plainName, overriddenIn]; done) | decide +kernel) | decide +kernel
theorem d6_0 : decode prog_51_method_1_code 0 = .ok (.aload_n 0, 1) := by decide +kernel
theorem d6_1 : decode prog_51_method_1_code 1 = .ok (.invokespecial 1, 3) := by decide +kernel
theorem d6_4 : decode prog_51_method_1_code 4 = .ok (.aload_n 0, 1) := by decide +kernel
theorem d6_5 : decode prog_51_method_1_code 5 = .ok (.aload_n 1, 1) := by decide +kernel
theorem d6_6 : decode prog_51_method_1_code 6 = .ok (.putfield 7, 3) := by decide +kernel
theorem d6_9 : decode prog_51_method_1_code 9 = .ok (.return_, 1) := by decide +kernel
theorem pn_com_example_ratable_ratable_core_JournalSums_Fields_more___Z : plainFor (⟨"com/example/ratable/ratable/core/JournalSums$Fields", "more", "()Z"⟩ : MethodName) = true := by first | exact plainFor_of_name (by first | (simp [plainName, overriddenIn]; done) | decide +kernel) | decide +kernel
theorem d7_0 : decode prog_51_method_2_code 0 = .ok (.aload_n 0, 1) := by decide +kernel
theorem d7_1 : decode prog_51_method_2_code 1 = .ok (.getfield 13, 3) := by decide +kernel
theorem d7_4 : decode prog_51_method_2_code 4 = .ok (.aload_n 0, 1) := by decide +kernel
theorem d7_5 : decode prog_51_method_2_code 5 = .ok (.getfield 7, 3) := by decide +kernel
theorem d7_8 : decode prog_51_method_2_code 8 = .ok (.invokevirtual 17, 3) := by decide +kernel
theorem own_wL {Z : State} {a0 : Array Value} (hw : ∀ d ∈ tables_1, d.before a0 Z = true) : ∀ d ∈ StrChars.Road.wordsLen, d.before a0 Z = true := fun d hd => hw d ((by decide +kernel : ∀ d ∈ StrChars.Road.wordsLen, d ∈ tables_1) d hd)
theorem d7_11 : decode prog_51_method_2_code 11 = .ok (.if_icmp .gt 7, 3) := by decide +kernel
theorem d7_14 : decode prog_51_method_2_code 14 = .ok (.iconst 1, 1) := by decide +kernel
theorem d7_15 : decode prog_51_method_2_code 15 = .ok (.goto 4, 3) := by decide +kernel
theorem d7_19 : decode prog_51_method_2_code 19 = .ok (.ireturn, 1) := by decide +kernel
theorem d7_18 : decode prog_51_method_2_code 18 = .ok (.iconst 0, 1) := by decide +kernel
theorem pn_java_lang_StringLatin1_indexOf___BIII_I : plainFor (⟨"java/lang/StringLatin1", "indexOf", "([BIII)I"⟩ : MethodName) = true := by first | exact plainFor_of_name (by first | (simp [plainName, overriddenIn]; done) | decide +kernel) | decide +kernel
theorem d14_0 : decode jdk_43_method_22_code 0 = .ok (.iload_n 1, 1) := by decide +kernel
theorem d14_1 : decode jdk_43_method_22_code 1 = .ok (.invokestatic 88, 3) := by decide +kernel
theorem pd__28I_29Z : parseMethodDescriptor "(I)Z" = some ⟨[.int], some .boolean⟩ := by decide +kernel
theorem d14_4 : decode jdk_43_method_22_code 4 = .ok (.ifCond .ne 5, 3) := by decide +kernel
theorem d14_9 : decode jdk_43_method_22_code 9 = .ok (.iload_n 2, 1) := by decide +kernel
theorem d14_10 : decode jdk_43_method_22_code 10 = .ok (.iconst 0, 1) := by decide +kernel
theorem d14_11 : decode jdk_43_method_22_code 11 = .ok (.invokestatic 92, 3) := by decide +kernel
theorem pd__28II_29I : parseMethodDescriptor "(II)I" = some ⟨[.int, .int], some .int⟩ := by decide +kernel
theorem d14_14 : decode jdk_43_method_22_code 14 = .ok (.istore_n 2, 1) := by decide +kernel
theorem d14_15 : decode jdk_43_method_22_code 15 = .ok (.iload_n 3, 1) := by decide +kernel
theorem d14_16 : decode jdk_43_method_22_code 16 = .ok (.aload_n 0, 1) := by decide +kernel
theorem d14_17 : decode jdk_43_method_22_code 17 = .ok (.arraylength, 1) := by decide +kernel
theorem d14_18 : decode jdk_43_method_22_code 18 = .ok (.invokestatic 38, 3) := by decide +kernel
theorem d14_21 : decode jdk_43_method_22_code 21 = .ok (.istore_n 3, 1) := by decide +kernel
theorem d14_22 : decode jdk_43_method_22_code 22 = .ok (.iload_n 2, 1) := by decide +kernel
theorem d14_23 : decode jdk_43_method_22_code 23 = .ok (.iload_n 3, 1) := by decide +kernel
theorem d14_24 : decode jdk_43_method_22_code 24 = .ok (.if_icmp .lt 5, 3) := by decide +kernel
theorem d14_27 : decode jdk_43_method_22_code 27 = .ok (.iconst (-1), 1) := by decide +kernel
theorem d14_28 : decode jdk_43_method_22_code 28 = .ok (.ireturn, 1) := by decide +kernel
theorem pn_java_lang_String_indexOf__II_I : plainFor (⟨"java/lang/String", "indexOf", "(II)I"⟩ : MethodName) = true := by first | exact plainFor_of_name (by first | (simp [plainName, overriddenIn]; done) | decide +kernel) | decide +kernel
theorem d12_0 : decode jdk_42_method_80_code 0 = .ok (.aload_n 0, 1) := by decide +kernel
theorem d12_1 : decode jdk_42_method_80_code 1 = .ok (.invokevirtual 492, 3) := by decide +kernel
theorem pd__28_29Z : parseMethodDescriptor "()Z" = some ⟨[], some .boolean⟩ := by decide +kernel
theorem d12_4 : decode jdk_42_method_80_code 4 = .ok (.ifCond .eq 19, 3) := by decide +kernel
theorem d12_7 : decode jdk_42_method_80_code 7 = .ok (.aload_n 0, 1) := by decide +kernel
theorem d12_8 : decode jdk_42_method_80_code 8 = .ok (.getfield 9, 3) := by decide +kernel
theorem d12_11 : decode jdk_42_method_80_code 11 = .ok (.iload_n 1, 1) := by decide +kernel
theorem d12_12 : decode jdk_42_method_80_code 12 = .ok (.iload_n 2, 1) := by decide +kernel
theorem d12_13 : decode jdk_42_method_80_code 13 = .ok (.aload_n 0, 1) := by decide +kernel
theorem d12_14 : decode jdk_42_method_80_code 14 = .ok (.invokevirtual 505, 3) := by decide +kernel
theorem d12_17 : decode jdk_42_method_80_code 17 = .ok (.invokestatic 637, 3) := by decide +kernel
theorem pd__28_5bBIII_29I : parseMethodDescriptor "([BIII)I" = some ⟨[(.array .byte), .int, .int, .int], some .int⟩ := by decide +kernel
theorem d12_20 : decode jdk_42_method_80_code 20 = .ok (.goto 16, 3) := by decide +kernel
theorem d12_36 : decode jdk_42_method_80_code 36 = .ok (.ireturn, 1) := by decide +kernel
theorem pn_com_example_ratable_ratable_core_JournalSums_Fields_end___I : plainFor (⟨"com/example/ratable/ratable/core/JournalSums$Fields", "end", "()I"⟩ : MethodName) = true := by first | exact plainFor_of_name (by first | (simp [plainName, overriddenIn]; done) | decide +kernel) | decide +kernel
theorem d11_0 : decode prog_51_method_8_code 0 = .ok (.aload_n 0, 1) := by decide +kernel
theorem d11_1 : decode prog_51_method_8_code 1 = .ok (.invokevirtual 90, 3) := by decide +kernel
theorem d11_4 : decode prog_51_method_8_code 4 = .ok (.ifCond .ne 33, 3) := by decide +kernel
theorem d11_37 : decode prog_51_method_8_code 37 = .ok (.aload_n 0, 1) := by decide +kernel
theorem d11_38 : decode prog_51_method_8_code 38 = .ok (.getfield 7, 3) := by decide +kernel
theorem d11_41 : decode prog_51_method_8_code 41 = .ok (.bipush 9, 2) := by decide +kernel
theorem d11_43 : decode prog_51_method_8_code 43 = .ok (.aload_n 0, 1) := by decide +kernel
theorem d11_44 : decode prog_51_method_8_code 44 = .ok (.getfield 13, 3) := by decide +kernel
theorem d11_47 : decode prog_51_method_8_code 47 = .ok (.invokevirtual 96, 3) := by decide +kernel
theorem d11_50 : decode prog_51_method_8_code 50 = .ok (.istore_n 1, 1) := by decide +kernel
theorem d11_51 : decode prog_51_method_8_code 51 = .ok (.iload_n 1, 1) := by decide +kernel
theorem d11_52 : decode prog_51_method_8_code 52 = .ok (.ifCond .ge 13, 3) := by decide +kernel
theorem d11_55 : decode prog_51_method_8_code 55 = .ok (.aload_n 0, 1) := by decide +kernel
theorem d11_56 : decode prog_51_method_8_code 56 = .ok (.getfield 7, 3) := by decide +kernel
theorem d11_59 : decode prog_51_method_8_code 59 = .ok (.invokevirtual 17, 3) := by decide +kernel
theorem d11_62 : decode prog_51_method_8_code 62 = .ok (.goto 4, 3) := by decide +kernel
theorem d11_66 : decode prog_51_method_8_code 66 = .ok (.ireturn, 1) := by decide +kernel
theorem pn_java_lang_String_substring__II_Ljava_lang_String_ : plainFor (⟨"java/lang/String", "substring", "(II)Ljava/lang/String;"⟩ : MethodName) = true := by first | exact plainFor_of_name (by first | (simp [plainName, overriddenIn]; done) | decide +kernel) | decide +kernel
theorem d18_0 : decode jdk_42_method_92_code 0 = .ok (.aload_n 0, 1) := by decide +kernel
theorem d18_1 : decode jdk_42_method_92_code 1 = .ok (.invokevirtual 505, 3) := by decide +kernel
theorem d18_4 : decode jdk_42_method_92_code 4 = .ok (.istore_n 3, 1) := by decide +kernel
theorem d18_5 : decode jdk_42_method_92_code 5 = .ok (.iload_n 1, 1) := by decide +kernel
theorem d18_6 : decode jdk_42_method_92_code 6 = .ok (.iload_n 2, 1) := by decide +kernel
theorem d18_7 : decode jdk_42_method_92_code 7 = .ok (.iload_n 3, 1) := by decide +kernel
theorem d18_8 : decode jdk_42_method_92_code 8 = .ok (.invokestatic 521, 3) := by decide +kernel
theorem pd__28III_29V : parseMethodDescriptor "(III)V" = some ⟨[.int, .int, .int], none⟩ := by decide +kernel
theorem d18_11 : decode jdk_42_method_92_code 11 = .ok (.iload_n 1, 1) := by decide +kernel
theorem d18_12 : decode jdk_42_method_92_code 12 = .ok (.ifCond .ne 10, 3) := by decide +kernel
theorem d18_15 : decode jdk_42_method_92_code 15 = .ok (.iload_n 2, 1) := by decide +kernel
theorem d18_16 : decode jdk_42_method_92_code 16 = .ok (.iload_n 3, 1) := by decide +kernel
theorem d18_17 : decode jdk_42_method_92_code 17 = .ok (.if_icmp .ne 5, 3) := by decide +kernel
theorem d18_20 : decode jdk_42_method_92_code 20 = .ok (.aload_n 0, 1) := by decide +kernel
theorem d18_21 : decode jdk_42_method_92_code 21 = .ok (.areturn, 1) := by decide +kernel
theorem pn_com_example_ratable_ratable_core_JournalSums_Fields_text___Ljava_lang_String_ : plainFor (⟨"com/example/ratable/ratable/core/JournalSums$Fields", "text", "()Ljava/lang/String;"⟩ : MethodName) = true := by first | exact plainFor_of_name (by first | (simp [plainName, overriddenIn]; done) | decide +kernel) | decide +kernel
theorem d10_0 : decode prog_51_method_3_code 0 = .ok (.aload_n 0, 1) := by decide +kernel
theorem d10_1 : decode prog_51_method_3_code 1 = .ok (.invokevirtual 23, 3) := by decide +kernel
theorem pd__28_29I : parseMethodDescriptor "()I" = some ⟨[], some .int⟩ := by decide +kernel
theorem d10_4 : decode prog_51_method_3_code 4 = .ok (.istore_n 1, 1) := by decide +kernel
theorem d10_5 : decode prog_51_method_3_code 5 = .ok (.aload_n 0, 1) := by decide +kernel
theorem d10_6 : decode prog_51_method_3_code 6 = .ok (.getfield 7, 3) := by decide +kernel
theorem d10_9 : decode prog_51_method_3_code 9 = .ok (.aload_n 0, 1) := by decide +kernel
theorem d10_10 : decode prog_51_method_3_code 10 = .ok (.getfield 13, 3) := by decide +kernel
theorem d10_13 : decode prog_51_method_3_code 13 = .ok (.iload_n 1, 1) := by decide +kernel
theorem d10_14 : decode prog_51_method_3_code 14 = .ok (.invokevirtual 26, 3) := by decide +kernel
theorem pd__28II_29Ljava_2flang_2fString_3b : parseMethodDescriptor "(II)Ljava/lang/String;" = some ⟨[.int, .int], some (.object "java/lang/String")⟩ := by decide +kernel
theorem d10_17 : decode prog_51_method_3_code 17 = .ok (.astore_n 2, 1) := by decide +kernel
theorem d10_18 : decode prog_51_method_3_code 18 = .ok (.aload_n 0, 1) := by decide +kernel
theorem d10_19 : decode prog_51_method_3_code 19 = .ok (.iload_n 1, 1) := by decide +kernel
theorem d10_20 : decode prog_51_method_3_code 20 = .ok (.iconst 1, 1) := by decide +kernel
theorem d10_21 : decode prog_51_method_3_code 21 = .ok (.iadd, 1) := by decide +kernel
theorem d10_22 : decode prog_51_method_3_code 22 = .ok (.putfield 13, 3) := by decide +kernel
theorem d10_25 : decode prog_51_method_3_code 25 = .ok (.aload_n 2, 1) := by decide +kernel
theorem d10_26 : decode prog_51_method_3_code 26 = .ok (.areturn, 1) := by decide +kernel
theorem pn_java_lang_StringLatin1_indexOfChar___BIII_I : plainFor (⟨"java/lang/StringLatin1", "indexOfChar", "([BIII)I"⟩ : MethodName) = true := by first | exact plainFor_of_name (by first | (simp [plainName, overriddenIn]; done) | decide +kernel) | decide +kernel
theorem d24_0 : decode jdk_43_method_23_code 0 = .ok (.iload_n 1, 1) := by decide +kernel
theorem d24_1 : decode jdk_43_method_23_code 1 = .ok (.i2b, 1) := by decide +kernel
theorem d24_2 : decode jdk_43_method_23_code 2 = .ok (.istore 4, 2) := by decide +kernel
theorem d24_4 : decode jdk_43_method_23_code 4 = .ok (.iload_n 2, 1) := by decide +kernel
theorem d24_5 : decode jdk_43_method_23_code 5 = .ok (.istore 5, 2) := by decide +kernel
theorem d24_7 : decode jdk_43_method_23_code 7 = .ok (.iload 5, 2) := by decide +kernel
theorem d24_9 : decode jdk_43_method_23_code 9 = .ok (.iload_n 3, 1) := by decide +kernel
theorem d24_10 : decode jdk_43_method_23_code 10 = .ok (.if_icmp .ge 21, 3) := by decide +kernel
theorem d24_13 : decode jdk_43_method_23_code 13 = .ok (.aload_n 0, 1) := by decide +kernel
theorem d24_14 : decode jdk_43_method_23_code 14 = .ok (.iload 5, 2) := by decide +kernel
theorem d24_16 : decode jdk_43_method_23_code 16 = .ok (.baload, 1) := by decide +kernel
theorem d24_17 : decode jdk_43_method_23_code 17 = .ok (.iload 4, 2) := by decide +kernel
theorem d24_19 : decode jdk_43_method_23_code 19 = .ok (.if_icmp .ne 6, 3) := by decide +kernel
theorem d24_22 : decode jdk_43_method_23_code 22 = .ok (.iload 5, 2) := by decide +kernel
theorem d24_24 : decode jdk_43_method_23_code 24 = .ok (.ireturn, 1) := by decide +kernel
theorem d24_25 : decode jdk_43_method_23_code 25 = .ok (.iinc 5 1, 3) := by decide +kernel
theorem d24_28 : decode jdk_43_method_23_code 28 = .ok (.goto (-21), 3) := by decide +kernel
theorem d24_31 : decode jdk_43_method_23_code 31 = .ok (.iconst (-1), 1) := by decide +kernel
theorem d24_32 : decode jdk_43_method_23_code 32 = .ok (.ireturn, 1) := by decide +kernel
theorem d14_29 : decode jdk_43_method_22_code 29 = .ok (.aload_n 0, 1) := by decide +kernel
theorem d14_30 : decode jdk_43_method_22_code 30 = .ok (.iload_n 1, 1) := by decide +kernel
theorem d14_31 : decode jdk_43_method_22_code 31 = .ok (.iload_n 2, 1) := by decide +kernel
theorem d14_32 : decode jdk_43_method_22_code 32 = .ok (.iload_n 3, 1) := by decide +kernel
theorem d14_33 : decode jdk_43_method_22_code 33 = .ok (.invokestatic 95, 3) := by decide +kernel
theorem d14_36 : decode jdk_43_method_22_code 36 = .ok (.ireturn, 1) := by decide +kernel
theorem d11_65 : decode prog_51_method_8_code 65 = .ok (.iload_n 1, 1) := by decide +kernel
theorem pn_java_lang_StringLatin1_newString___BII_Ljava_lang_String_ : plainFor (⟨"java/lang/StringLatin1", "newString", "([BII)Ljava/lang/String;"⟩ : MethodName) = true := by first | exact plainFor_of_name (by first | (simp [plainName, overriddenIn]; done) | decide +kernel) | decide +kernel
theorem d25_0 : decode jdk_43_method_47_code 0 = .ok (.iload_n 2, 1) := by decide +kernel
theorem d25_1 : decode jdk_43_method_47_code 1 = .ok (.ifCond .ne 6, 3) := by decide +kernel
theorem d25_4 : decode jdk_43_method_47_code 4 = .ok (.ldc 151, 2) := by decide +kernel
theorem own_ELne : own_EL ≠ [] := by unfold own_EL consts_1; exact List.cons_ne_nil _ _
theorem d25_6 : decode jdk_43_method_47_code 6 = .ok (.areturn, 1) := by decide +kernel
theorem d18_22 : decode jdk_42_method_92_code 22 = .ok (.iload_n 2, 1) := by decide +kernel
theorem d18_23 : decode jdk_42_method_92_code 23 = .ok (.iload_n 1, 1) := by decide +kernel
theorem d18_24 : decode jdk_42_method_92_code 24 = .ok (.isub, 1) := by decide +kernel
theorem d18_25 : decode jdk_42_method_92_code 25 = .ok (.istore 4, 2) := by decide +kernel
theorem d18_27 : decode jdk_42_method_92_code 27 = .ok (.aload_n 0, 1) := by decide +kernel
theorem d18_28 : decode jdk_42_method_92_code 28 = .ok (.invokevirtual 492, 3) := by decide +kernel
theorem d18_31 : decode jdk_42_method_92_code 31 = .ok (.ifCond .eq 16, 3) := by decide +kernel
theorem d18_34 : decode jdk_42_method_92_code 34 = .ok (.aload_n 0, 1) := by decide +kernel
theorem d18_35 : decode jdk_42_method_92_code 35 = .ok (.getfield 9, 3) := by decide +kernel
theorem d18_38 : decode jdk_42_method_92_code 38 = .ok (.iload_n 1, 1) := by decide +kernel
theorem d18_39 : decode jdk_42_method_92_code 39 = .ok (.iload 4, 2) := by decide +kernel
theorem d18_41 : decode jdk_42_method_92_code 41 = .ok (.invokestatic 685, 3) := by decide +kernel
theorem pd__28_5bBII_29Ljava_2flang_2fString_3b : parseMethodDescriptor "([BII)Ljava/lang/String;" = some ⟨[(.array .byte), .int, .int], some (.object "java/lang/String")⟩ := by decide +kernel
theorem d18_44 : decode jdk_42_method_92_code 44 = .ok (.goto 13, 3) := by decide +kernel
theorem d18_57 : decode jdk_42_method_92_code 57 = .ok (.areturn, 1) := by decide +kernel
theorem pn_java_util_Arrays_copyOfRangeByte___BII__B : plainFor (⟨"java/util/Arrays", "copyOfRangeByte", "([BII)[B"⟩ : MethodName) = true := by first | exact plainFor_of_name (by first | (simp [plainName, overriddenIn]; done) | decide +kernel) | decide +kernel
theorem d27_0 : decode jdk_65_method_133_code 0 = .ok (.iload_n 1, 1) := by decide +kernel
theorem d27_1 : decode jdk_65_method_133_code 1 = .ok (.iload_n 2, 1) := by decide +kernel
theorem d27_2 : decode jdk_65_method_133_code 2 = .ok (.invokestatic 343, 3) := by decide +kernel
theorem pd__28II_29V : parseMethodDescriptor "(II)V" = some ⟨[.int, .int], none⟩ := by decide +kernel
theorem d27_5 : decode jdk_65_method_133_code 5 = .ok (.iload_n 2, 1) := by decide +kernel
theorem d27_6 : decode jdk_65_method_133_code 6 = .ok (.iload_n 1, 1) := by decide +kernel
theorem d27_7 : decode jdk_65_method_133_code 7 = .ok (.isub, 1) := by decide +kernel
theorem d27_8 : decode jdk_65_method_133_code 8 = .ok (.istore_n 3, 1) := by decide +kernel
theorem d27_9 : decode jdk_65_method_133_code 9 = .ok (.iload_n 3, 1) := by decide +kernel
theorem d27_10 : decode jdk_65_method_133_code 10 = .ok (.newarray .byte, 2) := by decide +kernel
theorem d27_12 : decode jdk_65_method_133_code 12 = .ok (.astore 4, 2) := by decide +kernel
theorem d27_14 : decode jdk_65_method_133_code 14 = .ok (.aload_n 0, 1) := by decide +kernel
theorem d27_15 : decode jdk_65_method_133_code 15 = .ok (.iload_n 1, 1) := by decide +kernel
theorem d27_16 : decode jdk_65_method_133_code 16 = .ok (.aload 4, 2) := by decide +kernel
theorem d27_18 : decode jdk_65_method_133_code 18 = .ok (.iconst 0, 1) := by decide +kernel
theorem d27_19 : decode jdk_65_method_133_code 19 = .ok (.aload_n 0, 1) := by decide +kernel
theorem d27_20 : decode jdk_65_method_133_code 20 = .ok (.arraylength, 1) := by decide +kernel
theorem d27_21 : decode jdk_65_method_133_code 21 = .ok (.iload_n 1, 1) := by decide +kernel
theorem d27_22 : decode jdk_65_method_133_code 22 = .ok (.isub, 1) := by decide +kernel
theorem d27_23 : decode jdk_65_method_133_code 23 = .ok (.iload_n 3, 1) := by decide +kernel
theorem d27_24 : decode jdk_65_method_133_code 24 = .ok (.invokestatic 304, 3) := by decide +kernel
theorem d27_27 : decode jdk_65_method_133_code 27 = .ok (.invokestatic 150, 3) := by decide +kernel
theorem d27_30 : decode jdk_65_method_133_code 30 = .ok (.aload 4, 2) := by decide +kernel
theorem d27_32 : decode jdk_65_method_133_code 32 = .ok (.areturn, 1) := by decide +kernel
theorem pn_java_util_Arrays_copyOfRange___BII__B : plainFor (⟨"java/util/Arrays", "copyOfRange", "([BII)[B"⟩ : MethodName) = true := by first | exact plainFor_of_name (by first | (simp [plainName, overriddenIn]; done) | decide +kernel) | decide +kernel
theorem d26_0 : decode jdk_65_method_132_code 0 = .ok (.iload_n 1, 1) := by decide +kernel
theorem d26_1 : decode jdk_65_method_132_code 1 = .ok (.ifCond .ne 9, 3) := by decide +kernel
theorem d26_4 : decode jdk_65_method_132_code 4 = .ok (.iload_n 2, 1) := by decide +kernel
theorem d26_5 : decode jdk_65_method_132_code 5 = .ok (.aload_n 0, 1) := by decide +kernel
theorem d26_6 : decode jdk_65_method_132_code 6 = .ok (.arraylength, 1) := by decide +kernel
theorem d26_7 : decode jdk_65_method_132_code 7 = .ok (.if_icmp .eq 10, 3) := by decide +kernel
theorem d26_10 : decode jdk_65_method_132_code 10 = .ok (.aload_n 0, 1) := by decide +kernel
theorem d26_11 : decode jdk_65_method_132_code 11 = .ok (.iload_n 1, 1) := by decide +kernel
theorem d26_12 : decode jdk_65_method_132_code 12 = .ok (.iload_n 2, 1) := by decide +kernel
theorem d26_13 : decode jdk_65_method_132_code 13 = .ok (.invokestatic 339, 3) := by decide +kernel
theorem pd__28_5bBII_29_5bB : parseMethodDescriptor "([BII)[B" = some ⟨[(.array .byte), .int, .int], some (.array .byte)⟩ := by decide +kernel
theorem d26_16 : decode jdk_65_method_132_code 16 = .ok (.areturn, 1) := by decide +kernel
theorem d25_7 : decode jdk_43_method_47_code 7 = .ok (.new 1, 3) := by decide +kernel
theorem d25_10 : decode jdk_43_method_47_code 10 = .ok (.dup, 1) := by decide +kernel
theorem d25_11 : decode jdk_43_method_47_code 11 = .ok (.aload_n 0, 1) := by decide +kernel
theorem d25_12 : decode jdk_43_method_47_code 12 = .ok (.iload_n 1, 1) := by decide +kernel
theorem d25_13 : decode jdk_43_method_47_code 13 = .ok (.iload_n 1, 1) := by decide +kernel
theorem d25_14 : decode jdk_43_method_47_code 14 = .ok (.iload_n 2, 1) := by decide +kernel
theorem d25_15 : decode jdk_43_method_47_code 15 = .ok (.iadd, 1) := by decide +kernel
theorem d25_16 : decode jdk_43_method_47_code 16 = .ok (.invokestatic 232, 3) := by decide +kernel
theorem d25_19 : decode jdk_43_method_47_code 19 = .ok (.iconst 0, 1) := by decide +kernel
theorem d25_20 : decode jdk_43_method_47_code 20 = .ok (.invokespecial 112, 3) := by decide +kernel
theorem pd__28_5bBB_29V : parseMethodDescriptor "([BB)V" = some ⟨[(.array .byte), .byte], none⟩ := by decide +kernel
theorem d25_23 : decode jdk_43_method_47_code 23 = .ok (.areturn, 1) := by decide +kernel
theorem pn_com_example_ratable_ratable_core_FieldsMorePinLaw_tab__ZC_I : plainFor (⟨"com/example/ratable/ratable/core/FieldsMorePinLaw", "tab", "(ZC)I"⟩ : MethodName) = true := by first | exact plainFor_of_name (by first | (simp [plainName, overriddenIn]; done) | decide +kernel) | decide +kernel
theorem d5_0 : decode method_3_code 0 = .ok (.iload_n 0, 1) := by decide +kernel
theorem d5_1 : decode method_3_code 1 = .ok (.ifCond .eq 13, 3) := by decide +kernel
theorem d5_14 : decode method_3_code 14 = .ok (.iconst 0, 1) := by decide +kernel
theorem d5_15 : decode method_3_code 15 = .ok (.ireturn, 1) := by decide +kernel
theorem d5_4 : decode method_3_code 4 = .ok (.iload_n 1, 1) := by decide +kernel
theorem d5_5 : decode method_3_code 5 = .ok (.bipush 9, 2) := by decide +kernel
theorem d5_7 : decode method_3_code 7 = .ok (.if_icmp .ne 7, 3) := by decide +kernel
theorem d5_10 : decode method_3_code 10 = .ok (.iconst 1, 1) := by decide +kernel
theorem d5_11 : decode method_3_code 11 = .ok (.goto 4, 3) := by decide +kernel
theorem pn_com_example_ratable_ratable_core_FieldsMorePinLaw_line__ICCC_Ljava_lang_String_ : plainFor (⟨"com/example/ratable/ratable/core/FieldsMorePinLaw", "line", "(ICCC)Ljava/lang/String;"⟩ : MethodName) = true := by first | exact plainFor_of_name (by first | (simp [plainName, overriddenIn]; done) | decide +kernel) | decide +kernel
theorem d1_0 : decode method_4_code 0 = .ok (.iload_n 0, 1) := by decide +kernel
theorem d1_1 : decode method_4_code 1 = .ok (.ifCond .ne 14, 3) := by decide +kernel
theorem d1_4 : decode method_4_code 4 = .ok (.new 30, 3) := by decide +kernel
theorem d1_7 : decode method_4_code 7 = .ok (.dup, 1) := by decide +kernel
theorem d1_8 : decode method_4_code 8 = .ok (.iconst 0, 1) := by decide +kernel
theorem d1_9 : decode method_4_code 9 = .ok (.newarray .char, 2) := by decide +kernel
theorem d1_11 : decode method_4_code 11 = .ok (.invokespecial 32, 3) := by decide +kernel
theorem pd__28_5bC_29V : parseMethodDescriptor "([C)V" = some ⟨[(.array .char)], none⟩ := by decide +kernel
theorem d1_14 : decode method_4_code 14 = .ok (.areturn, 1) := by decide +kernel
theorem d1_15 : decode method_4_code 15 = .ok (.iload_n 0, 1) := by decide +kernel
theorem d1_16 : decode method_4_code 16 = .ok (.iconst 1, 1) := by decide +kernel
theorem d1_17 : decode method_4_code 17 = .ok (.if_icmp .ne 18, 3) := by decide +kernel
theorem d1_20 : decode method_4_code 20 = .ok (.new 30, 3) := by decide +kernel
theorem d1_23 : decode method_4_code 23 = .ok (.dup, 1) := by decide +kernel
theorem d1_24 : decode method_4_code 24 = .ok (.iconst 1, 1) := by decide +kernel
theorem d1_25 : decode method_4_code 25 = .ok (.newarray .char, 2) := by decide +kernel
theorem d1_27 : decode method_4_code 27 = .ok (.dup, 1) := by decide +kernel
theorem d1_28 : decode method_4_code 28 = .ok (.iconst 0, 1) := by decide +kernel
theorem d1_29 : decode method_4_code 29 = .ok (.iload_n 1, 1) := by decide +kernel
theorem d1_30 : decode method_4_code 30 = .ok (.castore, 1) := by decide +kernel
theorem d1_31 : decode method_4_code 31 = .ok (.invokespecial 32, 3) := by decide +kernel
theorem own_wV {Z : State} {a0 : Array Value} (hw : ∀ d ∈ tables_1, d.before a0 Z = true) : ∀ d ∈ StrChars.Road.words, d.before a0 Z = true := fun d hd => hw d ((by decide +kernel : ∀ d ∈ StrChars.Road.words, d ∈ tables_1) d hd)
theorem d1_34 : decode method_4_code 34 = .ok (.areturn, 1) := by decide +kernel
theorem d1_35 : decode method_4_code 35 = .ok (.iload_n 0, 1) := by decide +kernel
theorem d1_36 : decode method_4_code 36 = .ok (.iconst 2, 1) := by decide +kernel
theorem d1_37 : decode method_4_code 37 = .ok (.if_icmp .ne 22, 3) := by decide +kernel
theorem d1_40 : decode method_4_code 40 = .ok (.new 30, 3) := by decide +kernel
theorem d1_43 : decode method_4_code 43 = .ok (.dup, 1) := by decide +kernel
theorem d1_44 : decode method_4_code 44 = .ok (.iconst 2, 1) := by decide +kernel
theorem d1_45 : decode method_4_code 45 = .ok (.newarray .char, 2) := by decide +kernel
theorem d1_47 : decode method_4_code 47 = .ok (.dup, 1) := by decide +kernel
theorem d1_48 : decode method_4_code 48 = .ok (.iconst 0, 1) := by decide +kernel
theorem d1_49 : decode method_4_code 49 = .ok (.iload_n 1, 1) := by decide +kernel
theorem d1_50 : decode method_4_code 50 = .ok (.castore, 1) := by decide +kernel
theorem d1_51 : decode method_4_code 51 = .ok (.dup, 1) := by decide +kernel
theorem d1_52 : decode method_4_code 52 = .ok (.iconst 1, 1) := by decide +kernel
theorem d1_53 : decode method_4_code 53 = .ok (.iload_n 2, 1) := by decide +kernel
theorem d1_54 : decode method_4_code 54 = .ok (.castore, 1) := by decide +kernel
theorem d1_55 : decode method_4_code 55 = .ok (.invokespecial 32, 3) := by decide +kernel
theorem d1_58 : decode method_4_code 58 = .ok (.areturn, 1) := by decide +kernel
theorem d1_59 : decode method_4_code 59 = .ok (.new 30, 3) := by decide +kernel
theorem d1_62 : decode method_4_code 62 = .ok (.dup, 1) := by decide +kernel
theorem d1_63 : decode method_4_code 63 = .ok (.iconst 3, 1) := by decide +kernel
theorem d1_64 : decode method_4_code 64 = .ok (.newarray .char, 2) := by decide +kernel
theorem d1_66 : decode method_4_code 66 = .ok (.dup, 1) := by decide +kernel
theorem d1_67 : decode method_4_code 67 = .ok (.iconst 0, 1) := by decide +kernel
theorem d1_68 : decode method_4_code 68 = .ok (.iload_n 1, 1) := by decide +kernel
theorem d1_69 : decode method_4_code 69 = .ok (.castore, 1) := by decide +kernel
theorem d1_70 : decode method_4_code 70 = .ok (.dup, 1) := by decide +kernel
theorem d1_71 : decode method_4_code 71 = .ok (.iconst 1, 1) := by decide +kernel
theorem d1_72 : decode method_4_code 72 = .ok (.iload_n 2, 1) := by decide +kernel
theorem d1_73 : decode method_4_code 73 = .ok (.castore, 1) := by decide +kernel
theorem d1_74 : decode method_4_code 74 = .ok (.dup, 1) := by decide +kernel
theorem d1_75 : decode method_4_code 75 = .ok (.iconst 2, 1) := by decide +kernel
theorem d1_76 : decode method_4_code 76 = .ok (.iload_n 3, 1) := by decide +kernel
theorem d1_77 : decode method_4_code 77 = .ok (.castore, 1) := by decide +kernel
theorem d1_78 : decode method_4_code 78 = .ok (.invokespecial 32, 3) := by decide +kernel
theorem d1_81 : decode method_4_code 81 = .ok (.areturn, 1) := by decide +kernel
theorem pn_com_example_ratable_ratable_core_FieldsMorePinLaw_law__II_Z : plainFor (⟨"com/example/ratable/ratable/core/FieldsMorePinLaw", "law", "(II)Z"⟩ : MethodName) = true := by first | exact plainFor_of_name (by first | (simp [plainName, overriddenIn]; done) | decide +kernel) | decide +kernel
theorem pd__28ICCC_29Ljava_2flang_2fString_3b : parseMethodDescriptor "(ICCC)Ljava/lang/String;" = some ⟨[.int, .char, .char, .char], some (.object "java/lang/String")⟩ := by decide +kernel
theorem pd__28ZC_29I : parseMethodDescriptor "(ZC)I" = some ⟨[.boolean, .char], some .int⟩ := by decide +kernel
theorem pd__28Ljava_2flang_2fString_3b_29V : parseMethodDescriptor "(Ljava/lang/String;)V" = some ⟨[(.object "java/lang/String")], none⟩ := by decide +kernel
theorem pd__28_29Ljava_2flang_2fString_3b : parseMethodDescriptor "()Ljava/lang/String;" = some ⟨[], some (.object "java/lang/String")⟩ := by decide +kernel
set_option maxRecDepth 65536
set_option maxHeartbeats 40000000
section OwnWalks
abbrev yN0 : MethodName := ⟨"java/lang/String", "<init>", "([CIILjava/lang/Void;)V"⟩
abbrev yN1 : MethodName := ⟨"java/lang/String", "<init>", "([C)V"⟩
abbrev yN2 : MethodName := ⟨"java/lang/Math", "max", "(II)I"⟩
abbrev yN3 : MethodName := ⟨"java/lang/Math", "min", "(II)I"⟩
abbrev yN4 : MethodName := ⟨"java/util/Arrays", "checkLength", "(II)V"⟩
abbrev yN5 : MethodName := ⟨"java/lang/StringLatin1", "canEncode", "(I)Z"⟩
abbrev yN6 : MethodName := ⟨"java/lang/String", "isLatin1", "()Z"⟩
abbrev yN7 : MethodName := ⟨"jdk/internal/util/Preconditions", "checkFromToIndex", "(IIILjava/util/function/BiFunction;)I"⟩
abbrev yN8 : MethodName := ⟨"java/lang/String", "checkBoundsBeginEnd", "(III)V"⟩
abbrev yN9 : MethodName := ⟨"java/lang/String", "<init>", "([BB)V"⟩
abbrev yN10 : MethodName := ⟨"com/example/ratable/ratable/core/JournalSums$Fields", "<init>", "(Ljava/lang/String;)V"⟩
abbrev yN11 : MethodName := ⟨"com/example/ratable/ratable/core/JournalSums$Fields", "more", "()Z"⟩
abbrev yN12 : MethodName := ⟨"java/lang/StringLatin1", "indexOf", "([BIII)I"⟩
abbrev yN13 : MethodName := ⟨"java/lang/String", "indexOf", "(II)I"⟩
abbrev yN14 : MethodName := ⟨"com/example/ratable/ratable/core/JournalSums$Fields", "end", "()I"⟩
abbrev yN15 : MethodName := ⟨"java/lang/String", "substring", "(II)Ljava/lang/String;"⟩
abbrev yN16 : MethodName := ⟨"com/example/ratable/ratable/core/JournalSums$Fields", "text", "()Ljava/lang/String;"⟩
abbrev yN17 : MethodName := ⟨"java/lang/StringLatin1", "indexOfChar", "([BIII)I"⟩
abbrev yN18 : MethodName := ⟨"java/lang/StringLatin1", "newString", "([BII)Ljava/lang/String;"⟩
abbrev yN19 : MethodName := ⟨"java/util/Arrays", "copyOfRangeByte", "([BII)[B"⟩
abbrev yN20 : MethodName := ⟨"java/util/Arrays", "copyOfRange", "([BII)[B"⟩
abbrev yN21 : MethodName := ⟨"com/example/ratable/ratable/core/FieldsMorePinLaw", "tab", "(ZC)I"⟩
abbrev yN22 : MethodName := ⟨"com/example/ratable/ratable/core/FieldsMorePinLaw", "line", "(ICCC)Ljava/lang/String;"⟩
abbrev OHw (a0 : Array Value) (Z : State) : Prop := ∀ d ∈ tables_1, d.before a0 Z = true
variable (l : Launch) (Z : State) (n0 : Nat) (h0 : Heap) (wc : List Jvm.Cond)
theorem rm_emp4 (a0 : Array Value) (hw : OHw a0 Z) (hWd : OWorld Z a0) (O0 : Old Z n0 h0) (a : Addr) (b : Addr) (y : Value) (z : Int32) (q0 : Exa Z h0 a "java/lang/String") (q1 : Fld Z h0 a "java/lang/String" "value" "[B" y) (q2 : Fld Z h0 a "java/lang/String" "coder" "B" (.int z)) (g0 : n0 ≤ a ∧ a < h0.size) :
    OMet l Z own_EL n0 yN0 (Jvm.Cond.code yN0 jdk_42_method_149_code 6 none :: wc) ({ frames := 1, cells := 4, slots := 8, locals := 12 } : Room) #[(.ref a), (.ref b), (.int 0), (.int 0), .null] h0 [a] (fun vq hq => vq = none ∧ OStr Z hq a [] hq.size) := by
  refine own_enter #[.val (.ref a), .val (.ref b), .val (.int 0), .val (.int 0), .val .null, .unset] pn_java_lang_String__init____CIILjava_lang_Void__V (fun _ => rfl) hWd.1 O0 (allS g0 all0) ?_
  intro p e s m below meth c T0 X0 hnm hret
  refine og_aloadN X0 1 d3_0 rfl rfl rfl ?_
  refine own_obj0 X0 4 (a := a) d3_1 (ow hw 15 rfl) (ow hw 16 rfl) (ow hw 17 rfl) rfl (W := 0) rfl (by decide) (by decide) rfl ?_
  intro T1 X2
  refine og_iloadN X2 5 d3_4 rfl rfl ?_
  refine og_ifN X2 8 d3_5 (XT.i0_ne_f (by decide)) rfl ?_
  refine og_aloadN X2 9 d3_8 rfl rfl rfl ?_
  refine own_ldcR X2 11 (cap := 0) (vs := []) (z := (0 : Int32)) d3_9 (om 0 rfl) (ow hw 18 rfl) (own_wS hw) ⟨by decide, rfl⟩ (by decide) rfl (by decide) (by decide) (by decide) (by decide) rfl ?_
  intro T3 h3 a3 b3 kb3 X3 K3 E3 C3 V3 A3 far3
  have f4 := own_mkStr (cs := []) (bs := []) (n := 0) E3 C3 V3 A3 rfl own_l0 rfl rfl (by decide)
  refine own_get X3 14 d3_11 (host := "") (Or.inl (ow hw 24 rfl)) Via.refl V3 rfl ?_
  intro T5 X6
  have f7 := q1.keep K3 nin0
  have f8 := q0.keep K3
  have f9 := q2.keep K3 nin0
  refine own_put X6 17 d3_14 (host := "") (Or.inl (ow hw 24 rfl)) Via.refl f7 f8 (Or.inr ⟨(ow hw 20 rfl), rfl, hnm⟩) (ow hw 5 rfl) (ty := (.array .byte)) (by decide) rfl rfl (om 0 rfl) rfl ?_
  intro T10 h10 X10 W10 K10 F10
  have f11 := Fld.other W10 f9 (Or.inr (slot_ne (Or.inr (ow hw 21 rfl)) (Or.inr (ow hw 20 rfl)) (by decide) (t := .byte) (t' := (.array .byte)) (by decide) (by decide)))
  refine og_aloadN X10 18 d3_17 rfl rfl rfl ?_
  refine own_ldcR X10 20 (cap := 0) (vs := []) (z := (0 : Int32)) d3_18 (om 0 rfl) (ow hw 18 rfl) (own_wS hw) ⟨by decide, rfl⟩ (by decide) rfl (by decide) (by decide) (by decide) (by decide) rfl ?_
  intro T12 h12 a12 b12 kb12 X12 K12 E12 C12 V12 A12 far12
  have f13 := own_mkStr (cs := []) (bs := []) (n := 0) E12 C12 V12 A12 rfl own_l0 rfl rfl (by decide)
  refine own_get X12 23 d3_20 (host := "") (Or.inl (ow hw 25 rfl)) Via.refl C12 rfl ?_
  intro T14 X15
  have f16 := f11.keep K12 nin0
  have f17 := f8.keep K10
  have f18 := f17.keep K12
  have f19 := F10.keep K12 nin0
  refine own_put X15 26 d3_23 (host := "") (Or.inl (ow hw 25 rfl)) Via.refl f16 f18 (Or.inr ⟨(ow hw 21 rfl), rfl, hnm⟩) (ow hw 5 rfl) (ty := .byte) (by decide) rfl rfl (om 0 rfl) rfl ?_
  intro T20 h20 X20 W20 K20 F20
  have f21 := Fld.other W20 f19 (Or.inr (slot_ne (Or.inr (ow hw 20 rfl)) (Or.inr (ow hw 21 rfl)) (by decide) (t := (.array .byte)) (t' := .byte) (by decide) (by decide)))
  have f22 := f18.keep K20
  have f23 := A3.keep K10 (ninS (Ne.symm (far3 _ (om 0 rfl)).2) nin0)
  have f24 := f23.keep K12 nin0
  have f25 := f24.keep K20 (ninS (Ne.symm (far3 _ (om 0 rfl)).2) nin0)
  refine own_retV X20 d3_26 hret (by decide) (by decide) ?_
  exact ⟨rfl, own_mkStr (cs := []) (bs := []) (n := 0) f22 F20 f21 f25 rfl own_l0 rfl rfl (by decide)⟩
theorem rm_emp1 (a0 : Array Value) (hw : OHw a0 Z) (hWd : OWorld Z a0) (O0 : Old Z n0 h0) (a : Addr) (b : Addr) (y : Value) (z : Int32) (kb : ClassId) (q0 : Exa Z h0 a "java/lang/String") (q1 : Fld Z h0 a "java/lang/String" "value" "[B" y) (q2 : Fld Z h0 a "java/lang/String" "coder" "B" (.int z)) (q3 : Arv Z h0 b kb .char (0 : Int32) [] (.int 0)) (g0 : n0 ≤ a ∧ a < h0.size) :
    OMet l Z own_EL n0 yN1 (Jvm.Cond.code yN1 jdk_42_method_3_code 2 none :: wc) ({ frames := 2, cells := 4, slots := 8, locals := 29 } : Room) #[(.ref a), (.ref b)] h0 [a] (fun vq hq => vq = none ∧ OStr Z hq a [] hq.size) := by
  refine own_enter #[.val (.ref a), .val (.ref b)] pn_java_lang_String__init____C_V (fun _ => rfl) hWd.1 O0 (allS g0 all0) ?_
  intro p e s m below meth c T0 X0 hnm hret
  refine og_aloadN X0 1 d2_0 rfl rfl rfl ?_
  refine og_aloadN X0 2 d2_1 rfl rfl rfl ?_
  refine og_iconst X0 3 (0 : Int32) d2_2 rfl rfl ?_
  refine og_aloadN X0 4 d2_3 rfl rfl rfl ?_
  refine own_len X0 5 d2_4 q3 rfl ?_
  refine og_aconstNull X0 6 d2_5 rfl ?_
  refine own_spec X0 9 (a := a) (argsL := [(.ref b), (.int 0), (.int 0), .null]) (rest := []) d2_6 rfl (rm_emp4 l Z n0 h0 [] a0 hw hWd X0.old a b y z q0 q1 q2 (own_svb X0 (om 0 rfl))) (ow hw 11 rfl) (ow hw 12 rfl) (ow hw 6 rfl) (ow hw 14 rfl) (by decide) (lenOf pd__28_5bCIILjava_2flang_2fVoid_3b_29V rfl) rfl rfl rfl (W := 0) rfl (by decide) (by decide) (by decide) (by decide) (allS (om 0 rfl) all0) rfl ?_
  intro T1 h1 v1 X1 K1 hQ1
  obtain ⟨rfl, f2⟩ := hQ1
  show OGo _ _ _ _ T1 (mkF m 9 #[.val (.ref a), .val (.ref b)] [])
  refine own_retV X1 d2_9 hret (by decide) (by decide) ?_
  exact ⟨rfl, f2.top⟩
theorem rm16 (a0 : Array Value) (hw : OHw a0 Z) (hWd : OWorld Z a0) (O0 : Old Z n0 h0) (x : Int32) (y : Int32) (q0 : ¬ x < y) :
    OMet l Z own_EL n0 yN2 (Jvm.Cond.code yN2 jdk_29_method_65_code 2 (some .int) :: wc) ({ frames := 0, cells := 0, slots := 0, locals := 0 } : Room) #[(.int x), (.int y)] h0 [] (fun vq hq => vq = some (.int x)) := by
  refine own_enter #[.val (.int x), .val (.int y)] pn_java_lang_Math_max__II_I (fun _ => rfl) hWd.1 O0 all0 ?_
  intro p e s m below meth c T0 X0 hnm hret
  refine og_iloadN X0 1 d16_0 rfl rfl ?_
  refine og_iloadN X0 2 d16_1 rfl rfl ?_
  refine og_icmpN X0 5 d16_2 (XT.ii_lt_f q0) rfl ?_
  refine og_iloadN X0 6 d16_5 rfl rfl ?_
  refine og_goto X0 10 d16_6 (by decide) (by decide) ?_
  refine own_retI X0 d16_10 hret (by decide) (by decide) ?_
  exact rfl
theorem rm_min0 (a0 : Array Value) (hw : OHw a0 Z) (hWd : OWorld Z a0) (O0 : Old Z n0 h0) (x : Int32) (y : Int32) (q0 : ¬ y < x) :
    OMet l Z own_EL n0 yN3 (Jvm.Cond.code yN3 jdk_29_method_69_code 2 (some .int) :: wc) ({ frames := 0, cells := 0, slots := 0, locals := 0 } : Room) #[(.int x), (.int y)] h0 [] (fun vq hq => vq = some (.int x)) := by
  refine own_enter #[.val (.int x), .val (.int y)] pn_java_lang_Math_min__II_I (fun _ => rfl) hWd.1 O0 all0 ?_
  intro p e s m below meth c T0 X0 hnm hret
  refine og_iloadN X0 1 d17_0 rfl rfl ?_
  refine og_iloadN X0 2 d17_1 rfl rfl ?_
  refine og_icmpN X0 5 d17_2 (XT.ii_gt_f q0) rfl ?_
  refine og_iloadN X0 6 d17_5 rfl rfl ?_
  refine og_goto X0 10 d17_6 (by decide) (by decide) ?_
  refine own_retI X0 d17_10 hret (by decide) (by decide) ?_
  exact rfl
theorem rm_min1 (a0 : Array Value) (hw : OHw a0 Z) (hWd : OWorld Z a0) (O0 : Old Z n0 h0) (x : Int32) (y : Int32) (q0 : y < x) :
    OMet l Z own_EL n0 yN3 (Jvm.Cond.code yN3 jdk_29_method_69_code 2 (some .int) :: wc) ({ frames := 0, cells := 0, slots := 0, locals := 0 } : Room) #[(.int x), (.int y)] h0 [] (fun vq hq => vq = some (.int y)) := by
  refine own_enter #[.val (.int x), .val (.int y)] pn_java_lang_Math_min__II_I (fun _ => rfl) hWd.1 O0 all0 ?_
  intro p e s m below meth c T0 X0 hnm hret
  refine og_iloadN X0 1 d17_0 rfl rfl ?_
  refine og_iloadN X0 2 d17_1 rfl rfl ?_
  refine og_icmpY X0 9 d17_2 (XT.ii_gt_t q0) (by decide) (by decide) ?_
  refine og_iloadN X0 10 d17_9 rfl rfl ?_
  refine own_retI X0 d17_10 hret (by decide) (by decide) ?_
  exact rfl
theorem rm28 (a0 : Array Value) (hw : OHw a0 Z) (hWd : OWorld Z a0) (O0 : Old Z n0 h0) (x : Int32) (y : Int32) (q0 : ¬ y < x) :
    OMet l Z own_EL n0 yN4 (Jvm.Cond.code yN4 jdk_65_method_131_code 2 none :: wc) ({ frames := 0, cells := 0, slots := 0, locals := 0 } : Room) #[(.int x), (.int y)] h0 [] (fun vq hq => vq = none) := by
  refine own_enter #[.val (.int x), .val (.int y)] pn_java_util_Arrays_checkLength__II_V (fun _ => rfl) hWd.1 O0 all0 ?_
  intro p e s m below meth c T0 X0 hnm hret
  refine og_iloadN X0 1 d28_0 rfl rfl ?_
  refine og_iloadN X0 2 d28_1 rfl rfl ?_
  refine og_icmpY X0 37 d28_2 (XT.ii_ge_t q0) (by decide) (by decide) ?_
  refine own_retV X0 d28_37 hret (by decide) (by decide) ?_
  exact rfl
theorem rm15 (a0 : Array Value) (hw : OHw a0 Z) (hWd : OWorld Z a0) (O0 : Old Z n0 h0)   :
    OMet l Z own_EL n0 yN5 (Jvm.Cond.code yN5 jdk_43_method_4_code 1 (some .boolean) :: wc) ({ frames := 0, cells := 0, slots := 0, locals := 0 } : Room) #[(.int 9)] h0 [] (fun vq hq => vq = some (.int 1)) := by
  refine own_enter #[.val (.int 9)] pn_java_lang_StringLatin1_canEncode__I_Z (fun _ => rfl) hWd.1 O0 all0 ?_
  intro p e s m below meth c T0 X0 hnm hret
  refine og_iloadN X0 1 d15_0 rfl rfl ?_
  refine og_ifN X0 4 d15_1 (XT.i0_lt_f (by decide)) rfl ?_
  refine og_iloadN X0 5 d15_4 rfl rfl ?_
  refine og_sipush X0 8 (255 : Int32) d15_5 rfl rfl ?_
  refine og_icmpN X0 11 d15_8 (XT.ii_gt_f (by decide)) rfl ?_
  refine og_iconst X0 12 (1 : Int32) d15_11 rfl rfl ?_
  refine og_goto X0 16 d15_12 (by decide) (by decide) ?_
  refine own_retZ X0 d15_16 hret rfl (by decide) (by decide) ?_
  exact rfl
theorem rm13 (a0 : Array Value) (hw : OHw a0 Z) (hWd : OWorld Z a0) (O0 : Old Z n0 h0) (a : Addr) (q0 : Fld Z h0 a "java/lang/String" "coder" "B" (.int 0)) :
    OMet l Z own_EL n0 yN6 (Jvm.Cond.code yN6 jdk_42_method_154_code 1 (some .boolean) :: wc) ({ frames := 0, cells := 0, slots := 0, locals := 0 } : Room) #[(.ref a)] h0 [] (fun vq hq => vq = some (.int 1)) := by
  refine own_enter #[.val (.ref a)] pn_java_lang_String_isLatin1___Z (fun _ => rfl) hWd.1 O0 all0 ?_
  intro p e s m below meth c T0 X0 hnm hret
  refine own_getS X0 3 d13_0 (host := "") (Or.inl (ow hw 55 rfl)) Via.refl hWd.2.1.1 rfl ?_
  intro T1 X2
  refine og_ifN X2 6 d13_3 (XT.i0_eq_f hWd.2.1.2) rfl ?_
  refine og_aloadN X2 7 d13_6 rfl rfl rfl ?_
  refine own_get X2 10 d13_7 (host := "") (Or.inl (ow hw 25 rfl)) Via.refl q0 rfl ?_
  intro T3 X4
  refine og_ifN X4 13 d13_10 (XT.i0_ne_f (by decide)) rfl ?_
  refine og_iconst X4 14 (1 : Int32) d13_13 rfl rfl ?_
  refine og_goto X4 18 d13_14 (by decide) (by decide) ?_
  refine own_retZ X4 d13_18 hret rfl (by decide) (by decide) ?_
  exact rfl
theorem rm20 (a0 : Array Value) (hw : OHw a0 Z) (hWd : OWorld Z a0) (O0 : Old Z n0 h0) (x : Int32) (y : Int32) (z : Int32) (fm : Value) (q0 : (fm).isRef = true) (q1 : ¬ x < 0) (q2 : ¬ y < x) (q3 : ¬ z < y) :
    OMet l Z own_EL n0 yN7 (Jvm.Cond.code yN7 jdk_41_method_12_code 4 (some .int) :: wc) ({ frames := 0, cells := 0, slots := 0, locals := 0 } : Room) #[(.int x), (.int y), (.int z), fm] h0 [] (fun vq hq => vq = some (.int x)) := by
  refine own_enter #[.val (.int x), .val (.int y), .val (.int z), .val fm] pn_jdk_internal_util_Preconditions_checkFromToIndex__IIILjava_util_function_BiFunction__I (ef_rm20 x y z fm q0) hWd.1 O0 all0 ?_
  intro p e s m below meth c T0 X0 hnm hret
  refine og_iloadN X0 1 d20_0 rfl rfl ?_
  refine og_ifN X0 4 d20_1 (XT.i0_lt_f q1) rfl ?_
  refine og_iloadN X0 5 d20_4 rfl rfl ?_
  refine og_iloadN X0 6 d20_5 rfl rfl ?_
  refine og_icmpN X0 9 d20_6 (XT.ii_gt_f q2) rfl ?_
  refine og_iloadN X0 10 d20_9 rfl rfl ?_
  refine og_iloadN X0 11 d20_10 rfl rfl ?_
  refine og_icmpY X0 22 d20_11 (XT.ii_le_t q3) (by decide) (by decide) ?_
  refine og_iloadN X0 23 d20_22 rfl rfl ?_
  refine own_retI X0 d20_23 hret (by decide) (by decide) ?_
  exact rfl
theorem rm19 (a0 : Array Value) (hw : OHw a0 Z) (hWd : OWorld Z a0) (O0 : Old Z n0 h0) (x : Int32) (y : Int32) (z : Int32) (q0 : ¬ x < 0) (q1 : ¬ y < x) (q2 : ¬ z < y) :
    OMet l Z own_EL n0 yN8 (Jvm.Cond.code yN8 jdk_42_method_158_code 3 none :: wc) ({ frames := 1, cells := 0, slots := 0, locals := 15 } : Room) #[(.int x), (.int y), (.int z)] h0 [] (fun vq hq => vq = none) := by
  refine own_enter #[.val (.int x), .val (.int y), .val (.int z)] pn_java_lang_String_checkBoundsBeginEnd__III_V (fun _ => rfl) hWd.1 O0 all0 ?_
  intro p e s m below meth c T0 X0 hnm hret
  refine og_iloadN X0 1 d19_0 rfl rfl ?_
  refine og_iloadN X0 2 d19_1 rfl rfl ?_
  refine og_iloadN X0 3 d19_2 rfl rfl ?_
  refine own_getS X0 6 d19_3 (host := "") (Or.inl (ow hw 99 rfl)) Via.refl hWd.2.2.1 rfl ?_
  intro T1 X2
  refine own_stat X2 9 (argsL := [(.int x), (.int y), (.int z), (own_stv Z "jdk/internal/util/Preconditions" "SIOOBE_FORMATTER" "Ljava/util/function/BiFunction;")]) (rest := []) d19_6 (rm20 l Z n0 h0 [] a0 hw hWd X2.old x y z (own_stv Z "jdk/internal/util/Preconditions" "SIOOBE_FORMATTER" "Ljava/util/function/BiFunction;") hWd.2.2.2 q0 q1 q2 ) (ow hw 101 rfl) (ow hw 102 rfl) (ow hw 100 rfl) (ow hw 103 rfl) (by decide) (lenOf pd__28IIILjava_2futil_2ffunction_2fBiFunction_3b_29I rfl) rfl rfl rfl (W := 0) rfl (by decide) (by decide) (by decide) (by decide) all0 rfl ?_
  intro T3 h3 v3 X3 K3 hQ3
  obtain rfl := hQ3
  show OGo _ _ _ _ T3 (mkF m 9 #[.val (.int x), .val (.int y), .val (.int z)] [(.int x)])
  refine og_pop X3 10 d19_9 rfl rfl ?_
  refine own_retV X3 d19_10 hret (by decide) (by decide) ?_
  exact rfl
theorem rm29 (a0 : Array Value) (hw : OHw a0 Z) (hWd : OWorld Z a0) (O0 : Old Z n0 h0) (a : Addr) (b : Addr) (y : Value) (z : Int32) (q0 : Exa Z h0 a "java/lang/String") (q1 : Fld Z h0 a "java/lang/String" "value" "[B" y) (q2 : Fld Z h0 a "java/lang/String" "coder" "B" (.int z)) (g0 : n0 ≤ a ∧ a < h0.size) :
    OMet l Z own_EL n0 yN9 (Jvm.Cond.code yN9 jdk_42_method_151_code 3 none :: wc) ({ frames := 1, cells := 0, slots := 0, locals := 12 } : Room) #[(.ref a), (.ref b), (.int 0)] h0 [a] (fun vq hq => vq = none) := by
  refine own_enter #[.val (.ref a), .val (.ref b), .val (.int 0)] pn_java_lang_String__init____BB_V (fun _ => rfl) hWd.1 O0 (allS g0 all0) ?_
  intro p e s m below meth c T0 X0 hnm hret
  refine og_aloadN X0 1 d29_0 rfl rfl rfl ?_
  refine own_obj0 X0 4 (a := a) d29_1 (ow hw 15 rfl) (ow hw 16 rfl) (ow hw 17 rfl) rfl (W := 0) rfl (by decide) (by decide) rfl ?_
  intro T1 X2
  refine og_aloadN X2 5 d29_4 rfl rfl rfl ?_
  refine og_aloadN X2 6 d29_5 rfl rfl rfl ?_
  refine own_put X2 9 d29_6 (host := "") (Or.inl (ow hw 24 rfl)) Via.refl q1 q0 (Or.inr ⟨(ow hw 20 rfl), rfl, hnm⟩) (ow hw 5 rfl) (ty := (.array .byte)) (by decide) rfl rfl (om 0 rfl) rfl ?_
  intro T3 h3 X3 W3 K3 F3
  have f4 := Fld.other W3 q2 (Or.inr (slot_ne (Or.inr (ow hw 21 rfl)) (Or.inr (ow hw 20 rfl)) (by decide) (t := .byte) (t' := (.array .byte)) (by decide) (by decide)))
  refine og_aloadN X3 10 d29_9 rfl rfl rfl ?_
  refine og_iloadN X3 11 d29_10 rfl rfl ?_
  have f5 := q0.keep K3
  refine own_put X3 14 d29_11 (host := "") (Or.inl (ow hw 25 rfl)) Via.refl f4 f5 (Or.inr ⟨(ow hw 21 rfl), rfl, hnm⟩) (ow hw 5 rfl) (ty := .byte) (by decide) rfl rfl (om 0 rfl) rfl ?_
  intro T6 h6 X6 W6 K6 F6
  have f7 := Fld.other W6 F3 (Or.inr (slot_ne (Or.inr (ow hw 20 rfl)) (Or.inr (ow hw 21 rfl)) (by decide) (t := (.array .byte)) (t' := .byte) (by decide) (by decide)))
  refine own_retV X6 d29_14 hret (by decide) (by decide) ?_
  exact rfl
theorem rm6 (a0 : Array Value) (hw : OHw a0 Z) (hWd : OWorld Z a0) (O0 : Old Z n0 h0) (a : Addr) (u : Addr) (q0 : Exa Z h0 a "com/example/ratable/ratable/core/JournalSums$Fields") (q1 : Fld Z h0 a "com/example/ratable/ratable/core/JournalSums$Fields" "line" "Ljava/lang/String;" .null) (q2 : Fld Z h0 a "com/example/ratable/ratable/core/JournalSums$Fields" "next" "I" (.int 0)) (g0 : n0 ≤ a ∧ a < h0.size) :
    OMet l Z own_EL n0 yN10 (Jvm.Cond.code yN10 prog_51_method_1_code 2 none :: wc) ({ frames := 1, cells := 0, slots := 0, locals := 12 } : Room) #[(.ref a), (.ref u)] h0 [a] (fun vq hq => vq = none ∧ Fld Z hq a "com/example/ratable/ratable/core/JournalSums$Fields" "line" "Ljava/lang/String;" (.ref u) ∧ Fld Z hq a "com/example/ratable/ratable/core/JournalSums$Fields" "next" "I" (.int 0)) := by
  refine own_enter #[.val (.ref a), .val (.ref u)] pn_com_example_ratable_ratable_core_JournalSums_Fields__init___Ljava_lang_String__V (fun _ => rfl) hWd.1 O0 (allS g0 all0) ?_
  intro p e s m below meth c T0 X0 hnm hret
  refine og_aloadN X0 1 d6_0 rfl rfl rfl ?_
  refine own_obj0 X0 4 (a := a) d6_1 (ow hw 35 rfl) (ow hw 16 rfl) (ow hw 17 rfl) rfl (W := 0) rfl (by decide) (by decide) rfl ?_
  intro T1 X2
  refine og_aloadN X2 5 d6_4 rfl rfl rfl ?_
  refine og_aloadN X2 6 d6_5 rfl rfl rfl ?_
  refine own_put X2 9 d6_6 (host := "") (Or.inl (ow hw 36 rfl)) Via.refl q1 q0 (Or.inr ⟨(ow hw 37 rfl), rfl, hnm⟩) (ow hw 30 rfl) (ty := (.object "java/lang/String")) (by decide) rfl rfl (om 0 rfl) rfl ?_
  intro T3 h3 X3 W3 K3 F3
  have f4 := Fld.other W3 q2 (Or.inr (slot_ne (Or.inl (ow hw 44 rfl)) (Or.inr (ow hw 37 rfl)) (by decide) (t := .int) (t' := (.object "java/lang/String")) (by decide) (by decide)))
  refine own_retV X3 d6_9 hret (by decide) (by decide) ?_
  exact ⟨rfl, F3, f4⟩
theorem rm_more1 (a0 : Array Value) (hw : OHw a0 Z) (hWd : OWorld Z a0) (O0 : Old Z n0 h0) (a : Addr) (u : Addr) (cs : List Int32) (x : Int32) (q0 : Fld Z h0 a "com/example/ratable/ratable/core/JournalSums$Fields" "line" "Ljava/lang/String;" (.ref u)) (q1 : Fld Z h0 a "com/example/ratable/ratable/core/JournalSums$Fields" "next" "I" (.int x)) (q2 : OStr Z h0 u cs h0.size) (q3 : ¬ (Int32.ofNat (cs).length) < x) :
    OMet l Z own_EL n0 yN11 (Jvm.Cond.code yN11 prog_51_method_2_code 1 (some .boolean) :: wc) ({ frames := 2, cells := 0, slots := 0, locals := 26 } : Room) #[(.ref a)] h0 [] (fun vq hq => vq = some (.int 1)) := by
  refine own_enter #[.val (.ref a)] pn_com_example_ratable_ratable_core_JournalSums_Fields_more___Z (fun _ => rfl) hWd.1 O0 all0 ?_
  intro p e s m below meth c T0 X0 hnm hret
  refine og_aloadN X0 1 d7_0 rfl rfl rfl ?_
  refine own_get X0 4 d7_1 (host := "") (Or.inl (ow hw 43 rfl)) Via.refl q1 rfl ?_
  intro T1 X2
  refine og_aloadN X2 5 d7_4 rfl rfl rfl ?_
  refine own_get X2 8 d7_5 (host := "") (Or.inl (ow hw 36 rfl)) Via.refl q0 rfl ?_
  intro T3 X4
  refine own_strLen X4 11 d7_8 q2 (own_wL hw) (ow hw 5 rfl) hWd.2.1.1 hWd.2.1.2 (ow hw 45 rfl) (ow hw 46 rfl) (ow hw 48 rfl) (ow hw 47 rfl) rfl (W := 1) rfl (by decide) (by decide) (by decide) (by decide) rfl ?_
  intro T5 X6
  show OGo _ _ _ _ T5 (mkF m 11 #[.val (.ref a)] [(.int (Int32.ofNat (cs).length)), (.int x)])
  refine og_icmpN X6 14 d7_11 (XT.ii_gt_f q3) rfl ?_
  refine og_iconst X6 15 (1 : Int32) d7_14 rfl rfl ?_
  refine og_goto X6 19 d7_15 (by decide) (by decide) ?_
  refine own_retZ X6 d7_19 hret rfl (by decide) (by decide) ?_
  exact rfl
theorem rm_more0 (a0 : Array Value) (hw : OHw a0 Z) (hWd : OWorld Z a0) (O0 : Old Z n0 h0) (a : Addr) (u : Addr) (cs : List Int32) (x : Int32) (q0 : Fld Z h0 a "com/example/ratable/ratable/core/JournalSums$Fields" "line" "Ljava/lang/String;" (.ref u)) (q1 : Fld Z h0 a "com/example/ratable/ratable/core/JournalSums$Fields" "next" "I" (.int x)) (q2 : OStr Z h0 u cs h0.size) (q3 : (Int32.ofNat (cs).length) < x) :
    OMet l Z own_EL n0 yN11 (Jvm.Cond.code yN11 prog_51_method_2_code 1 (some .boolean) :: wc) ({ frames := 2, cells := 0, slots := 0, locals := 26 } : Room) #[(.ref a)] h0 [] (fun vq hq => vq = some (.int 0)) := by
  refine own_enter #[.val (.ref a)] pn_com_example_ratable_ratable_core_JournalSums_Fields_more___Z (fun _ => rfl) hWd.1 O0 all0 ?_
  intro p e s m below meth c T0 X0 hnm hret
  refine og_aloadN X0 1 d7_0 rfl rfl rfl ?_
  refine own_get X0 4 d7_1 (host := "") (Or.inl (ow hw 43 rfl)) Via.refl q1 rfl ?_
  intro T1 X2
  refine og_aloadN X2 5 d7_4 rfl rfl rfl ?_
  refine own_get X2 8 d7_5 (host := "") (Or.inl (ow hw 36 rfl)) Via.refl q0 rfl ?_
  intro T3 X4
  refine own_strLen X4 11 d7_8 q2 (own_wL hw) (ow hw 5 rfl) hWd.2.1.1 hWd.2.1.2 (ow hw 45 rfl) (ow hw 46 rfl) (ow hw 48 rfl) (ow hw 47 rfl) rfl (W := 1) rfl (by decide) (by decide) (by decide) (by decide) rfl ?_
  intro T5 X6
  show OGo _ _ _ _ T5 (mkF m 11 #[.val (.ref a)] [(.int (Int32.ofNat (cs).length)), (.int x)])
  refine og_icmpY X6 18 d7_11 (XT.ii_gt_t q3) (by decide) (by decide) ?_
  refine og_iconst X6 19 (0 : Int32) d7_18 rfl rfl ?_
  refine own_retZ X6 d7_19 hret rfl (by decide) (by decide) ?_
  exact rfl
theorem rf_iol00 (a0 : Array Value) (hw : OHw a0 Z) (hWd : OWorld Z a0) (O0 : Old Z n0 h0) (b : Addr) (kb : ClassId) (q0 : Arv Z h0 b kb .byte (0 : Int32) [] (.int 0)) (q1 : ∀ c ∈ [], ¬ c < 0 ∧ ¬ (255 : Int32) < c) :
    OMet l Z own_EL n0 yN12 (Jvm.Cond.code yN12 jdk_43_method_22_code 4 (some .int) :: wc) ({ frames := 1, cells := 0, slots := 0, locals := 13 } : Room) #[(.ref b), (.int 9), (.int 0), (.int 0)] h0 [] (fun vq hq => vq = some (.int (-1 : Int32))) := by
  refine own_enter #[.val (.ref b), .val (.int 9), .val (.int 0), .val (.int 0)] pn_java_lang_StringLatin1_indexOf___BIII_I (fun _ => rfl) hWd.1 O0 all0 ?_
  intro p e s m below meth c T0 X0 hnm hret
  refine og_iloadN X0 1 d14_0 rfl rfl ?_
  refine own_stat X0 4 (argsL := [(.int 9)]) (rest := []) d14_1 (rm15 l Z n0 h0 [] a0 hw hWd X0.old   ) (ow hw 81 rfl) (ow hw 82 rfl) (ow hw 79 rfl) (ow hw 83 rfl) (by decide) (lenOf pd__28I_29Z rfl) rfl rfl rfl (W := 0) rfl (by decide) (by decide) (by decide) (by decide) all0 rfl ?_
  intro T1 h1 v1 X1 K1 hQ1
  obtain rfl := hQ1
  show OGo _ _ _ _ T1 (mkF m 4 #[.val (.ref b), .val (.int 9), .val (.int 0), .val (.int 0)] [(.int 1)])
  refine og_ifY X1 9 d14_4 (XT.i0_ne_t (by decide)) (by decide) (by decide) ?_
  refine og_iloadN X1 10 d14_9 rfl rfl ?_
  refine og_iconst X1 11 (0 : Int32) d14_10 rfl rfl ?_
  refine own_stat X1 14 (argsL := [(.int 0), (.int 0)]) (rest := []) d14_11 (rm16 l Z n0 h1 [] a0 hw hWd X1.old (0 : Int32) (0 : Int32) (by decide) ) (ow hw 84 rfl) (ow hw 85 rfl) (ow hw 86 rfl) (ow hw 87 rfl) (by decide) (lenOf pd__28II_29I rfl) rfl rfl rfl (W := 0) rfl (by decide) (by decide) (by decide) (by decide) all0 rfl ?_
  intro T2 h2 v2 X2 K2 hQ2
  obtain rfl := hQ2
  show OGo _ _ _ _ T2 (mkF m 14 #[.val (.ref b), .val (.int 9), .val (.int 0), .val (.int 0)] [(.int 0)])
  refine og_istoreN X2 15 #[.val (.ref b), .val (.int 9), .val (.int 0), .val (.int 0)] d14_14 rfl rfl ?_
  refine og_iloadN X2 16 d14_15 rfl rfl ?_
  refine og_aloadN X2 17 d14_16 rfl rfl rfl ?_
  have f3 := q0.keep K1 nin0
  have f4 := f3.keep K2 nin0
  refine own_len X2 18 d14_17 f4 rfl ?_
  refine own_stat X2 21 (argsL := [(.int 0), (.int 0)]) (rest := []) d14_18 (rm_min0 l Z n0 h2 [] a0 hw hWd X2.old (0 : Int32) (0 : Int32) (by decide) ) (ow hw 88 rfl) (ow hw 89 rfl) (ow hw 86 rfl) (ow hw 90 rfl) (by decide) (lenOf pd__28II_29I rfl) rfl rfl rfl (W := 0) rfl (by decide) (by decide) (by decide) (by decide) all0 rfl ?_
  intro T5 h5 v5 X5 K5 hQ5
  obtain rfl := hQ5
  show OGo _ _ _ _ T5 (mkF m 21 #[.val (.ref b), .val (.int 9), .val (.int 0), .val (.int 0)] [(.int 0)])
  refine og_istoreN X5 22 #[.val (.ref b), .val (.int 9), .val (.int 0), .val (.int 0)] d14_21 rfl rfl ?_
  refine og_iloadN X5 23 d14_22 rfl rfl ?_
  refine og_iloadN X5 24 d14_23 rfl rfl ?_
  refine og_icmpN X5 27 d14_24 (XT.ii_lt_f (by decide)) rfl ?_
  refine og_iconst X5 28 (-1 : Int32) d14_27 rfl rfl ?_
  refine own_retI X5 d14_28 hret (by decide) (by decide) ?_
  exact rfl
theorem rf_ios00 (a0 : Array Value) (hw : OHw a0 Z) (hWd : OWorld Z a0) (O0 : Old Z n0 h0) (a : Addr) (q0 : OStr Z h0 a [] h0.size) (q1 : ∀ c ∈ [], ¬ c < 0 ∧ ¬ (255 : Int32) < c) :
    OMet l Z own_EL n0 yN13 (Jvm.Cond.code yN13 jdk_42_method_80_code 3 (some .int) :: wc) ({ frames := 2, cells := 0, slots := 0, locals := 28 } : Room) #[(.ref a), (.int 9), (.int 0)] h0 [] (fun vq hq => vq = some (.int (-1 : Int32))) := by
  refine own_enter #[.val (.ref a), .val (.int 9), .val (.int 0)] pn_java_lang_String_indexOf__II_I (fun _ => rfl) hWd.1 O0 all0 ?_
  intro p e s m below meth c T0 X0 hnm hret
  obtain ⟨t, kt, NN, vv, eE, eC, eV, eA, cod, bd, l4⟩ := q0.latin (fun c hc => (q1 c hc).2)
  obtain ⟨-, rfl, rfl, -⟩ := cod.resolve_right fun q => absurd q.1 (by decide)
  have eA2 : Arv Z h0 t kt .byte (0 : Int32) [] (.int 0) := eA
  refine og_aloadN X0 1 d12_0 rfl rfl rfl ?_
  refine own_virt X0 4 (a := a) (argsL := []) (rest := []) d12_1 eE (fun _ hZ => notFace_of_selects (args := #[]) (mvT hZ (ow hw 74 rfl))) (rm13 l Z n0 h0 [] a0 hw hWd X0.old a eC ) (ow hw 71 rfl) (ow hw 72 rfl) (ow hw 74 rfl) (ow hw 73 rfl) (ow hw 6 rfl) (ow hw 75 rfl) (by decide) (lenOf pd__28_29Z rfl) rfl rfl rfl (W := 0) rfl (by decide) (by decide) (by decide) (by decide) all0 rfl ?_
  intro T1 h1 v1 X1 K1 hQ1
  obtain rfl := hQ1
  show OGo _ _ _ _ T1 (mkF m 4 #[.val (.ref a), .val (.int 9), .val (.int 0)] [(.int 1)])
  refine og_ifN X1 7 d12_4 (XT.i0_eq_f (by decide)) rfl ?_
  refine og_aloadN X1 8 d12_7 rfl rfl rfl ?_
  have f2 := eV.keep K1 nin0
  refine own_get X1 11 d12_8 (host := "") (Or.inl (ow hw 24 rfl)) Via.refl f2 rfl ?_
  intro T3 X4
  refine og_iloadN X4 12 d12_11 rfl rfl ?_
  refine og_iloadN X4 13 d12_12 rfl rfl ?_
  refine og_aloadN X4 14 d12_13 rfl rfl rfl ?_
  have f5 := q0.keep K1 all0
  refine own_strLen X4 17 d12_14 f5 (own_wL hw) (ow hw 5 rfl) hWd.2.1.1 hWd.2.1.2 (ow hw 76 rfl) (ow hw 46 rfl) (ow hw 48 rfl) (ow hw 47 rfl) rfl (W := 3) rfl (by decide) (by decide) (by decide) (by decide) rfl ?_
  intro T6 X7
  show OGo _ _ _ _ T6 (mkF m 17 #[.val (.ref a), .val (.int 9), .val (.int 0)] [(.int 0), (.int 0), (.int 9), (.ref t)])
  have f8 := eA2.keep K1 nin0
  refine own_stat X7 20 (argsL := [(.ref t), (.int 9), (.int 0), (.int 0)]) (rest := []) d12_17 (rf_iol00 l Z n0 h1 [] a0 hw hWd X7.old t kt f8 q1 ) (ow hw 77 rfl) (ow hw 78 rfl) (ow hw 79 rfl) (ow hw 80 rfl) (by decide) (lenOf pd__28_5bBIII_29I rfl) rfl rfl rfl (W := 0) rfl (by decide) (by decide) (by decide) (by decide) all0 rfl ?_
  intro T9 h9 v9 X9 K9 hQ9
  obtain rfl := hQ9
  show OGo _ _ _ _ T9 (mkF m 20 #[.val (.ref a), .val (.int 9), .val (.int 0)] [(.int (-1 : Int32))])
  refine og_goto X9 36 d12_20 (by decide) (by decide) ?_
  refine own_retI X9 d12_36 hret (by decide) (by decide) ?_
  exact rfl
theorem rf_end000 (a0 : Array Value) (hw : OHw a0 Z) (hWd : OWorld Z a0) (O0 : Old Z n0 h0) (a : Addr) (u : Addr) (q0 : Exa Z h0 a "com/example/ratable/ratable/core/JournalSums$Fields") (q1 : Fld Z h0 a "com/example/ratable/ratable/core/JournalSums$Fields" "line" "Ljava/lang/String;" (.ref u)) (q2 : Fld Z h0 a "com/example/ratable/ratable/core/JournalSums$Fields" "next" "I" (.int 0)) (q3 : OStr Z h0 u [] h0.size) (q4 : ∀ c ∈ [], ¬ c < 0 ∧ ¬ (255 : Int32) < c) :
    OMet l Z own_EL n0 yN14 (Jvm.Cond.code yN14 prog_51_method_8_code 2 (some .int) :: wc) ({ frames := 3, cells := 0, slots := 0, locals := 42 } : Room) #[(.ref a)] h0 [] (fun vq hq => vq = some (.int 0)) := by
  refine own_enter #[.val (.ref a), .unset] pn_com_example_ratable_ratable_core_JournalSums_Fields_end___I (fun _ => rfl) hWd.1 O0 all0 ?_
  intro p e s m below meth c T0 X0 hnm hret
  refine og_aloadN X0 1 d11_0 rfl rfl rfl ?_
  refine own_virt X0 4 (a := a) (argsL := []) (rest := []) d11_1 q0 (fun _ hZ => notFace_of_selects (args := #[]) (mvT hZ (ow hw 41 rfl))) (rm_more1 l Z n0 h0 [] a0 hw hWd X0.old a u [] (0 : Int32) q1 q2 q3.top (show ¬ (0 : Int32) < (0 : Int32) by decide) ) (ow hw 65 rfl) (ow hw 39 rfl) (ow hw 41 rfl) (ow hw 40 rfl) (ow hw 31 rfl) (ow hw 42 rfl) (by decide) (lenOf pd__28_29Z rfl) rfl rfl rfl (W := 0) rfl (by decide) (by decide) (by decide) (by decide) all0 rfl ?_
  intro T1 h1 v1 X1 K1 hQ1
  obtain rfl := hQ1
  show OGo _ _ _ _ T1 (mkF m 4 #[.val (.ref a), .unset] [(.int 1)])
  refine og_ifY X1 37 d11_4 (XT.i0_ne_t (by decide)) (by decide) (by decide) ?_
  refine og_aloadN X1 38 d11_37 rfl rfl rfl ?_
  have f2 := q1.keep K1 nin0
  refine own_get X1 41 d11_38 (host := "") (Or.inl (ow hw 36 rfl)) Via.refl f2 rfl ?_
  intro T3 X4
  refine og_bipush X4 43 (9 : Int32) d11_41 rfl rfl ?_
  refine og_aloadN X4 44 d11_43 rfl rfl rfl ?_
  have f5 := q2.keep K1 nin0
  refine own_get X4 47 d11_44 (host := "") (Or.inl (ow hw 43 rfl)) Via.refl f5 rfl ?_
  intro T6 X7
  have f8 := q3.exa.keep K1
  have f9 := q3.keep K1 all0
  refine own_virt X7 50 (a := u) (argsL := [(.int 9), (.int 0)]) (rest := []) d11_47 f8 (fun _ hZ => notFace_of_selects (args := #[]) (mvT hZ (ow hw 69 rfl))) (rf_ios00 l Z n0 h1 [] a0 hw hWd X7.old u f9.top q4 ) (ow hw 66 rfl) (ow hw 67 rfl) (ow hw 69 rfl) (ow hw 68 rfl) (ow hw 6 rfl) (ow hw 70 rfl) (by decide) (lenOf pd__28II_29I rfl) rfl rfl rfl (W := 0) rfl (by decide) (by decide) (by decide) (by decide) all0 rfl ?_
  intro T10 h10 v10 X10 K10 hQ10
  obtain rfl := hQ10
  show OGo _ _ _ _ T10 (mkF m 50 #[.val (.ref a), .unset] [(.int (-1 : Int32))])
  refine og_istoreN X10 51 #[.val (.ref a), .val (.int (-1 : Int32))] d11_50 rfl rfl ?_
  refine og_iloadN X10 52 d11_51 rfl rfl ?_
  refine og_ifN X10 55 d11_52 (XT.i0_ge_f (by decide)) rfl ?_
  refine og_aloadN X10 56 d11_55 rfl rfl rfl ?_
  have f11 := f2.keep K10 nin0
  refine own_get X10 59 d11_56 (host := "") (Or.inl (ow hw 36 rfl)) Via.refl f11 rfl ?_
  intro T12 X13
  have f14 := f9.keep K10 all0
  refine own_strLen X13 62 d11_59 f14 (own_wL hw) (ow hw 5 rfl) hWd.2.1.1 hWd.2.1.2 (ow hw 45 rfl) (ow hw 46 rfl) (ow hw 48 rfl) (ow hw 47 rfl) rfl (W := 0) rfl (by decide) (by decide) (by decide) (by decide) rfl ?_
  intro T15 X16
  show OGo _ _ _ _ T15 (mkF m 62 #[.val (.ref a), .val (.int (-1 : Int32))] [(.int 0)])
  refine og_goto X16 66 d11_62 (by decide) (by decide) ?_
  refine own_retI X16 d11_66 hret (by decide) (by decide) ?_
  exact rfl
theorem rf_sub000 (a0 : Array Value) (hw : OHw a0 Z) (hWd : OWorld Z a0) (O0 : Old Z n0 h0) (a : Addr) (q0 : OStr Z h0 a [] h0.size) (q1 : ∀ c ∈ [], ¬ c < 0 ∧ ¬ (255 : Int32) < c) :
    OMet l Z own_EL n0 yN15 (Jvm.Cond.code yN15 jdk_42_method_92_code 5 (some (.object "java/lang/String")) :: wc) ({ frames := 2, cells := 0, slots := 0, locals := 29 } : Room) #[(.ref a), (.int 0), (.int 0)] h0 [] (fun vq hq => ∃ (r : Addr), vq = some (.ref r)) := by
  refine own_enter #[.val (.ref a), .val (.int 0), .val (.int 0), .unset, .unset] pn_java_lang_String_substring__II_Ljava_lang_String_ (fun _ => rfl) hWd.1 O0 all0 ?_
  intro p e s m below meth c T0 X0 hnm hret
  obtain ⟨t, kt, NN, vv, eE, eC, eV, eA, cod, bd, l4⟩ := q0.latin (fun c hc => (q1 c hc).2)
  obtain ⟨-, rfl, rfl, -⟩ := cod.resolve_right fun q => absurd q.1 (by decide)
  have eA2 : Arv Z h0 t kt .byte (0 : Int32) [] (.int 0) := eA
  refine og_aloadN X0 1 d18_0 rfl rfl rfl ?_
  refine own_strLen X0 4 d18_1 q0 (own_wL hw) (ow hw 5 rfl) hWd.2.1.1 hWd.2.1.2 (ow hw 76 rfl) (ow hw 46 rfl) (ow hw 48 rfl) (ow hw 47 rfl) rfl (W := 0) rfl (by decide) (by decide) (by decide) (by decide) rfl ?_
  intro T1 X2
  show OGo _ _ _ _ T1 (mkF m 4 #[.val (.ref a), .val (.int 0), .val (.int 0), .unset, .unset] [(.int 0)])
  refine og_istoreN X2 5 #[.val (.ref a), .val (.int 0), .val (.int 0), .val (.int 0), .unset] d18_4 rfl rfl ?_
  refine og_iloadN X2 6 d18_5 rfl rfl ?_
  refine og_iloadN X2 7 d18_6 rfl rfl ?_
  refine og_iloadN X2 8 d18_7 rfl rfl ?_
  refine own_stat X2 11 (argsL := [(.int 0), (.int 0), (.int 0)]) (rest := []) d18_8 (rm19 l Z n0 h0 [] a0 hw hWd X2.old (0 : Int32) (0 : Int32) (0 : Int32) (by decide) (by decide) (by decide) ) (ow hw 96 rfl) (ow hw 97 rfl) (ow hw 6 rfl) (ow hw 98 rfl) (by decide) (lenOf pd__28III_29V rfl) rfl rfl rfl (W := 0) rfl (by decide) (by decide) (by decide) (by decide) all0 rfl ?_
  intro T3 h3 v3 X3 K3 hQ3
  obtain rfl := hQ3
  show OGo _ _ _ _ T3 (mkF m 11 #[.val (.ref a), .val (.int 0), .val (.int 0), .val (.int 0), .unset] [])
  refine og_iloadN X3 12 d18_11 rfl rfl ?_
  refine og_ifN X3 15 d18_12 (XT.i0_ne_f (by decide)) rfl ?_
  refine og_iloadN X3 16 d18_15 rfl rfl ?_
  refine og_iloadN X3 17 d18_16 rfl rfl ?_
  refine og_icmpN X3 20 d18_17 (XT.ii_ne_f (by decide)) rfl ?_
  refine og_aloadN X3 21 d18_20 rfl rfl rfl ?_
  refine own_retA X3 d18_21 hret rfl rfl (by decide) (by decide) ?_
  exact ⟨a, rfl⟩
theorem rf_txt000 (a0 : Array Value) (hw : OHw a0 Z) (hWd : OWorld Z a0) (O0 : Old Z n0 h0) (a : Addr) (u : Addr) (q0 : Exa Z h0 a "com/example/ratable/ratable/core/JournalSums$Fields") (q1 : Fld Z h0 a "com/example/ratable/ratable/core/JournalSums$Fields" "line" "Ljava/lang/String;" (.ref u)) (q2 : Fld Z h0 a "com/example/ratable/ratable/core/JournalSums$Fields" "next" "I" (.int 0)) (q3 : OStr Z h0 u [] h0.size) (q4 : ∀ c ∈ [], ¬ c < 0 ∧ ¬ (255 : Int32) < c) (g0 : n0 ≤ a ∧ a < h0.size) :
    OMet l Z own_EL n0 yN16 (Jvm.Cond.code yN16 prog_51_method_3_code 3 (some (.object "java/lang/String")) :: wc) ({ frames := 4, cells := 0, slots := 0, locals := 55 } : Room) #[(.ref a)] h0 [a] (fun vq hq => ∃ (r : Addr), vq = some (.ref r) ∧ Fld Z hq a "com/example/ratable/ratable/core/JournalSums$Fields" "line" "Ljava/lang/String;" (.ref u) ∧ Fld Z hq a "com/example/ratable/ratable/core/JournalSums$Fields" "next" "I" (.int 1)) := by
  refine own_enter #[.val (.ref a), .unset, .unset] pn_com_example_ratable_ratable_core_JournalSums_Fields_text___Ljava_lang_String_ (fun _ => rfl) hWd.1 O0 (allS g0 all0) ?_
  intro p e s m below meth c T0 X0 hnm hret
  refine og_aloadN X0 1 d10_0 rfl rfl rfl ?_
  refine own_priv X0 4 (a := a) (argsL := []) (rest := []) d10_1 q0 (rf_end000 l Z n0 h0 [] a0 hw hWd X0.old a u q0 q1 q2 q3.top q4 ) (ow hw 61 rfl) (ow hw 62 rfl) (own_selfsel2 (ow hw 41 rfl) rfl (ow hw 62 rfl) (ow hw 63 rfl) (by decide)) (ow hw 63 rfl) (ow hw 31 rfl) (ow hw 64 rfl) (by decide) (lenOf pd__28_29I rfl) rfl rfl rfl (W := 0) rfl (by decide) (by decide) (by decide) (by decide) all0 rfl ?_
  intro T1 h1 v1 X1 K1 hQ1
  obtain rfl := hQ1
  show OGo _ _ _ _ T1 (mkF m 4 #[.val (.ref a), .unset, .unset] [(.int 0)])
  refine og_istoreN X1 5 #[.val (.ref a), .val (.int 0), .unset] d10_4 rfl rfl ?_
  refine og_aloadN X1 6 d10_5 rfl rfl rfl ?_
  have f2 := q1.keep K1 nin0
  refine own_get X1 9 d10_6 (host := "") (Or.inl (ow hw 36 rfl)) Via.refl f2 rfl ?_
  intro T3 X4
  refine og_aloadN X4 10 d10_9 rfl rfl rfl ?_
  have f5 := q2.keep K1 nin0
  refine own_get X4 13 d10_10 (host := "") (Or.inl (ow hw 43 rfl)) Via.refl f5 rfl ?_
  intro T6 X7
  refine og_iloadN X7 14 d10_13 rfl rfl ?_
  have f8 := q3.exa.keep K1
  have f9 := q3.keep K1 all0
  refine own_virt X7 17 (a := u) (argsL := [(.int 0), (.int 0)]) (rest := []) d10_14 f8 (fun _ hZ => notFace_of_selects (args := #[]) (mvT hZ (ow hw 94 rfl))) (rf_sub000 l Z n0 h1 [] a0 hw hWd X7.old u f9.top q4 ) (ow hw 91 rfl) (ow hw 92 rfl) (ow hw 94 rfl) (ow hw 93 rfl) (ow hw 6 rfl) (ow hw 95 rfl) (by decide) (lenOf pd__28II_29Ljava_2flang_2fString_3b rfl) rfl rfl rfl (W := 0) rfl (by decide) (by decide) (by decide) (by decide) all0 rfl ?_
  intro T10 h10 v10 X10 K10 hQ10
  obtain ⟨r10, rfl⟩ := hQ10
  show OGo _ _ _ _ T10 (mkF m 17 #[.val (.ref a), .val (.int 0), .unset] [(.ref r10)])
  refine og_astoreN X10 18 #[.val (.ref a), .val (.int 0), .val (.ref r10)] d10_17 rfl rfl rfl ?_
  refine og_aloadN X10 19 d10_18 rfl rfl rfl ?_
  refine og_iloadN X10 20 d10_19 rfl rfl ?_
  refine og_iconst X10 21 (1 : Int32) d10_20 rfl rfl ?_
  refine og_iadd X10 22 d10_21 rfl ?_
  show OGo _ _ _ _ T10 (mkF m 22 #[.val (.ref a), .val (.int 0), .val (.ref r10)] [(.int 1), (.ref a)])
  have f11 := f5.keep K10 nin0
  have f12 := q0.keep K1
  have f13 := f12.keep K10
  have f14 := f2.keep K10 nin0
  refine own_put X10 25 d10_22 (host := "") (Or.inl (ow hw 43 rfl)) Via.refl f11 f13 (Or.inl (ow hw 44 rfl)) (ow hw 30 rfl) (ty := .int) (by decide) rfl rfl (om 0 rfl) rfl ?_
  intro T15 h15 X15 W15 K15 F15
  have f16 := Fld.other W15 f14 (Or.inr (slot_ne (Or.inr (ow hw 37 rfl)) (Or.inl (ow hw 44 rfl)) (by decide) (t := (.object "java/lang/String")) (t' := .int) (by decide) (by decide)))
  refine og_aloadN X15 26 d10_25 rfl rfl rfl ?_
  refine own_retA X15 d10_26 hret rfl rfl (by decide) (by decide) ?_
  exact ⟨r10, rfl, f16, F15⟩
theorem rf_ioc10 (a0 : Array Value) (hw : OHw a0 Z) (hWd : OWorld Z a0) (O0 : Old Z n0 h0) (b : Addr) (kb : ClassId) (x0 : Int32) (q0 : Arv Z h0 b kb .byte (1 : Int32) [(.int (StrChars.lo8 x0))] (.int 0)) (q1 : ∀ c ∈ [x0], ¬ c < 0 ∧ ¬ (255 : Int32) < c) :
    OMet l Z own_EL n0 yN17 (Jvm.Cond.code yN17 jdk_43_method_23_code 6 (some .int) :: wc) ({ frames := 0, cells := 0, slots := 0, locals := 0 } : Room) #[(.ref b), (.int 9), (.int 0), (.int 1)] h0 [] (fun vq hq => vq = some (.int (own_ix [x0] 0))) := by
  refine own_enter #[.val (.ref b), .val (.int 9), .val (.int 0), .val (.int 1), .unset, .unset] pn_java_lang_StringLatin1_indexOfChar___BIII_I (fun _ => rfl) hWd.1 O0 all0 ?_
  intro p e s m below meth c T0 X0 hnm hret
  refine og_iloadN X0 1 d24_0 rfl rfl ?_
  refine og_i2b X0 2 d24_1 rfl ?_
  show OGo _ _ _ _ T0 (mkF m 2 #[.val (.ref b), .val (.int 9), .val (.int 0), .val (.int 1), .unset, .unset] [(.int 9)])
  refine og_istore X0 4 #[.val (.ref b), .val (.int 9), .val (.int 0), .val (.int 1), .val (.int 9), .unset] d24_2 rfl rfl ?_
  refine og_iloadN X0 5 d24_4 rfl rfl ?_
  refine og_istore X0 7 #[.val (.ref b), .val (.int 9), .val (.int 0), .val (.int 1), .val (.int 9), .val (.int 0)] d24_5 rfl rfl ?_
  refine og_iload X0 9 d24_7 rfl rfl ?_
  refine og_iloadN X0 10 d24_9 rfl rfl ?_
  refine og_icmpN X0 13 d24_10 (XT.ii_ge_f (by decide)) rfl ?_
  refine og_aloadN X0 14 d24_13 rfl rfl rfl ?_
  refine og_iload X0 16 d24_14 rfl rfl ?_
  refine own_ldB X0 17 d24_16 q0 (by decide) (by decide) rfl rfl ?_
  refine og_iload X0 19 d24_17 rfl rfl ?_
  by_cases hc1 : (StrChars.lo8 x0) = (9 : Int32)
  · -- (StrChars.lo8 x0) = (9 : Int32)
    refine og_icmpN X0 22 d24_19 (XT.ii_ne_f hc1) rfl ?_
    refine og_iload X0 24 d24_22 rfl rfl ?_
    refine own_retI X0 d24_24 hret (by decide) (by decide) ?_
    (first | rfl | (simp only [own_ix, own_ixA, List.drop, if_true, if_false, own_tab2 (q1 _ (om 0 rfl)) hc1]; done) | (simp only [own_ix, own_ixA, List.drop, if_true, if_false, own_tab2 (q1 _ (om 0 rfl)) hc1]; rfl))
  · -- not
    refine og_icmpY X0 25 d24_19 (XT.ii_ne_t hc1) (by decide) (by decide) ?_
    refine og_iinc X0 28 #[.val (.ref b), .val (.int 9), .val (.int 0), .val (.int 1), .val (.int 9), .val (.int 1)] d24_25 rfl rfl rfl ?_
    refine og_goto X0 7 d24_28 (by decide) (by decide) ?_
    refine og_iload X0 9 d24_7 rfl rfl ?_
    refine og_iloadN X0 10 d24_9 rfl rfl ?_
    refine og_icmpY X0 31 d24_10 (XT.ii_ge_t (by decide)) (by decide) (by decide) ?_
    refine og_iconst X0 32 (-1 : Int32) d24_31 rfl rfl ?_
    refine own_retI X0 d24_32 hret (by decide) (by decide) ?_
    (first | rfl | (simp only [own_ix, own_ixA, List.drop, if_true, if_false, own_tab3 hc1]; done) | (simp only [own_ix, own_ixA, List.drop, if_true, if_false, own_tab3 hc1]; rfl))
theorem rf_iol10 (a0 : Array Value) (hw : OHw a0 Z) (hWd : OWorld Z a0) (O0 : Old Z n0 h0) (b : Addr) (kb : ClassId) (x0 : Int32) (q0 : Arv Z h0 b kb .byte (1 : Int32) [(.int (StrChars.lo8 x0))] (.int 0)) (q1 : ∀ c ∈ [x0], ¬ c < 0 ∧ ¬ (255 : Int32) < c) :
    OMet l Z own_EL n0 yN12 (Jvm.Cond.code yN12 jdk_43_method_22_code 4 (some .int) :: wc) ({ frames := 1, cells := 0, slots := 0, locals := 17 } : Room) #[(.ref b), (.int 9), (.int 0), (.int 1)] h0 [] (fun vq hq => vq = some (.int (own_ix [x0] 0))) := by
  refine own_enter #[.val (.ref b), .val (.int 9), .val (.int 0), .val (.int 1)] pn_java_lang_StringLatin1_indexOf___BIII_I (fun _ => rfl) hWd.1 O0 all0 ?_
  intro p e s m below meth c T0 X0 hnm hret
  refine og_iloadN X0 1 d14_0 rfl rfl ?_
  refine own_stat X0 4 (argsL := [(.int 9)]) (rest := []) d14_1 (rm15 l Z n0 h0 [] a0 hw hWd X0.old   ) (ow hw 81 rfl) (ow hw 82 rfl) (ow hw 79 rfl) (ow hw 83 rfl) (by decide) (lenOf pd__28I_29Z rfl) rfl rfl rfl (W := 0) rfl (by decide) (by decide) (by decide) (by decide) all0 rfl ?_
  intro T1 h1 v1 X1 K1 hQ1
  obtain rfl := hQ1
  show OGo _ _ _ _ T1 (mkF m 4 #[.val (.ref b), .val (.int 9), .val (.int 0), .val (.int 1)] [(.int 1)])
  refine og_ifY X1 9 d14_4 (XT.i0_ne_t (by decide)) (by decide) (by decide) ?_
  refine og_iloadN X1 10 d14_9 rfl rfl ?_
  refine og_iconst X1 11 (0 : Int32) d14_10 rfl rfl ?_
  refine own_stat X1 14 (argsL := [(.int 0), (.int 0)]) (rest := []) d14_11 (rm16 l Z n0 h1 [] a0 hw hWd X1.old (0 : Int32) (0 : Int32) (by decide) ) (ow hw 84 rfl) (ow hw 85 rfl) (ow hw 86 rfl) (ow hw 87 rfl) (by decide) (lenOf pd__28II_29I rfl) rfl rfl rfl (W := 0) rfl (by decide) (by decide) (by decide) (by decide) all0 rfl ?_
  intro T2 h2 v2 X2 K2 hQ2
  obtain rfl := hQ2
  show OGo _ _ _ _ T2 (mkF m 14 #[.val (.ref b), .val (.int 9), .val (.int 0), .val (.int 1)] [(.int 0)])
  refine og_istoreN X2 15 #[.val (.ref b), .val (.int 9), .val (.int 0), .val (.int 1)] d14_14 rfl rfl ?_
  refine og_iloadN X2 16 d14_15 rfl rfl ?_
  refine og_aloadN X2 17 d14_16 rfl rfl rfl ?_
  have f3 := q0.keep K1 nin0
  have f4 := f3.keep K2 nin0
  refine own_len X2 18 d14_17 f4 rfl ?_
  refine own_stat X2 21 (argsL := [(.int 1), (.int 1)]) (rest := []) d14_18 (rm_min0 l Z n0 h2 [] a0 hw hWd X2.old (1 : Int32) (1 : Int32) (by decide) ) (ow hw 88 rfl) (ow hw 89 rfl) (ow hw 86 rfl) (ow hw 90 rfl) (by decide) (lenOf pd__28II_29I rfl) rfl rfl rfl (W := 0) rfl (by decide) (by decide) (by decide) (by decide) all0 rfl ?_
  intro T5 h5 v5 X5 K5 hQ5
  obtain rfl := hQ5
  show OGo _ _ _ _ T5 (mkF m 21 #[.val (.ref b), .val (.int 9), .val (.int 0), .val (.int 1)] [(.int 1)])
  refine og_istoreN X5 22 #[.val (.ref b), .val (.int 9), .val (.int 0), .val (.int 1)] d14_21 rfl rfl ?_
  refine og_iloadN X5 23 d14_22 rfl rfl ?_
  refine og_iloadN X5 24 d14_23 rfl rfl ?_
  refine og_icmpY X5 29 d14_24 (XT.ii_lt_t (by decide)) (by decide) (by decide) ?_
  refine og_aloadN X5 30 d14_29 rfl rfl rfl ?_
  refine og_iloadN X5 31 d14_30 rfl rfl ?_
  refine og_iloadN X5 32 d14_31 rfl rfl ?_
  refine og_iloadN X5 33 d14_32 rfl rfl ?_
  have f6 := f4.keep K5 nin0
  refine own_stat X5 36 (argsL := [(.ref b), (.int 9), (.int 0), (.int 1)]) (rest := []) d14_33 (rf_ioc10 l Z n0 h5 [] a0 hw hWd X5.old b kb x0 f6 q1 ) (ow hw 114 rfl) (ow hw 115 rfl) (ow hw 79 rfl) (ow hw 116 rfl) (by decide) (lenOf pd__28_5bBIII_29I rfl) rfl rfl rfl (W := 0) rfl (by decide) (by decide) (by decide) (by decide) all0 rfl ?_
  intro T7 h7 v7 X7 K7 hQ7
  obtain rfl := hQ7
  show OGo _ _ _ _ T7 (mkF m 36 #[.val (.ref b), .val (.int 9), .val (.int 0), .val (.int 1)] [(.int (own_ix [x0] 0))])
  refine own_retI X7 d14_36 hret (by decide) (by decide) ?_
  exact rfl
theorem rf_ios10 (a0 : Array Value) (hw : OHw a0 Z) (hWd : OWorld Z a0) (O0 : Old Z n0 h0) (a : Addr) (x0 : Int32) (q0 : OStr Z h0 a [x0] h0.size) (q1 : ∀ c ∈ [x0], ¬ c < 0 ∧ ¬ (255 : Int32) < c) :
    OMet l Z own_EL n0 yN13 (Jvm.Cond.code yN13 jdk_42_method_80_code 3 (some .int) :: wc) ({ frames := 2, cells := 0, slots := 0, locals := 32 } : Room) #[(.ref a), (.int 9), (.int 0)] h0 [] (fun vq hq => vq = some (.int (own_ix [x0] 0))) := by
  refine own_enter #[.val (.ref a), .val (.int 9), .val (.int 0)] pn_java_lang_String_indexOf__II_I (fun _ => rfl) hWd.1 O0 all0 ?_
  intro p e s m below meth c T0 X0 hnm hret
  obtain ⟨t, kt, NN, vv, eE, eC, eV, eA, cod, bd, l4⟩ := q0.latin (fun c hc => (q1 c hc).2)
  obtain ⟨-, rfl, rfl, -⟩ := cod.resolve_right fun q => absurd q.1 (by decide)
  have eA2 : Arv Z h0 t kt .byte (1 : Int32) [(.int (StrChars.lo8 x0))] (.int 0) := eA
  refine og_aloadN X0 1 d12_0 rfl rfl rfl ?_
  refine own_virt X0 4 (a := a) (argsL := []) (rest := []) d12_1 eE (fun _ hZ => notFace_of_selects (args := #[]) (mvT hZ (ow hw 74 rfl))) (rm13 l Z n0 h0 [] a0 hw hWd X0.old a eC ) (ow hw 71 rfl) (ow hw 72 rfl) (ow hw 74 rfl) (ow hw 73 rfl) (ow hw 6 rfl) (ow hw 75 rfl) (by decide) (lenOf pd__28_29Z rfl) rfl rfl rfl (W := 0) rfl (by decide) (by decide) (by decide) (by decide) all0 rfl ?_
  intro T1 h1 v1 X1 K1 hQ1
  obtain rfl := hQ1
  show OGo _ _ _ _ T1 (mkF m 4 #[.val (.ref a), .val (.int 9), .val (.int 0)] [(.int 1)])
  refine og_ifN X1 7 d12_4 (XT.i0_eq_f (by decide)) rfl ?_
  refine og_aloadN X1 8 d12_7 rfl rfl rfl ?_
  have f2 := eV.keep K1 nin0
  refine own_get X1 11 d12_8 (host := "") (Or.inl (ow hw 24 rfl)) Via.refl f2 rfl ?_
  intro T3 X4
  refine og_iloadN X4 12 d12_11 rfl rfl ?_
  refine og_iloadN X4 13 d12_12 rfl rfl ?_
  refine og_aloadN X4 14 d12_13 rfl rfl rfl ?_
  have f5 := q0.keep K1 all0
  refine own_strLen X4 17 d12_14 f5 (own_wL hw) (ow hw 5 rfl) hWd.2.1.1 hWd.2.1.2 (ow hw 76 rfl) (ow hw 46 rfl) (ow hw 48 rfl) (ow hw 47 rfl) rfl (W := 3) rfl (by decide) (by decide) (by decide) (by decide) rfl ?_
  intro T6 X7
  show OGo _ _ _ _ T6 (mkF m 17 #[.val (.ref a), .val (.int 9), .val (.int 0)] [(.int 1), (.int 0), (.int 9), (.ref t)])
  have f8 := eA2.keep K1 nin0
  refine own_stat X7 20 (argsL := [(.ref t), (.int 9), (.int 0), (.int 1)]) (rest := []) d12_17 (rf_iol10 l Z n0 h1 [] a0 hw hWd X7.old t kt x0 f8 q1 ) (ow hw 77 rfl) (ow hw 78 rfl) (ow hw 79 rfl) (ow hw 80 rfl) (by decide) (lenOf pd__28_5bBIII_29I rfl) rfl rfl rfl (W := 0) rfl (by decide) (by decide) (by decide) (by decide) all0 rfl ?_
  intro T9 h9 v9 X9 K9 hQ9
  obtain rfl := hQ9
  show OGo _ _ _ _ T9 (mkF m 20 #[.val (.ref a), .val (.int 9), .val (.int 0)] [(.int (own_ix [x0] 0))])
  refine og_goto X9 36 d12_20 (by decide) (by decide) ?_
  refine own_retI X9 d12_36 hret (by decide) (by decide) ?_
  exact rfl
theorem rf_end100 (a0 : Array Value) (hw : OHw a0 Z) (hWd : OWorld Z a0) (O0 : Old Z n0 h0) (a : Addr) (u : Addr) (x0 : Int32) (q0 : Exa Z h0 a "com/example/ratable/ratable/core/JournalSums$Fields") (q1 : Fld Z h0 a "com/example/ratable/ratable/core/JournalSums$Fields" "line" "Ljava/lang/String;" (.ref u)) (q2 : Fld Z h0 a "com/example/ratable/ratable/core/JournalSums$Fields" "next" "I" (.int 0)) (q3 : OStr Z h0 u [x0] h0.size) (q4 : ∀ c ∈ [x0], ¬ c < 0 ∧ ¬ (255 : Int32) < c) (q5 : x0 = (9 : Int32)) :
    OMet l Z own_EL n0 yN14 (Jvm.Cond.code yN14 prog_51_method_8_code 2 (some .int) :: wc) ({ frames := 3, cells := 0, slots := 0, locals := 46 } : Room) #[(.ref a)] h0 [] (fun vq hq => vq = some (.int 0)) := by
  refine own_enter #[.val (.ref a), .unset] pn_com_example_ratable_ratable_core_JournalSums_Fields_end___I (fun _ => rfl) hWd.1 O0 all0 ?_
  intro p e s m below meth c T0 X0 hnm hret
  refine og_aloadN X0 1 d11_0 rfl rfl rfl ?_
  refine own_virt X0 4 (a := a) (argsL := []) (rest := []) d11_1 q0 (fun _ hZ => notFace_of_selects (args := #[]) (mvT hZ (ow hw 41 rfl))) (rm_more1 l Z n0 h0 [] a0 hw hWd X0.old a u [x0] (0 : Int32) q1 q2 q3.top (show ¬ (1 : Int32) < (0 : Int32) by decide) ) (ow hw 65 rfl) (ow hw 39 rfl) (ow hw 41 rfl) (ow hw 40 rfl) (ow hw 31 rfl) (ow hw 42 rfl) (by decide) (lenOf pd__28_29Z rfl) rfl rfl rfl (W := 0) rfl (by decide) (by decide) (by decide) (by decide) all0 rfl ?_
  intro T1 h1 v1 X1 K1 hQ1
  obtain rfl := hQ1
  show OGo _ _ _ _ T1 (mkF m 4 #[.val (.ref a), .unset] [(.int 1)])
  refine og_ifY X1 37 d11_4 (XT.i0_ne_t (by decide)) (by decide) (by decide) ?_
  refine og_aloadN X1 38 d11_37 rfl rfl rfl ?_
  have f2 := q1.keep K1 nin0
  refine own_get X1 41 d11_38 (host := "") (Or.inl (ow hw 36 rfl)) Via.refl f2 rfl ?_
  intro T3 X4
  refine og_bipush X4 43 (9 : Int32) d11_41 rfl rfl ?_
  refine og_aloadN X4 44 d11_43 rfl rfl rfl ?_
  have f5 := q2.keep K1 nin0
  refine own_get X4 47 d11_44 (host := "") (Or.inl (ow hw 43 rfl)) Via.refl f5 rfl ?_
  intro T6 X7
  have f8 := q3.exa.keep K1
  have f9 := q3.keep K1 all0
  refine own_virt X7 50 (a := u) (argsL := [(.int 9), (.int 0)]) (rest := []) d11_47 f8 (fun _ hZ => notFace_of_selects (args := #[]) (mvT hZ (ow hw 69 rfl))) (rf_ios10 l Z n0 h1 [] a0 hw hWd X7.old u x0 f9.top q4 ) (ow hw 66 rfl) (ow hw 67 rfl) (ow hw 69 rfl) (ow hw 68 rfl) (ow hw 6 rfl) (ow hw 70 rfl) (by decide) (lenOf pd__28II_29I rfl) rfl rfl rfl (W := 0) rfl (by decide) (by decide) (by decide) (by decide) all0 rfl ?_
  intro T10 h10 v10 X10 K10 hQ10
  obtain rfl := hQ10
  show OGo _ _ _ _ T10 (mkF m 50 #[.val (.ref a), .unset] [(.int (own_ix [x0] 0))])
  rw [show (own_ix [x0] 0) = (0 : Int32) by (first | rfl | (simp only [own_ix, own_ixA, List.drop, if_true, if_false, q5]; done) | (simp only [own_ix, own_ixA, List.drop, if_true, if_false, q5]; rfl))]
  refine og_istoreN X10 51 #[.val (.ref a), .val (.int 0)] d11_50 rfl rfl ?_
  refine og_iloadN X10 52 d11_51 rfl rfl ?_
  refine og_ifY X10 65 d11_52 (XT.i0_ge_t (by decide)) (by decide) (by decide) ?_
  refine og_iloadN X10 66 d11_65 rfl rfl ?_
  refine own_retI X10 d11_66 hret (by decide) (by decide) ?_
  exact rfl
theorem rf_ns100 (a0 : Array Value) (hw : OHw a0 Z) (hWd : OWorld Z a0) (O0 : Old Z n0 h0) (b : Addr) (kb : ClassId) (e0 : Value) (q0 : Arv Z h0 b kb .byte (1 : Int32) [e0] (.int 0)) :
    OMet l Z own_EL n0 yN18 (Jvm.Cond.code yN18 jdk_43_method_47_code 3 (some (.object "java/lang/String")) :: wc) ({ frames := 0, cells := 2, slots := 4, locals := 0 } : Room) #[(.ref b), (.int 0), (.int 0)] h0 [] (fun vq hq => ∃ (r : Addr), vq = some (.ref r)) := by
  refine own_enter #[.val (.ref b), .val (.int 0), .val (.int 0)] pn_java_lang_StringLatin1_newString___BII_Ljava_lang_String_ (fun _ => rfl) hWd.1 O0 all0 ?_
  intro p e s m below meth c T0 X0 hnm hret
  refine og_iloadN X0 1 d25_0 rfl rfl ?_
  refine og_ifN X0 4 d25_1 (XT.i0_ne_f (by decide)) rfl ?_
  refine own_ldcO X0 6 (cap := 0) d25_4 own_ELne (ow hw 120 rfl) (own_wS hw) (by decide) (by decide) (by decide) (by decide) rfl ?_
  intro T1 h1 a1 X1 K1
  refine own_retA X1 d25_6 hret rfl rfl (by decide) (by decide) ?_
  exact ⟨a1, rfl⟩
theorem rf_sub100 (a0 : Array Value) (hw : OHw a0 Z) (hWd : OWorld Z a0) (O0 : Old Z n0 h0) (a : Addr) (x0 : Int32) (q0 : OStr Z h0 a [x0] h0.size) (q1 : ∀ c ∈ [x0], ¬ c < 0 ∧ ¬ (255 : Int32) < c) :
    OMet l Z own_EL n0 yN15 (Jvm.Cond.code yN15 jdk_42_method_92_code 5 (some (.object "java/lang/String")) :: wc) ({ frames := 2, cells := 2, slots := 4, locals := 29 } : Room) #[(.ref a), (.int 0), (.int 0)] h0 [] (fun vq hq => ∃ (r : Addr), vq = some (.ref r)) := by
  refine own_enter #[.val (.ref a), .val (.int 0), .val (.int 0), .unset, .unset] pn_java_lang_String_substring__II_Ljava_lang_String_ (fun _ => rfl) hWd.1 O0 all0 ?_
  intro p e s m below meth c T0 X0 hnm hret
  obtain ⟨t, kt, NN, vv, eE, eC, eV, eA, cod, bd, l4⟩ := q0.latin (fun c hc => (q1 c hc).2)
  obtain ⟨-, rfl, rfl, -⟩ := cod.resolve_right fun q => absurd q.1 (by decide)
  have eA2 : Arv Z h0 t kt .byte (1 : Int32) [(.int (StrChars.lo8 x0))] (.int 0) := eA
  refine og_aloadN X0 1 d18_0 rfl rfl rfl ?_
  refine own_strLen X0 4 d18_1 q0 (own_wL hw) (ow hw 5 rfl) hWd.2.1.1 hWd.2.1.2 (ow hw 76 rfl) (ow hw 46 rfl) (ow hw 48 rfl) (ow hw 47 rfl) rfl (W := 0) rfl (by decide) (by decide) (by decide) (by decide) rfl ?_
  intro T1 X2
  show OGo _ _ _ _ T1 (mkF m 4 #[.val (.ref a), .val (.int 0), .val (.int 0), .unset, .unset] [(.int 1)])
  refine og_istoreN X2 5 #[.val (.ref a), .val (.int 0), .val (.int 0), .val (.int 1), .unset] d18_4 rfl rfl ?_
  refine og_iloadN X2 6 d18_5 rfl rfl ?_
  refine og_iloadN X2 7 d18_6 rfl rfl ?_
  refine og_iloadN X2 8 d18_7 rfl rfl ?_
  refine own_stat X2 11 (argsL := [(.int 0), (.int 0), (.int 1)]) (rest := []) d18_8 (rm19 l Z n0 h0 [] a0 hw hWd X2.old (0 : Int32) (0 : Int32) (1 : Int32) (by decide) (by decide) (by decide) ) (ow hw 96 rfl) (ow hw 97 rfl) (ow hw 6 rfl) (ow hw 98 rfl) (by decide) (lenOf pd__28III_29V rfl) rfl rfl rfl (W := 0) rfl (by decide) (by decide) (by decide) (by decide) all0 rfl ?_
  intro T3 h3 v3 X3 K3 hQ3
  obtain rfl := hQ3
  show OGo _ _ _ _ T3 (mkF m 11 #[.val (.ref a), .val (.int 0), .val (.int 0), .val (.int 1), .unset] [])
  refine og_iloadN X3 12 d18_11 rfl rfl ?_
  refine og_ifN X3 15 d18_12 (XT.i0_ne_f (by decide)) rfl ?_
  refine og_iloadN X3 16 d18_15 rfl rfl ?_
  refine og_iloadN X3 17 d18_16 rfl rfl ?_
  refine og_icmpY X3 22 d18_17 (XT.ii_ne_t (by decide)) (by decide) (by decide) ?_
  refine og_iloadN X3 23 d18_22 rfl rfl ?_
  refine og_iloadN X3 24 d18_23 rfl rfl ?_
  refine og_isub X3 25 d18_24 rfl ?_
  show OGo _ _ _ _ T3 (mkF m 25 #[.val (.ref a), .val (.int 0), .val (.int 0), .val (.int 1), .unset] [(.int 0)])
  refine og_istore X3 27 #[.val (.ref a), .val (.int 0), .val (.int 0), .val (.int 1), .val (.int 0)] d18_25 rfl rfl ?_
  refine og_aloadN X3 28 d18_27 rfl rfl rfl ?_
  have f4 := eE.keep K3
  have f5 := eC.keep K3 nin0
  refine own_virt X3 31 (a := a) (argsL := []) (rest := []) d18_28 f4 (fun _ hZ => notFace_of_selects (args := #[]) (mvT hZ (ow hw 74 rfl))) (rm13 l Z n0 h3 [] a0 hw hWd X3.old a f5 ) (ow hw 71 rfl) (ow hw 72 rfl) (ow hw 74 rfl) (ow hw 73 rfl) (ow hw 6 rfl) (ow hw 75 rfl) (by decide) (lenOf pd__28_29Z rfl) rfl rfl rfl (W := 0) rfl (by decide) (by decide) (by decide) (by decide) all0 rfl ?_
  intro T6 h6 v6 X6 K6 hQ6
  obtain rfl := hQ6
  show OGo _ _ _ _ T6 (mkF m 31 #[.val (.ref a), .val (.int 0), .val (.int 0), .val (.int 1), .val (.int 0)] [(.int 1)])
  refine og_ifN X6 34 d18_31 (XT.i0_eq_f (by decide)) rfl ?_
  refine og_aloadN X6 35 d18_34 rfl rfl rfl ?_
  have f7 := eV.keep K3 nin0
  have f8 := f7.keep K6 nin0
  refine own_get X6 38 d18_35 (host := "") (Or.inl (ow hw 24 rfl)) Via.refl f8 rfl ?_
  intro T9 X10
  refine og_iloadN X10 39 d18_38 rfl rfl ?_
  refine og_iload X10 41 d18_39 rfl rfl ?_
  have f11 := eA2.keep K3 nin0
  have f12 := f11.keep K6 nin0
  refine own_stat X10 44 (argsL := [(.ref t), (.int 0), (.int 0)]) (rest := []) d18_41 (rf_ns100 l Z n0 h6 [] a0 hw hWd X10.old t kt (.int (StrChars.lo8 x0)) f12 ) (ow hw 117 rfl) (ow hw 118 rfl) (ow hw 79 rfl) (ow hw 119 rfl) (by decide) (lenOf pd__28_5bBII_29Ljava_2flang_2fString_3b rfl) rfl rfl rfl (W := 0) rfl (by decide) (by decide) (by decide) (by decide) all0 rfl ?_
  intro T13 h13 v13 X13 K13 hQ13
  obtain ⟨r13, rfl⟩ := hQ13
  show OGo _ _ _ _ T13 (mkF m 44 #[.val (.ref a), .val (.int 0), .val (.int 0), .val (.int 1), .val (.int 0)] [(.ref r13)])
  refine og_goto X13 57 d18_44 (by decide) (by decide) ?_
  refine own_retA X13 d18_57 hret rfl rfl (by decide) (by decide) ?_
  exact ⟨r13, rfl⟩
theorem rf_txt100 (a0 : Array Value) (hw : OHw a0 Z) (hWd : OWorld Z a0) (O0 : Old Z n0 h0) (a : Addr) (u : Addr) (x0 : Int32) (q0 : Exa Z h0 a "com/example/ratable/ratable/core/JournalSums$Fields") (q1 : Fld Z h0 a "com/example/ratable/ratable/core/JournalSums$Fields" "line" "Ljava/lang/String;" (.ref u)) (q2 : Fld Z h0 a "com/example/ratable/ratable/core/JournalSums$Fields" "next" "I" (.int 0)) (q3 : OStr Z h0 u [x0] h0.size) (q4 : ∀ c ∈ [x0], ¬ c < 0 ∧ ¬ (255 : Int32) < c) (q5 : x0 = (9 : Int32)) (g0 : n0 ≤ a ∧ a < h0.size) :
    OMet l Z own_EL n0 yN16 (Jvm.Cond.code yN16 prog_51_method_3_code 3 (some (.object "java/lang/String")) :: wc) ({ frames := 4, cells := 2, slots := 4, locals := 59 } : Room) #[(.ref a)] h0 [a] (fun vq hq => ∃ (r : Addr), vq = some (.ref r) ∧ Fld Z hq a "com/example/ratable/ratable/core/JournalSums$Fields" "line" "Ljava/lang/String;" (.ref u) ∧ Fld Z hq a "com/example/ratable/ratable/core/JournalSums$Fields" "next" "I" (.int 1)) := by
  refine own_enter #[.val (.ref a), .unset, .unset] pn_com_example_ratable_ratable_core_JournalSums_Fields_text___Ljava_lang_String_ (fun _ => rfl) hWd.1 O0 (allS g0 all0) ?_
  intro p e s m below meth c T0 X0 hnm hret
  refine og_aloadN X0 1 d10_0 rfl rfl rfl ?_
  refine own_priv X0 4 (a := a) (argsL := []) (rest := []) d10_1 q0 (rf_end100 l Z n0 h0 [] a0 hw hWd X0.old a u x0 q0 q1 q2 q3.top q4 q5 ) (ow hw 61 rfl) (ow hw 62 rfl) (own_selfsel2 (ow hw 41 rfl) rfl (ow hw 62 rfl) (ow hw 63 rfl) (by decide)) (ow hw 63 rfl) (ow hw 31 rfl) (ow hw 64 rfl) (by decide) (lenOf pd__28_29I rfl) rfl rfl rfl (W := 0) rfl (by decide) (by decide) (by decide) (by decide) all0 rfl ?_
  intro T1 h1 v1 X1 K1 hQ1
  obtain rfl := hQ1
  show OGo _ _ _ _ T1 (mkF m 4 #[.val (.ref a), .unset, .unset] [(.int 0)])
  refine og_istoreN X1 5 #[.val (.ref a), .val (.int 0), .unset] d10_4 rfl rfl ?_
  refine og_aloadN X1 6 d10_5 rfl rfl rfl ?_
  have f2 := q1.keep K1 nin0
  refine own_get X1 9 d10_6 (host := "") (Or.inl (ow hw 36 rfl)) Via.refl f2 rfl ?_
  intro T3 X4
  refine og_aloadN X4 10 d10_9 rfl rfl rfl ?_
  have f5 := q2.keep K1 nin0
  refine own_get X4 13 d10_10 (host := "") (Or.inl (ow hw 43 rfl)) Via.refl f5 rfl ?_
  intro T6 X7
  refine og_iloadN X7 14 d10_13 rfl rfl ?_
  have f8 := q3.exa.keep K1
  have f9 := q3.keep K1 all0
  refine own_virt X7 17 (a := u) (argsL := [(.int 0), (.int 0)]) (rest := []) d10_14 f8 (fun _ hZ => notFace_of_selects (args := #[]) (mvT hZ (ow hw 94 rfl))) (rf_sub100 l Z n0 h1 [] a0 hw hWd X7.old u x0 f9.top q4 ) (ow hw 91 rfl) (ow hw 92 rfl) (ow hw 94 rfl) (ow hw 93 rfl) (ow hw 6 rfl) (ow hw 95 rfl) (by decide) (lenOf pd__28II_29Ljava_2flang_2fString_3b rfl) rfl rfl rfl (W := 0) rfl (by decide) (by decide) (by decide) (by decide) all0 rfl ?_
  intro T10 h10 v10 X10 K10 hQ10
  obtain ⟨r10, rfl⟩ := hQ10
  show OGo _ _ _ _ T10 (mkF m 17 #[.val (.ref a), .val (.int 0), .unset] [(.ref r10)])
  refine og_astoreN X10 18 #[.val (.ref a), .val (.int 0), .val (.ref r10)] d10_17 rfl rfl rfl ?_
  refine og_aloadN X10 19 d10_18 rfl rfl rfl ?_
  refine og_iloadN X10 20 d10_19 rfl rfl ?_
  refine og_iconst X10 21 (1 : Int32) d10_20 rfl rfl ?_
  refine og_iadd X10 22 d10_21 rfl ?_
  show OGo _ _ _ _ T10 (mkF m 22 #[.val (.ref a), .val (.int 0), .val (.ref r10)] [(.int 1), (.ref a)])
  have f11 := f5.keep K10 nin0
  have f12 := q0.keep K1
  have f13 := f12.keep K10
  have f14 := f2.keep K10 nin0
  refine own_put X10 25 d10_22 (host := "") (Or.inl (ow hw 43 rfl)) Via.refl f11 f13 (Or.inl (ow hw 44 rfl)) (ow hw 30 rfl) (ty := .int) (by decide) rfl rfl (om 0 rfl) rfl ?_
  intro T15 h15 X15 W15 K15 F15
  have f16 := Fld.other W15 f14 (Or.inr (slot_ne (Or.inr (ow hw 37 rfl)) (Or.inl (ow hw 44 rfl)) (by decide) (t := (.object "java/lang/String")) (t' := .int) (by decide) (by decide)))
  refine og_aloadN X15 26 d10_25 rfl rfl rfl ?_
  refine own_retA X15 d10_26 hret rfl rfl (by decide) (by decide) ?_
  exact ⟨r10, rfl, f16, F15⟩
theorem rf_end101 (a0 : Array Value) (hw : OHw a0 Z) (hWd : OWorld Z a0) (O0 : Old Z n0 h0) (a : Addr) (u : Addr) (x0 : Int32) (q0 : Exa Z h0 a "com/example/ratable/ratable/core/JournalSums$Fields") (q1 : Fld Z h0 a "com/example/ratable/ratable/core/JournalSums$Fields" "line" "Ljava/lang/String;" (.ref u)) (q2 : Fld Z h0 a "com/example/ratable/ratable/core/JournalSums$Fields" "next" "I" (.int 0)) (q3 : OStr Z h0 u [x0] h0.size) (q4 : ∀ c ∈ [x0], ¬ c < 0 ∧ ¬ (255 : Int32) < c) (q5 : ¬ x0 = (9 : Int32)) :
    OMet l Z own_EL n0 yN14 (Jvm.Cond.code yN14 prog_51_method_8_code 2 (some .int) :: wc) ({ frames := 3, cells := 0, slots := 0, locals := 46 } : Room) #[(.ref a)] h0 [] (fun vq hq => vq = some (.int 1)) := by
  refine own_enter #[.val (.ref a), .unset] pn_com_example_ratable_ratable_core_JournalSums_Fields_end___I (fun _ => rfl) hWd.1 O0 all0 ?_
  intro p e s m below meth c T0 X0 hnm hret
  refine og_aloadN X0 1 d11_0 rfl rfl rfl ?_
  refine own_virt X0 4 (a := a) (argsL := []) (rest := []) d11_1 q0 (fun _ hZ => notFace_of_selects (args := #[]) (mvT hZ (ow hw 41 rfl))) (rm_more1 l Z n0 h0 [] a0 hw hWd X0.old a u [x0] (0 : Int32) q1 q2 q3.top (show ¬ (1 : Int32) < (0 : Int32) by decide) ) (ow hw 65 rfl) (ow hw 39 rfl) (ow hw 41 rfl) (ow hw 40 rfl) (ow hw 31 rfl) (ow hw 42 rfl) (by decide) (lenOf pd__28_29Z rfl) rfl rfl rfl (W := 0) rfl (by decide) (by decide) (by decide) (by decide) all0 rfl ?_
  intro T1 h1 v1 X1 K1 hQ1
  obtain rfl := hQ1
  show OGo _ _ _ _ T1 (mkF m 4 #[.val (.ref a), .unset] [(.int 1)])
  refine og_ifY X1 37 d11_4 (XT.i0_ne_t (by decide)) (by decide) (by decide) ?_
  refine og_aloadN X1 38 d11_37 rfl rfl rfl ?_
  have f2 := q1.keep K1 nin0
  refine own_get X1 41 d11_38 (host := "") (Or.inl (ow hw 36 rfl)) Via.refl f2 rfl ?_
  intro T3 X4
  refine og_bipush X4 43 (9 : Int32) d11_41 rfl rfl ?_
  refine og_aloadN X4 44 d11_43 rfl rfl rfl ?_
  have f5 := q2.keep K1 nin0
  refine own_get X4 47 d11_44 (host := "") (Or.inl (ow hw 43 rfl)) Via.refl f5 rfl ?_
  intro T6 X7
  have f8 := q3.exa.keep K1
  have f9 := q3.keep K1 all0
  refine own_virt X7 50 (a := u) (argsL := [(.int 9), (.int 0)]) (rest := []) d11_47 f8 (fun _ hZ => notFace_of_selects (args := #[]) (mvT hZ (ow hw 69 rfl))) (rf_ios10 l Z n0 h1 [] a0 hw hWd X7.old u x0 f9.top q4 ) (ow hw 66 rfl) (ow hw 67 rfl) (ow hw 69 rfl) (ow hw 68 rfl) (ow hw 6 rfl) (ow hw 70 rfl) (by decide) (lenOf pd__28II_29I rfl) rfl rfl rfl (W := 0) rfl (by decide) (by decide) (by decide) (by decide) all0 rfl ?_
  intro T10 h10 v10 X10 K10 hQ10
  obtain rfl := hQ10
  show OGo _ _ _ _ T10 (mkF m 50 #[.val (.ref a), .unset] [(.int (own_ix [x0] 0))])
  rw [show (own_ix [x0] 0) = (-1 : Int32) by (first | rfl | (simp only [own_ix, own_ixA, List.drop, if_true, if_false, q5]; done) | (simp only [own_ix, own_ixA, List.drop, if_true, if_false, q5]; rfl))]
  refine og_istoreN X10 51 #[.val (.ref a), .val (.int (-1 : Int32))] d11_50 rfl rfl ?_
  refine og_iloadN X10 52 d11_51 rfl rfl ?_
  refine og_ifN X10 55 d11_52 (XT.i0_ge_f (by decide)) rfl ?_
  refine og_aloadN X10 56 d11_55 rfl rfl rfl ?_
  have f11 := f2.keep K10 nin0
  refine own_get X10 59 d11_56 (host := "") (Or.inl (ow hw 36 rfl)) Via.refl f11 rfl ?_
  intro T12 X13
  have f14 := f9.keep K10 all0
  refine own_strLen X13 62 d11_59 f14 (own_wL hw) (ow hw 5 rfl) hWd.2.1.1 hWd.2.1.2 (ow hw 45 rfl) (ow hw 46 rfl) (ow hw 48 rfl) (ow hw 47 rfl) rfl (W := 0) rfl (by decide) (by decide) (by decide) (by decide) rfl ?_
  intro T15 X16
  show OGo _ _ _ _ T15 (mkF m 62 #[.val (.ref a), .val (.int (-1 : Int32))] [(.int 1)])
  refine og_goto X16 66 d11_62 (by decide) (by decide) ?_
  refine own_retI X16 d11_66 hret (by decide) (by decide) ?_
  exact rfl
theorem rf_sub101 (a0 : Array Value) (hw : OHw a0 Z) (hWd : OWorld Z a0) (O0 : Old Z n0 h0) (a : Addr) (x0 : Int32) (q0 : OStr Z h0 a [x0] h0.size) (q1 : ∀ c ∈ [x0], ¬ c < 0 ∧ ¬ (255 : Int32) < c) :
    OMet l Z own_EL n0 yN15 (Jvm.Cond.code yN15 jdk_42_method_92_code 5 (some (.object "java/lang/String")) :: wc) ({ frames := 2, cells := 0, slots := 0, locals := 29 } : Room) #[(.ref a), (.int 0), (.int 1)] h0 [] (fun vq hq => ∃ (r : Addr), vq = some (.ref r)) := by
  refine own_enter #[.val (.ref a), .val (.int 0), .val (.int 1), .unset, .unset] pn_java_lang_String_substring__II_Ljava_lang_String_ (fun _ => rfl) hWd.1 O0 all0 ?_
  intro p e s m below meth c T0 X0 hnm hret
  obtain ⟨t, kt, NN, vv, eE, eC, eV, eA, cod, bd, l4⟩ := q0.latin (fun c hc => (q1 c hc).2)
  obtain ⟨-, rfl, rfl, -⟩ := cod.resolve_right fun q => absurd q.1 (by decide)
  have eA2 : Arv Z h0 t kt .byte (1 : Int32) [(.int (StrChars.lo8 x0))] (.int 0) := eA
  refine og_aloadN X0 1 d18_0 rfl rfl rfl ?_
  refine own_strLen X0 4 d18_1 q0 (own_wL hw) (ow hw 5 rfl) hWd.2.1.1 hWd.2.1.2 (ow hw 76 rfl) (ow hw 46 rfl) (ow hw 48 rfl) (ow hw 47 rfl) rfl (W := 0) rfl (by decide) (by decide) (by decide) (by decide) rfl ?_
  intro T1 X2
  show OGo _ _ _ _ T1 (mkF m 4 #[.val (.ref a), .val (.int 0), .val (.int 1), .unset, .unset] [(.int 1)])
  refine og_istoreN X2 5 #[.val (.ref a), .val (.int 0), .val (.int 1), .val (.int 1), .unset] d18_4 rfl rfl ?_
  refine og_iloadN X2 6 d18_5 rfl rfl ?_
  refine og_iloadN X2 7 d18_6 rfl rfl ?_
  refine og_iloadN X2 8 d18_7 rfl rfl ?_
  refine own_stat X2 11 (argsL := [(.int 0), (.int 1), (.int 1)]) (rest := []) d18_8 (rm19 l Z n0 h0 [] a0 hw hWd X2.old (0 : Int32) (1 : Int32) (1 : Int32) (by decide) (by decide) (by decide) ) (ow hw 96 rfl) (ow hw 97 rfl) (ow hw 6 rfl) (ow hw 98 rfl) (by decide) (lenOf pd__28III_29V rfl) rfl rfl rfl (W := 0) rfl (by decide) (by decide) (by decide) (by decide) all0 rfl ?_
  intro T3 h3 v3 X3 K3 hQ3
  obtain rfl := hQ3
  show OGo _ _ _ _ T3 (mkF m 11 #[.val (.ref a), .val (.int 0), .val (.int 1), .val (.int 1), .unset] [])
  refine og_iloadN X3 12 d18_11 rfl rfl ?_
  refine og_ifN X3 15 d18_12 (XT.i0_ne_f (by decide)) rfl ?_
  refine og_iloadN X3 16 d18_15 rfl rfl ?_
  refine og_iloadN X3 17 d18_16 rfl rfl ?_
  refine og_icmpN X3 20 d18_17 (XT.ii_ne_f (by decide)) rfl ?_
  refine og_aloadN X3 21 d18_20 rfl rfl rfl ?_
  refine own_retA X3 d18_21 hret rfl rfl (by decide) (by decide) ?_
  exact ⟨a, rfl⟩
theorem rf_txt101 (a0 : Array Value) (hw : OHw a0 Z) (hWd : OWorld Z a0) (O0 : Old Z n0 h0) (a : Addr) (u : Addr) (x0 : Int32) (q0 : Exa Z h0 a "com/example/ratable/ratable/core/JournalSums$Fields") (q1 : Fld Z h0 a "com/example/ratable/ratable/core/JournalSums$Fields" "line" "Ljava/lang/String;" (.ref u)) (q2 : Fld Z h0 a "com/example/ratable/ratable/core/JournalSums$Fields" "next" "I" (.int 0)) (q3 : OStr Z h0 u [x0] h0.size) (q4 : ∀ c ∈ [x0], ¬ c < 0 ∧ ¬ (255 : Int32) < c) (q5 : ¬ x0 = (9 : Int32)) (g0 : n0 ≤ a ∧ a < h0.size) :
    OMet l Z own_EL n0 yN16 (Jvm.Cond.code yN16 prog_51_method_3_code 3 (some (.object "java/lang/String")) :: wc) ({ frames := 4, cells := 0, slots := 0, locals := 59 } : Room) #[(.ref a)] h0 [a] (fun vq hq => ∃ (r : Addr), vq = some (.ref r) ∧ Fld Z hq a "com/example/ratable/ratable/core/JournalSums$Fields" "line" "Ljava/lang/String;" (.ref u) ∧ Fld Z hq a "com/example/ratable/ratable/core/JournalSums$Fields" "next" "I" (.int 2)) := by
  refine own_enter #[.val (.ref a), .unset, .unset] pn_com_example_ratable_ratable_core_JournalSums_Fields_text___Ljava_lang_String_ (fun _ => rfl) hWd.1 O0 (allS g0 all0) ?_
  intro p e s m below meth c T0 X0 hnm hret
  refine og_aloadN X0 1 d10_0 rfl rfl rfl ?_
  refine own_priv X0 4 (a := a) (argsL := []) (rest := []) d10_1 q0 (rf_end101 l Z n0 h0 [] a0 hw hWd X0.old a u x0 q0 q1 q2 q3.top q4 q5 ) (ow hw 61 rfl) (ow hw 62 rfl) (own_selfsel2 (ow hw 41 rfl) rfl (ow hw 62 rfl) (ow hw 63 rfl) (by decide)) (ow hw 63 rfl) (ow hw 31 rfl) (ow hw 64 rfl) (by decide) (lenOf pd__28_29I rfl) rfl rfl rfl (W := 0) rfl (by decide) (by decide) (by decide) (by decide) all0 rfl ?_
  intro T1 h1 v1 X1 K1 hQ1
  obtain rfl := hQ1
  show OGo _ _ _ _ T1 (mkF m 4 #[.val (.ref a), .unset, .unset] [(.int 1)])
  refine og_istoreN X1 5 #[.val (.ref a), .val (.int 1), .unset] d10_4 rfl rfl ?_
  refine og_aloadN X1 6 d10_5 rfl rfl rfl ?_
  have f2 := q1.keep K1 nin0
  refine own_get X1 9 d10_6 (host := "") (Or.inl (ow hw 36 rfl)) Via.refl f2 rfl ?_
  intro T3 X4
  refine og_aloadN X4 10 d10_9 rfl rfl rfl ?_
  have f5 := q2.keep K1 nin0
  refine own_get X4 13 d10_10 (host := "") (Or.inl (ow hw 43 rfl)) Via.refl f5 rfl ?_
  intro T6 X7
  refine og_iloadN X7 14 d10_13 rfl rfl ?_
  have f8 := q3.exa.keep K1
  have f9 := q3.keep K1 all0
  refine own_virt X7 17 (a := u) (argsL := [(.int 0), (.int 1)]) (rest := []) d10_14 f8 (fun _ hZ => notFace_of_selects (args := #[]) (mvT hZ (ow hw 94 rfl))) (rf_sub101 l Z n0 h1 [] a0 hw hWd X7.old u x0 f9.top q4 ) (ow hw 91 rfl) (ow hw 92 rfl) (ow hw 94 rfl) (ow hw 93 rfl) (ow hw 6 rfl) (ow hw 95 rfl) (by decide) (lenOf pd__28II_29Ljava_2flang_2fString_3b rfl) rfl rfl rfl (W := 0) rfl (by decide) (by decide) (by decide) (by decide) all0 rfl ?_
  intro T10 h10 v10 X10 K10 hQ10
  obtain ⟨r10, rfl⟩ := hQ10
  show OGo _ _ _ _ T10 (mkF m 17 #[.val (.ref a), .val (.int 1), .unset] [(.ref r10)])
  refine og_astoreN X10 18 #[.val (.ref a), .val (.int 1), .val (.ref r10)] d10_17 rfl rfl rfl ?_
  refine og_aloadN X10 19 d10_18 rfl rfl rfl ?_
  refine og_iloadN X10 20 d10_19 rfl rfl ?_
  refine og_iconst X10 21 (1 : Int32) d10_20 rfl rfl ?_
  refine og_iadd X10 22 d10_21 rfl ?_
  show OGo _ _ _ _ T10 (mkF m 22 #[.val (.ref a), .val (.int 1), .val (.ref r10)] [(.int 2), (.ref a)])
  have f11 := f5.keep K10 nin0
  have f12 := q0.keep K1
  have f13 := f12.keep K10
  have f14 := f2.keep K10 nin0
  refine own_put X10 25 d10_22 (host := "") (Or.inl (ow hw 43 rfl)) Via.refl f11 f13 (Or.inl (ow hw 44 rfl)) (ow hw 30 rfl) (ty := .int) (by decide) rfl rfl (om 0 rfl) rfl ?_
  intro T15 h15 X15 W15 K15 F15
  have f16 := Fld.other W15 f14 (Or.inr (slot_ne (Or.inr (ow hw 37 rfl)) (Or.inl (ow hw 44 rfl)) (by decide) (t := (.object "java/lang/String")) (t' := .int) (by decide) (by decide)))
  refine og_aloadN X15 26 d10_25 rfl rfl rfl ?_
  refine own_retA X15 d10_26 hret rfl rfl (by decide) (by decide) ?_
  exact ⟨r10, rfl, f16, F15⟩
theorem rf_iol11 (a0 : Array Value) (hw : OHw a0 Z) (hWd : OWorld Z a0) (O0 : Old Z n0 h0) (b : Addr) (kb : ClassId) (x0 : Int32) (q0 : Arv Z h0 b kb .byte (1 : Int32) [(.int (StrChars.lo8 x0))] (.int 0)) (q1 : ∀ c ∈ [x0], ¬ c < 0 ∧ ¬ (255 : Int32) < c) :
    OMet l Z own_EL n0 yN12 (Jvm.Cond.code yN12 jdk_43_method_22_code 4 (some .int) :: wc) ({ frames := 1, cells := 0, slots := 0, locals := 13 } : Room) #[(.ref b), (.int 9), (.int 1), (.int 1)] h0 [] (fun vq hq => vq = some (.int (-1 : Int32))) := by
  refine own_enter #[.val (.ref b), .val (.int 9), .val (.int 1), .val (.int 1)] pn_java_lang_StringLatin1_indexOf___BIII_I (fun _ => rfl) hWd.1 O0 all0 ?_
  intro p e s m below meth c T0 X0 hnm hret
  refine og_iloadN X0 1 d14_0 rfl rfl ?_
  refine own_stat X0 4 (argsL := [(.int 9)]) (rest := []) d14_1 (rm15 l Z n0 h0 [] a0 hw hWd X0.old   ) (ow hw 81 rfl) (ow hw 82 rfl) (ow hw 79 rfl) (ow hw 83 rfl) (by decide) (lenOf pd__28I_29Z rfl) rfl rfl rfl (W := 0) rfl (by decide) (by decide) (by decide) (by decide) all0 rfl ?_
  intro T1 h1 v1 X1 K1 hQ1
  obtain rfl := hQ1
  show OGo _ _ _ _ T1 (mkF m 4 #[.val (.ref b), .val (.int 9), .val (.int 1), .val (.int 1)] [(.int 1)])
  refine og_ifY X1 9 d14_4 (XT.i0_ne_t (by decide)) (by decide) (by decide) ?_
  refine og_iloadN X1 10 d14_9 rfl rfl ?_
  refine og_iconst X1 11 (0 : Int32) d14_10 rfl rfl ?_
  refine own_stat X1 14 (argsL := [(.int 1), (.int 0)]) (rest := []) d14_11 (rm16 l Z n0 h1 [] a0 hw hWd X1.old (1 : Int32) (0 : Int32) (by decide) ) (ow hw 84 rfl) (ow hw 85 rfl) (ow hw 86 rfl) (ow hw 87 rfl) (by decide) (lenOf pd__28II_29I rfl) rfl rfl rfl (W := 0) rfl (by decide) (by decide) (by decide) (by decide) all0 rfl ?_
  intro T2 h2 v2 X2 K2 hQ2
  obtain rfl := hQ2
  show OGo _ _ _ _ T2 (mkF m 14 #[.val (.ref b), .val (.int 9), .val (.int 1), .val (.int 1)] [(.int 1)])
  refine og_istoreN X2 15 #[.val (.ref b), .val (.int 9), .val (.int 1), .val (.int 1)] d14_14 rfl rfl ?_
  refine og_iloadN X2 16 d14_15 rfl rfl ?_
  refine og_aloadN X2 17 d14_16 rfl rfl rfl ?_
  have f3 := q0.keep K1 nin0
  have f4 := f3.keep K2 nin0
  refine own_len X2 18 d14_17 f4 rfl ?_
  refine own_stat X2 21 (argsL := [(.int 1), (.int 1)]) (rest := []) d14_18 (rm_min0 l Z n0 h2 [] a0 hw hWd X2.old (1 : Int32) (1 : Int32) (by decide) ) (ow hw 88 rfl) (ow hw 89 rfl) (ow hw 86 rfl) (ow hw 90 rfl) (by decide) (lenOf pd__28II_29I rfl) rfl rfl rfl (W := 0) rfl (by decide) (by decide) (by decide) (by decide) all0 rfl ?_
  intro T5 h5 v5 X5 K5 hQ5
  obtain rfl := hQ5
  show OGo _ _ _ _ T5 (mkF m 21 #[.val (.ref b), .val (.int 9), .val (.int 1), .val (.int 1)] [(.int 1)])
  refine og_istoreN X5 22 #[.val (.ref b), .val (.int 9), .val (.int 1), .val (.int 1)] d14_21 rfl rfl ?_
  refine og_iloadN X5 23 d14_22 rfl rfl ?_
  refine og_iloadN X5 24 d14_23 rfl rfl ?_
  refine og_icmpN X5 27 d14_24 (XT.ii_lt_f (by decide)) rfl ?_
  refine og_iconst X5 28 (-1 : Int32) d14_27 rfl rfl ?_
  refine own_retI X5 d14_28 hret (by decide) (by decide) ?_
  exact rfl
theorem rf_ios11 (a0 : Array Value) (hw : OHw a0 Z) (hWd : OWorld Z a0) (O0 : Old Z n0 h0) (a : Addr) (x0 : Int32) (q0 : OStr Z h0 a [x0] h0.size) (q1 : ∀ c ∈ [x0], ¬ c < 0 ∧ ¬ (255 : Int32) < c) :
    OMet l Z own_EL n0 yN13 (Jvm.Cond.code yN13 jdk_42_method_80_code 3 (some .int) :: wc) ({ frames := 2, cells := 0, slots := 0, locals := 28 } : Room) #[(.ref a), (.int 9), (.int 1)] h0 [] (fun vq hq => vq = some (.int (-1 : Int32))) := by
  refine own_enter #[.val (.ref a), .val (.int 9), .val (.int 1)] pn_java_lang_String_indexOf__II_I (fun _ => rfl) hWd.1 O0 all0 ?_
  intro p e s m below meth c T0 X0 hnm hret
  obtain ⟨t, kt, NN, vv, eE, eC, eV, eA, cod, bd, l4⟩ := q0.latin (fun c hc => (q1 c hc).2)
  obtain ⟨-, rfl, rfl, -⟩ := cod.resolve_right fun q => absurd q.1 (by decide)
  have eA2 : Arv Z h0 t kt .byte (1 : Int32) [(.int (StrChars.lo8 x0))] (.int 0) := eA
  refine og_aloadN X0 1 d12_0 rfl rfl rfl ?_
  refine own_virt X0 4 (a := a) (argsL := []) (rest := []) d12_1 eE (fun _ hZ => notFace_of_selects (args := #[]) (mvT hZ (ow hw 74 rfl))) (rm13 l Z n0 h0 [] a0 hw hWd X0.old a eC ) (ow hw 71 rfl) (ow hw 72 rfl) (ow hw 74 rfl) (ow hw 73 rfl) (ow hw 6 rfl) (ow hw 75 rfl) (by decide) (lenOf pd__28_29Z rfl) rfl rfl rfl (W := 0) rfl (by decide) (by decide) (by decide) (by decide) all0 rfl ?_
  intro T1 h1 v1 X1 K1 hQ1
  obtain rfl := hQ1
  show OGo _ _ _ _ T1 (mkF m 4 #[.val (.ref a), .val (.int 9), .val (.int 1)] [(.int 1)])
  refine og_ifN X1 7 d12_4 (XT.i0_eq_f (by decide)) rfl ?_
  refine og_aloadN X1 8 d12_7 rfl rfl rfl ?_
  have f2 := eV.keep K1 nin0
  refine own_get X1 11 d12_8 (host := "") (Or.inl (ow hw 24 rfl)) Via.refl f2 rfl ?_
  intro T3 X4
  refine og_iloadN X4 12 d12_11 rfl rfl ?_
  refine og_iloadN X4 13 d12_12 rfl rfl ?_
  refine og_aloadN X4 14 d12_13 rfl rfl rfl ?_
  have f5 := q0.keep K1 all0
  refine own_strLen X4 17 d12_14 f5 (own_wL hw) (ow hw 5 rfl) hWd.2.1.1 hWd.2.1.2 (ow hw 76 rfl) (ow hw 46 rfl) (ow hw 48 rfl) (ow hw 47 rfl) rfl (W := 3) rfl (by decide) (by decide) (by decide) (by decide) rfl ?_
  intro T6 X7
  show OGo _ _ _ _ T6 (mkF m 17 #[.val (.ref a), .val (.int 9), .val (.int 1)] [(.int 1), (.int 1), (.int 9), (.ref t)])
  have f8 := eA2.keep K1 nin0
  refine own_stat X7 20 (argsL := [(.ref t), (.int 9), (.int 1), (.int 1)]) (rest := []) d12_17 (rf_iol11 l Z n0 h1 [] a0 hw hWd X7.old t kt x0 f8 q1 ) (ow hw 77 rfl) (ow hw 78 rfl) (ow hw 79 rfl) (ow hw 80 rfl) (by decide) (lenOf pd__28_5bBIII_29I rfl) rfl rfl rfl (W := 0) rfl (by decide) (by decide) (by decide) (by decide) all0 rfl ?_
  intro T9 h9 v9 X9 K9 hQ9
  obtain rfl := hQ9
  show OGo _ _ _ _ T9 (mkF m 20 #[.val (.ref a), .val (.int 9), .val (.int 1)] [(.int (-1 : Int32))])
  refine og_goto X9 36 d12_20 (by decide) (by decide) ?_
  refine own_retI X9 d12_36 hret (by decide) (by decide) ?_
  exact rfl
theorem rf_end111 (a0 : Array Value) (hw : OHw a0 Z) (hWd : OWorld Z a0) (O0 : Old Z n0 h0) (a : Addr) (u : Addr) (x0 : Int32) (q0 : Exa Z h0 a "com/example/ratable/ratable/core/JournalSums$Fields") (q1 : Fld Z h0 a "com/example/ratable/ratable/core/JournalSums$Fields" "line" "Ljava/lang/String;" (.ref u)) (q2 : Fld Z h0 a "com/example/ratable/ratable/core/JournalSums$Fields" "next" "I" (.int 1)) (q3 : OStr Z h0 u [x0] h0.size) (q4 : ∀ c ∈ [x0], ¬ c < 0 ∧ ¬ (255 : Int32) < c) :
    OMet l Z own_EL n0 yN14 (Jvm.Cond.code yN14 prog_51_method_8_code 2 (some .int) :: wc) ({ frames := 3, cells := 0, slots := 0, locals := 42 } : Room) #[(.ref a)] h0 [] (fun vq hq => vq = some (.int 1)) := by
  refine own_enter #[.val (.ref a), .unset] pn_com_example_ratable_ratable_core_JournalSums_Fields_end___I (fun _ => rfl) hWd.1 O0 all0 ?_
  intro p e s m below meth c T0 X0 hnm hret
  refine og_aloadN X0 1 d11_0 rfl rfl rfl ?_
  refine own_virt X0 4 (a := a) (argsL := []) (rest := []) d11_1 q0 (fun _ hZ => notFace_of_selects (args := #[]) (mvT hZ (ow hw 41 rfl))) (rm_more1 l Z n0 h0 [] a0 hw hWd X0.old a u [x0] (1 : Int32) q1 q2 q3.top (show ¬ (1 : Int32) < (1 : Int32) by decide) ) (ow hw 65 rfl) (ow hw 39 rfl) (ow hw 41 rfl) (ow hw 40 rfl) (ow hw 31 rfl) (ow hw 42 rfl) (by decide) (lenOf pd__28_29Z rfl) rfl rfl rfl (W := 0) rfl (by decide) (by decide) (by decide) (by decide) all0 rfl ?_
  intro T1 h1 v1 X1 K1 hQ1
  obtain rfl := hQ1
  show OGo _ _ _ _ T1 (mkF m 4 #[.val (.ref a), .unset] [(.int 1)])
  refine og_ifY X1 37 d11_4 (XT.i0_ne_t (by decide)) (by decide) (by decide) ?_
  refine og_aloadN X1 38 d11_37 rfl rfl rfl ?_
  have f2 := q1.keep K1 nin0
  refine own_get X1 41 d11_38 (host := "") (Or.inl (ow hw 36 rfl)) Via.refl f2 rfl ?_
  intro T3 X4
  refine og_bipush X4 43 (9 : Int32) d11_41 rfl rfl ?_
  refine og_aloadN X4 44 d11_43 rfl rfl rfl ?_
  have f5 := q2.keep K1 nin0
  refine own_get X4 47 d11_44 (host := "") (Or.inl (ow hw 43 rfl)) Via.refl f5 rfl ?_
  intro T6 X7
  have f8 := q3.exa.keep K1
  have f9 := q3.keep K1 all0
  refine own_virt X7 50 (a := u) (argsL := [(.int 9), (.int 1)]) (rest := []) d11_47 f8 (fun _ hZ => notFace_of_selects (args := #[]) (mvT hZ (ow hw 69 rfl))) (rf_ios11 l Z n0 h1 [] a0 hw hWd X7.old u x0 f9.top q4 ) (ow hw 66 rfl) (ow hw 67 rfl) (ow hw 69 rfl) (ow hw 68 rfl) (ow hw 6 rfl) (ow hw 70 rfl) (by decide) (lenOf pd__28II_29I rfl) rfl rfl rfl (W := 0) rfl (by decide) (by decide) (by decide) (by decide) all0 rfl ?_
  intro T10 h10 v10 X10 K10 hQ10
  obtain rfl := hQ10
  show OGo _ _ _ _ T10 (mkF m 50 #[.val (.ref a), .unset] [(.int (-1 : Int32))])
  refine og_istoreN X10 51 #[.val (.ref a), .val (.int (-1 : Int32))] d11_50 rfl rfl ?_
  refine og_iloadN X10 52 d11_51 rfl rfl ?_
  refine og_ifN X10 55 d11_52 (XT.i0_ge_f (by decide)) rfl ?_
  refine og_aloadN X10 56 d11_55 rfl rfl rfl ?_
  have f11 := f2.keep K10 nin0
  refine own_get X10 59 d11_56 (host := "") (Or.inl (ow hw 36 rfl)) Via.refl f11 rfl ?_
  intro T12 X13
  have f14 := f9.keep K10 all0
  refine own_strLen X13 62 d11_59 f14 (own_wL hw) (ow hw 5 rfl) hWd.2.1.1 hWd.2.1.2 (ow hw 45 rfl) (ow hw 46 rfl) (ow hw 48 rfl) (ow hw 47 rfl) rfl (W := 0) rfl (by decide) (by decide) (by decide) (by decide) rfl ?_
  intro T15 X16
  show OGo _ _ _ _ T15 (mkF m 62 #[.val (.ref a), .val (.int (-1 : Int32))] [(.int 1)])
  refine og_goto X16 66 d11_62 (by decide) (by decide) ?_
  refine own_retI X16 d11_66 hret (by decide) (by decide) ?_
  exact rfl
theorem rf_ns111 (a0 : Array Value) (hw : OHw a0 Z) (hWd : OWorld Z a0) (O0 : Old Z n0 h0) (b : Addr) (kb : ClassId) (e0 : Value) (q0 : Arv Z h0 b kb .byte (1 : Int32) [e0] (.int 0)) :
    OMet l Z own_EL n0 yN18 (Jvm.Cond.code yN18 jdk_43_method_47_code 3 (some (.object "java/lang/String")) :: wc) ({ frames := 0, cells := 2, slots := 4, locals := 0 } : Room) #[(.ref b), (.int 1), (.int 0)] h0 [] (fun vq hq => ∃ (r : Addr), vq = some (.ref r)) := by
  refine own_enter #[.val (.ref b), .val (.int 1), .val (.int 0)] pn_java_lang_StringLatin1_newString___BII_Ljava_lang_String_ (fun _ => rfl) hWd.1 O0 all0 ?_
  intro p e s m below meth c T0 X0 hnm hret
  refine og_iloadN X0 1 d25_0 rfl rfl ?_
  refine og_ifN X0 4 d25_1 (XT.i0_ne_f (by decide)) rfl ?_
  refine own_ldcO X0 6 (cap := 0) d25_4 own_ELne (ow hw 120 rfl) (own_wS hw) (by decide) (by decide) (by decide) (by decide) rfl ?_
  intro T1 h1 a1 X1 K1
  refine own_retA X1 d25_6 hret rfl rfl (by decide) (by decide) ?_
  exact ⟨a1, rfl⟩
theorem rf_sub111 (a0 : Array Value) (hw : OHw a0 Z) (hWd : OWorld Z a0) (O0 : Old Z n0 h0) (a : Addr) (x0 : Int32) (q0 : OStr Z h0 a [x0] h0.size) (q1 : ∀ c ∈ [x0], ¬ c < 0 ∧ ¬ (255 : Int32) < c) :
    OMet l Z own_EL n0 yN15 (Jvm.Cond.code yN15 jdk_42_method_92_code 5 (some (.object "java/lang/String")) :: wc) ({ frames := 2, cells := 2, slots := 4, locals := 29 } : Room) #[(.ref a), (.int 1), (.int 1)] h0 [] (fun vq hq => ∃ (r : Addr), vq = some (.ref r)) := by
  refine own_enter #[.val (.ref a), .val (.int 1), .val (.int 1), .unset, .unset] pn_java_lang_String_substring__II_Ljava_lang_String_ (fun _ => rfl) hWd.1 O0 all0 ?_
  intro p e s m below meth c T0 X0 hnm hret
  obtain ⟨t, kt, NN, vv, eE, eC, eV, eA, cod, bd, l4⟩ := q0.latin (fun c hc => (q1 c hc).2)
  obtain ⟨-, rfl, rfl, -⟩ := cod.resolve_right fun q => absurd q.1 (by decide)
  have eA2 : Arv Z h0 t kt .byte (1 : Int32) [(.int (StrChars.lo8 x0))] (.int 0) := eA
  refine og_aloadN X0 1 d18_0 rfl rfl rfl ?_
  refine own_strLen X0 4 d18_1 q0 (own_wL hw) (ow hw 5 rfl) hWd.2.1.1 hWd.2.1.2 (ow hw 76 rfl) (ow hw 46 rfl) (ow hw 48 rfl) (ow hw 47 rfl) rfl (W := 0) rfl (by decide) (by decide) (by decide) (by decide) rfl ?_
  intro T1 X2
  show OGo _ _ _ _ T1 (mkF m 4 #[.val (.ref a), .val (.int 1), .val (.int 1), .unset, .unset] [(.int 1)])
  refine og_istoreN X2 5 #[.val (.ref a), .val (.int 1), .val (.int 1), .val (.int 1), .unset] d18_4 rfl rfl ?_
  refine og_iloadN X2 6 d18_5 rfl rfl ?_
  refine og_iloadN X2 7 d18_6 rfl rfl ?_
  refine og_iloadN X2 8 d18_7 rfl rfl ?_
  refine own_stat X2 11 (argsL := [(.int 1), (.int 1), (.int 1)]) (rest := []) d18_8 (rm19 l Z n0 h0 [] a0 hw hWd X2.old (1 : Int32) (1 : Int32) (1 : Int32) (by decide) (by decide) (by decide) ) (ow hw 96 rfl) (ow hw 97 rfl) (ow hw 6 rfl) (ow hw 98 rfl) (by decide) (lenOf pd__28III_29V rfl) rfl rfl rfl (W := 0) rfl (by decide) (by decide) (by decide) (by decide) all0 rfl ?_
  intro T3 h3 v3 X3 K3 hQ3
  obtain rfl := hQ3
  show OGo _ _ _ _ T3 (mkF m 11 #[.val (.ref a), .val (.int 1), .val (.int 1), .val (.int 1), .unset] [])
  refine og_iloadN X3 12 d18_11 rfl rfl ?_
  refine og_ifY X3 22 d18_12 (XT.i0_ne_t (by decide)) (by decide) (by decide) ?_
  refine og_iloadN X3 23 d18_22 rfl rfl ?_
  refine og_iloadN X3 24 d18_23 rfl rfl ?_
  refine og_isub X3 25 d18_24 rfl ?_
  show OGo _ _ _ _ T3 (mkF m 25 #[.val (.ref a), .val (.int 1), .val (.int 1), .val (.int 1), .unset] [(.int 0)])
  refine og_istore X3 27 #[.val (.ref a), .val (.int 1), .val (.int 1), .val (.int 1), .val (.int 0)] d18_25 rfl rfl ?_
  refine og_aloadN X3 28 d18_27 rfl rfl rfl ?_
  have f4 := eE.keep K3
  have f5 := eC.keep K3 nin0
  refine own_virt X3 31 (a := a) (argsL := []) (rest := []) d18_28 f4 (fun _ hZ => notFace_of_selects (args := #[]) (mvT hZ (ow hw 74 rfl))) (rm13 l Z n0 h3 [] a0 hw hWd X3.old a f5 ) (ow hw 71 rfl) (ow hw 72 rfl) (ow hw 74 rfl) (ow hw 73 rfl) (ow hw 6 rfl) (ow hw 75 rfl) (by decide) (lenOf pd__28_29Z rfl) rfl rfl rfl (W := 0) rfl (by decide) (by decide) (by decide) (by decide) all0 rfl ?_
  intro T6 h6 v6 X6 K6 hQ6
  obtain rfl := hQ6
  show OGo _ _ _ _ T6 (mkF m 31 #[.val (.ref a), .val (.int 1), .val (.int 1), .val (.int 1), .val (.int 0)] [(.int 1)])
  refine og_ifN X6 34 d18_31 (XT.i0_eq_f (by decide)) rfl ?_
  refine og_aloadN X6 35 d18_34 rfl rfl rfl ?_
  have f7 := eV.keep K3 nin0
  have f8 := f7.keep K6 nin0
  refine own_get X6 38 d18_35 (host := "") (Or.inl (ow hw 24 rfl)) Via.refl f8 rfl ?_
  intro T9 X10
  refine og_iloadN X10 39 d18_38 rfl rfl ?_
  refine og_iload X10 41 d18_39 rfl rfl ?_
  have f11 := eA2.keep K3 nin0
  have f12 := f11.keep K6 nin0
  refine own_stat X10 44 (argsL := [(.ref t), (.int 1), (.int 0)]) (rest := []) d18_41 (rf_ns111 l Z n0 h6 [] a0 hw hWd X10.old t kt (.int (StrChars.lo8 x0)) f12 ) (ow hw 117 rfl) (ow hw 118 rfl) (ow hw 79 rfl) (ow hw 119 rfl) (by decide) (lenOf pd__28_5bBII_29Ljava_2flang_2fString_3b rfl) rfl rfl rfl (W := 0) rfl (by decide) (by decide) (by decide) (by decide) all0 rfl ?_
  intro T13 h13 v13 X13 K13 hQ13
  obtain ⟨r13, rfl⟩ := hQ13
  show OGo _ _ _ _ T13 (mkF m 44 #[.val (.ref a), .val (.int 1), .val (.int 1), .val (.int 1), .val (.int 0)] [(.ref r13)])
  refine og_goto X13 57 d18_44 (by decide) (by decide) ?_
  refine own_retA X13 d18_57 hret rfl rfl (by decide) (by decide) ?_
  exact ⟨r13, rfl⟩
theorem rf_txt111 (a0 : Array Value) (hw : OHw a0 Z) (hWd : OWorld Z a0) (O0 : Old Z n0 h0) (a : Addr) (u : Addr) (x0 : Int32) (q0 : Exa Z h0 a "com/example/ratable/ratable/core/JournalSums$Fields") (q1 : Fld Z h0 a "com/example/ratable/ratable/core/JournalSums$Fields" "line" "Ljava/lang/String;" (.ref u)) (q2 : Fld Z h0 a "com/example/ratable/ratable/core/JournalSums$Fields" "next" "I" (.int 1)) (q3 : OStr Z h0 u [x0] h0.size) (q4 : ∀ c ∈ [x0], ¬ c < 0 ∧ ¬ (255 : Int32) < c) (g0 : n0 ≤ a ∧ a < h0.size) :
    OMet l Z own_EL n0 yN16 (Jvm.Cond.code yN16 prog_51_method_3_code 3 (some (.object "java/lang/String")) :: wc) ({ frames := 4, cells := 2, slots := 4, locals := 55 } : Room) #[(.ref a)] h0 [a] (fun vq hq => ∃ (r : Addr), vq = some (.ref r) ∧ Fld Z hq a "com/example/ratable/ratable/core/JournalSums$Fields" "line" "Ljava/lang/String;" (.ref u) ∧ Fld Z hq a "com/example/ratable/ratable/core/JournalSums$Fields" "next" "I" (.int 2)) := by
  refine own_enter #[.val (.ref a), .unset, .unset] pn_com_example_ratable_ratable_core_JournalSums_Fields_text___Ljava_lang_String_ (fun _ => rfl) hWd.1 O0 (allS g0 all0) ?_
  intro p e s m below meth c T0 X0 hnm hret
  refine og_aloadN X0 1 d10_0 rfl rfl rfl ?_
  refine own_priv X0 4 (a := a) (argsL := []) (rest := []) d10_1 q0 (rf_end111 l Z n0 h0 [] a0 hw hWd X0.old a u x0 q0 q1 q2 q3.top q4 ) (ow hw 61 rfl) (ow hw 62 rfl) (own_selfsel2 (ow hw 41 rfl) rfl (ow hw 62 rfl) (ow hw 63 rfl) (by decide)) (ow hw 63 rfl) (ow hw 31 rfl) (ow hw 64 rfl) (by decide) (lenOf pd__28_29I rfl) rfl rfl rfl (W := 0) rfl (by decide) (by decide) (by decide) (by decide) all0 rfl ?_
  intro T1 h1 v1 X1 K1 hQ1
  obtain rfl := hQ1
  show OGo _ _ _ _ T1 (mkF m 4 #[.val (.ref a), .unset, .unset] [(.int 1)])
  refine og_istoreN X1 5 #[.val (.ref a), .val (.int 1), .unset] d10_4 rfl rfl ?_
  refine og_aloadN X1 6 d10_5 rfl rfl rfl ?_
  have f2 := q1.keep K1 nin0
  refine own_get X1 9 d10_6 (host := "") (Or.inl (ow hw 36 rfl)) Via.refl f2 rfl ?_
  intro T3 X4
  refine og_aloadN X4 10 d10_9 rfl rfl rfl ?_
  have f5 := q2.keep K1 nin0
  refine own_get X4 13 d10_10 (host := "") (Or.inl (ow hw 43 rfl)) Via.refl f5 rfl ?_
  intro T6 X7
  refine og_iloadN X7 14 d10_13 rfl rfl ?_
  have f8 := q3.exa.keep K1
  have f9 := q3.keep K1 all0
  refine own_virt X7 17 (a := u) (argsL := [(.int 1), (.int 1)]) (rest := []) d10_14 f8 (fun _ hZ => notFace_of_selects (args := #[]) (mvT hZ (ow hw 94 rfl))) (rf_sub111 l Z n0 h1 [] a0 hw hWd X7.old u x0 f9.top q4 ) (ow hw 91 rfl) (ow hw 92 rfl) (ow hw 94 rfl) (ow hw 93 rfl) (ow hw 6 rfl) (ow hw 95 rfl) (by decide) (lenOf pd__28II_29Ljava_2flang_2fString_3b rfl) rfl rfl rfl (W := 0) rfl (by decide) (by decide) (by decide) (by decide) all0 rfl ?_
  intro T10 h10 v10 X10 K10 hQ10
  obtain ⟨r10, rfl⟩ := hQ10
  show OGo _ _ _ _ T10 (mkF m 17 #[.val (.ref a), .val (.int 1), .unset] [(.ref r10)])
  refine og_astoreN X10 18 #[.val (.ref a), .val (.int 1), .val (.ref r10)] d10_17 rfl rfl rfl ?_
  refine og_aloadN X10 19 d10_18 rfl rfl rfl ?_
  refine og_iloadN X10 20 d10_19 rfl rfl ?_
  refine og_iconst X10 21 (1 : Int32) d10_20 rfl rfl ?_
  refine og_iadd X10 22 d10_21 rfl ?_
  show OGo _ _ _ _ T10 (mkF m 22 #[.val (.ref a), .val (.int 1), .val (.ref r10)] [(.int 2), (.ref a)])
  have f11 := f5.keep K10 nin0
  have f12 := q0.keep K1
  have f13 := f12.keep K10
  have f14 := f2.keep K10 nin0
  refine own_put X10 25 d10_22 (host := "") (Or.inl (ow hw 43 rfl)) Via.refl f11 f13 (Or.inl (ow hw 44 rfl)) (ow hw 30 rfl) (ty := .int) (by decide) rfl rfl (om 0 rfl) rfl ?_
  intro T15 h15 X15 W15 K15 F15
  have f16 := Fld.other W15 f14 (Or.inr (slot_ne (Or.inr (ow hw 37 rfl)) (Or.inl (ow hw 44 rfl)) (by decide) (t := (.object "java/lang/String")) (t' := .int) (by decide) (by decide)))
  refine og_aloadN X15 26 d10_25 rfl rfl rfl ?_
  refine own_retA X15 d10_26 hret rfl rfl (by decide) (by decide) ?_
  exact ⟨r10, rfl, f16, F15⟩
theorem rf_ioc20 (a0 : Array Value) (hw : OHw a0 Z) (hWd : OWorld Z a0) (O0 : Old Z n0 h0) (b : Addr) (kb : ClassId) (x0 : Int32) (x1 : Int32) (q0 : Arv Z h0 b kb .byte (2 : Int32) [(.int (StrChars.lo8 x0)), (.int (StrChars.lo8 x1))] (.int 0)) (q1 : ∀ c ∈ [x0, x1], ¬ c < 0 ∧ ¬ (255 : Int32) < c) :
    OMet l Z own_EL n0 yN17 (Jvm.Cond.code yN17 jdk_43_method_23_code 6 (some .int) :: wc) ({ frames := 0, cells := 0, slots := 0, locals := 0 } : Room) #[(.ref b), (.int 9), (.int 0), (.int 2)] h0 [] (fun vq hq => vq = some (.int (own_ix [x0, x1] 0))) := by
  refine own_enter #[.val (.ref b), .val (.int 9), .val (.int 0), .val (.int 2), .unset, .unset] pn_java_lang_StringLatin1_indexOfChar___BIII_I (fun _ => rfl) hWd.1 O0 all0 ?_
  intro p e s m below meth c T0 X0 hnm hret
  refine og_iloadN X0 1 d24_0 rfl rfl ?_
  refine og_i2b X0 2 d24_1 rfl ?_
  show OGo _ _ _ _ T0 (mkF m 2 #[.val (.ref b), .val (.int 9), .val (.int 0), .val (.int 2), .unset, .unset] [(.int 9)])
  refine og_istore X0 4 #[.val (.ref b), .val (.int 9), .val (.int 0), .val (.int 2), .val (.int 9), .unset] d24_2 rfl rfl ?_
  refine og_iloadN X0 5 d24_4 rfl rfl ?_
  refine og_istore X0 7 #[.val (.ref b), .val (.int 9), .val (.int 0), .val (.int 2), .val (.int 9), .val (.int 0)] d24_5 rfl rfl ?_
  refine og_iload X0 9 d24_7 rfl rfl ?_
  refine og_iloadN X0 10 d24_9 rfl rfl ?_
  refine og_icmpN X0 13 d24_10 (XT.ii_ge_f (by decide)) rfl ?_
  refine og_aloadN X0 14 d24_13 rfl rfl rfl ?_
  refine og_iload X0 16 d24_14 rfl rfl ?_
  refine own_ldB X0 17 d24_16 q0 (by decide) (by decide) rfl rfl ?_
  refine og_iload X0 19 d24_17 rfl rfl ?_
  by_cases hc1 : (StrChars.lo8 x0) = (9 : Int32)
  · -- (StrChars.lo8 x0) = (9 : Int32)
    refine og_icmpN X0 22 d24_19 (XT.ii_ne_f hc1) rfl ?_
    refine og_iload X0 24 d24_22 rfl rfl ?_
    refine own_retI X0 d24_24 hret (by decide) (by decide) ?_
    (first | rfl | (simp only [own_ix, own_ixA, List.drop, if_true, if_false, own_tab2 (q1 _ (om 0 rfl)) hc1]; done) | (simp only [own_ix, own_ixA, List.drop, if_true, if_false, own_tab2 (q1 _ (om 0 rfl)) hc1]; rfl))
  · -- not
    refine og_icmpY X0 25 d24_19 (XT.ii_ne_t hc1) (by decide) (by decide) ?_
    refine og_iinc X0 28 #[.val (.ref b), .val (.int 9), .val (.int 0), .val (.int 2), .val (.int 9), .val (.int 1)] d24_25 rfl rfl rfl ?_
    refine og_goto X0 7 d24_28 (by decide) (by decide) ?_
    refine og_iload X0 9 d24_7 rfl rfl ?_
    refine og_iloadN X0 10 d24_9 rfl rfl ?_
    refine og_icmpN X0 13 d24_10 (XT.ii_ge_f (by decide)) rfl ?_
    refine og_aloadN X0 14 d24_13 rfl rfl rfl ?_
    refine og_iload X0 16 d24_14 rfl rfl ?_
    refine own_ldB X0 17 d24_16 q0 (by decide) (by decide) rfl rfl ?_
    refine og_iload X0 19 d24_17 rfl rfl ?_
    by_cases hc2 : (StrChars.lo8 x1) = (9 : Int32)
    · -- (StrChars.lo8 x1) = (9 : Int32)
      refine og_icmpN X0 22 d24_19 (XT.ii_ne_f hc2) rfl ?_
      refine og_iload X0 24 d24_22 rfl rfl ?_
      refine own_retI X0 d24_24 hret (by decide) (by decide) ?_
      (first | rfl | (simp only [own_ix, own_ixA, List.drop, if_true, if_false, own_tab3 hc1, own_tab2 (q1 _ (om 1 rfl)) hc2]; done) | (simp only [own_ix, own_ixA, List.drop, if_true, if_false, own_tab3 hc1, own_tab2 (q1 _ (om 1 rfl)) hc2]; rfl))
    · -- not
      refine og_icmpY X0 25 d24_19 (XT.ii_ne_t hc2) (by decide) (by decide) ?_
      refine og_iinc X0 28 #[.val (.ref b), .val (.int 9), .val (.int 0), .val (.int 2), .val (.int 9), .val (.int 2)] d24_25 rfl rfl rfl ?_
      refine og_goto X0 7 d24_28 (by decide) (by decide) ?_
      refine og_iload X0 9 d24_7 rfl rfl ?_
      refine og_iloadN X0 10 d24_9 rfl rfl ?_
      refine og_icmpY X0 31 d24_10 (XT.ii_ge_t (by decide)) (by decide) (by decide) ?_
      refine og_iconst X0 32 (-1 : Int32) d24_31 rfl rfl ?_
      refine own_retI X0 d24_32 hret (by decide) (by decide) ?_
      (first | rfl | (simp only [own_ix, own_ixA, List.drop, if_true, if_false, own_tab3 hc1, own_tab3 hc2]; done) | (simp only [own_ix, own_ixA, List.drop, if_true, if_false, own_tab3 hc1, own_tab3 hc2]; rfl))
theorem rf_iol20 (a0 : Array Value) (hw : OHw a0 Z) (hWd : OWorld Z a0) (O0 : Old Z n0 h0) (b : Addr) (kb : ClassId) (x0 : Int32) (x1 : Int32) (q0 : Arv Z h0 b kb .byte (2 : Int32) [(.int (StrChars.lo8 x0)), (.int (StrChars.lo8 x1))] (.int 0)) (q1 : ∀ c ∈ [x0, x1], ¬ c < 0 ∧ ¬ (255 : Int32) < c) :
    OMet l Z own_EL n0 yN12 (Jvm.Cond.code yN12 jdk_43_method_22_code 4 (some .int) :: wc) ({ frames := 1, cells := 0, slots := 0, locals := 17 } : Room) #[(.ref b), (.int 9), (.int 0), (.int 2)] h0 [] (fun vq hq => vq = some (.int (own_ix [x0, x1] 0))) := by
  refine own_enter #[.val (.ref b), .val (.int 9), .val (.int 0), .val (.int 2)] pn_java_lang_StringLatin1_indexOf___BIII_I (fun _ => rfl) hWd.1 O0 all0 ?_
  intro p e s m below meth c T0 X0 hnm hret
  refine og_iloadN X0 1 d14_0 rfl rfl ?_
  refine own_stat X0 4 (argsL := [(.int 9)]) (rest := []) d14_1 (rm15 l Z n0 h0 [] a0 hw hWd X0.old   ) (ow hw 81 rfl) (ow hw 82 rfl) (ow hw 79 rfl) (ow hw 83 rfl) (by decide) (lenOf pd__28I_29Z rfl) rfl rfl rfl (W := 0) rfl (by decide) (by decide) (by decide) (by decide) all0 rfl ?_
  intro T1 h1 v1 X1 K1 hQ1
  obtain rfl := hQ1
  show OGo _ _ _ _ T1 (mkF m 4 #[.val (.ref b), .val (.int 9), .val (.int 0), .val (.int 2)] [(.int 1)])
  refine og_ifY X1 9 d14_4 (XT.i0_ne_t (by decide)) (by decide) (by decide) ?_
  refine og_iloadN X1 10 d14_9 rfl rfl ?_
  refine og_iconst X1 11 (0 : Int32) d14_10 rfl rfl ?_
  refine own_stat X1 14 (argsL := [(.int 0), (.int 0)]) (rest := []) d14_11 (rm16 l Z n0 h1 [] a0 hw hWd X1.old (0 : Int32) (0 : Int32) (by decide) ) (ow hw 84 rfl) (ow hw 85 rfl) (ow hw 86 rfl) (ow hw 87 rfl) (by decide) (lenOf pd__28II_29I rfl) rfl rfl rfl (W := 0) rfl (by decide) (by decide) (by decide) (by decide) all0 rfl ?_
  intro T2 h2 v2 X2 K2 hQ2
  obtain rfl := hQ2
  show OGo _ _ _ _ T2 (mkF m 14 #[.val (.ref b), .val (.int 9), .val (.int 0), .val (.int 2)] [(.int 0)])
  refine og_istoreN X2 15 #[.val (.ref b), .val (.int 9), .val (.int 0), .val (.int 2)] d14_14 rfl rfl ?_
  refine og_iloadN X2 16 d14_15 rfl rfl ?_
  refine og_aloadN X2 17 d14_16 rfl rfl rfl ?_
  have f3 := q0.keep K1 nin0
  have f4 := f3.keep K2 nin0
  refine own_len X2 18 d14_17 f4 rfl ?_
  refine own_stat X2 21 (argsL := [(.int 2), (.int 2)]) (rest := []) d14_18 (rm_min0 l Z n0 h2 [] a0 hw hWd X2.old (2 : Int32) (2 : Int32) (by decide) ) (ow hw 88 rfl) (ow hw 89 rfl) (ow hw 86 rfl) (ow hw 90 rfl) (by decide) (lenOf pd__28II_29I rfl) rfl rfl rfl (W := 0) rfl (by decide) (by decide) (by decide) (by decide) all0 rfl ?_
  intro T5 h5 v5 X5 K5 hQ5
  obtain rfl := hQ5
  show OGo _ _ _ _ T5 (mkF m 21 #[.val (.ref b), .val (.int 9), .val (.int 0), .val (.int 2)] [(.int 2)])
  refine og_istoreN X5 22 #[.val (.ref b), .val (.int 9), .val (.int 0), .val (.int 2)] d14_21 rfl rfl ?_
  refine og_iloadN X5 23 d14_22 rfl rfl ?_
  refine og_iloadN X5 24 d14_23 rfl rfl ?_
  refine og_icmpY X5 29 d14_24 (XT.ii_lt_t (by decide)) (by decide) (by decide) ?_
  refine og_aloadN X5 30 d14_29 rfl rfl rfl ?_
  refine og_iloadN X5 31 d14_30 rfl rfl ?_
  refine og_iloadN X5 32 d14_31 rfl rfl ?_
  refine og_iloadN X5 33 d14_32 rfl rfl ?_
  have f6 := f4.keep K5 nin0
  refine own_stat X5 36 (argsL := [(.ref b), (.int 9), (.int 0), (.int 2)]) (rest := []) d14_33 (rf_ioc20 l Z n0 h5 [] a0 hw hWd X5.old b kb x0 x1 f6 q1 ) (ow hw 114 rfl) (ow hw 115 rfl) (ow hw 79 rfl) (ow hw 116 rfl) (by decide) (lenOf pd__28_5bBIII_29I rfl) rfl rfl rfl (W := 0) rfl (by decide) (by decide) (by decide) (by decide) all0 rfl ?_
  intro T7 h7 v7 X7 K7 hQ7
  obtain rfl := hQ7
  show OGo _ _ _ _ T7 (mkF m 36 #[.val (.ref b), .val (.int 9), .val (.int 0), .val (.int 2)] [(.int (own_ix [x0, x1] 0))])
  refine own_retI X7 d14_36 hret (by decide) (by decide) ?_
  exact rfl
theorem rf_ios20 (a0 : Array Value) (hw : OHw a0 Z) (hWd : OWorld Z a0) (O0 : Old Z n0 h0) (a : Addr) (x0 : Int32) (x1 : Int32) (q0 : OStr Z h0 a [x0, x1] h0.size) (q1 : ∀ c ∈ [x0, x1], ¬ c < 0 ∧ ¬ (255 : Int32) < c) :
    OMet l Z own_EL n0 yN13 (Jvm.Cond.code yN13 jdk_42_method_80_code 3 (some .int) :: wc) ({ frames := 2, cells := 0, slots := 0, locals := 32 } : Room) #[(.ref a), (.int 9), (.int 0)] h0 [] (fun vq hq => vq = some (.int (own_ix [x0, x1] 0))) := by
  refine own_enter #[.val (.ref a), .val (.int 9), .val (.int 0)] pn_java_lang_String_indexOf__II_I (fun _ => rfl) hWd.1 O0 all0 ?_
  intro p e s m below meth c T0 X0 hnm hret
  obtain ⟨t, kt, NN, vv, eE, eC, eV, eA, cod, bd, l4⟩ := q0.latin (fun c hc => (q1 c hc).2)
  obtain ⟨-, rfl, rfl, -⟩ := cod.resolve_right fun q => absurd q.1 (by decide)
  have eA2 : Arv Z h0 t kt .byte (2 : Int32) [(.int (StrChars.lo8 x0)), (.int (StrChars.lo8 x1))] (.int 0) := eA
  refine og_aloadN X0 1 d12_0 rfl rfl rfl ?_
  refine own_virt X0 4 (a := a) (argsL := []) (rest := []) d12_1 eE (fun _ hZ => notFace_of_selects (args := #[]) (mvT hZ (ow hw 74 rfl))) (rm13 l Z n0 h0 [] a0 hw hWd X0.old a eC ) (ow hw 71 rfl) (ow hw 72 rfl) (ow hw 74 rfl) (ow hw 73 rfl) (ow hw 6 rfl) (ow hw 75 rfl) (by decide) (lenOf pd__28_29Z rfl) rfl rfl rfl (W := 0) rfl (by decide) (by decide) (by decide) (by decide) all0 rfl ?_
  intro T1 h1 v1 X1 K1 hQ1
  obtain rfl := hQ1
  show OGo _ _ _ _ T1 (mkF m 4 #[.val (.ref a), .val (.int 9), .val (.int 0)] [(.int 1)])
  refine og_ifN X1 7 d12_4 (XT.i0_eq_f (by decide)) rfl ?_
  refine og_aloadN X1 8 d12_7 rfl rfl rfl ?_
  have f2 := eV.keep K1 nin0
  refine own_get X1 11 d12_8 (host := "") (Or.inl (ow hw 24 rfl)) Via.refl f2 rfl ?_
  intro T3 X4
  refine og_iloadN X4 12 d12_11 rfl rfl ?_
  refine og_iloadN X4 13 d12_12 rfl rfl ?_
  refine og_aloadN X4 14 d12_13 rfl rfl rfl ?_
  have f5 := q0.keep K1 all0
  refine own_strLen X4 17 d12_14 f5 (own_wL hw) (ow hw 5 rfl) hWd.2.1.1 hWd.2.1.2 (ow hw 76 rfl) (ow hw 46 rfl) (ow hw 48 rfl) (ow hw 47 rfl) rfl (W := 3) rfl (by decide) (by decide) (by decide) (by decide) rfl ?_
  intro T6 X7
  show OGo _ _ _ _ T6 (mkF m 17 #[.val (.ref a), .val (.int 9), .val (.int 0)] [(.int 2), (.int 0), (.int 9), (.ref t)])
  have f8 := eA2.keep K1 nin0
  refine own_stat X7 20 (argsL := [(.ref t), (.int 9), (.int 0), (.int 2)]) (rest := []) d12_17 (rf_iol20 l Z n0 h1 [] a0 hw hWd X7.old t kt x0 x1 f8 q1 ) (ow hw 77 rfl) (ow hw 78 rfl) (ow hw 79 rfl) (ow hw 80 rfl) (by decide) (lenOf pd__28_5bBIII_29I rfl) rfl rfl rfl (W := 0) rfl (by decide) (by decide) (by decide) (by decide) all0 rfl ?_
  intro T9 h9 v9 X9 K9 hQ9
  obtain rfl := hQ9
  show OGo _ _ _ _ T9 (mkF m 20 #[.val (.ref a), .val (.int 9), .val (.int 0)] [(.int (own_ix [x0, x1] 0))])
  refine og_goto X9 36 d12_20 (by decide) (by decide) ?_
  refine own_retI X9 d12_36 hret (by decide) (by decide) ?_
  exact rfl
theorem rf_end200 (a0 : Array Value) (hw : OHw a0 Z) (hWd : OWorld Z a0) (O0 : Old Z n0 h0) (a : Addr) (u : Addr) (x0 : Int32) (x1 : Int32) (q0 : Exa Z h0 a "com/example/ratable/ratable/core/JournalSums$Fields") (q1 : Fld Z h0 a "com/example/ratable/ratable/core/JournalSums$Fields" "line" "Ljava/lang/String;" (.ref u)) (q2 : Fld Z h0 a "com/example/ratable/ratable/core/JournalSums$Fields" "next" "I" (.int 0)) (q3 : OStr Z h0 u [x0, x1] h0.size) (q4 : ∀ c ∈ [x0, x1], ¬ c < 0 ∧ ¬ (255 : Int32) < c) (q5 : x0 = (9 : Int32)) :
    OMet l Z own_EL n0 yN14 (Jvm.Cond.code yN14 prog_51_method_8_code 2 (some .int) :: wc) ({ frames := 3, cells := 0, slots := 0, locals := 46 } : Room) #[(.ref a)] h0 [] (fun vq hq => vq = some (.int 0)) := by
  refine own_enter #[.val (.ref a), .unset] pn_com_example_ratable_ratable_core_JournalSums_Fields_end___I (fun _ => rfl) hWd.1 O0 all0 ?_
  intro p e s m below meth c T0 X0 hnm hret
  refine og_aloadN X0 1 d11_0 rfl rfl rfl ?_
  refine own_virt X0 4 (a := a) (argsL := []) (rest := []) d11_1 q0 (fun _ hZ => notFace_of_selects (args := #[]) (mvT hZ (ow hw 41 rfl))) (rm_more1 l Z n0 h0 [] a0 hw hWd X0.old a u [x0, x1] (0 : Int32) q1 q2 q3.top (show ¬ (2 : Int32) < (0 : Int32) by decide) ) (ow hw 65 rfl) (ow hw 39 rfl) (ow hw 41 rfl) (ow hw 40 rfl) (ow hw 31 rfl) (ow hw 42 rfl) (by decide) (lenOf pd__28_29Z rfl) rfl rfl rfl (W := 0) rfl (by decide) (by decide) (by decide) (by decide) all0 rfl ?_
  intro T1 h1 v1 X1 K1 hQ1
  obtain rfl := hQ1
  show OGo _ _ _ _ T1 (mkF m 4 #[.val (.ref a), .unset] [(.int 1)])
  refine og_ifY X1 37 d11_4 (XT.i0_ne_t (by decide)) (by decide) (by decide) ?_
  refine og_aloadN X1 38 d11_37 rfl rfl rfl ?_
  have f2 := q1.keep K1 nin0
  refine own_get X1 41 d11_38 (host := "") (Or.inl (ow hw 36 rfl)) Via.refl f2 rfl ?_
  intro T3 X4
  refine og_bipush X4 43 (9 : Int32) d11_41 rfl rfl ?_
  refine og_aloadN X4 44 d11_43 rfl rfl rfl ?_
  have f5 := q2.keep K1 nin0
  refine own_get X4 47 d11_44 (host := "") (Or.inl (ow hw 43 rfl)) Via.refl f5 rfl ?_
  intro T6 X7
  have f8 := q3.exa.keep K1
  have f9 := q3.keep K1 all0
  refine own_virt X7 50 (a := u) (argsL := [(.int 9), (.int 0)]) (rest := []) d11_47 f8 (fun _ hZ => notFace_of_selects (args := #[]) (mvT hZ (ow hw 69 rfl))) (rf_ios20 l Z n0 h1 [] a0 hw hWd X7.old u x0 x1 f9.top q4 ) (ow hw 66 rfl) (ow hw 67 rfl) (ow hw 69 rfl) (ow hw 68 rfl) (ow hw 6 rfl) (ow hw 70 rfl) (by decide) (lenOf pd__28II_29I rfl) rfl rfl rfl (W := 0) rfl (by decide) (by decide) (by decide) (by decide) all0 rfl ?_
  intro T10 h10 v10 X10 K10 hQ10
  obtain rfl := hQ10
  show OGo _ _ _ _ T10 (mkF m 50 #[.val (.ref a), .unset] [(.int (own_ix [x0, x1] 0))])
  rw [show (own_ix [x0, x1] 0) = (0 : Int32) by (first | rfl | (simp only [own_ix, own_ixA, List.drop, if_true, if_false, q5]; done) | (simp only [own_ix, own_ixA, List.drop, if_true, if_false, q5]; rfl))]
  refine og_istoreN X10 51 #[.val (.ref a), .val (.int 0)] d11_50 rfl rfl ?_
  refine og_iloadN X10 52 d11_51 rfl rfl ?_
  refine og_ifY X10 65 d11_52 (XT.i0_ge_t (by decide)) (by decide) (by decide) ?_
  refine og_iloadN X10 66 d11_65 rfl rfl ?_
  refine own_retI X10 d11_66 hret (by decide) (by decide) ?_
  exact rfl
theorem rf_ns200 (a0 : Array Value) (hw : OHw a0 Z) (hWd : OWorld Z a0) (O0 : Old Z n0 h0) (b : Addr) (kb : ClassId) (e0 : Value) (e1 : Value) (q0 : Arv Z h0 b kb .byte (2 : Int32) [e0, e1] (.int 0)) :
    OMet l Z own_EL n0 yN18 (Jvm.Cond.code yN18 jdk_43_method_47_code 3 (some (.object "java/lang/String")) :: wc) ({ frames := 0, cells := 2, slots := 4, locals := 0 } : Room) #[(.ref b), (.int 0), (.int 0)] h0 [] (fun vq hq => ∃ (r : Addr), vq = some (.ref r)) := by
  refine own_enter #[.val (.ref b), .val (.int 0), .val (.int 0)] pn_java_lang_StringLatin1_newString___BII_Ljava_lang_String_ (fun _ => rfl) hWd.1 O0 all0 ?_
  intro p e s m below meth c T0 X0 hnm hret
  refine og_iloadN X0 1 d25_0 rfl rfl ?_
  refine og_ifN X0 4 d25_1 (XT.i0_ne_f (by decide)) rfl ?_
  refine own_ldcO X0 6 (cap := 0) d25_4 own_ELne (ow hw 120 rfl) (own_wS hw) (by decide) (by decide) (by decide) (by decide) rfl ?_
  intro T1 h1 a1 X1 K1
  refine own_retA X1 d25_6 hret rfl rfl (by decide) (by decide) ?_
  exact ⟨a1, rfl⟩
theorem rf_sub200 (a0 : Array Value) (hw : OHw a0 Z) (hWd : OWorld Z a0) (O0 : Old Z n0 h0) (a : Addr) (x0 : Int32) (x1 : Int32) (q0 : OStr Z h0 a [x0, x1] h0.size) (q1 : ∀ c ∈ [x0, x1], ¬ c < 0 ∧ ¬ (255 : Int32) < c) :
    OMet l Z own_EL n0 yN15 (Jvm.Cond.code yN15 jdk_42_method_92_code 5 (some (.object "java/lang/String")) :: wc) ({ frames := 2, cells := 2, slots := 4, locals := 29 } : Room) #[(.ref a), (.int 0), (.int 0)] h0 [] (fun vq hq => ∃ (r : Addr), vq = some (.ref r)) := by
  refine own_enter #[.val (.ref a), .val (.int 0), .val (.int 0), .unset, .unset] pn_java_lang_String_substring__II_Ljava_lang_String_ (fun _ => rfl) hWd.1 O0 all0 ?_
  intro p e s m below meth c T0 X0 hnm hret
  obtain ⟨t, kt, NN, vv, eE, eC, eV, eA, cod, bd, l4⟩ := q0.latin (fun c hc => (q1 c hc).2)
  obtain ⟨-, rfl, rfl, -⟩ := cod.resolve_right fun q => absurd q.1 (by decide)
  have eA2 : Arv Z h0 t kt .byte (2 : Int32) [(.int (StrChars.lo8 x0)), (.int (StrChars.lo8 x1))] (.int 0) := eA
  refine og_aloadN X0 1 d18_0 rfl rfl rfl ?_
  refine own_strLen X0 4 d18_1 q0 (own_wL hw) (ow hw 5 rfl) hWd.2.1.1 hWd.2.1.2 (ow hw 76 rfl) (ow hw 46 rfl) (ow hw 48 rfl) (ow hw 47 rfl) rfl (W := 0) rfl (by decide) (by decide) (by decide) (by decide) rfl ?_
  intro T1 X2
  show OGo _ _ _ _ T1 (mkF m 4 #[.val (.ref a), .val (.int 0), .val (.int 0), .unset, .unset] [(.int 2)])
  refine og_istoreN X2 5 #[.val (.ref a), .val (.int 0), .val (.int 0), .val (.int 2), .unset] d18_4 rfl rfl ?_
  refine og_iloadN X2 6 d18_5 rfl rfl ?_
  refine og_iloadN X2 7 d18_6 rfl rfl ?_
  refine og_iloadN X2 8 d18_7 rfl rfl ?_
  refine own_stat X2 11 (argsL := [(.int 0), (.int 0), (.int 2)]) (rest := []) d18_8 (rm19 l Z n0 h0 [] a0 hw hWd X2.old (0 : Int32) (0 : Int32) (2 : Int32) (by decide) (by decide) (by decide) ) (ow hw 96 rfl) (ow hw 97 rfl) (ow hw 6 rfl) (ow hw 98 rfl) (by decide) (lenOf pd__28III_29V rfl) rfl rfl rfl (W := 0) rfl (by decide) (by decide) (by decide) (by decide) all0 rfl ?_
  intro T3 h3 v3 X3 K3 hQ3
  obtain rfl := hQ3
  show OGo _ _ _ _ T3 (mkF m 11 #[.val (.ref a), .val (.int 0), .val (.int 0), .val (.int 2), .unset] [])
  refine og_iloadN X3 12 d18_11 rfl rfl ?_
  refine og_ifN X3 15 d18_12 (XT.i0_ne_f (by decide)) rfl ?_
  refine og_iloadN X3 16 d18_15 rfl rfl ?_
  refine og_iloadN X3 17 d18_16 rfl rfl ?_
  refine og_icmpY X3 22 d18_17 (XT.ii_ne_t (by decide)) (by decide) (by decide) ?_
  refine og_iloadN X3 23 d18_22 rfl rfl ?_
  refine og_iloadN X3 24 d18_23 rfl rfl ?_
  refine og_isub X3 25 d18_24 rfl ?_
  show OGo _ _ _ _ T3 (mkF m 25 #[.val (.ref a), .val (.int 0), .val (.int 0), .val (.int 2), .unset] [(.int 0)])
  refine og_istore X3 27 #[.val (.ref a), .val (.int 0), .val (.int 0), .val (.int 2), .val (.int 0)] d18_25 rfl rfl ?_
  refine og_aloadN X3 28 d18_27 rfl rfl rfl ?_
  have f4 := eE.keep K3
  have f5 := eC.keep K3 nin0
  refine own_virt X3 31 (a := a) (argsL := []) (rest := []) d18_28 f4 (fun _ hZ => notFace_of_selects (args := #[]) (mvT hZ (ow hw 74 rfl))) (rm13 l Z n0 h3 [] a0 hw hWd X3.old a f5 ) (ow hw 71 rfl) (ow hw 72 rfl) (ow hw 74 rfl) (ow hw 73 rfl) (ow hw 6 rfl) (ow hw 75 rfl) (by decide) (lenOf pd__28_29Z rfl) rfl rfl rfl (W := 0) rfl (by decide) (by decide) (by decide) (by decide) all0 rfl ?_
  intro T6 h6 v6 X6 K6 hQ6
  obtain rfl := hQ6
  show OGo _ _ _ _ T6 (mkF m 31 #[.val (.ref a), .val (.int 0), .val (.int 0), .val (.int 2), .val (.int 0)] [(.int 1)])
  refine og_ifN X6 34 d18_31 (XT.i0_eq_f (by decide)) rfl ?_
  refine og_aloadN X6 35 d18_34 rfl rfl rfl ?_
  have f7 := eV.keep K3 nin0
  have f8 := f7.keep K6 nin0
  refine own_get X6 38 d18_35 (host := "") (Or.inl (ow hw 24 rfl)) Via.refl f8 rfl ?_
  intro T9 X10
  refine og_iloadN X10 39 d18_38 rfl rfl ?_
  refine og_iload X10 41 d18_39 rfl rfl ?_
  have f11 := eA2.keep K3 nin0
  have f12 := f11.keep K6 nin0
  refine own_stat X10 44 (argsL := [(.ref t), (.int 0), (.int 0)]) (rest := []) d18_41 (rf_ns200 l Z n0 h6 [] a0 hw hWd X10.old t kt (.int (StrChars.lo8 x0)) (.int (StrChars.lo8 x1)) f12 ) (ow hw 117 rfl) (ow hw 118 rfl) (ow hw 79 rfl) (ow hw 119 rfl) (by decide) (lenOf pd__28_5bBII_29Ljava_2flang_2fString_3b rfl) rfl rfl rfl (W := 0) rfl (by decide) (by decide) (by decide) (by decide) all0 rfl ?_
  intro T13 h13 v13 X13 K13 hQ13
  obtain ⟨r13, rfl⟩ := hQ13
  show OGo _ _ _ _ T13 (mkF m 44 #[.val (.ref a), .val (.int 0), .val (.int 0), .val (.int 2), .val (.int 0)] [(.ref r13)])
  refine og_goto X13 57 d18_44 (by decide) (by decide) ?_
  refine own_retA X13 d18_57 hret rfl rfl (by decide) (by decide) ?_
  exact ⟨r13, rfl⟩
theorem rf_txt200 (a0 : Array Value) (hw : OHw a0 Z) (hWd : OWorld Z a0) (O0 : Old Z n0 h0) (a : Addr) (u : Addr) (x0 : Int32) (x1 : Int32) (q0 : Exa Z h0 a "com/example/ratable/ratable/core/JournalSums$Fields") (q1 : Fld Z h0 a "com/example/ratable/ratable/core/JournalSums$Fields" "line" "Ljava/lang/String;" (.ref u)) (q2 : Fld Z h0 a "com/example/ratable/ratable/core/JournalSums$Fields" "next" "I" (.int 0)) (q3 : OStr Z h0 u [x0, x1] h0.size) (q4 : ∀ c ∈ [x0, x1], ¬ c < 0 ∧ ¬ (255 : Int32) < c) (q5 : x0 = (9 : Int32)) (g0 : n0 ≤ a ∧ a < h0.size) :
    OMet l Z own_EL n0 yN16 (Jvm.Cond.code yN16 prog_51_method_3_code 3 (some (.object "java/lang/String")) :: wc) ({ frames := 4, cells := 2, slots := 4, locals := 59 } : Room) #[(.ref a)] h0 [a] (fun vq hq => ∃ (r : Addr), vq = some (.ref r) ∧ Fld Z hq a "com/example/ratable/ratable/core/JournalSums$Fields" "line" "Ljava/lang/String;" (.ref u) ∧ Fld Z hq a "com/example/ratable/ratable/core/JournalSums$Fields" "next" "I" (.int 1)) := by
  refine own_enter #[.val (.ref a), .unset, .unset] pn_com_example_ratable_ratable_core_JournalSums_Fields_text___Ljava_lang_String_ (fun _ => rfl) hWd.1 O0 (allS g0 all0) ?_
  intro p e s m below meth c T0 X0 hnm hret
  refine og_aloadN X0 1 d10_0 rfl rfl rfl ?_
  refine own_priv X0 4 (a := a) (argsL := []) (rest := []) d10_1 q0 (rf_end200 l Z n0 h0 [] a0 hw hWd X0.old a u x0 x1 q0 q1 q2 q3.top q4 q5 ) (ow hw 61 rfl) (ow hw 62 rfl) (own_selfsel2 (ow hw 41 rfl) rfl (ow hw 62 rfl) (ow hw 63 rfl) (by decide)) (ow hw 63 rfl) (ow hw 31 rfl) (ow hw 64 rfl) (by decide) (lenOf pd__28_29I rfl) rfl rfl rfl (W := 0) rfl (by decide) (by decide) (by decide) (by decide) all0 rfl ?_
  intro T1 h1 v1 X1 K1 hQ1
  obtain rfl := hQ1
  show OGo _ _ _ _ T1 (mkF m 4 #[.val (.ref a), .unset, .unset] [(.int 0)])
  refine og_istoreN X1 5 #[.val (.ref a), .val (.int 0), .unset] d10_4 rfl rfl ?_
  refine og_aloadN X1 6 d10_5 rfl rfl rfl ?_
  have f2 := q1.keep K1 nin0
  refine own_get X1 9 d10_6 (host := "") (Or.inl (ow hw 36 rfl)) Via.refl f2 rfl ?_
  intro T3 X4
  refine og_aloadN X4 10 d10_9 rfl rfl rfl ?_
  have f5 := q2.keep K1 nin0
  refine own_get X4 13 d10_10 (host := "") (Or.inl (ow hw 43 rfl)) Via.refl f5 rfl ?_
  intro T6 X7
  refine og_iloadN X7 14 d10_13 rfl rfl ?_
  have f8 := q3.exa.keep K1
  have f9 := q3.keep K1 all0
  refine own_virt X7 17 (a := u) (argsL := [(.int 0), (.int 0)]) (rest := []) d10_14 f8 (fun _ hZ => notFace_of_selects (args := #[]) (mvT hZ (ow hw 94 rfl))) (rf_sub200 l Z n0 h1 [] a0 hw hWd X7.old u x0 x1 f9.top q4 ) (ow hw 91 rfl) (ow hw 92 rfl) (ow hw 94 rfl) (ow hw 93 rfl) (ow hw 6 rfl) (ow hw 95 rfl) (by decide) (lenOf pd__28II_29Ljava_2flang_2fString_3b rfl) rfl rfl rfl (W := 0) rfl (by decide) (by decide) (by decide) (by decide) all0 rfl ?_
  intro T10 h10 v10 X10 K10 hQ10
  obtain ⟨r10, rfl⟩ := hQ10
  show OGo _ _ _ _ T10 (mkF m 17 #[.val (.ref a), .val (.int 0), .unset] [(.ref r10)])
  refine og_astoreN X10 18 #[.val (.ref a), .val (.int 0), .val (.ref r10)] d10_17 rfl rfl rfl ?_
  refine og_aloadN X10 19 d10_18 rfl rfl rfl ?_
  refine og_iloadN X10 20 d10_19 rfl rfl ?_
  refine og_iconst X10 21 (1 : Int32) d10_20 rfl rfl ?_
  refine og_iadd X10 22 d10_21 rfl ?_
  show OGo _ _ _ _ T10 (mkF m 22 #[.val (.ref a), .val (.int 0), .val (.ref r10)] [(.int 1), (.ref a)])
  have f11 := f5.keep K10 nin0
  have f12 := q0.keep K1
  have f13 := f12.keep K10
  have f14 := f2.keep K10 nin0
  refine own_put X10 25 d10_22 (host := "") (Or.inl (ow hw 43 rfl)) Via.refl f11 f13 (Or.inl (ow hw 44 rfl)) (ow hw 30 rfl) (ty := .int) (by decide) rfl rfl (om 0 rfl) rfl ?_
  intro T15 h15 X15 W15 K15 F15
  have f16 := Fld.other W15 f14 (Or.inr (slot_ne (Or.inr (ow hw 37 rfl)) (Or.inl (ow hw 44 rfl)) (by decide) (t := (.object "java/lang/String")) (t' := .int) (by decide) (by decide)))
  refine og_aloadN X15 26 d10_25 rfl rfl rfl ?_
  refine own_retA X15 d10_26 hret rfl rfl (by decide) (by decide) ?_
  exact ⟨r10, rfl, f16, F15⟩
theorem rf_end201 (a0 : Array Value) (hw : OHw a0 Z) (hWd : OWorld Z a0) (O0 : Old Z n0 h0) (a : Addr) (u : Addr) (x0 : Int32) (x1 : Int32) (q0 : Exa Z h0 a "com/example/ratable/ratable/core/JournalSums$Fields") (q1 : Fld Z h0 a "com/example/ratable/ratable/core/JournalSums$Fields" "line" "Ljava/lang/String;" (.ref u)) (q2 : Fld Z h0 a "com/example/ratable/ratable/core/JournalSums$Fields" "next" "I" (.int 0)) (q3 : OStr Z h0 u [x0, x1] h0.size) (q4 : ∀ c ∈ [x0, x1], ¬ c < 0 ∧ ¬ (255 : Int32) < c) (q5 : ¬ x0 = (9 : Int32)) (q6 : x1 = (9 : Int32)) :
    OMet l Z own_EL n0 yN14 (Jvm.Cond.code yN14 prog_51_method_8_code 2 (some .int) :: wc) ({ frames := 3, cells := 0, slots := 0, locals := 46 } : Room) #[(.ref a)] h0 [] (fun vq hq => vq = some (.int 1)) := by
  refine own_enter #[.val (.ref a), .unset] pn_com_example_ratable_ratable_core_JournalSums_Fields_end___I (fun _ => rfl) hWd.1 O0 all0 ?_
  intro p e s m below meth c T0 X0 hnm hret
  refine og_aloadN X0 1 d11_0 rfl rfl rfl ?_
  refine own_virt X0 4 (a := a) (argsL := []) (rest := []) d11_1 q0 (fun _ hZ => notFace_of_selects (args := #[]) (mvT hZ (ow hw 41 rfl))) (rm_more1 l Z n0 h0 [] a0 hw hWd X0.old a u [x0, x1] (0 : Int32) q1 q2 q3.top (show ¬ (2 : Int32) < (0 : Int32) by decide) ) (ow hw 65 rfl) (ow hw 39 rfl) (ow hw 41 rfl) (ow hw 40 rfl) (ow hw 31 rfl) (ow hw 42 rfl) (by decide) (lenOf pd__28_29Z rfl) rfl rfl rfl (W := 0) rfl (by decide) (by decide) (by decide) (by decide) all0 rfl ?_
  intro T1 h1 v1 X1 K1 hQ1
  obtain rfl := hQ1
  show OGo _ _ _ _ T1 (mkF m 4 #[.val (.ref a), .unset] [(.int 1)])
  refine og_ifY X1 37 d11_4 (XT.i0_ne_t (by decide)) (by decide) (by decide) ?_
  refine og_aloadN X1 38 d11_37 rfl rfl rfl ?_
  have f2 := q1.keep K1 nin0
  refine own_get X1 41 d11_38 (host := "") (Or.inl (ow hw 36 rfl)) Via.refl f2 rfl ?_
  intro T3 X4
  refine og_bipush X4 43 (9 : Int32) d11_41 rfl rfl ?_
  refine og_aloadN X4 44 d11_43 rfl rfl rfl ?_
  have f5 := q2.keep K1 nin0
  refine own_get X4 47 d11_44 (host := "") (Or.inl (ow hw 43 rfl)) Via.refl f5 rfl ?_
  intro T6 X7
  have f8 := q3.exa.keep K1
  have f9 := q3.keep K1 all0
  refine own_virt X7 50 (a := u) (argsL := [(.int 9), (.int 0)]) (rest := []) d11_47 f8 (fun _ hZ => notFace_of_selects (args := #[]) (mvT hZ (ow hw 69 rfl))) (rf_ios20 l Z n0 h1 [] a0 hw hWd X7.old u x0 x1 f9.top q4 ) (ow hw 66 rfl) (ow hw 67 rfl) (ow hw 69 rfl) (ow hw 68 rfl) (ow hw 6 rfl) (ow hw 70 rfl) (by decide) (lenOf pd__28II_29I rfl) rfl rfl rfl (W := 0) rfl (by decide) (by decide) (by decide) (by decide) all0 rfl ?_
  intro T10 h10 v10 X10 K10 hQ10
  obtain rfl := hQ10
  show OGo _ _ _ _ T10 (mkF m 50 #[.val (.ref a), .unset] [(.int (own_ix [x0, x1] 0))])
  rw [show (own_ix [x0, x1] 0) = (1 : Int32) by (first | rfl | (simp only [own_ix, own_ixA, List.drop, if_true, if_false, q5, q6]; done) | (simp only [own_ix, own_ixA, List.drop, if_true, if_false, q5, q6]; rfl))]
  refine og_istoreN X10 51 #[.val (.ref a), .val (.int 1)] d11_50 rfl rfl ?_
  refine og_iloadN X10 52 d11_51 rfl rfl ?_
  refine og_ifY X10 65 d11_52 (XT.i0_ge_t (by decide)) (by decide) (by decide) ?_
  refine og_iloadN X10 66 d11_65 rfl rfl ?_
  refine own_retI X10 d11_66 hret (by decide) (by decide) ?_
  exact rfl
theorem rf_crb201 (a0 : Array Value) (hw : OHw a0 Z) (hWd : OWorld Z a0) (O0 : Old Z n0 h0) (b : Addr) (kb : ClassId) (e0 : Value) (e1 : Value) (q0 : Arv Z h0 b kb .byte (2 : Int32) [e0, e1] (.int 0)) :
    OMet l Z own_EL n0 yN19 (Jvm.Cond.code yN19 jdk_65_method_133_code 5 (some (.array .byte)) :: wc) ({ frames := 1, cells := 1, slots := 1, locals := 40 } : Room) #[(.ref b), (.int 0), (.int 1)] h0 [] (fun vq hq => ∃ (r : Addr) (kr : ClassId), vq = some (.ref r) ∧ h0.size ≤ r ∧ Arv Z hq r kr .byte (1 : Int32) [e0] (.int 0)) := by
  refine own_enter #[.val (.ref b), .val (.int 0), .val (.int 1), .unset, .unset] pn_java_util_Arrays_copyOfRangeByte___BII__B (fun _ => rfl) hWd.1 O0 all0 ?_
  intro p e s m below meth c T0 X0 hnm hret
  refine og_iloadN X0 1 d27_0 rfl rfl ?_
  refine og_iloadN X0 2 d27_1 rfl rfl ?_
  refine own_stat X0 5 (argsL := [(.int 0), (.int 1)]) (rest := []) d27_2 (rm28 l Z n0 h0 [] a0 hw hWd X0.old (0 : Int32) (1 : Int32) (by decide) ) (ow hw 129 rfl) (ow hw 130 rfl) (ow hw 124 rfl) (ow hw 131 rfl) (by decide) (lenOf pd__28II_29V rfl) rfl rfl rfl (W := 0) rfl (by decide) (by decide) (by decide) (by decide) all0 rfl ?_
  intro T1 h1 v1 X1 K1 hQ1
  obtain rfl := hQ1
  show OGo _ _ _ _ T1 (mkF m 5 #[.val (.ref b), .val (.int 0), .val (.int 1), .unset, .unset] [])
  refine og_iloadN X1 6 d27_5 rfl rfl ?_
  refine og_iloadN X1 7 d27_6 rfl rfl ?_
  refine og_isub X1 8 d27_7 rfl ?_
  show OGo _ _ _ _ T1 (mkF m 8 #[.val (.ref b), .val (.int 0), .val (.int 1), .unset, .unset] [(.int 1)])
  refine og_istoreN X1 9 #[.val (.ref b), .val (.int 0), .val (.int 1), .val (.int 1), .unset] d27_8 rfl rfl ?_
  refine og_iloadN X1 10 d27_9 rfl rfl ?_
  refine own_arr X1 12 d27_10 (ow hw 19 rfl) (by decide) (cap := 1) (by decide) (by decide) (by decide) (by decide) rfl ?_
  intro T2 h2 b2 kb2 X2 K2 G2 U2 A2
  have f3 : Arv Z h2 b2 kb2 .byte (1 : Int32) [(.int 0)] (.int 0) := A2
  refine og_astore X2 14 #[.val (.ref b), .val (.int 0), .val (.int 1), .val (.int 1), .val (.ref b2)] d27_12 rfl rfl rfl ?_
  refine og_aloadN X2 15 d27_14 rfl rfl rfl ?_
  refine og_iloadN X2 16 d27_15 rfl rfl ?_
  refine og_aload X2 18 d27_16 rfl rfl rfl ?_
  refine og_iconst X2 19 (0 : Int32) d27_18 rfl rfl ?_
  refine og_aloadN X2 20 d27_19 rfl rfl rfl ?_
  have f4 := q0.keep K1 nin0
  have f5 := f4.keep K2 nin0
  refine own_len X2 21 d27_20 f5 rfl ?_
  refine og_iloadN X2 22 d27_21 rfl rfl ?_
  refine og_isub X2 23 d27_22 rfl ?_
  show OGo _ _ _ _ T2 (mkF m 23 #[.val (.ref b), .val (.int 0), .val (.int 1), .val (.int 1), .val (.ref b2)] [(.int 2), (.int 0), (.ref b2), (.int 0), (.ref b)])
  refine og_iloadN X2 24 d27_23 rfl rfl ?_
  refine own_stat X2 27 (argsL := [(.int 2), (.int 1)]) (rest := [(.int 0), (.ref b2), (.int 0), (.ref b)]) d27_24 (rm_min1 l Z n0 h2 [] a0 hw hWd X2.old (2 : Int32) (1 : Int32) (by decide) ) (ow hw 132 rfl) (ow hw 89 rfl) (ow hw 86 rfl) (ow hw 90 rfl) (by decide) (lenOf pd__28II_29I rfl) rfl rfl rfl (W := 4) rfl (by decide) (by decide) (by decide) (by decide) all0 rfl ?_
  intro T6 h6 v6 X6 K6 hQ6
  obtain rfl := hQ6
  show OGo _ _ _ _ T6 (mkF m 27 #[.val (.ref b), .val (.int 0), .val (.int 1), .val (.int 1), .val (.ref b2)] [(.int 1), (.int 0), (.ref b2), (.int 0), (.ref b)])
  have f7 := f5.keep K6 nin0
  have f8 := f3.keep K6 nin0
  refine own_cp X6 30 (us := [e0]) (rest := []) d27_27 f7 f8 rfl (om 0 rfl) (ow hw 133 rfl) (ow hw 136 rfl) (ow hw 134 rfl) (ow hw 135 rfl) (by decide) (by decide) (by decide) (by decide) (by decide) rfl (Nat.le_of_ble_eq_true rfl) rfl (W := 0) rfl (by decide) (by decide) rfl ?_
  intro T9 h9 X9 K9 A9
  have f10 : Arv Z h9 b2 kb2 .byte (1 : Int32) [e0] (.int 0) := A9
  show OGo _ _ _ _ T9 (mkF m 30 #[.val (.ref b), .val (.int 0), .val (.int 1), .val (.int 1), .val (.ref b2)] [])
  refine og_aload X9 32 d27_30 rfl rfl rfl ?_
  refine own_retA X9 d27_32 hret rfl rfl (by decide) (by decide) ?_
  exact ⟨b2, kb2, rfl, (Nat.le_trans K1.1 G2), f10⟩
theorem rf_cr201 (a0 : Array Value) (hw : OHw a0 Z) (hWd : OWorld Z a0) (O0 : Old Z n0 h0) (b : Addr) (kb : ClassId) (e0 : Value) (e1 : Value) (q0 : Arv Z h0 b kb .byte (2 : Int32) [e0, e1] (.int 0)) :
    OMet l Z own_EL n0 yN20 (Jvm.Cond.code yN20 jdk_65_method_132_code 3 (some (.array .byte)) :: wc) ({ frames := 2, cells := 1, slots := 1, locals := 56 } : Room) #[(.ref b), (.int 0), (.int 1)] h0 [] (fun vq hq => ∃ (r : Addr) (kr : ClassId), vq = some (.ref r) ∧ h0.size ≤ r ∧ Arv Z hq r kr .byte (1 : Int32) [e0] (.int 0)) := by
  refine own_enter #[.val (.ref b), .val (.int 0), .val (.int 1)] pn_java_util_Arrays_copyOfRange___BII__B (fun _ => rfl) hWd.1 O0 all0 ?_
  intro p e s m below meth c T0 X0 hnm hret
  refine og_iloadN X0 1 d26_0 rfl rfl ?_
  refine og_ifN X0 4 d26_1 (XT.i0_ne_f (by decide)) rfl ?_
  refine og_iloadN X0 5 d26_4 rfl rfl ?_
  refine og_aloadN X0 6 d26_5 rfl rfl rfl ?_
  refine own_len X0 7 d26_6 q0 rfl ?_
  refine og_icmpN X0 10 d26_7 (XT.ii_eq_f (by decide)) rfl ?_
  refine og_aloadN X0 11 d26_10 rfl rfl rfl ?_
  refine og_iloadN X0 12 d26_11 rfl rfl ?_
  refine og_iloadN X0 13 d26_12 rfl rfl ?_
  refine own_stat X0 16 (argsL := [(.ref b), (.int 0), (.int 1)]) (rest := []) d26_13 (rf_crb201 l Z n0 h0 [] a0 hw hWd X0.old b kb e0 e1 q0 ) (ow hw 126 rfl) (ow hw 127 rfl) (ow hw 124 rfl) (ow hw 128 rfl) (by decide) (lenOf pd__28_5bBII_29_5bB rfl) rfl rfl rfl (W := 0) rfl (by decide) (by decide) (by decide) (by decide) all0 rfl ?_
  intro T1 h1 v1 X1 K1 hQ1
  obtain ⟨r1, kr1, rfl, ge_r1, f2⟩ := hQ1
  show OGo _ _ _ _ T1 (mkF m 16 #[.val (.ref b), .val (.int 0), .val (.int 1)] [(.ref r1)])
  refine own_retA X1 d26_16 hret rfl rfl (by decide) (by decide) ?_
  exact ⟨r1, kr1, rfl, ge_r1, f2⟩
theorem rf_ns201 (a0 : Array Value) (hw : OHw a0 Z) (hWd : OWorld Z a0) (O0 : Old Z n0 h0) (b : Addr) (kb : ClassId) (e0 : Value) (e1 : Value) (q0 : Arv Z h0 b kb .byte (2 : Int32) [e0, e1] (.int 0)) :
    OMet l Z own_EL n0 yN18 (Jvm.Cond.code yN18 jdk_43_method_47_code 3 (some (.object "java/lang/String")) :: wc) ({ frames := 3, cells := 2, slots := 5, locals := 72 } : Room) #[(.ref b), (.int 0), (.int 1)] h0 [] (fun vq hq => ∃ (r : Addr), vq = some (.ref r)) := by
  refine own_enter #[.val (.ref b), .val (.int 0), .val (.int 1)] pn_java_lang_StringLatin1_newString___BII_Ljava_lang_String_ (fun _ => rfl) hWd.1 O0 all0 ?_
  intro p e s m below meth c T0 X0 hnm hret
  refine og_iloadN X0 1 d25_0 rfl rfl ?_
  refine og_ifY X0 7 d25_1 (XT.i0_ne_t (by decide)) (by decide) (by decide) ?_
  refine own_new X0 10 d25_7 (ow hw 121 rfl) (ow hw 5 rfl) (ow hw 6 rfl) (by decide) (by decide) rfl ?_
  intro T1 h1 b1 X1 K1 G1 U1 E1 D1
  have f2 : Fld Z h1 b1 "java/lang/String" "value" "[B" .null := D1 (Or.inr (ow hw 20 rfl)) (ty := (.array .byte)) (by decide)
  have f3 : Fld Z h1 b1 "java/lang/String" "coder" "B" (.int 0) := D1 (Or.inr (ow hw 21 rfl)) (ty := .byte) (by decide)
  refine og_dup X1 11 d25_10 rfl rfl ?_
  refine og_aloadN X1 12 d25_11 rfl rfl rfl ?_
  refine og_iloadN X1 13 d25_12 rfl rfl ?_
  refine og_iloadN X1 14 d25_13 rfl rfl ?_
  refine og_iloadN X1 15 d25_14 rfl rfl ?_
  refine og_iadd X1 16 d25_15 rfl ?_
  show OGo _ _ _ _ T1 (mkF m 16 #[.val (.ref b), .val (.int 0), .val (.int 1)] [(.int 1), (.int 0), (.ref b), (.ref b1), (.ref b1)])
  have f4 := q0.keep K1 nin0
  refine own_stat X1 19 (argsL := [(.ref b), (.int 0), (.int 1)]) (rest := [(.ref b1), (.ref b1)]) d25_16 (rf_cr201 l Z n0 h1 [] a0 hw hWd X1.old b kb e0 e1 f4 ) (ow hw 122 rfl) (ow hw 123 rfl) (ow hw 124 rfl) (ow hw 125 rfl) (by decide) (lenOf pd__28_5bBII_29_5bB rfl) rfl rfl rfl (W := 2) rfl (by decide) (by decide) (by decide) (by decide) all0 rfl ?_
  intro T5 h5 v5 X5 K5 hQ5
  obtain ⟨r5, kr5, rfl, ge_r5, f6⟩ := hQ5
  show OGo _ _ _ _ T5 (mkF m 19 #[.val (.ref b), .val (.int 0), .val (.int 1)] [(.ref r5), (.ref b1), (.ref b1)])
  refine og_iconst X5 20 (0 : Int32) d25_19 rfl rfl ?_
  have f7 := E1.keep K5
  have f8 := f2.keep K5 nin0
  have f9 := f3.keep K5 nin0
  refine own_spec X5 23 (a := b1) (argsL := [(.ref r5), (.int 0)]) (rest := [(.ref b1)]) d25_20 rfl (rm29 l Z n0 h5 [] a0 hw hWd X5.old b1 r5 .null (0 : Int32) f7 f8 f9 (own_svb X5 (om 0 rfl))) (ow hw 137 rfl) (ow hw 138 rfl) (ow hw 6 rfl) (ow hw 139 rfl) (by decide) (lenOf pd__28_5bBB_29V rfl) rfl rfl rfl (W := 1) rfl (by decide) (by decide) (by decide) (by decide) (allS (om 0 rfl) all0) rfl ?_
  intro T10 h10 v10 X10 K10 hQ10
  obtain rfl := hQ10
  show OGo _ _ _ _ T10 (mkF m 23 #[.val (.ref b), .val (.int 0), .val (.int 1)] [(.ref b1)])
  refine own_retA X10 d25_23 hret rfl rfl (by decide) (by decide) ?_
  exact ⟨b1, rfl⟩
theorem rf_sub201 (a0 : Array Value) (hw : OHw a0 Z) (hWd : OWorld Z a0) (O0 : Old Z n0 h0) (a : Addr) (x0 : Int32) (x1 : Int32) (q0 : OStr Z h0 a [x0, x1] h0.size) (q1 : ∀ c ∈ [x0, x1], ¬ c < 0 ∧ ¬ (255 : Int32) < c) :
    OMet l Z own_EL n0 yN15 (Jvm.Cond.code yN15 jdk_42_method_92_code 5 (some (.object "java/lang/String")) :: wc) ({ frames := 4, cells := 2, slots := 5, locals := 86 } : Room) #[(.ref a), (.int 0), (.int 1)] h0 [] (fun vq hq => ∃ (r : Addr), vq = some (.ref r)) := by
  refine own_enter #[.val (.ref a), .val (.int 0), .val (.int 1), .unset, .unset] pn_java_lang_String_substring__II_Ljava_lang_String_ (fun _ => rfl) hWd.1 O0 all0 ?_
  intro p e s m below meth c T0 X0 hnm hret
  obtain ⟨t, kt, NN, vv, eE, eC, eV, eA, cod, bd, l4⟩ := q0.latin (fun c hc => (q1 c hc).2)
  obtain ⟨-, rfl, rfl, -⟩ := cod.resolve_right fun q => absurd q.1 (by decide)
  have eA2 : Arv Z h0 t kt .byte (2 : Int32) [(.int (StrChars.lo8 x0)), (.int (StrChars.lo8 x1))] (.int 0) := eA
  refine og_aloadN X0 1 d18_0 rfl rfl rfl ?_
  refine own_strLen X0 4 d18_1 q0 (own_wL hw) (ow hw 5 rfl) hWd.2.1.1 hWd.2.1.2 (ow hw 76 rfl) (ow hw 46 rfl) (ow hw 48 rfl) (ow hw 47 rfl) rfl (W := 0) rfl (by decide) (by decide) (by decide) (by decide) rfl ?_
  intro T1 X2
  show OGo _ _ _ _ T1 (mkF m 4 #[.val (.ref a), .val (.int 0), .val (.int 1), .unset, .unset] [(.int 2)])
  refine og_istoreN X2 5 #[.val (.ref a), .val (.int 0), .val (.int 1), .val (.int 2), .unset] d18_4 rfl rfl ?_
  refine og_iloadN X2 6 d18_5 rfl rfl ?_
  refine og_iloadN X2 7 d18_6 rfl rfl ?_
  refine og_iloadN X2 8 d18_7 rfl rfl ?_
  refine own_stat X2 11 (argsL := [(.int 0), (.int 1), (.int 2)]) (rest := []) d18_8 (rm19 l Z n0 h0 [] a0 hw hWd X2.old (0 : Int32) (1 : Int32) (2 : Int32) (by decide) (by decide) (by decide) ) (ow hw 96 rfl) (ow hw 97 rfl) (ow hw 6 rfl) (ow hw 98 rfl) (by decide) (lenOf pd__28III_29V rfl) rfl rfl rfl (W := 0) rfl (by decide) (by decide) (by decide) (by decide) all0 rfl ?_
  intro T3 h3 v3 X3 K3 hQ3
  obtain rfl := hQ3
  show OGo _ _ _ _ T3 (mkF m 11 #[.val (.ref a), .val (.int 0), .val (.int 1), .val (.int 2), .unset] [])
  refine og_iloadN X3 12 d18_11 rfl rfl ?_
  refine og_ifN X3 15 d18_12 (XT.i0_ne_f (by decide)) rfl ?_
  refine og_iloadN X3 16 d18_15 rfl rfl ?_
  refine og_iloadN X3 17 d18_16 rfl rfl ?_
  refine og_icmpY X3 22 d18_17 (XT.ii_ne_t (by decide)) (by decide) (by decide) ?_
  refine og_iloadN X3 23 d18_22 rfl rfl ?_
  refine og_iloadN X3 24 d18_23 rfl rfl ?_
  refine og_isub X3 25 d18_24 rfl ?_
  show OGo _ _ _ _ T3 (mkF m 25 #[.val (.ref a), .val (.int 0), .val (.int 1), .val (.int 2), .unset] [(.int 1)])
  refine og_istore X3 27 #[.val (.ref a), .val (.int 0), .val (.int 1), .val (.int 2), .val (.int 1)] d18_25 rfl rfl ?_
  refine og_aloadN X3 28 d18_27 rfl rfl rfl ?_
  have f4 := eE.keep K3
  have f5 := eC.keep K3 nin0
  refine own_virt X3 31 (a := a) (argsL := []) (rest := []) d18_28 f4 (fun _ hZ => notFace_of_selects (args := #[]) (mvT hZ (ow hw 74 rfl))) (rm13 l Z n0 h3 [] a0 hw hWd X3.old a f5 ) (ow hw 71 rfl) (ow hw 72 rfl) (ow hw 74 rfl) (ow hw 73 rfl) (ow hw 6 rfl) (ow hw 75 rfl) (by decide) (lenOf pd__28_29Z rfl) rfl rfl rfl (W := 0) rfl (by decide) (by decide) (by decide) (by decide) all0 rfl ?_
  intro T6 h6 v6 X6 K6 hQ6
  obtain rfl := hQ6
  show OGo _ _ _ _ T6 (mkF m 31 #[.val (.ref a), .val (.int 0), .val (.int 1), .val (.int 2), .val (.int 1)] [(.int 1)])
  refine og_ifN X6 34 d18_31 (XT.i0_eq_f (by decide)) rfl ?_
  refine og_aloadN X6 35 d18_34 rfl rfl rfl ?_
  have f7 := eV.keep K3 nin0
  have f8 := f7.keep K6 nin0
  refine own_get X6 38 d18_35 (host := "") (Or.inl (ow hw 24 rfl)) Via.refl f8 rfl ?_
  intro T9 X10
  refine og_iloadN X10 39 d18_38 rfl rfl ?_
  refine og_iload X10 41 d18_39 rfl rfl ?_
  have f11 := eA2.keep K3 nin0
  have f12 := f11.keep K6 nin0
  refine own_stat X10 44 (argsL := [(.ref t), (.int 0), (.int 1)]) (rest := []) d18_41 (rf_ns201 l Z n0 h6 [] a0 hw hWd X10.old t kt (.int (StrChars.lo8 x0)) (.int (StrChars.lo8 x1)) f12 ) (ow hw 117 rfl) (ow hw 118 rfl) (ow hw 79 rfl) (ow hw 119 rfl) (by decide) (lenOf pd__28_5bBII_29Ljava_2flang_2fString_3b rfl) rfl rfl rfl (W := 0) rfl (by decide) (by decide) (by decide) (by decide) all0 rfl ?_
  intro T13 h13 v13 X13 K13 hQ13
  obtain ⟨r13, rfl⟩ := hQ13
  show OGo _ _ _ _ T13 (mkF m 44 #[.val (.ref a), .val (.int 0), .val (.int 1), .val (.int 2), .val (.int 1)] [(.ref r13)])
  refine og_goto X13 57 d18_44 (by decide) (by decide) ?_
  refine own_retA X13 d18_57 hret rfl rfl (by decide) (by decide) ?_
  exact ⟨r13, rfl⟩
theorem rf_txt201 (a0 : Array Value) (hw : OHw a0 Z) (hWd : OWorld Z a0) (O0 : Old Z n0 h0) (a : Addr) (u : Addr) (x0 : Int32) (x1 : Int32) (q0 : Exa Z h0 a "com/example/ratable/ratable/core/JournalSums$Fields") (q1 : Fld Z h0 a "com/example/ratable/ratable/core/JournalSums$Fields" "line" "Ljava/lang/String;" (.ref u)) (q2 : Fld Z h0 a "com/example/ratable/ratable/core/JournalSums$Fields" "next" "I" (.int 0)) (q3 : OStr Z h0 u [x0, x1] h0.size) (q4 : ∀ c ∈ [x0, x1], ¬ c < 0 ∧ ¬ (255 : Int32) < c) (q5 : ¬ x0 = (9 : Int32)) (q6 : x1 = (9 : Int32)) (g0 : n0 ≤ a ∧ a < h0.size) :
    OMet l Z own_EL n0 yN16 (Jvm.Cond.code yN16 prog_51_method_3_code 3 (some (.object "java/lang/String")) :: wc) ({ frames := 5, cells := 2, slots := 5, locals := 102 } : Room) #[(.ref a)] h0 [a] (fun vq hq => ∃ (r : Addr), vq = some (.ref r) ∧ Fld Z hq a "com/example/ratable/ratable/core/JournalSums$Fields" "line" "Ljava/lang/String;" (.ref u) ∧ Fld Z hq a "com/example/ratable/ratable/core/JournalSums$Fields" "next" "I" (.int 2)) := by
  refine own_enter #[.val (.ref a), .unset, .unset] pn_com_example_ratable_ratable_core_JournalSums_Fields_text___Ljava_lang_String_ (fun _ => rfl) hWd.1 O0 (allS g0 all0) ?_
  intro p e s m below meth c T0 X0 hnm hret
  refine og_aloadN X0 1 d10_0 rfl rfl rfl ?_
  refine own_priv X0 4 (a := a) (argsL := []) (rest := []) d10_1 q0 (rf_end201 l Z n0 h0 [] a0 hw hWd X0.old a u x0 x1 q0 q1 q2 q3.top q4 q5 q6 ) (ow hw 61 rfl) (ow hw 62 rfl) (own_selfsel2 (ow hw 41 rfl) rfl (ow hw 62 rfl) (ow hw 63 rfl) (by decide)) (ow hw 63 rfl) (ow hw 31 rfl) (ow hw 64 rfl) (by decide) (lenOf pd__28_29I rfl) rfl rfl rfl (W := 0) rfl (by decide) (by decide) (by decide) (by decide) all0 rfl ?_
  intro T1 h1 v1 X1 K1 hQ1
  obtain rfl := hQ1
  show OGo _ _ _ _ T1 (mkF m 4 #[.val (.ref a), .unset, .unset] [(.int 1)])
  refine og_istoreN X1 5 #[.val (.ref a), .val (.int 1), .unset] d10_4 rfl rfl ?_
  refine og_aloadN X1 6 d10_5 rfl rfl rfl ?_
  have f2 := q1.keep K1 nin0
  refine own_get X1 9 d10_6 (host := "") (Or.inl (ow hw 36 rfl)) Via.refl f2 rfl ?_
  intro T3 X4
  refine og_aloadN X4 10 d10_9 rfl rfl rfl ?_
  have f5 := q2.keep K1 nin0
  refine own_get X4 13 d10_10 (host := "") (Or.inl (ow hw 43 rfl)) Via.refl f5 rfl ?_
  intro T6 X7
  refine og_iloadN X7 14 d10_13 rfl rfl ?_
  have f8 := q3.exa.keep K1
  have f9 := q3.keep K1 all0
  refine own_virt X7 17 (a := u) (argsL := [(.int 0), (.int 1)]) (rest := []) d10_14 f8 (fun _ hZ => notFace_of_selects (args := #[]) (mvT hZ (ow hw 94 rfl))) (rf_sub201 l Z n0 h1 [] a0 hw hWd X7.old u x0 x1 f9.top q4 ) (ow hw 91 rfl) (ow hw 92 rfl) (ow hw 94 rfl) (ow hw 93 rfl) (ow hw 6 rfl) (ow hw 95 rfl) (by decide) (lenOf pd__28II_29Ljava_2flang_2fString_3b rfl) rfl rfl rfl (W := 0) rfl (by decide) (by decide) (by decide) (by decide) all0 rfl ?_
  intro T10 h10 v10 X10 K10 hQ10
  obtain ⟨r10, rfl⟩ := hQ10
  show OGo _ _ _ _ T10 (mkF m 17 #[.val (.ref a), .val (.int 1), .unset] [(.ref r10)])
  refine og_astoreN X10 18 #[.val (.ref a), .val (.int 1), .val (.ref r10)] d10_17 rfl rfl rfl ?_
  refine og_aloadN X10 19 d10_18 rfl rfl rfl ?_
  refine og_iloadN X10 20 d10_19 rfl rfl ?_
  refine og_iconst X10 21 (1 : Int32) d10_20 rfl rfl ?_
  refine og_iadd X10 22 d10_21 rfl ?_
  show OGo _ _ _ _ T10 (mkF m 22 #[.val (.ref a), .val (.int 1), .val (.ref r10)] [(.int 2), (.ref a)])
  have f11 := f5.keep K10 nin0
  have f12 := q0.keep K1
  have f13 := f12.keep K10
  have f14 := f2.keep K10 nin0
  refine own_put X10 25 d10_22 (host := "") (Or.inl (ow hw 43 rfl)) Via.refl f11 f13 (Or.inl (ow hw 44 rfl)) (ow hw 30 rfl) (ty := .int) (by decide) rfl rfl (om 0 rfl) rfl ?_
  intro T15 h15 X15 W15 K15 F15
  have f16 := Fld.other W15 f14 (Or.inr (slot_ne (Or.inr (ow hw 37 rfl)) (Or.inl (ow hw 44 rfl)) (by decide) (t := (.object "java/lang/String")) (t' := .int) (by decide) (by decide)))
  refine og_aloadN X15 26 d10_25 rfl rfl rfl ?_
  refine own_retA X15 d10_26 hret rfl rfl (by decide) (by decide) ?_
  exact ⟨r10, rfl, f16, F15⟩
theorem rf_end202 (a0 : Array Value) (hw : OHw a0 Z) (hWd : OWorld Z a0) (O0 : Old Z n0 h0) (a : Addr) (u : Addr) (x0 : Int32) (x1 : Int32) (q0 : Exa Z h0 a "com/example/ratable/ratable/core/JournalSums$Fields") (q1 : Fld Z h0 a "com/example/ratable/ratable/core/JournalSums$Fields" "line" "Ljava/lang/String;" (.ref u)) (q2 : Fld Z h0 a "com/example/ratable/ratable/core/JournalSums$Fields" "next" "I" (.int 0)) (q3 : OStr Z h0 u [x0, x1] h0.size) (q4 : ∀ c ∈ [x0, x1], ¬ c < 0 ∧ ¬ (255 : Int32) < c) (q5 : ¬ x0 = (9 : Int32)) (q6 : ¬ x1 = (9 : Int32)) :
    OMet l Z own_EL n0 yN14 (Jvm.Cond.code yN14 prog_51_method_8_code 2 (some .int) :: wc) ({ frames := 3, cells := 0, slots := 0, locals := 46 } : Room) #[(.ref a)] h0 [] (fun vq hq => vq = some (.int 2)) := by
  refine own_enter #[.val (.ref a), .unset] pn_com_example_ratable_ratable_core_JournalSums_Fields_end___I (fun _ => rfl) hWd.1 O0 all0 ?_
  intro p e s m below meth c T0 X0 hnm hret
  refine og_aloadN X0 1 d11_0 rfl rfl rfl ?_
  refine own_virt X0 4 (a := a) (argsL := []) (rest := []) d11_1 q0 (fun _ hZ => notFace_of_selects (args := #[]) (mvT hZ (ow hw 41 rfl))) (rm_more1 l Z n0 h0 [] a0 hw hWd X0.old a u [x0, x1] (0 : Int32) q1 q2 q3.top (show ¬ (2 : Int32) < (0 : Int32) by decide) ) (ow hw 65 rfl) (ow hw 39 rfl) (ow hw 41 rfl) (ow hw 40 rfl) (ow hw 31 rfl) (ow hw 42 rfl) (by decide) (lenOf pd__28_29Z rfl) rfl rfl rfl (W := 0) rfl (by decide) (by decide) (by decide) (by decide) all0 rfl ?_
  intro T1 h1 v1 X1 K1 hQ1
  obtain rfl := hQ1
  show OGo _ _ _ _ T1 (mkF m 4 #[.val (.ref a), .unset] [(.int 1)])
  refine og_ifY X1 37 d11_4 (XT.i0_ne_t (by decide)) (by decide) (by decide) ?_
  refine og_aloadN X1 38 d11_37 rfl rfl rfl ?_
  have f2 := q1.keep K1 nin0
  refine own_get X1 41 d11_38 (host := "") (Or.inl (ow hw 36 rfl)) Via.refl f2 rfl ?_
  intro T3 X4
  refine og_bipush X4 43 (9 : Int32) d11_41 rfl rfl ?_
  refine og_aloadN X4 44 d11_43 rfl rfl rfl ?_
  have f5 := q2.keep K1 nin0
  refine own_get X4 47 d11_44 (host := "") (Or.inl (ow hw 43 rfl)) Via.refl f5 rfl ?_
  intro T6 X7
  have f8 := q3.exa.keep K1
  have f9 := q3.keep K1 all0
  refine own_virt X7 50 (a := u) (argsL := [(.int 9), (.int 0)]) (rest := []) d11_47 f8 (fun _ hZ => notFace_of_selects (args := #[]) (mvT hZ (ow hw 69 rfl))) (rf_ios20 l Z n0 h1 [] a0 hw hWd X7.old u x0 x1 f9.top q4 ) (ow hw 66 rfl) (ow hw 67 rfl) (ow hw 69 rfl) (ow hw 68 rfl) (ow hw 6 rfl) (ow hw 70 rfl) (by decide) (lenOf pd__28II_29I rfl) rfl rfl rfl (W := 0) rfl (by decide) (by decide) (by decide) (by decide) all0 rfl ?_
  intro T10 h10 v10 X10 K10 hQ10
  obtain rfl := hQ10
  show OGo _ _ _ _ T10 (mkF m 50 #[.val (.ref a), .unset] [(.int (own_ix [x0, x1] 0))])
  rw [show (own_ix [x0, x1] 0) = (-1 : Int32) by (first | rfl | (simp only [own_ix, own_ixA, List.drop, if_true, if_false, q5, q6]; done) | (simp only [own_ix, own_ixA, List.drop, if_true, if_false, q5, q6]; rfl))]
  refine og_istoreN X10 51 #[.val (.ref a), .val (.int (-1 : Int32))] d11_50 rfl rfl ?_
  refine og_iloadN X10 52 d11_51 rfl rfl ?_
  refine og_ifN X10 55 d11_52 (XT.i0_ge_f (by decide)) rfl ?_
  refine og_aloadN X10 56 d11_55 rfl rfl rfl ?_
  have f11 := f2.keep K10 nin0
  refine own_get X10 59 d11_56 (host := "") (Or.inl (ow hw 36 rfl)) Via.refl f11 rfl ?_
  intro T12 X13
  have f14 := f9.keep K10 all0
  refine own_strLen X13 62 d11_59 f14 (own_wL hw) (ow hw 5 rfl) hWd.2.1.1 hWd.2.1.2 (ow hw 45 rfl) (ow hw 46 rfl) (ow hw 48 rfl) (ow hw 47 rfl) rfl (W := 0) rfl (by decide) (by decide) (by decide) (by decide) rfl ?_
  intro T15 X16
  show OGo _ _ _ _ T15 (mkF m 62 #[.val (.ref a), .val (.int (-1 : Int32))] [(.int 2)])
  refine og_goto X16 66 d11_62 (by decide) (by decide) ?_
  refine own_retI X16 d11_66 hret (by decide) (by decide) ?_
  exact rfl
theorem rf_sub202 (a0 : Array Value) (hw : OHw a0 Z) (hWd : OWorld Z a0) (O0 : Old Z n0 h0) (a : Addr) (x0 : Int32) (x1 : Int32) (q0 : OStr Z h0 a [x0, x1] h0.size) (q1 : ∀ c ∈ [x0, x1], ¬ c < 0 ∧ ¬ (255 : Int32) < c) :
    OMet l Z own_EL n0 yN15 (Jvm.Cond.code yN15 jdk_42_method_92_code 5 (some (.object "java/lang/String")) :: wc) ({ frames := 2, cells := 0, slots := 0, locals := 29 } : Room) #[(.ref a), (.int 0), (.int 2)] h0 [] (fun vq hq => ∃ (r : Addr), vq = some (.ref r)) := by
  refine own_enter #[.val (.ref a), .val (.int 0), .val (.int 2), .unset, .unset] pn_java_lang_String_substring__II_Ljava_lang_String_ (fun _ => rfl) hWd.1 O0 all0 ?_
  intro p e s m below meth c T0 X0 hnm hret
  obtain ⟨t, kt, NN, vv, eE, eC, eV, eA, cod, bd, l4⟩ := q0.latin (fun c hc => (q1 c hc).2)
  obtain ⟨-, rfl, rfl, -⟩ := cod.resolve_right fun q => absurd q.1 (by decide)
  have eA2 : Arv Z h0 t kt .byte (2 : Int32) [(.int (StrChars.lo8 x0)), (.int (StrChars.lo8 x1))] (.int 0) := eA
  refine og_aloadN X0 1 d18_0 rfl rfl rfl ?_
  refine own_strLen X0 4 d18_1 q0 (own_wL hw) (ow hw 5 rfl) hWd.2.1.1 hWd.2.1.2 (ow hw 76 rfl) (ow hw 46 rfl) (ow hw 48 rfl) (ow hw 47 rfl) rfl (W := 0) rfl (by decide) (by decide) (by decide) (by decide) rfl ?_
  intro T1 X2
  show OGo _ _ _ _ T1 (mkF m 4 #[.val (.ref a), .val (.int 0), .val (.int 2), .unset, .unset] [(.int 2)])
  refine og_istoreN X2 5 #[.val (.ref a), .val (.int 0), .val (.int 2), .val (.int 2), .unset] d18_4 rfl rfl ?_
  refine og_iloadN X2 6 d18_5 rfl rfl ?_
  refine og_iloadN X2 7 d18_6 rfl rfl ?_
  refine og_iloadN X2 8 d18_7 rfl rfl ?_
  refine own_stat X2 11 (argsL := [(.int 0), (.int 2), (.int 2)]) (rest := []) d18_8 (rm19 l Z n0 h0 [] a0 hw hWd X2.old (0 : Int32) (2 : Int32) (2 : Int32) (by decide) (by decide) (by decide) ) (ow hw 96 rfl) (ow hw 97 rfl) (ow hw 6 rfl) (ow hw 98 rfl) (by decide) (lenOf pd__28III_29V rfl) rfl rfl rfl (W := 0) rfl (by decide) (by decide) (by decide) (by decide) all0 rfl ?_
  intro T3 h3 v3 X3 K3 hQ3
  obtain rfl := hQ3
  show OGo _ _ _ _ T3 (mkF m 11 #[.val (.ref a), .val (.int 0), .val (.int 2), .val (.int 2), .unset] [])
  refine og_iloadN X3 12 d18_11 rfl rfl ?_
  refine og_ifN X3 15 d18_12 (XT.i0_ne_f (by decide)) rfl ?_
  refine og_iloadN X3 16 d18_15 rfl rfl ?_
  refine og_iloadN X3 17 d18_16 rfl rfl ?_
  refine og_icmpN X3 20 d18_17 (XT.ii_ne_f (by decide)) rfl ?_
  refine og_aloadN X3 21 d18_20 rfl rfl rfl ?_
  refine own_retA X3 d18_21 hret rfl rfl (by decide) (by decide) ?_
  exact ⟨a, rfl⟩
theorem rf_txt202 (a0 : Array Value) (hw : OHw a0 Z) (hWd : OWorld Z a0) (O0 : Old Z n0 h0) (a : Addr) (u : Addr) (x0 : Int32) (x1 : Int32) (q0 : Exa Z h0 a "com/example/ratable/ratable/core/JournalSums$Fields") (q1 : Fld Z h0 a "com/example/ratable/ratable/core/JournalSums$Fields" "line" "Ljava/lang/String;" (.ref u)) (q2 : Fld Z h0 a "com/example/ratable/ratable/core/JournalSums$Fields" "next" "I" (.int 0)) (q3 : OStr Z h0 u [x0, x1] h0.size) (q4 : ∀ c ∈ [x0, x1], ¬ c < 0 ∧ ¬ (255 : Int32) < c) (q5 : ¬ x0 = (9 : Int32)) (q6 : ¬ x1 = (9 : Int32)) (g0 : n0 ≤ a ∧ a < h0.size) :
    OMet l Z own_EL n0 yN16 (Jvm.Cond.code yN16 prog_51_method_3_code 3 (some (.object "java/lang/String")) :: wc) ({ frames := 4, cells := 0, slots := 0, locals := 59 } : Room) #[(.ref a)] h0 [a] (fun vq hq => ∃ (r : Addr), vq = some (.ref r) ∧ Fld Z hq a "com/example/ratable/ratable/core/JournalSums$Fields" "line" "Ljava/lang/String;" (.ref u) ∧ Fld Z hq a "com/example/ratable/ratable/core/JournalSums$Fields" "next" "I" (.int 3)) := by
  refine own_enter #[.val (.ref a), .unset, .unset] pn_com_example_ratable_ratable_core_JournalSums_Fields_text___Ljava_lang_String_ (fun _ => rfl) hWd.1 O0 (allS g0 all0) ?_
  intro p e s m below meth c T0 X0 hnm hret
  refine og_aloadN X0 1 d10_0 rfl rfl rfl ?_
  refine own_priv X0 4 (a := a) (argsL := []) (rest := []) d10_1 q0 (rf_end202 l Z n0 h0 [] a0 hw hWd X0.old a u x0 x1 q0 q1 q2 q3.top q4 q5 q6 ) (ow hw 61 rfl) (ow hw 62 rfl) (own_selfsel2 (ow hw 41 rfl) rfl (ow hw 62 rfl) (ow hw 63 rfl) (by decide)) (ow hw 63 rfl) (ow hw 31 rfl) (ow hw 64 rfl) (by decide) (lenOf pd__28_29I rfl) rfl rfl rfl (W := 0) rfl (by decide) (by decide) (by decide) (by decide) all0 rfl ?_
  intro T1 h1 v1 X1 K1 hQ1
  obtain rfl := hQ1
  show OGo _ _ _ _ T1 (mkF m 4 #[.val (.ref a), .unset, .unset] [(.int 2)])
  refine og_istoreN X1 5 #[.val (.ref a), .val (.int 2), .unset] d10_4 rfl rfl ?_
  refine og_aloadN X1 6 d10_5 rfl rfl rfl ?_
  have f2 := q1.keep K1 nin0
  refine own_get X1 9 d10_6 (host := "") (Or.inl (ow hw 36 rfl)) Via.refl f2 rfl ?_
  intro T3 X4
  refine og_aloadN X4 10 d10_9 rfl rfl rfl ?_
  have f5 := q2.keep K1 nin0
  refine own_get X4 13 d10_10 (host := "") (Or.inl (ow hw 43 rfl)) Via.refl f5 rfl ?_
  intro T6 X7
  refine og_iloadN X7 14 d10_13 rfl rfl ?_
  have f8 := q3.exa.keep K1
  have f9 := q3.keep K1 all0
  refine own_virt X7 17 (a := u) (argsL := [(.int 0), (.int 2)]) (rest := []) d10_14 f8 (fun _ hZ => notFace_of_selects (args := #[]) (mvT hZ (ow hw 94 rfl))) (rf_sub202 l Z n0 h1 [] a0 hw hWd X7.old u x0 x1 f9.top q4 ) (ow hw 91 rfl) (ow hw 92 rfl) (ow hw 94 rfl) (ow hw 93 rfl) (ow hw 6 rfl) (ow hw 95 rfl) (by decide) (lenOf pd__28II_29Ljava_2flang_2fString_3b rfl) rfl rfl rfl (W := 0) rfl (by decide) (by decide) (by decide) (by decide) all0 rfl ?_
  intro T10 h10 v10 X10 K10 hQ10
  obtain ⟨r10, rfl⟩ := hQ10
  show OGo _ _ _ _ T10 (mkF m 17 #[.val (.ref a), .val (.int 2), .unset] [(.ref r10)])
  refine og_astoreN X10 18 #[.val (.ref a), .val (.int 2), .val (.ref r10)] d10_17 rfl rfl rfl ?_
  refine og_aloadN X10 19 d10_18 rfl rfl rfl ?_
  refine og_iloadN X10 20 d10_19 rfl rfl ?_
  refine og_iconst X10 21 (1 : Int32) d10_20 rfl rfl ?_
  refine og_iadd X10 22 d10_21 rfl ?_
  show OGo _ _ _ _ T10 (mkF m 22 #[.val (.ref a), .val (.int 2), .val (.ref r10)] [(.int 3), (.ref a)])
  have f11 := f5.keep K10 nin0
  have f12 := q0.keep K1
  have f13 := f12.keep K10
  have f14 := f2.keep K10 nin0
  refine own_put X10 25 d10_22 (host := "") (Or.inl (ow hw 43 rfl)) Via.refl f11 f13 (Or.inl (ow hw 44 rfl)) (ow hw 30 rfl) (ty := .int) (by decide) rfl rfl (om 0 rfl) rfl ?_
  intro T15 h15 X15 W15 K15 F15
  have f16 := Fld.other W15 f14 (Or.inr (slot_ne (Or.inr (ow hw 37 rfl)) (Or.inl (ow hw 44 rfl)) (by decide) (t := (.object "java/lang/String")) (t' := .int) (by decide) (by decide)))
  refine og_aloadN X15 26 d10_25 rfl rfl rfl ?_
  refine own_retA X15 d10_26 hret rfl rfl (by decide) (by decide) ?_
  exact ⟨r10, rfl, f16, F15⟩
theorem rf_ioc21 (a0 : Array Value) (hw : OHw a0 Z) (hWd : OWorld Z a0) (O0 : Old Z n0 h0) (b : Addr) (kb : ClassId) (x0 : Int32) (x1 : Int32) (q0 : Arv Z h0 b kb .byte (2 : Int32) [(.int (StrChars.lo8 x0)), (.int (StrChars.lo8 x1))] (.int 0)) (q1 : ∀ c ∈ [x0, x1], ¬ c < 0 ∧ ¬ (255 : Int32) < c) :
    OMet l Z own_EL n0 yN17 (Jvm.Cond.code yN17 jdk_43_method_23_code 6 (some .int) :: wc) ({ frames := 0, cells := 0, slots := 0, locals := 0 } : Room) #[(.ref b), (.int 9), (.int 1), (.int 2)] h0 [] (fun vq hq => vq = some (.int (own_ix [x0, x1] 1))) := by
  refine own_enter #[.val (.ref b), .val (.int 9), .val (.int 1), .val (.int 2), .unset, .unset] pn_java_lang_StringLatin1_indexOfChar___BIII_I (fun _ => rfl) hWd.1 O0 all0 ?_
  intro p e s m below meth c T0 X0 hnm hret
  refine og_iloadN X0 1 d24_0 rfl rfl ?_
  refine og_i2b X0 2 d24_1 rfl ?_
  show OGo _ _ _ _ T0 (mkF m 2 #[.val (.ref b), .val (.int 9), .val (.int 1), .val (.int 2), .unset, .unset] [(.int 9)])
  refine og_istore X0 4 #[.val (.ref b), .val (.int 9), .val (.int 1), .val (.int 2), .val (.int 9), .unset] d24_2 rfl rfl ?_
  refine og_iloadN X0 5 d24_4 rfl rfl ?_
  refine og_istore X0 7 #[.val (.ref b), .val (.int 9), .val (.int 1), .val (.int 2), .val (.int 9), .val (.int 1)] d24_5 rfl rfl ?_
  refine og_iload X0 9 d24_7 rfl rfl ?_
  refine og_iloadN X0 10 d24_9 rfl rfl ?_
  refine og_icmpN X0 13 d24_10 (XT.ii_ge_f (by decide)) rfl ?_
  refine og_aloadN X0 14 d24_13 rfl rfl rfl ?_
  refine og_iload X0 16 d24_14 rfl rfl ?_
  refine own_ldB X0 17 d24_16 q0 (by decide) (by decide) rfl rfl ?_
  refine og_iload X0 19 d24_17 rfl rfl ?_
  by_cases hc1 : (StrChars.lo8 x1) = (9 : Int32)
  · -- (StrChars.lo8 x1) = (9 : Int32)
    refine og_icmpN X0 22 d24_19 (XT.ii_ne_f hc1) rfl ?_
    refine og_iload X0 24 d24_22 rfl rfl ?_
    refine own_retI X0 d24_24 hret (by decide) (by decide) ?_
    (first | rfl | (simp only [own_ix, own_ixA, List.drop, if_true, if_false, own_tab2 (q1 _ (om 1 rfl)) hc1]; done) | (simp only [own_ix, own_ixA, List.drop, if_true, if_false, own_tab2 (q1 _ (om 1 rfl)) hc1]; rfl))
  · -- not
    refine og_icmpY X0 25 d24_19 (XT.ii_ne_t hc1) (by decide) (by decide) ?_
    refine og_iinc X0 28 #[.val (.ref b), .val (.int 9), .val (.int 1), .val (.int 2), .val (.int 9), .val (.int 2)] d24_25 rfl rfl rfl ?_
    refine og_goto X0 7 d24_28 (by decide) (by decide) ?_
    refine og_iload X0 9 d24_7 rfl rfl ?_
    refine og_iloadN X0 10 d24_9 rfl rfl ?_
    refine og_icmpY X0 31 d24_10 (XT.ii_ge_t (by decide)) (by decide) (by decide) ?_
    refine og_iconst X0 32 (-1 : Int32) d24_31 rfl rfl ?_
    refine own_retI X0 d24_32 hret (by decide) (by decide) ?_
    (first | rfl | (simp only [own_ix, own_ixA, List.drop, if_true, if_false, own_tab3 hc1]; done) | (simp only [own_ix, own_ixA, List.drop, if_true, if_false, own_tab3 hc1]; rfl))
theorem rf_iol21 (a0 : Array Value) (hw : OHw a0 Z) (hWd : OWorld Z a0) (O0 : Old Z n0 h0) (b : Addr) (kb : ClassId) (x0 : Int32) (x1 : Int32) (q0 : Arv Z h0 b kb .byte (2 : Int32) [(.int (StrChars.lo8 x0)), (.int (StrChars.lo8 x1))] (.int 0)) (q1 : ∀ c ∈ [x0, x1], ¬ c < 0 ∧ ¬ (255 : Int32) < c) :
    OMet l Z own_EL n0 yN12 (Jvm.Cond.code yN12 jdk_43_method_22_code 4 (some .int) :: wc) ({ frames := 1, cells := 0, slots := 0, locals := 17 } : Room) #[(.ref b), (.int 9), (.int 1), (.int 2)] h0 [] (fun vq hq => vq = some (.int (own_ix [x0, x1] 1))) := by
  refine own_enter #[.val (.ref b), .val (.int 9), .val (.int 1), .val (.int 2)] pn_java_lang_StringLatin1_indexOf___BIII_I (fun _ => rfl) hWd.1 O0 all0 ?_
  intro p e s m below meth c T0 X0 hnm hret
  refine og_iloadN X0 1 d14_0 rfl rfl ?_
  refine own_stat X0 4 (argsL := [(.int 9)]) (rest := []) d14_1 (rm15 l Z n0 h0 [] a0 hw hWd X0.old   ) (ow hw 81 rfl) (ow hw 82 rfl) (ow hw 79 rfl) (ow hw 83 rfl) (by decide) (lenOf pd__28I_29Z rfl) rfl rfl rfl (W := 0) rfl (by decide) (by decide) (by decide) (by decide) all0 rfl ?_
  intro T1 h1 v1 X1 K1 hQ1
  obtain rfl := hQ1
  show OGo _ _ _ _ T1 (mkF m 4 #[.val (.ref b), .val (.int 9), .val (.int 1), .val (.int 2)] [(.int 1)])
  refine og_ifY X1 9 d14_4 (XT.i0_ne_t (by decide)) (by decide) (by decide) ?_
  refine og_iloadN X1 10 d14_9 rfl rfl ?_
  refine og_iconst X1 11 (0 : Int32) d14_10 rfl rfl ?_
  refine own_stat X1 14 (argsL := [(.int 1), (.int 0)]) (rest := []) d14_11 (rm16 l Z n0 h1 [] a0 hw hWd X1.old (1 : Int32) (0 : Int32) (by decide) ) (ow hw 84 rfl) (ow hw 85 rfl) (ow hw 86 rfl) (ow hw 87 rfl) (by decide) (lenOf pd__28II_29I rfl) rfl rfl rfl (W := 0) rfl (by decide) (by decide) (by decide) (by decide) all0 rfl ?_
  intro T2 h2 v2 X2 K2 hQ2
  obtain rfl := hQ2
  show OGo _ _ _ _ T2 (mkF m 14 #[.val (.ref b), .val (.int 9), .val (.int 1), .val (.int 2)] [(.int 1)])
  refine og_istoreN X2 15 #[.val (.ref b), .val (.int 9), .val (.int 1), .val (.int 2)] d14_14 rfl rfl ?_
  refine og_iloadN X2 16 d14_15 rfl rfl ?_
  refine og_aloadN X2 17 d14_16 rfl rfl rfl ?_
  have f3 := q0.keep K1 nin0
  have f4 := f3.keep K2 nin0
  refine own_len X2 18 d14_17 f4 rfl ?_
  refine own_stat X2 21 (argsL := [(.int 2), (.int 2)]) (rest := []) d14_18 (rm_min0 l Z n0 h2 [] a0 hw hWd X2.old (2 : Int32) (2 : Int32) (by decide) ) (ow hw 88 rfl) (ow hw 89 rfl) (ow hw 86 rfl) (ow hw 90 rfl) (by decide) (lenOf pd__28II_29I rfl) rfl rfl rfl (W := 0) rfl (by decide) (by decide) (by decide) (by decide) all0 rfl ?_
  intro T5 h5 v5 X5 K5 hQ5
  obtain rfl := hQ5
  show OGo _ _ _ _ T5 (mkF m 21 #[.val (.ref b), .val (.int 9), .val (.int 1), .val (.int 2)] [(.int 2)])
  refine og_istoreN X5 22 #[.val (.ref b), .val (.int 9), .val (.int 1), .val (.int 2)] d14_21 rfl rfl ?_
  refine og_iloadN X5 23 d14_22 rfl rfl ?_
  refine og_iloadN X5 24 d14_23 rfl rfl ?_
  refine og_icmpY X5 29 d14_24 (XT.ii_lt_t (by decide)) (by decide) (by decide) ?_
  refine og_aloadN X5 30 d14_29 rfl rfl rfl ?_
  refine og_iloadN X5 31 d14_30 rfl rfl ?_
  refine og_iloadN X5 32 d14_31 rfl rfl ?_
  refine og_iloadN X5 33 d14_32 rfl rfl ?_
  have f6 := f4.keep K5 nin0
  refine own_stat X5 36 (argsL := [(.ref b), (.int 9), (.int 1), (.int 2)]) (rest := []) d14_33 (rf_ioc21 l Z n0 h5 [] a0 hw hWd X5.old b kb x0 x1 f6 q1 ) (ow hw 114 rfl) (ow hw 115 rfl) (ow hw 79 rfl) (ow hw 116 rfl) (by decide) (lenOf pd__28_5bBIII_29I rfl) rfl rfl rfl (W := 0) rfl (by decide) (by decide) (by decide) (by decide) all0 rfl ?_
  intro T7 h7 v7 X7 K7 hQ7
  obtain rfl := hQ7
  show OGo _ _ _ _ T7 (mkF m 36 #[.val (.ref b), .val (.int 9), .val (.int 1), .val (.int 2)] [(.int (own_ix [x0, x1] 1))])
  refine own_retI X7 d14_36 hret (by decide) (by decide) ?_
  exact rfl
theorem rf_ios21 (a0 : Array Value) (hw : OHw a0 Z) (hWd : OWorld Z a0) (O0 : Old Z n0 h0) (a : Addr) (x0 : Int32) (x1 : Int32) (q0 : OStr Z h0 a [x0, x1] h0.size) (q1 : ∀ c ∈ [x0, x1], ¬ c < 0 ∧ ¬ (255 : Int32) < c) :
    OMet l Z own_EL n0 yN13 (Jvm.Cond.code yN13 jdk_42_method_80_code 3 (some .int) :: wc) ({ frames := 2, cells := 0, slots := 0, locals := 32 } : Room) #[(.ref a), (.int 9), (.int 1)] h0 [] (fun vq hq => vq = some (.int (own_ix [x0, x1] 1))) := by
  refine own_enter #[.val (.ref a), .val (.int 9), .val (.int 1)] pn_java_lang_String_indexOf__II_I (fun _ => rfl) hWd.1 O0 all0 ?_
  intro p e s m below meth c T0 X0 hnm hret
  obtain ⟨t, kt, NN, vv, eE, eC, eV, eA, cod, bd, l4⟩ := q0.latin (fun c hc => (q1 c hc).2)
  obtain ⟨-, rfl, rfl, -⟩ := cod.resolve_right fun q => absurd q.1 (by decide)
  have eA2 : Arv Z h0 t kt .byte (2 : Int32) [(.int (StrChars.lo8 x0)), (.int (StrChars.lo8 x1))] (.int 0) := eA
  refine og_aloadN X0 1 d12_0 rfl rfl rfl ?_
  refine own_virt X0 4 (a := a) (argsL := []) (rest := []) d12_1 eE (fun _ hZ => notFace_of_selects (args := #[]) (mvT hZ (ow hw 74 rfl))) (rm13 l Z n0 h0 [] a0 hw hWd X0.old a eC ) (ow hw 71 rfl) (ow hw 72 rfl) (ow hw 74 rfl) (ow hw 73 rfl) (ow hw 6 rfl) (ow hw 75 rfl) (by decide) (lenOf pd__28_29Z rfl) rfl rfl rfl (W := 0) rfl (by decide) (by decide) (by decide) (by decide) all0 rfl ?_
  intro T1 h1 v1 X1 K1 hQ1
  obtain rfl := hQ1
  show OGo _ _ _ _ T1 (mkF m 4 #[.val (.ref a), .val (.int 9), .val (.int 1)] [(.int 1)])
  refine og_ifN X1 7 d12_4 (XT.i0_eq_f (by decide)) rfl ?_
  refine og_aloadN X1 8 d12_7 rfl rfl rfl ?_
  have f2 := eV.keep K1 nin0
  refine own_get X1 11 d12_8 (host := "") (Or.inl (ow hw 24 rfl)) Via.refl f2 rfl ?_
  intro T3 X4
  refine og_iloadN X4 12 d12_11 rfl rfl ?_
  refine og_iloadN X4 13 d12_12 rfl rfl ?_
  refine og_aloadN X4 14 d12_13 rfl rfl rfl ?_
  have f5 := q0.keep K1 all0
  refine own_strLen X4 17 d12_14 f5 (own_wL hw) (ow hw 5 rfl) hWd.2.1.1 hWd.2.1.2 (ow hw 76 rfl) (ow hw 46 rfl) (ow hw 48 rfl) (ow hw 47 rfl) rfl (W := 3) rfl (by decide) (by decide) (by decide) (by decide) rfl ?_
  intro T6 X7
  show OGo _ _ _ _ T6 (mkF m 17 #[.val (.ref a), .val (.int 9), .val (.int 1)] [(.int 2), (.int 1), (.int 9), (.ref t)])
  have f8 := eA2.keep K1 nin0
  refine own_stat X7 20 (argsL := [(.ref t), (.int 9), (.int 1), (.int 2)]) (rest := []) d12_17 (rf_iol21 l Z n0 h1 [] a0 hw hWd X7.old t kt x0 x1 f8 q1 ) (ow hw 77 rfl) (ow hw 78 rfl) (ow hw 79 rfl) (ow hw 80 rfl) (by decide) (lenOf pd__28_5bBIII_29I rfl) rfl rfl rfl (W := 0) rfl (by decide) (by decide) (by decide) (by decide) all0 rfl ?_
  intro T9 h9 v9 X9 K9 hQ9
  obtain rfl := hQ9
  show OGo _ _ _ _ T9 (mkF m 20 #[.val (.ref a), .val (.int 9), .val (.int 1)] [(.int (own_ix [x0, x1] 1))])
  refine og_goto X9 36 d12_20 (by decide) (by decide) ?_
  refine own_retI X9 d12_36 hret (by decide) (by decide) ?_
  exact rfl
theorem rf_end211 (a0 : Array Value) (hw : OHw a0 Z) (hWd : OWorld Z a0) (O0 : Old Z n0 h0) (a : Addr) (u : Addr) (x0 : Int32) (x1 : Int32) (q0 : Exa Z h0 a "com/example/ratable/ratable/core/JournalSums$Fields") (q1 : Fld Z h0 a "com/example/ratable/ratable/core/JournalSums$Fields" "line" "Ljava/lang/String;" (.ref u)) (q2 : Fld Z h0 a "com/example/ratable/ratable/core/JournalSums$Fields" "next" "I" (.int 1)) (q3 : OStr Z h0 u [x0, x1] h0.size) (q4 : ∀ c ∈ [x0, x1], ¬ c < 0 ∧ ¬ (255 : Int32) < c) (q5 : x1 = (9 : Int32)) :
    OMet l Z own_EL n0 yN14 (Jvm.Cond.code yN14 prog_51_method_8_code 2 (some .int) :: wc) ({ frames := 3, cells := 0, slots := 0, locals := 46 } : Room) #[(.ref a)] h0 [] (fun vq hq => vq = some (.int 1)) := by
  refine own_enter #[.val (.ref a), .unset] pn_com_example_ratable_ratable_core_JournalSums_Fields_end___I (fun _ => rfl) hWd.1 O0 all0 ?_
  intro p e s m below meth c T0 X0 hnm hret
  refine og_aloadN X0 1 d11_0 rfl rfl rfl ?_
  refine own_virt X0 4 (a := a) (argsL := []) (rest := []) d11_1 q0 (fun _ hZ => notFace_of_selects (args := #[]) (mvT hZ (ow hw 41 rfl))) (rm_more1 l Z n0 h0 [] a0 hw hWd X0.old a u [x0, x1] (1 : Int32) q1 q2 q3.top (show ¬ (2 : Int32) < (1 : Int32) by decide) ) (ow hw 65 rfl) (ow hw 39 rfl) (ow hw 41 rfl) (ow hw 40 rfl) (ow hw 31 rfl) (ow hw 42 rfl) (by decide) (lenOf pd__28_29Z rfl) rfl rfl rfl (W := 0) rfl (by decide) (by decide) (by decide) (by decide) all0 rfl ?_
  intro T1 h1 v1 X1 K1 hQ1
  obtain rfl := hQ1
  show OGo _ _ _ _ T1 (mkF m 4 #[.val (.ref a), .unset] [(.int 1)])
  refine og_ifY X1 37 d11_4 (XT.i0_ne_t (by decide)) (by decide) (by decide) ?_
  refine og_aloadN X1 38 d11_37 rfl rfl rfl ?_
  have f2 := q1.keep K1 nin0
  refine own_get X1 41 d11_38 (host := "") (Or.inl (ow hw 36 rfl)) Via.refl f2 rfl ?_
  intro T3 X4
  refine og_bipush X4 43 (9 : Int32) d11_41 rfl rfl ?_
  refine og_aloadN X4 44 d11_43 rfl rfl rfl ?_
  have f5 := q2.keep K1 nin0
  refine own_get X4 47 d11_44 (host := "") (Or.inl (ow hw 43 rfl)) Via.refl f5 rfl ?_
  intro T6 X7
  have f8 := q3.exa.keep K1
  have f9 := q3.keep K1 all0
  refine own_virt X7 50 (a := u) (argsL := [(.int 9), (.int 1)]) (rest := []) d11_47 f8 (fun _ hZ => notFace_of_selects (args := #[]) (mvT hZ (ow hw 69 rfl))) (rf_ios21 l Z n0 h1 [] a0 hw hWd X7.old u x0 x1 f9.top q4 ) (ow hw 66 rfl) (ow hw 67 rfl) (ow hw 69 rfl) (ow hw 68 rfl) (ow hw 6 rfl) (ow hw 70 rfl) (by decide) (lenOf pd__28II_29I rfl) rfl rfl rfl (W := 0) rfl (by decide) (by decide) (by decide) (by decide) all0 rfl ?_
  intro T10 h10 v10 X10 K10 hQ10
  obtain rfl := hQ10
  show OGo _ _ _ _ T10 (mkF m 50 #[.val (.ref a), .unset] [(.int (own_ix [x0, x1] 1))])
  rw [show (own_ix [x0, x1] 1) = (1 : Int32) by (first | rfl | (simp only [own_ix, own_ixA, List.drop, if_true, if_false, q5]; done) | (simp only [own_ix, own_ixA, List.drop, if_true, if_false, q5]; rfl))]
  refine og_istoreN X10 51 #[.val (.ref a), .val (.int 1)] d11_50 rfl rfl ?_
  refine og_iloadN X10 52 d11_51 rfl rfl ?_
  refine og_ifY X10 65 d11_52 (XT.i0_ge_t (by decide)) (by decide) (by decide) ?_
  refine og_iloadN X10 66 d11_65 rfl rfl ?_
  refine own_retI X10 d11_66 hret (by decide) (by decide) ?_
  exact rfl
theorem rf_ns211 (a0 : Array Value) (hw : OHw a0 Z) (hWd : OWorld Z a0) (O0 : Old Z n0 h0) (b : Addr) (kb : ClassId) (e0 : Value) (e1 : Value) (q0 : Arv Z h0 b kb .byte (2 : Int32) [e0, e1] (.int 0)) :
    OMet l Z own_EL n0 yN18 (Jvm.Cond.code yN18 jdk_43_method_47_code 3 (some (.object "java/lang/String")) :: wc) ({ frames := 0, cells := 2, slots := 4, locals := 0 } : Room) #[(.ref b), (.int 1), (.int 0)] h0 [] (fun vq hq => ∃ (r : Addr), vq = some (.ref r)) := by
  refine own_enter #[.val (.ref b), .val (.int 1), .val (.int 0)] pn_java_lang_StringLatin1_newString___BII_Ljava_lang_String_ (fun _ => rfl) hWd.1 O0 all0 ?_
  intro p e s m below meth c T0 X0 hnm hret
  refine og_iloadN X0 1 d25_0 rfl rfl ?_
  refine og_ifN X0 4 d25_1 (XT.i0_ne_f (by decide)) rfl ?_
  refine own_ldcO X0 6 (cap := 0) d25_4 own_ELne (ow hw 120 rfl) (own_wS hw) (by decide) (by decide) (by decide) (by decide) rfl ?_
  intro T1 h1 a1 X1 K1
  refine own_retA X1 d25_6 hret rfl rfl (by decide) (by decide) ?_
  exact ⟨a1, rfl⟩
theorem rf_sub211 (a0 : Array Value) (hw : OHw a0 Z) (hWd : OWorld Z a0) (O0 : Old Z n0 h0) (a : Addr) (x0 : Int32) (x1 : Int32) (q0 : OStr Z h0 a [x0, x1] h0.size) (q1 : ∀ c ∈ [x0, x1], ¬ c < 0 ∧ ¬ (255 : Int32) < c) :
    OMet l Z own_EL n0 yN15 (Jvm.Cond.code yN15 jdk_42_method_92_code 5 (some (.object "java/lang/String")) :: wc) ({ frames := 2, cells := 2, slots := 4, locals := 29 } : Room) #[(.ref a), (.int 1), (.int 1)] h0 [] (fun vq hq => ∃ (r : Addr), vq = some (.ref r)) := by
  refine own_enter #[.val (.ref a), .val (.int 1), .val (.int 1), .unset, .unset] pn_java_lang_String_substring__II_Ljava_lang_String_ (fun _ => rfl) hWd.1 O0 all0 ?_
  intro p e s m below meth c T0 X0 hnm hret
  obtain ⟨t, kt, NN, vv, eE, eC, eV, eA, cod, bd, l4⟩ := q0.latin (fun c hc => (q1 c hc).2)
  obtain ⟨-, rfl, rfl, -⟩ := cod.resolve_right fun q => absurd q.1 (by decide)
  have eA2 : Arv Z h0 t kt .byte (2 : Int32) [(.int (StrChars.lo8 x0)), (.int (StrChars.lo8 x1))] (.int 0) := eA
  refine og_aloadN X0 1 d18_0 rfl rfl rfl ?_
  refine own_strLen X0 4 d18_1 q0 (own_wL hw) (ow hw 5 rfl) hWd.2.1.1 hWd.2.1.2 (ow hw 76 rfl) (ow hw 46 rfl) (ow hw 48 rfl) (ow hw 47 rfl) rfl (W := 0) rfl (by decide) (by decide) (by decide) (by decide) rfl ?_
  intro T1 X2
  show OGo _ _ _ _ T1 (mkF m 4 #[.val (.ref a), .val (.int 1), .val (.int 1), .unset, .unset] [(.int 2)])
  refine og_istoreN X2 5 #[.val (.ref a), .val (.int 1), .val (.int 1), .val (.int 2), .unset] d18_4 rfl rfl ?_
  refine og_iloadN X2 6 d18_5 rfl rfl ?_
  refine og_iloadN X2 7 d18_6 rfl rfl ?_
  refine og_iloadN X2 8 d18_7 rfl rfl ?_
  refine own_stat X2 11 (argsL := [(.int 1), (.int 1), (.int 2)]) (rest := []) d18_8 (rm19 l Z n0 h0 [] a0 hw hWd X2.old (1 : Int32) (1 : Int32) (2 : Int32) (by decide) (by decide) (by decide) ) (ow hw 96 rfl) (ow hw 97 rfl) (ow hw 6 rfl) (ow hw 98 rfl) (by decide) (lenOf pd__28III_29V rfl) rfl rfl rfl (W := 0) rfl (by decide) (by decide) (by decide) (by decide) all0 rfl ?_
  intro T3 h3 v3 X3 K3 hQ3
  obtain rfl := hQ3
  show OGo _ _ _ _ T3 (mkF m 11 #[.val (.ref a), .val (.int 1), .val (.int 1), .val (.int 2), .unset] [])
  refine og_iloadN X3 12 d18_11 rfl rfl ?_
  refine og_ifY X3 22 d18_12 (XT.i0_ne_t (by decide)) (by decide) (by decide) ?_
  refine og_iloadN X3 23 d18_22 rfl rfl ?_
  refine og_iloadN X3 24 d18_23 rfl rfl ?_
  refine og_isub X3 25 d18_24 rfl ?_
  show OGo _ _ _ _ T3 (mkF m 25 #[.val (.ref a), .val (.int 1), .val (.int 1), .val (.int 2), .unset] [(.int 0)])
  refine og_istore X3 27 #[.val (.ref a), .val (.int 1), .val (.int 1), .val (.int 2), .val (.int 0)] d18_25 rfl rfl ?_
  refine og_aloadN X3 28 d18_27 rfl rfl rfl ?_
  have f4 := eE.keep K3
  have f5 := eC.keep K3 nin0
  refine own_virt X3 31 (a := a) (argsL := []) (rest := []) d18_28 f4 (fun _ hZ => notFace_of_selects (args := #[]) (mvT hZ (ow hw 74 rfl))) (rm13 l Z n0 h3 [] a0 hw hWd X3.old a f5 ) (ow hw 71 rfl) (ow hw 72 rfl) (ow hw 74 rfl) (ow hw 73 rfl) (ow hw 6 rfl) (ow hw 75 rfl) (by decide) (lenOf pd__28_29Z rfl) rfl rfl rfl (W := 0) rfl (by decide) (by decide) (by decide) (by decide) all0 rfl ?_
  intro T6 h6 v6 X6 K6 hQ6
  obtain rfl := hQ6
  show OGo _ _ _ _ T6 (mkF m 31 #[.val (.ref a), .val (.int 1), .val (.int 1), .val (.int 2), .val (.int 0)] [(.int 1)])
  refine og_ifN X6 34 d18_31 (XT.i0_eq_f (by decide)) rfl ?_
  refine og_aloadN X6 35 d18_34 rfl rfl rfl ?_
  have f7 := eV.keep K3 nin0
  have f8 := f7.keep K6 nin0
  refine own_get X6 38 d18_35 (host := "") (Or.inl (ow hw 24 rfl)) Via.refl f8 rfl ?_
  intro T9 X10
  refine og_iloadN X10 39 d18_38 rfl rfl ?_
  refine og_iload X10 41 d18_39 rfl rfl ?_
  have f11 := eA2.keep K3 nin0
  have f12 := f11.keep K6 nin0
  refine own_stat X10 44 (argsL := [(.ref t), (.int 1), (.int 0)]) (rest := []) d18_41 (rf_ns211 l Z n0 h6 [] a0 hw hWd X10.old t kt (.int (StrChars.lo8 x0)) (.int (StrChars.lo8 x1)) f12 ) (ow hw 117 rfl) (ow hw 118 rfl) (ow hw 79 rfl) (ow hw 119 rfl) (by decide) (lenOf pd__28_5bBII_29Ljava_2flang_2fString_3b rfl) rfl rfl rfl (W := 0) rfl (by decide) (by decide) (by decide) (by decide) all0 rfl ?_
  intro T13 h13 v13 X13 K13 hQ13
  obtain ⟨r13, rfl⟩ := hQ13
  show OGo _ _ _ _ T13 (mkF m 44 #[.val (.ref a), .val (.int 1), .val (.int 1), .val (.int 2), .val (.int 0)] [(.ref r13)])
  refine og_goto X13 57 d18_44 (by decide) (by decide) ?_
  refine own_retA X13 d18_57 hret rfl rfl (by decide) (by decide) ?_
  exact ⟨r13, rfl⟩
theorem rf_txt211 (a0 : Array Value) (hw : OHw a0 Z) (hWd : OWorld Z a0) (O0 : Old Z n0 h0) (a : Addr) (u : Addr) (x0 : Int32) (x1 : Int32) (q0 : Exa Z h0 a "com/example/ratable/ratable/core/JournalSums$Fields") (q1 : Fld Z h0 a "com/example/ratable/ratable/core/JournalSums$Fields" "line" "Ljava/lang/String;" (.ref u)) (q2 : Fld Z h0 a "com/example/ratable/ratable/core/JournalSums$Fields" "next" "I" (.int 1)) (q3 : OStr Z h0 u [x0, x1] h0.size) (q4 : ∀ c ∈ [x0, x1], ¬ c < 0 ∧ ¬ (255 : Int32) < c) (q5 : x1 = (9 : Int32)) (g0 : n0 ≤ a ∧ a < h0.size) :
    OMet l Z own_EL n0 yN16 (Jvm.Cond.code yN16 prog_51_method_3_code 3 (some (.object "java/lang/String")) :: wc) ({ frames := 4, cells := 2, slots := 4, locals := 59 } : Room) #[(.ref a)] h0 [a] (fun vq hq => ∃ (r : Addr), vq = some (.ref r) ∧ Fld Z hq a "com/example/ratable/ratable/core/JournalSums$Fields" "line" "Ljava/lang/String;" (.ref u) ∧ Fld Z hq a "com/example/ratable/ratable/core/JournalSums$Fields" "next" "I" (.int 2)) := by
  refine own_enter #[.val (.ref a), .unset, .unset] pn_com_example_ratable_ratable_core_JournalSums_Fields_text___Ljava_lang_String_ (fun _ => rfl) hWd.1 O0 (allS g0 all0) ?_
  intro p e s m below meth c T0 X0 hnm hret
  refine og_aloadN X0 1 d10_0 rfl rfl rfl ?_
  refine own_priv X0 4 (a := a) (argsL := []) (rest := []) d10_1 q0 (rf_end211 l Z n0 h0 [] a0 hw hWd X0.old a u x0 x1 q0 q1 q2 q3.top q4 q5 ) (ow hw 61 rfl) (ow hw 62 rfl) (own_selfsel2 (ow hw 41 rfl) rfl (ow hw 62 rfl) (ow hw 63 rfl) (by decide)) (ow hw 63 rfl) (ow hw 31 rfl) (ow hw 64 rfl) (by decide) (lenOf pd__28_29I rfl) rfl rfl rfl (W := 0) rfl (by decide) (by decide) (by decide) (by decide) all0 rfl ?_
  intro T1 h1 v1 X1 K1 hQ1
  obtain rfl := hQ1
  show OGo _ _ _ _ T1 (mkF m 4 #[.val (.ref a), .unset, .unset] [(.int 1)])
  refine og_istoreN X1 5 #[.val (.ref a), .val (.int 1), .unset] d10_4 rfl rfl ?_
  refine og_aloadN X1 6 d10_5 rfl rfl rfl ?_
  have f2 := q1.keep K1 nin0
  refine own_get X1 9 d10_6 (host := "") (Or.inl (ow hw 36 rfl)) Via.refl f2 rfl ?_
  intro T3 X4
  refine og_aloadN X4 10 d10_9 rfl rfl rfl ?_
  have f5 := q2.keep K1 nin0
  refine own_get X4 13 d10_10 (host := "") (Or.inl (ow hw 43 rfl)) Via.refl f5 rfl ?_
  intro T6 X7
  refine og_iloadN X7 14 d10_13 rfl rfl ?_
  have f8 := q3.exa.keep K1
  have f9 := q3.keep K1 all0
  refine own_virt X7 17 (a := u) (argsL := [(.int 1), (.int 1)]) (rest := []) d10_14 f8 (fun _ hZ => notFace_of_selects (args := #[]) (mvT hZ (ow hw 94 rfl))) (rf_sub211 l Z n0 h1 [] a0 hw hWd X7.old u x0 x1 f9.top q4 ) (ow hw 91 rfl) (ow hw 92 rfl) (ow hw 94 rfl) (ow hw 93 rfl) (ow hw 6 rfl) (ow hw 95 rfl) (by decide) (lenOf pd__28II_29Ljava_2flang_2fString_3b rfl) rfl rfl rfl (W := 0) rfl (by decide) (by decide) (by decide) (by decide) all0 rfl ?_
  intro T10 h10 v10 X10 K10 hQ10
  obtain ⟨r10, rfl⟩ := hQ10
  show OGo _ _ _ _ T10 (mkF m 17 #[.val (.ref a), .val (.int 1), .unset] [(.ref r10)])
  refine og_astoreN X10 18 #[.val (.ref a), .val (.int 1), .val (.ref r10)] d10_17 rfl rfl rfl ?_
  refine og_aloadN X10 19 d10_18 rfl rfl rfl ?_
  refine og_iloadN X10 20 d10_19 rfl rfl ?_
  refine og_iconst X10 21 (1 : Int32) d10_20 rfl rfl ?_
  refine og_iadd X10 22 d10_21 rfl ?_
  show OGo _ _ _ _ T10 (mkF m 22 #[.val (.ref a), .val (.int 1), .val (.ref r10)] [(.int 2), (.ref a)])
  have f11 := f5.keep K10 nin0
  have f12 := q0.keep K1
  have f13 := f12.keep K10
  have f14 := f2.keep K10 nin0
  refine own_put X10 25 d10_22 (host := "") (Or.inl (ow hw 43 rfl)) Via.refl f11 f13 (Or.inl (ow hw 44 rfl)) (ow hw 30 rfl) (ty := .int) (by decide) rfl rfl (om 0 rfl) rfl ?_
  intro T15 h15 X15 W15 K15 F15
  have f16 := Fld.other W15 f14 (Or.inr (slot_ne (Or.inr (ow hw 37 rfl)) (Or.inl (ow hw 44 rfl)) (by decide) (t := (.object "java/lang/String")) (t' := .int) (by decide) (by decide)))
  refine og_aloadN X15 26 d10_25 rfl rfl rfl ?_
  refine own_retA X15 d10_26 hret rfl rfl (by decide) (by decide) ?_
  exact ⟨r10, rfl, f16, F15⟩
theorem rf_end212 (a0 : Array Value) (hw : OHw a0 Z) (hWd : OWorld Z a0) (O0 : Old Z n0 h0) (a : Addr) (u : Addr) (x0 : Int32) (x1 : Int32) (q0 : Exa Z h0 a "com/example/ratable/ratable/core/JournalSums$Fields") (q1 : Fld Z h0 a "com/example/ratable/ratable/core/JournalSums$Fields" "line" "Ljava/lang/String;" (.ref u)) (q2 : Fld Z h0 a "com/example/ratable/ratable/core/JournalSums$Fields" "next" "I" (.int 1)) (q3 : OStr Z h0 u [x0, x1] h0.size) (q4 : ∀ c ∈ [x0, x1], ¬ c < 0 ∧ ¬ (255 : Int32) < c) (q5 : ¬ x1 = (9 : Int32)) :
    OMet l Z own_EL n0 yN14 (Jvm.Cond.code yN14 prog_51_method_8_code 2 (some .int) :: wc) ({ frames := 3, cells := 0, slots := 0, locals := 46 } : Room) #[(.ref a)] h0 [] (fun vq hq => vq = some (.int 2)) := by
  refine own_enter #[.val (.ref a), .unset] pn_com_example_ratable_ratable_core_JournalSums_Fields_end___I (fun _ => rfl) hWd.1 O0 all0 ?_
  intro p e s m below meth c T0 X0 hnm hret
  refine og_aloadN X0 1 d11_0 rfl rfl rfl ?_
  refine own_virt X0 4 (a := a) (argsL := []) (rest := []) d11_1 q0 (fun _ hZ => notFace_of_selects (args := #[]) (mvT hZ (ow hw 41 rfl))) (rm_more1 l Z n0 h0 [] a0 hw hWd X0.old a u [x0, x1] (1 : Int32) q1 q2 q3.top (show ¬ (2 : Int32) < (1 : Int32) by decide) ) (ow hw 65 rfl) (ow hw 39 rfl) (ow hw 41 rfl) (ow hw 40 rfl) (ow hw 31 rfl) (ow hw 42 rfl) (by decide) (lenOf pd__28_29Z rfl) rfl rfl rfl (W := 0) rfl (by decide) (by decide) (by decide) (by decide) all0 rfl ?_
  intro T1 h1 v1 X1 K1 hQ1
  obtain rfl := hQ1
  show OGo _ _ _ _ T1 (mkF m 4 #[.val (.ref a), .unset] [(.int 1)])
  refine og_ifY X1 37 d11_4 (XT.i0_ne_t (by decide)) (by decide) (by decide) ?_
  refine og_aloadN X1 38 d11_37 rfl rfl rfl ?_
  have f2 := q1.keep K1 nin0
  refine own_get X1 41 d11_38 (host := "") (Or.inl (ow hw 36 rfl)) Via.refl f2 rfl ?_
  intro T3 X4
  refine og_bipush X4 43 (9 : Int32) d11_41 rfl rfl ?_
  refine og_aloadN X4 44 d11_43 rfl rfl rfl ?_
  have f5 := q2.keep K1 nin0
  refine own_get X4 47 d11_44 (host := "") (Or.inl (ow hw 43 rfl)) Via.refl f5 rfl ?_
  intro T6 X7
  have f8 := q3.exa.keep K1
  have f9 := q3.keep K1 all0
  refine own_virt X7 50 (a := u) (argsL := [(.int 9), (.int 1)]) (rest := []) d11_47 f8 (fun _ hZ => notFace_of_selects (args := #[]) (mvT hZ (ow hw 69 rfl))) (rf_ios21 l Z n0 h1 [] a0 hw hWd X7.old u x0 x1 f9.top q4 ) (ow hw 66 rfl) (ow hw 67 rfl) (ow hw 69 rfl) (ow hw 68 rfl) (ow hw 6 rfl) (ow hw 70 rfl) (by decide) (lenOf pd__28II_29I rfl) rfl rfl rfl (W := 0) rfl (by decide) (by decide) (by decide) (by decide) all0 rfl ?_
  intro T10 h10 v10 X10 K10 hQ10
  obtain rfl := hQ10
  show OGo _ _ _ _ T10 (mkF m 50 #[.val (.ref a), .unset] [(.int (own_ix [x0, x1] 1))])
  rw [show (own_ix [x0, x1] 1) = (-1 : Int32) by (first | rfl | (simp only [own_ix, own_ixA, List.drop, if_true, if_false, q5]; done) | (simp only [own_ix, own_ixA, List.drop, if_true, if_false, q5]; rfl))]
  refine og_istoreN X10 51 #[.val (.ref a), .val (.int (-1 : Int32))] d11_50 rfl rfl ?_
  refine og_iloadN X10 52 d11_51 rfl rfl ?_
  refine og_ifN X10 55 d11_52 (XT.i0_ge_f (by decide)) rfl ?_
  refine og_aloadN X10 56 d11_55 rfl rfl rfl ?_
  have f11 := f2.keep K10 nin0
  refine own_get X10 59 d11_56 (host := "") (Or.inl (ow hw 36 rfl)) Via.refl f11 rfl ?_
  intro T12 X13
  have f14 := f9.keep K10 all0
  refine own_strLen X13 62 d11_59 f14 (own_wL hw) (ow hw 5 rfl) hWd.2.1.1 hWd.2.1.2 (ow hw 45 rfl) (ow hw 46 rfl) (ow hw 48 rfl) (ow hw 47 rfl) rfl (W := 0) rfl (by decide) (by decide) (by decide) (by decide) rfl ?_
  intro T15 X16
  show OGo _ _ _ _ T15 (mkF m 62 #[.val (.ref a), .val (.int (-1 : Int32))] [(.int 2)])
  refine og_goto X16 66 d11_62 (by decide) (by decide) ?_
  refine own_retI X16 d11_66 hret (by decide) (by decide) ?_
  exact rfl
theorem rf_crb212 (a0 : Array Value) (hw : OHw a0 Z) (hWd : OWorld Z a0) (O0 : Old Z n0 h0) (b : Addr) (kb : ClassId) (e0 : Value) (e1 : Value) (q0 : Arv Z h0 b kb .byte (2 : Int32) [e0, e1] (.int 0)) :
    OMet l Z own_EL n0 yN19 (Jvm.Cond.code yN19 jdk_65_method_133_code 5 (some (.array .byte)) :: wc) ({ frames := 1, cells := 1, slots := 1, locals := 40 } : Room) #[(.ref b), (.int 1), (.int 2)] h0 [] (fun vq hq => ∃ (r : Addr) (kr : ClassId), vq = some (.ref r) ∧ h0.size ≤ r ∧ Arv Z hq r kr .byte (1 : Int32) [e1] (.int 0)) := by
  refine own_enter #[.val (.ref b), .val (.int 1), .val (.int 2), .unset, .unset] pn_java_util_Arrays_copyOfRangeByte___BII__B (fun _ => rfl) hWd.1 O0 all0 ?_
  intro p e s m below meth c T0 X0 hnm hret
  refine og_iloadN X0 1 d27_0 rfl rfl ?_
  refine og_iloadN X0 2 d27_1 rfl rfl ?_
  refine own_stat X0 5 (argsL := [(.int 1), (.int 2)]) (rest := []) d27_2 (rm28 l Z n0 h0 [] a0 hw hWd X0.old (1 : Int32) (2 : Int32) (by decide) ) (ow hw 129 rfl) (ow hw 130 rfl) (ow hw 124 rfl) (ow hw 131 rfl) (by decide) (lenOf pd__28II_29V rfl) rfl rfl rfl (W := 0) rfl (by decide) (by decide) (by decide) (by decide) all0 rfl ?_
  intro T1 h1 v1 X1 K1 hQ1
  obtain rfl := hQ1
  show OGo _ _ _ _ T1 (mkF m 5 #[.val (.ref b), .val (.int 1), .val (.int 2), .unset, .unset] [])
  refine og_iloadN X1 6 d27_5 rfl rfl ?_
  refine og_iloadN X1 7 d27_6 rfl rfl ?_
  refine og_isub X1 8 d27_7 rfl ?_
  show OGo _ _ _ _ T1 (mkF m 8 #[.val (.ref b), .val (.int 1), .val (.int 2), .unset, .unset] [(.int 1)])
  refine og_istoreN X1 9 #[.val (.ref b), .val (.int 1), .val (.int 2), .val (.int 1), .unset] d27_8 rfl rfl ?_
  refine og_iloadN X1 10 d27_9 rfl rfl ?_
  refine own_arr X1 12 d27_10 (ow hw 19 rfl) (by decide) (cap := 1) (by decide) (by decide) (by decide) (by decide) rfl ?_
  intro T2 h2 b2 kb2 X2 K2 G2 U2 A2
  have f3 : Arv Z h2 b2 kb2 .byte (1 : Int32) [(.int 0)] (.int 0) := A2
  refine og_astore X2 14 #[.val (.ref b), .val (.int 1), .val (.int 2), .val (.int 1), .val (.ref b2)] d27_12 rfl rfl rfl ?_
  refine og_aloadN X2 15 d27_14 rfl rfl rfl ?_
  refine og_iloadN X2 16 d27_15 rfl rfl ?_
  refine og_aload X2 18 d27_16 rfl rfl rfl ?_
  refine og_iconst X2 19 (0 : Int32) d27_18 rfl rfl ?_
  refine og_aloadN X2 20 d27_19 rfl rfl rfl ?_
  have f4 := q0.keep K1 nin0
  have f5 := f4.keep K2 nin0
  refine own_len X2 21 d27_20 f5 rfl ?_
  refine og_iloadN X2 22 d27_21 rfl rfl ?_
  refine og_isub X2 23 d27_22 rfl ?_
  show OGo _ _ _ _ T2 (mkF m 23 #[.val (.ref b), .val (.int 1), .val (.int 2), .val (.int 1), .val (.ref b2)] [(.int 1), (.int 0), (.ref b2), (.int 1), (.ref b)])
  refine og_iloadN X2 24 d27_23 rfl rfl ?_
  refine own_stat X2 27 (argsL := [(.int 1), (.int 1)]) (rest := [(.int 0), (.ref b2), (.int 1), (.ref b)]) d27_24 (rm_min0 l Z n0 h2 [] a0 hw hWd X2.old (1 : Int32) (1 : Int32) (by decide) ) (ow hw 132 rfl) (ow hw 89 rfl) (ow hw 86 rfl) (ow hw 90 rfl) (by decide) (lenOf pd__28II_29I rfl) rfl rfl rfl (W := 4) rfl (by decide) (by decide) (by decide) (by decide) all0 rfl ?_
  intro T6 h6 v6 X6 K6 hQ6
  obtain rfl := hQ6
  show OGo _ _ _ _ T6 (mkF m 27 #[.val (.ref b), .val (.int 1), .val (.int 2), .val (.int 1), .val (.ref b2)] [(.int 1), (.int 0), (.ref b2), (.int 1), (.ref b)])
  have f7 := f5.keep K6 nin0
  have f8 := f3.keep K6 nin0
  refine own_cp X6 30 (us := [e1]) (rest := []) d27_27 f7 f8 rfl (om 0 rfl) (ow hw 133 rfl) (ow hw 136 rfl) (ow hw 134 rfl) (ow hw 135 rfl) (by decide) (by decide) (by decide) (by decide) (by decide) rfl (Nat.le_of_ble_eq_true rfl) rfl (W := 0) rfl (by decide) (by decide) rfl ?_
  intro T9 h9 X9 K9 A9
  have f10 : Arv Z h9 b2 kb2 .byte (1 : Int32) [e1] (.int 0) := A9
  show OGo _ _ _ _ T9 (mkF m 30 #[.val (.ref b), .val (.int 1), .val (.int 2), .val (.int 1), .val (.ref b2)] [])
  refine og_aload X9 32 d27_30 rfl rfl rfl ?_
  refine own_retA X9 d27_32 hret rfl rfl (by decide) (by decide) ?_
  exact ⟨b2, kb2, rfl, (Nat.le_trans K1.1 G2), f10⟩
theorem rf_cr212 (a0 : Array Value) (hw : OHw a0 Z) (hWd : OWorld Z a0) (O0 : Old Z n0 h0) (b : Addr) (kb : ClassId) (e0 : Value) (e1 : Value) (q0 : Arv Z h0 b kb .byte (2 : Int32) [e0, e1] (.int 0)) :
    OMet l Z own_EL n0 yN20 (Jvm.Cond.code yN20 jdk_65_method_132_code 3 (some (.array .byte)) :: wc) ({ frames := 2, cells := 1, slots := 1, locals := 56 } : Room) #[(.ref b), (.int 1), (.int 2)] h0 [] (fun vq hq => ∃ (r : Addr) (kr : ClassId), vq = some (.ref r) ∧ h0.size ≤ r ∧ Arv Z hq r kr .byte (1 : Int32) [e1] (.int 0)) := by
  refine own_enter #[.val (.ref b), .val (.int 1), .val (.int 2)] pn_java_util_Arrays_copyOfRange___BII__B (fun _ => rfl) hWd.1 O0 all0 ?_
  intro p e s m below meth c T0 X0 hnm hret
  refine og_iloadN X0 1 d26_0 rfl rfl ?_
  refine og_ifY X0 10 d26_1 (XT.i0_ne_t (by decide)) (by decide) (by decide) ?_
  refine og_aloadN X0 11 d26_10 rfl rfl rfl ?_
  refine og_iloadN X0 12 d26_11 rfl rfl ?_
  refine og_iloadN X0 13 d26_12 rfl rfl ?_
  refine own_stat X0 16 (argsL := [(.ref b), (.int 1), (.int 2)]) (rest := []) d26_13 (rf_crb212 l Z n0 h0 [] a0 hw hWd X0.old b kb e0 e1 q0 ) (ow hw 126 rfl) (ow hw 127 rfl) (ow hw 124 rfl) (ow hw 128 rfl) (by decide) (lenOf pd__28_5bBII_29_5bB rfl) rfl rfl rfl (W := 0) rfl (by decide) (by decide) (by decide) (by decide) all0 rfl ?_
  intro T1 h1 v1 X1 K1 hQ1
  obtain ⟨r1, kr1, rfl, ge_r1, f2⟩ := hQ1
  show OGo _ _ _ _ T1 (mkF m 16 #[.val (.ref b), .val (.int 1), .val (.int 2)] [(.ref r1)])
  refine own_retA X1 d26_16 hret rfl rfl (by decide) (by decide) ?_
  exact ⟨r1, kr1, rfl, ge_r1, f2⟩
theorem rf_ns212 (a0 : Array Value) (hw : OHw a0 Z) (hWd : OWorld Z a0) (O0 : Old Z n0 h0) (b : Addr) (kb : ClassId) (e0 : Value) (e1 : Value) (q0 : Arv Z h0 b kb .byte (2 : Int32) [e0, e1] (.int 0)) :
    OMet l Z own_EL n0 yN18 (Jvm.Cond.code yN18 jdk_43_method_47_code 3 (some (.object "java/lang/String")) :: wc) ({ frames := 3, cells := 2, slots := 5, locals := 72 } : Room) #[(.ref b), (.int 1), (.int 1)] h0 [] (fun vq hq => ∃ (r : Addr), vq = some (.ref r)) := by
  refine own_enter #[.val (.ref b), .val (.int 1), .val (.int 1)] pn_java_lang_StringLatin1_newString___BII_Ljava_lang_String_ (fun _ => rfl) hWd.1 O0 all0 ?_
  intro p e s m below meth c T0 X0 hnm hret
  refine og_iloadN X0 1 d25_0 rfl rfl ?_
  refine og_ifY X0 7 d25_1 (XT.i0_ne_t (by decide)) (by decide) (by decide) ?_
  refine own_new X0 10 d25_7 (ow hw 121 rfl) (ow hw 5 rfl) (ow hw 6 rfl) (by decide) (by decide) rfl ?_
  intro T1 h1 b1 X1 K1 G1 U1 E1 D1
  have f2 : Fld Z h1 b1 "java/lang/String" "value" "[B" .null := D1 (Or.inr (ow hw 20 rfl)) (ty := (.array .byte)) (by decide)
  have f3 : Fld Z h1 b1 "java/lang/String" "coder" "B" (.int 0) := D1 (Or.inr (ow hw 21 rfl)) (ty := .byte) (by decide)
  refine og_dup X1 11 d25_10 rfl rfl ?_
  refine og_aloadN X1 12 d25_11 rfl rfl rfl ?_
  refine og_iloadN X1 13 d25_12 rfl rfl ?_
  refine og_iloadN X1 14 d25_13 rfl rfl ?_
  refine og_iloadN X1 15 d25_14 rfl rfl ?_
  refine og_iadd X1 16 d25_15 rfl ?_
  show OGo _ _ _ _ T1 (mkF m 16 #[.val (.ref b), .val (.int 1), .val (.int 1)] [(.int 2), (.int 1), (.ref b), (.ref b1), (.ref b1)])
  have f4 := q0.keep K1 nin0
  refine own_stat X1 19 (argsL := [(.ref b), (.int 1), (.int 2)]) (rest := [(.ref b1), (.ref b1)]) d25_16 (rf_cr212 l Z n0 h1 [] a0 hw hWd X1.old b kb e0 e1 f4 ) (ow hw 122 rfl) (ow hw 123 rfl) (ow hw 124 rfl) (ow hw 125 rfl) (by decide) (lenOf pd__28_5bBII_29_5bB rfl) rfl rfl rfl (W := 2) rfl (by decide) (by decide) (by decide) (by decide) all0 rfl ?_
  intro T5 h5 v5 X5 K5 hQ5
  obtain ⟨r5, kr5, rfl, ge_r5, f6⟩ := hQ5
  show OGo _ _ _ _ T5 (mkF m 19 #[.val (.ref b), .val (.int 1), .val (.int 1)] [(.ref r5), (.ref b1), (.ref b1)])
  refine og_iconst X5 20 (0 : Int32) d25_19 rfl rfl ?_
  have f7 := E1.keep K5
  have f8 := f2.keep K5 nin0
  have f9 := f3.keep K5 nin0
  refine own_spec X5 23 (a := b1) (argsL := [(.ref r5), (.int 0)]) (rest := [(.ref b1)]) d25_20 rfl (rm29 l Z n0 h5 [] a0 hw hWd X5.old b1 r5 .null (0 : Int32) f7 f8 f9 (own_svb X5 (om 0 rfl))) (ow hw 137 rfl) (ow hw 138 rfl) (ow hw 6 rfl) (ow hw 139 rfl) (by decide) (lenOf pd__28_5bBB_29V rfl) rfl rfl rfl (W := 1) rfl (by decide) (by decide) (by decide) (by decide) (allS (om 0 rfl) all0) rfl ?_
  intro T10 h10 v10 X10 K10 hQ10
  obtain rfl := hQ10
  show OGo _ _ _ _ T10 (mkF m 23 #[.val (.ref b), .val (.int 1), .val (.int 1)] [(.ref b1)])
  refine own_retA X10 d25_23 hret rfl rfl (by decide) (by decide) ?_
  exact ⟨b1, rfl⟩
theorem rf_sub212 (a0 : Array Value) (hw : OHw a0 Z) (hWd : OWorld Z a0) (O0 : Old Z n0 h0) (a : Addr) (x0 : Int32) (x1 : Int32) (q0 : OStr Z h0 a [x0, x1] h0.size) (q1 : ∀ c ∈ [x0, x1], ¬ c < 0 ∧ ¬ (255 : Int32) < c) :
    OMet l Z own_EL n0 yN15 (Jvm.Cond.code yN15 jdk_42_method_92_code 5 (some (.object "java/lang/String")) :: wc) ({ frames := 4, cells := 2, slots := 5, locals := 86 } : Room) #[(.ref a), (.int 1), (.int 2)] h0 [] (fun vq hq => ∃ (r : Addr), vq = some (.ref r)) := by
  refine own_enter #[.val (.ref a), .val (.int 1), .val (.int 2), .unset, .unset] pn_java_lang_String_substring__II_Ljava_lang_String_ (fun _ => rfl) hWd.1 O0 all0 ?_
  intro p e s m below meth c T0 X0 hnm hret
  obtain ⟨t, kt, NN, vv, eE, eC, eV, eA, cod, bd, l4⟩ := q0.latin (fun c hc => (q1 c hc).2)
  obtain ⟨-, rfl, rfl, -⟩ := cod.resolve_right fun q => absurd q.1 (by decide)
  have eA2 : Arv Z h0 t kt .byte (2 : Int32) [(.int (StrChars.lo8 x0)), (.int (StrChars.lo8 x1))] (.int 0) := eA
  refine og_aloadN X0 1 d18_0 rfl rfl rfl ?_
  refine own_strLen X0 4 d18_1 q0 (own_wL hw) (ow hw 5 rfl) hWd.2.1.1 hWd.2.1.2 (ow hw 76 rfl) (ow hw 46 rfl) (ow hw 48 rfl) (ow hw 47 rfl) rfl (W := 0) rfl (by decide) (by decide) (by decide) (by decide) rfl ?_
  intro T1 X2
  show OGo _ _ _ _ T1 (mkF m 4 #[.val (.ref a), .val (.int 1), .val (.int 2), .unset, .unset] [(.int 2)])
  refine og_istoreN X2 5 #[.val (.ref a), .val (.int 1), .val (.int 2), .val (.int 2), .unset] d18_4 rfl rfl ?_
  refine og_iloadN X2 6 d18_5 rfl rfl ?_
  refine og_iloadN X2 7 d18_6 rfl rfl ?_
  refine og_iloadN X2 8 d18_7 rfl rfl ?_
  refine own_stat X2 11 (argsL := [(.int 1), (.int 2), (.int 2)]) (rest := []) d18_8 (rm19 l Z n0 h0 [] a0 hw hWd X2.old (1 : Int32) (2 : Int32) (2 : Int32) (by decide) (by decide) (by decide) ) (ow hw 96 rfl) (ow hw 97 rfl) (ow hw 6 rfl) (ow hw 98 rfl) (by decide) (lenOf pd__28III_29V rfl) rfl rfl rfl (W := 0) rfl (by decide) (by decide) (by decide) (by decide) all0 rfl ?_
  intro T3 h3 v3 X3 K3 hQ3
  obtain rfl := hQ3
  show OGo _ _ _ _ T3 (mkF m 11 #[.val (.ref a), .val (.int 1), .val (.int 2), .val (.int 2), .unset] [])
  refine og_iloadN X3 12 d18_11 rfl rfl ?_
  refine og_ifY X3 22 d18_12 (XT.i0_ne_t (by decide)) (by decide) (by decide) ?_
  refine og_iloadN X3 23 d18_22 rfl rfl ?_
  refine og_iloadN X3 24 d18_23 rfl rfl ?_
  refine og_isub X3 25 d18_24 rfl ?_
  show OGo _ _ _ _ T3 (mkF m 25 #[.val (.ref a), .val (.int 1), .val (.int 2), .val (.int 2), .unset] [(.int 1)])
  refine og_istore X3 27 #[.val (.ref a), .val (.int 1), .val (.int 2), .val (.int 2), .val (.int 1)] d18_25 rfl rfl ?_
  refine og_aloadN X3 28 d18_27 rfl rfl rfl ?_
  have f4 := eE.keep K3
  have f5 := eC.keep K3 nin0
  refine own_virt X3 31 (a := a) (argsL := []) (rest := []) d18_28 f4 (fun _ hZ => notFace_of_selects (args := #[]) (mvT hZ (ow hw 74 rfl))) (rm13 l Z n0 h3 [] a0 hw hWd X3.old a f5 ) (ow hw 71 rfl) (ow hw 72 rfl) (ow hw 74 rfl) (ow hw 73 rfl) (ow hw 6 rfl) (ow hw 75 rfl) (by decide) (lenOf pd__28_29Z rfl) rfl rfl rfl (W := 0) rfl (by decide) (by decide) (by decide) (by decide) all0 rfl ?_
  intro T6 h6 v6 X6 K6 hQ6
  obtain rfl := hQ6
  show OGo _ _ _ _ T6 (mkF m 31 #[.val (.ref a), .val (.int 1), .val (.int 2), .val (.int 2), .val (.int 1)] [(.int 1)])
  refine og_ifN X6 34 d18_31 (XT.i0_eq_f (by decide)) rfl ?_
  refine og_aloadN X6 35 d18_34 rfl rfl rfl ?_
  have f7 := eV.keep K3 nin0
  have f8 := f7.keep K6 nin0
  refine own_get X6 38 d18_35 (host := "") (Or.inl (ow hw 24 rfl)) Via.refl f8 rfl ?_
  intro T9 X10
  refine og_iloadN X10 39 d18_38 rfl rfl ?_
  refine og_iload X10 41 d18_39 rfl rfl ?_
  have f11 := eA2.keep K3 nin0
  have f12 := f11.keep K6 nin0
  refine own_stat X10 44 (argsL := [(.ref t), (.int 1), (.int 1)]) (rest := []) d18_41 (rf_ns212 l Z n0 h6 [] a0 hw hWd X10.old t kt (.int (StrChars.lo8 x0)) (.int (StrChars.lo8 x1)) f12 ) (ow hw 117 rfl) (ow hw 118 rfl) (ow hw 79 rfl) (ow hw 119 rfl) (by decide) (lenOf pd__28_5bBII_29Ljava_2flang_2fString_3b rfl) rfl rfl rfl (W := 0) rfl (by decide) (by decide) (by decide) (by decide) all0 rfl ?_
  intro T13 h13 v13 X13 K13 hQ13
  obtain ⟨r13, rfl⟩ := hQ13
  show OGo _ _ _ _ T13 (mkF m 44 #[.val (.ref a), .val (.int 1), .val (.int 2), .val (.int 2), .val (.int 1)] [(.ref r13)])
  refine og_goto X13 57 d18_44 (by decide) (by decide) ?_
  refine own_retA X13 d18_57 hret rfl rfl (by decide) (by decide) ?_
  exact ⟨r13, rfl⟩
theorem rf_txt212 (a0 : Array Value) (hw : OHw a0 Z) (hWd : OWorld Z a0) (O0 : Old Z n0 h0) (a : Addr) (u : Addr) (x0 : Int32) (x1 : Int32) (q0 : Exa Z h0 a "com/example/ratable/ratable/core/JournalSums$Fields") (q1 : Fld Z h0 a "com/example/ratable/ratable/core/JournalSums$Fields" "line" "Ljava/lang/String;" (.ref u)) (q2 : Fld Z h0 a "com/example/ratable/ratable/core/JournalSums$Fields" "next" "I" (.int 1)) (q3 : OStr Z h0 u [x0, x1] h0.size) (q4 : ∀ c ∈ [x0, x1], ¬ c < 0 ∧ ¬ (255 : Int32) < c) (q5 : ¬ x1 = (9 : Int32)) (g0 : n0 ≤ a ∧ a < h0.size) :
    OMet l Z own_EL n0 yN16 (Jvm.Cond.code yN16 prog_51_method_3_code 3 (some (.object "java/lang/String")) :: wc) ({ frames := 5, cells := 2, slots := 5, locals := 102 } : Room) #[(.ref a)] h0 [a] (fun vq hq => ∃ (r : Addr), vq = some (.ref r) ∧ Fld Z hq a "com/example/ratable/ratable/core/JournalSums$Fields" "line" "Ljava/lang/String;" (.ref u) ∧ Fld Z hq a "com/example/ratable/ratable/core/JournalSums$Fields" "next" "I" (.int 3)) := by
  refine own_enter #[.val (.ref a), .unset, .unset] pn_com_example_ratable_ratable_core_JournalSums_Fields_text___Ljava_lang_String_ (fun _ => rfl) hWd.1 O0 (allS g0 all0) ?_
  intro p e s m below meth c T0 X0 hnm hret
  refine og_aloadN X0 1 d10_0 rfl rfl rfl ?_
  refine own_priv X0 4 (a := a) (argsL := []) (rest := []) d10_1 q0 (rf_end212 l Z n0 h0 [] a0 hw hWd X0.old a u x0 x1 q0 q1 q2 q3.top q4 q5 ) (ow hw 61 rfl) (ow hw 62 rfl) (own_selfsel2 (ow hw 41 rfl) rfl (ow hw 62 rfl) (ow hw 63 rfl) (by decide)) (ow hw 63 rfl) (ow hw 31 rfl) (ow hw 64 rfl) (by decide) (lenOf pd__28_29I rfl) rfl rfl rfl (W := 0) rfl (by decide) (by decide) (by decide) (by decide) all0 rfl ?_
  intro T1 h1 v1 X1 K1 hQ1
  obtain rfl := hQ1
  show OGo _ _ _ _ T1 (mkF m 4 #[.val (.ref a), .unset, .unset] [(.int 2)])
  refine og_istoreN X1 5 #[.val (.ref a), .val (.int 2), .unset] d10_4 rfl rfl ?_
  refine og_aloadN X1 6 d10_5 rfl rfl rfl ?_
  have f2 := q1.keep K1 nin0
  refine own_get X1 9 d10_6 (host := "") (Or.inl (ow hw 36 rfl)) Via.refl f2 rfl ?_
  intro T3 X4
  refine og_aloadN X4 10 d10_9 rfl rfl rfl ?_
  have f5 := q2.keep K1 nin0
  refine own_get X4 13 d10_10 (host := "") (Or.inl (ow hw 43 rfl)) Via.refl f5 rfl ?_
  intro T6 X7
  refine og_iloadN X7 14 d10_13 rfl rfl ?_
  have f8 := q3.exa.keep K1
  have f9 := q3.keep K1 all0
  refine own_virt X7 17 (a := u) (argsL := [(.int 1), (.int 2)]) (rest := []) d10_14 f8 (fun _ hZ => notFace_of_selects (args := #[]) (mvT hZ (ow hw 94 rfl))) (rf_sub212 l Z n0 h1 [] a0 hw hWd X7.old u x0 x1 f9.top q4 ) (ow hw 91 rfl) (ow hw 92 rfl) (ow hw 94 rfl) (ow hw 93 rfl) (ow hw 6 rfl) (ow hw 95 rfl) (by decide) (lenOf pd__28II_29Ljava_2flang_2fString_3b rfl) rfl rfl rfl (W := 0) rfl (by decide) (by decide) (by decide) (by decide) all0 rfl ?_
  intro T10 h10 v10 X10 K10 hQ10
  obtain ⟨r10, rfl⟩ := hQ10
  show OGo _ _ _ _ T10 (mkF m 17 #[.val (.ref a), .val (.int 2), .unset] [(.ref r10)])
  refine og_astoreN X10 18 #[.val (.ref a), .val (.int 2), .val (.ref r10)] d10_17 rfl rfl rfl ?_
  refine og_aloadN X10 19 d10_18 rfl rfl rfl ?_
  refine og_iloadN X10 20 d10_19 rfl rfl ?_
  refine og_iconst X10 21 (1 : Int32) d10_20 rfl rfl ?_
  refine og_iadd X10 22 d10_21 rfl ?_
  show OGo _ _ _ _ T10 (mkF m 22 #[.val (.ref a), .val (.int 2), .val (.ref r10)] [(.int 3), (.ref a)])
  have f11 := f5.keep K10 nin0
  have f12 := q0.keep K1
  have f13 := f12.keep K10
  have f14 := f2.keep K10 nin0
  refine own_put X10 25 d10_22 (host := "") (Or.inl (ow hw 43 rfl)) Via.refl f11 f13 (Or.inl (ow hw 44 rfl)) (ow hw 30 rfl) (ty := .int) (by decide) rfl rfl (om 0 rfl) rfl ?_
  intro T15 h15 X15 W15 K15 F15
  have f16 := Fld.other W15 f14 (Or.inr (slot_ne (Or.inr (ow hw 37 rfl)) (Or.inl (ow hw 44 rfl)) (by decide) (t := (.object "java/lang/String")) (t' := .int) (by decide) (by decide)))
  refine og_aloadN X15 26 d10_25 rfl rfl rfl ?_
  refine own_retA X15 d10_26 hret rfl rfl (by decide) (by decide) ?_
  exact ⟨r10, rfl, f16, F15⟩
theorem rf_iol22 (a0 : Array Value) (hw : OHw a0 Z) (hWd : OWorld Z a0) (O0 : Old Z n0 h0) (b : Addr) (kb : ClassId) (x0 : Int32) (x1 : Int32) (q0 : Arv Z h0 b kb .byte (2 : Int32) [(.int (StrChars.lo8 x0)), (.int (StrChars.lo8 x1))] (.int 0)) (q1 : ∀ c ∈ [x0, x1], ¬ c < 0 ∧ ¬ (255 : Int32) < c) :
    OMet l Z own_EL n0 yN12 (Jvm.Cond.code yN12 jdk_43_method_22_code 4 (some .int) :: wc) ({ frames := 1, cells := 0, slots := 0, locals := 13 } : Room) #[(.ref b), (.int 9), (.int 2), (.int 2)] h0 [] (fun vq hq => vq = some (.int (-1 : Int32))) := by
  refine own_enter #[.val (.ref b), .val (.int 9), .val (.int 2), .val (.int 2)] pn_java_lang_StringLatin1_indexOf___BIII_I (fun _ => rfl) hWd.1 O0 all0 ?_
  intro p e s m below meth c T0 X0 hnm hret
  refine og_iloadN X0 1 d14_0 rfl rfl ?_
  refine own_stat X0 4 (argsL := [(.int 9)]) (rest := []) d14_1 (rm15 l Z n0 h0 [] a0 hw hWd X0.old   ) (ow hw 81 rfl) (ow hw 82 rfl) (ow hw 79 rfl) (ow hw 83 rfl) (by decide) (lenOf pd__28I_29Z rfl) rfl rfl rfl (W := 0) rfl (by decide) (by decide) (by decide) (by decide) all0 rfl ?_
  intro T1 h1 v1 X1 K1 hQ1
  obtain rfl := hQ1
  show OGo _ _ _ _ T1 (mkF m 4 #[.val (.ref b), .val (.int 9), .val (.int 2), .val (.int 2)] [(.int 1)])
  refine og_ifY X1 9 d14_4 (XT.i0_ne_t (by decide)) (by decide) (by decide) ?_
  refine og_iloadN X1 10 d14_9 rfl rfl ?_
  refine og_iconst X1 11 (0 : Int32) d14_10 rfl rfl ?_
  refine own_stat X1 14 (argsL := [(.int 2), (.int 0)]) (rest := []) d14_11 (rm16 l Z n0 h1 [] a0 hw hWd X1.old (2 : Int32) (0 : Int32) (by decide) ) (ow hw 84 rfl) (ow hw 85 rfl) (ow hw 86 rfl) (ow hw 87 rfl) (by decide) (lenOf pd__28II_29I rfl) rfl rfl rfl (W := 0) rfl (by decide) (by decide) (by decide) (by decide) all0 rfl ?_
  intro T2 h2 v2 X2 K2 hQ2
  obtain rfl := hQ2
  show OGo _ _ _ _ T2 (mkF m 14 #[.val (.ref b), .val (.int 9), .val (.int 2), .val (.int 2)] [(.int 2)])
  refine og_istoreN X2 15 #[.val (.ref b), .val (.int 9), .val (.int 2), .val (.int 2)] d14_14 rfl rfl ?_
  refine og_iloadN X2 16 d14_15 rfl rfl ?_
  refine og_aloadN X2 17 d14_16 rfl rfl rfl ?_
  have f3 := q0.keep K1 nin0
  have f4 := f3.keep K2 nin0
  refine own_len X2 18 d14_17 f4 rfl ?_
  refine own_stat X2 21 (argsL := [(.int 2), (.int 2)]) (rest := []) d14_18 (rm_min0 l Z n0 h2 [] a0 hw hWd X2.old (2 : Int32) (2 : Int32) (by decide) ) (ow hw 88 rfl) (ow hw 89 rfl) (ow hw 86 rfl) (ow hw 90 rfl) (by decide) (lenOf pd__28II_29I rfl) rfl rfl rfl (W := 0) rfl (by decide) (by decide) (by decide) (by decide) all0 rfl ?_
  intro T5 h5 v5 X5 K5 hQ5
  obtain rfl := hQ5
  show OGo _ _ _ _ T5 (mkF m 21 #[.val (.ref b), .val (.int 9), .val (.int 2), .val (.int 2)] [(.int 2)])
  refine og_istoreN X5 22 #[.val (.ref b), .val (.int 9), .val (.int 2), .val (.int 2)] d14_21 rfl rfl ?_
  refine og_iloadN X5 23 d14_22 rfl rfl ?_
  refine og_iloadN X5 24 d14_23 rfl rfl ?_
  refine og_icmpN X5 27 d14_24 (XT.ii_lt_f (by decide)) rfl ?_
  refine og_iconst X5 28 (-1 : Int32) d14_27 rfl rfl ?_
  refine own_retI X5 d14_28 hret (by decide) (by decide) ?_
  exact rfl
theorem rf_ios22 (a0 : Array Value) (hw : OHw a0 Z) (hWd : OWorld Z a0) (O0 : Old Z n0 h0) (a : Addr) (x0 : Int32) (x1 : Int32) (q0 : OStr Z h0 a [x0, x1] h0.size) (q1 : ∀ c ∈ [x0, x1], ¬ c < 0 ∧ ¬ (255 : Int32) < c) :
    OMet l Z own_EL n0 yN13 (Jvm.Cond.code yN13 jdk_42_method_80_code 3 (some .int) :: wc) ({ frames := 2, cells := 0, slots := 0, locals := 28 } : Room) #[(.ref a), (.int 9), (.int 2)] h0 [] (fun vq hq => vq = some (.int (-1 : Int32))) := by
  refine own_enter #[.val (.ref a), .val (.int 9), .val (.int 2)] pn_java_lang_String_indexOf__II_I (fun _ => rfl) hWd.1 O0 all0 ?_
  intro p e s m below meth c T0 X0 hnm hret
  obtain ⟨t, kt, NN, vv, eE, eC, eV, eA, cod, bd, l4⟩ := q0.latin (fun c hc => (q1 c hc).2)
  obtain ⟨-, rfl, rfl, -⟩ := cod.resolve_right fun q => absurd q.1 (by decide)
  have eA2 : Arv Z h0 t kt .byte (2 : Int32) [(.int (StrChars.lo8 x0)), (.int (StrChars.lo8 x1))] (.int 0) := eA
  refine og_aloadN X0 1 d12_0 rfl rfl rfl ?_
  refine own_virt X0 4 (a := a) (argsL := []) (rest := []) d12_1 eE (fun _ hZ => notFace_of_selects (args := #[]) (mvT hZ (ow hw 74 rfl))) (rm13 l Z n0 h0 [] a0 hw hWd X0.old a eC ) (ow hw 71 rfl) (ow hw 72 rfl) (ow hw 74 rfl) (ow hw 73 rfl) (ow hw 6 rfl) (ow hw 75 rfl) (by decide) (lenOf pd__28_29Z rfl) rfl rfl rfl (W := 0) rfl (by decide) (by decide) (by decide) (by decide) all0 rfl ?_
  intro T1 h1 v1 X1 K1 hQ1
  obtain rfl := hQ1
  show OGo _ _ _ _ T1 (mkF m 4 #[.val (.ref a), .val (.int 9), .val (.int 2)] [(.int 1)])
  refine og_ifN X1 7 d12_4 (XT.i0_eq_f (by decide)) rfl ?_
  refine og_aloadN X1 8 d12_7 rfl rfl rfl ?_
  have f2 := eV.keep K1 nin0
  refine own_get X1 11 d12_8 (host := "") (Or.inl (ow hw 24 rfl)) Via.refl f2 rfl ?_
  intro T3 X4
  refine og_iloadN X4 12 d12_11 rfl rfl ?_
  refine og_iloadN X4 13 d12_12 rfl rfl ?_
  refine og_aloadN X4 14 d12_13 rfl rfl rfl ?_
  have f5 := q0.keep K1 all0
  refine own_strLen X4 17 d12_14 f5 (own_wL hw) (ow hw 5 rfl) hWd.2.1.1 hWd.2.1.2 (ow hw 76 rfl) (ow hw 46 rfl) (ow hw 48 rfl) (ow hw 47 rfl) rfl (W := 3) rfl (by decide) (by decide) (by decide) (by decide) rfl ?_
  intro T6 X7
  show OGo _ _ _ _ T6 (mkF m 17 #[.val (.ref a), .val (.int 9), .val (.int 2)] [(.int 2), (.int 2), (.int 9), (.ref t)])
  have f8 := eA2.keep K1 nin0
  refine own_stat X7 20 (argsL := [(.ref t), (.int 9), (.int 2), (.int 2)]) (rest := []) d12_17 (rf_iol22 l Z n0 h1 [] a0 hw hWd X7.old t kt x0 x1 f8 q1 ) (ow hw 77 rfl) (ow hw 78 rfl) (ow hw 79 rfl) (ow hw 80 rfl) (by decide) (lenOf pd__28_5bBIII_29I rfl) rfl rfl rfl (W := 0) rfl (by decide) (by decide) (by decide) (by decide) all0 rfl ?_
  intro T9 h9 v9 X9 K9 hQ9
  obtain rfl := hQ9
  show OGo _ _ _ _ T9 (mkF m 20 #[.val (.ref a), .val (.int 9), .val (.int 2)] [(.int (-1 : Int32))])
  refine og_goto X9 36 d12_20 (by decide) (by decide) ?_
  refine own_retI X9 d12_36 hret (by decide) (by decide) ?_
  exact rfl
theorem rf_end222 (a0 : Array Value) (hw : OHw a0 Z) (hWd : OWorld Z a0) (O0 : Old Z n0 h0) (a : Addr) (u : Addr) (x0 : Int32) (x1 : Int32) (q0 : Exa Z h0 a "com/example/ratable/ratable/core/JournalSums$Fields") (q1 : Fld Z h0 a "com/example/ratable/ratable/core/JournalSums$Fields" "line" "Ljava/lang/String;" (.ref u)) (q2 : Fld Z h0 a "com/example/ratable/ratable/core/JournalSums$Fields" "next" "I" (.int 2)) (q3 : OStr Z h0 u [x0, x1] h0.size) (q4 : ∀ c ∈ [x0, x1], ¬ c < 0 ∧ ¬ (255 : Int32) < c) :
    OMet l Z own_EL n0 yN14 (Jvm.Cond.code yN14 prog_51_method_8_code 2 (some .int) :: wc) ({ frames := 3, cells := 0, slots := 0, locals := 42 } : Room) #[(.ref a)] h0 [] (fun vq hq => vq = some (.int 2)) := by
  refine own_enter #[.val (.ref a), .unset] pn_com_example_ratable_ratable_core_JournalSums_Fields_end___I (fun _ => rfl) hWd.1 O0 all0 ?_
  intro p e s m below meth c T0 X0 hnm hret
  refine og_aloadN X0 1 d11_0 rfl rfl rfl ?_
  refine own_virt X0 4 (a := a) (argsL := []) (rest := []) d11_1 q0 (fun _ hZ => notFace_of_selects (args := #[]) (mvT hZ (ow hw 41 rfl))) (rm_more1 l Z n0 h0 [] a0 hw hWd X0.old a u [x0, x1] (2 : Int32) q1 q2 q3.top (show ¬ (2 : Int32) < (2 : Int32) by decide) ) (ow hw 65 rfl) (ow hw 39 rfl) (ow hw 41 rfl) (ow hw 40 rfl) (ow hw 31 rfl) (ow hw 42 rfl) (by decide) (lenOf pd__28_29Z rfl) rfl rfl rfl (W := 0) rfl (by decide) (by decide) (by decide) (by decide) all0 rfl ?_
  intro T1 h1 v1 X1 K1 hQ1
  obtain rfl := hQ1
  show OGo _ _ _ _ T1 (mkF m 4 #[.val (.ref a), .unset] [(.int 1)])
  refine og_ifY X1 37 d11_4 (XT.i0_ne_t (by decide)) (by decide) (by decide) ?_
  refine og_aloadN X1 38 d11_37 rfl rfl rfl ?_
  have f2 := q1.keep K1 nin0
  refine own_get X1 41 d11_38 (host := "") (Or.inl (ow hw 36 rfl)) Via.refl f2 rfl ?_
  intro T3 X4
  refine og_bipush X4 43 (9 : Int32) d11_41 rfl rfl ?_
  refine og_aloadN X4 44 d11_43 rfl rfl rfl ?_
  have f5 := q2.keep K1 nin0
  refine own_get X4 47 d11_44 (host := "") (Or.inl (ow hw 43 rfl)) Via.refl f5 rfl ?_
  intro T6 X7
  have f8 := q3.exa.keep K1
  have f9 := q3.keep K1 all0
  refine own_virt X7 50 (a := u) (argsL := [(.int 9), (.int 2)]) (rest := []) d11_47 f8 (fun _ hZ => notFace_of_selects (args := #[]) (mvT hZ (ow hw 69 rfl))) (rf_ios22 l Z n0 h1 [] a0 hw hWd X7.old u x0 x1 f9.top q4 ) (ow hw 66 rfl) (ow hw 67 rfl) (ow hw 69 rfl) (ow hw 68 rfl) (ow hw 6 rfl) (ow hw 70 rfl) (by decide) (lenOf pd__28II_29I rfl) rfl rfl rfl (W := 0) rfl (by decide) (by decide) (by decide) (by decide) all0 rfl ?_
  intro T10 h10 v10 X10 K10 hQ10
  obtain rfl := hQ10
  show OGo _ _ _ _ T10 (mkF m 50 #[.val (.ref a), .unset] [(.int (-1 : Int32))])
  refine og_istoreN X10 51 #[.val (.ref a), .val (.int (-1 : Int32))] d11_50 rfl rfl ?_
  refine og_iloadN X10 52 d11_51 rfl rfl ?_
  refine og_ifN X10 55 d11_52 (XT.i0_ge_f (by decide)) rfl ?_
  refine og_aloadN X10 56 d11_55 rfl rfl rfl ?_
  have f11 := f2.keep K10 nin0
  refine own_get X10 59 d11_56 (host := "") (Or.inl (ow hw 36 rfl)) Via.refl f11 rfl ?_
  intro T12 X13
  have f14 := f9.keep K10 all0
  refine own_strLen X13 62 d11_59 f14 (own_wL hw) (ow hw 5 rfl) hWd.2.1.1 hWd.2.1.2 (ow hw 45 rfl) (ow hw 46 rfl) (ow hw 48 rfl) (ow hw 47 rfl) rfl (W := 0) rfl (by decide) (by decide) (by decide) (by decide) rfl ?_
  intro T15 X16
  show OGo _ _ _ _ T15 (mkF m 62 #[.val (.ref a), .val (.int (-1 : Int32))] [(.int 2)])
  refine og_goto X16 66 d11_62 (by decide) (by decide) ?_
  refine own_retI X16 d11_66 hret (by decide) (by decide) ?_
  exact rfl
theorem rf_ns222 (a0 : Array Value) (hw : OHw a0 Z) (hWd : OWorld Z a0) (O0 : Old Z n0 h0) (b : Addr) (kb : ClassId) (e0 : Value) (e1 : Value) (q0 : Arv Z h0 b kb .byte (2 : Int32) [e0, e1] (.int 0)) :
    OMet l Z own_EL n0 yN18 (Jvm.Cond.code yN18 jdk_43_method_47_code 3 (some (.object "java/lang/String")) :: wc) ({ frames := 0, cells := 2, slots := 4, locals := 0 } : Room) #[(.ref b), (.int 2), (.int 0)] h0 [] (fun vq hq => ∃ (r : Addr), vq = some (.ref r)) := by
  refine own_enter #[.val (.ref b), .val (.int 2), .val (.int 0)] pn_java_lang_StringLatin1_newString___BII_Ljava_lang_String_ (fun _ => rfl) hWd.1 O0 all0 ?_
  intro p e s m below meth c T0 X0 hnm hret
  refine og_iloadN X0 1 d25_0 rfl rfl ?_
  refine og_ifN X0 4 d25_1 (XT.i0_ne_f (by decide)) rfl ?_
  refine own_ldcO X0 6 (cap := 0) d25_4 own_ELne (ow hw 120 rfl) (own_wS hw) (by decide) (by decide) (by decide) (by decide) rfl ?_
  intro T1 h1 a1 X1 K1
  refine own_retA X1 d25_6 hret rfl rfl (by decide) (by decide) ?_
  exact ⟨a1, rfl⟩
theorem rf_sub222 (a0 : Array Value) (hw : OHw a0 Z) (hWd : OWorld Z a0) (O0 : Old Z n0 h0) (a : Addr) (x0 : Int32) (x1 : Int32) (q0 : OStr Z h0 a [x0, x1] h0.size) (q1 : ∀ c ∈ [x0, x1], ¬ c < 0 ∧ ¬ (255 : Int32) < c) :
    OMet l Z own_EL n0 yN15 (Jvm.Cond.code yN15 jdk_42_method_92_code 5 (some (.object "java/lang/String")) :: wc) ({ frames := 2, cells := 2, slots := 4, locals := 29 } : Room) #[(.ref a), (.int 2), (.int 2)] h0 [] (fun vq hq => ∃ (r : Addr), vq = some (.ref r)) := by
  refine own_enter #[.val (.ref a), .val (.int 2), .val (.int 2), .unset, .unset] pn_java_lang_String_substring__II_Ljava_lang_String_ (fun _ => rfl) hWd.1 O0 all0 ?_
  intro p e s m below meth c T0 X0 hnm hret
  obtain ⟨t, kt, NN, vv, eE, eC, eV, eA, cod, bd, l4⟩ := q0.latin (fun c hc => (q1 c hc).2)
  obtain ⟨-, rfl, rfl, -⟩ := cod.resolve_right fun q => absurd q.1 (by decide)
  have eA2 : Arv Z h0 t kt .byte (2 : Int32) [(.int (StrChars.lo8 x0)), (.int (StrChars.lo8 x1))] (.int 0) := eA
  refine og_aloadN X0 1 d18_0 rfl rfl rfl ?_
  refine own_strLen X0 4 d18_1 q0 (own_wL hw) (ow hw 5 rfl) hWd.2.1.1 hWd.2.1.2 (ow hw 76 rfl) (ow hw 46 rfl) (ow hw 48 rfl) (ow hw 47 rfl) rfl (W := 0) rfl (by decide) (by decide) (by decide) (by decide) rfl ?_
  intro T1 X2
  show OGo _ _ _ _ T1 (mkF m 4 #[.val (.ref a), .val (.int 2), .val (.int 2), .unset, .unset] [(.int 2)])
  refine og_istoreN X2 5 #[.val (.ref a), .val (.int 2), .val (.int 2), .val (.int 2), .unset] d18_4 rfl rfl ?_
  refine og_iloadN X2 6 d18_5 rfl rfl ?_
  refine og_iloadN X2 7 d18_6 rfl rfl ?_
  refine og_iloadN X2 8 d18_7 rfl rfl ?_
  refine own_stat X2 11 (argsL := [(.int 2), (.int 2), (.int 2)]) (rest := []) d18_8 (rm19 l Z n0 h0 [] a0 hw hWd X2.old (2 : Int32) (2 : Int32) (2 : Int32) (by decide) (by decide) (by decide) ) (ow hw 96 rfl) (ow hw 97 rfl) (ow hw 6 rfl) (ow hw 98 rfl) (by decide) (lenOf pd__28III_29V rfl) rfl rfl rfl (W := 0) rfl (by decide) (by decide) (by decide) (by decide) all0 rfl ?_
  intro T3 h3 v3 X3 K3 hQ3
  obtain rfl := hQ3
  show OGo _ _ _ _ T3 (mkF m 11 #[.val (.ref a), .val (.int 2), .val (.int 2), .val (.int 2), .unset] [])
  refine og_iloadN X3 12 d18_11 rfl rfl ?_
  refine og_ifY X3 22 d18_12 (XT.i0_ne_t (by decide)) (by decide) (by decide) ?_
  refine og_iloadN X3 23 d18_22 rfl rfl ?_
  refine og_iloadN X3 24 d18_23 rfl rfl ?_
  refine og_isub X3 25 d18_24 rfl ?_
  show OGo _ _ _ _ T3 (mkF m 25 #[.val (.ref a), .val (.int 2), .val (.int 2), .val (.int 2), .unset] [(.int 0)])
  refine og_istore X3 27 #[.val (.ref a), .val (.int 2), .val (.int 2), .val (.int 2), .val (.int 0)] d18_25 rfl rfl ?_
  refine og_aloadN X3 28 d18_27 rfl rfl rfl ?_
  have f4 := eE.keep K3
  have f5 := eC.keep K3 nin0
  refine own_virt X3 31 (a := a) (argsL := []) (rest := []) d18_28 f4 (fun _ hZ => notFace_of_selects (args := #[]) (mvT hZ (ow hw 74 rfl))) (rm13 l Z n0 h3 [] a0 hw hWd X3.old a f5 ) (ow hw 71 rfl) (ow hw 72 rfl) (ow hw 74 rfl) (ow hw 73 rfl) (ow hw 6 rfl) (ow hw 75 rfl) (by decide) (lenOf pd__28_29Z rfl) rfl rfl rfl (W := 0) rfl (by decide) (by decide) (by decide) (by decide) all0 rfl ?_
  intro T6 h6 v6 X6 K6 hQ6
  obtain rfl := hQ6
  show OGo _ _ _ _ T6 (mkF m 31 #[.val (.ref a), .val (.int 2), .val (.int 2), .val (.int 2), .val (.int 0)] [(.int 1)])
  refine og_ifN X6 34 d18_31 (XT.i0_eq_f (by decide)) rfl ?_
  refine og_aloadN X6 35 d18_34 rfl rfl rfl ?_
  have f7 := eV.keep K3 nin0
  have f8 := f7.keep K6 nin0
  refine own_get X6 38 d18_35 (host := "") (Or.inl (ow hw 24 rfl)) Via.refl f8 rfl ?_
  intro T9 X10
  refine og_iloadN X10 39 d18_38 rfl rfl ?_
  refine og_iload X10 41 d18_39 rfl rfl ?_
  have f11 := eA2.keep K3 nin0
  have f12 := f11.keep K6 nin0
  refine own_stat X10 44 (argsL := [(.ref t), (.int 2), (.int 0)]) (rest := []) d18_41 (rf_ns222 l Z n0 h6 [] a0 hw hWd X10.old t kt (.int (StrChars.lo8 x0)) (.int (StrChars.lo8 x1)) f12 ) (ow hw 117 rfl) (ow hw 118 rfl) (ow hw 79 rfl) (ow hw 119 rfl) (by decide) (lenOf pd__28_5bBII_29Ljava_2flang_2fString_3b rfl) rfl rfl rfl (W := 0) rfl (by decide) (by decide) (by decide) (by decide) all0 rfl ?_
  intro T13 h13 v13 X13 K13 hQ13
  obtain ⟨r13, rfl⟩ := hQ13
  show OGo _ _ _ _ T13 (mkF m 44 #[.val (.ref a), .val (.int 2), .val (.int 2), .val (.int 2), .val (.int 0)] [(.ref r13)])
  refine og_goto X13 57 d18_44 (by decide) (by decide) ?_
  refine own_retA X13 d18_57 hret rfl rfl (by decide) (by decide) ?_
  exact ⟨r13, rfl⟩
theorem rf_txt222 (a0 : Array Value) (hw : OHw a0 Z) (hWd : OWorld Z a0) (O0 : Old Z n0 h0) (a : Addr) (u : Addr) (x0 : Int32) (x1 : Int32) (q0 : Exa Z h0 a "com/example/ratable/ratable/core/JournalSums$Fields") (q1 : Fld Z h0 a "com/example/ratable/ratable/core/JournalSums$Fields" "line" "Ljava/lang/String;" (.ref u)) (q2 : Fld Z h0 a "com/example/ratable/ratable/core/JournalSums$Fields" "next" "I" (.int 2)) (q3 : OStr Z h0 u [x0, x1] h0.size) (q4 : ∀ c ∈ [x0, x1], ¬ c < 0 ∧ ¬ (255 : Int32) < c) (g0 : n0 ≤ a ∧ a < h0.size) :
    OMet l Z own_EL n0 yN16 (Jvm.Cond.code yN16 prog_51_method_3_code 3 (some (.object "java/lang/String")) :: wc) ({ frames := 4, cells := 2, slots := 4, locals := 55 } : Room) #[(.ref a)] h0 [a] (fun vq hq => ∃ (r : Addr), vq = some (.ref r) ∧ Fld Z hq a "com/example/ratable/ratable/core/JournalSums$Fields" "line" "Ljava/lang/String;" (.ref u) ∧ Fld Z hq a "com/example/ratable/ratable/core/JournalSums$Fields" "next" "I" (.int 3)) := by
  refine own_enter #[.val (.ref a), .unset, .unset] pn_com_example_ratable_ratable_core_JournalSums_Fields_text___Ljava_lang_String_ (fun _ => rfl) hWd.1 O0 (allS g0 all0) ?_
  intro p e s m below meth c T0 X0 hnm hret
  refine og_aloadN X0 1 d10_0 rfl rfl rfl ?_
  refine own_priv X0 4 (a := a) (argsL := []) (rest := []) d10_1 q0 (rf_end222 l Z n0 h0 [] a0 hw hWd X0.old a u x0 x1 q0 q1 q2 q3.top q4 ) (ow hw 61 rfl) (ow hw 62 rfl) (own_selfsel2 (ow hw 41 rfl) rfl (ow hw 62 rfl) (ow hw 63 rfl) (by decide)) (ow hw 63 rfl) (ow hw 31 rfl) (ow hw 64 rfl) (by decide) (lenOf pd__28_29I rfl) rfl rfl rfl (W := 0) rfl (by decide) (by decide) (by decide) (by decide) all0 rfl ?_
  intro T1 h1 v1 X1 K1 hQ1
  obtain rfl := hQ1
  show OGo _ _ _ _ T1 (mkF m 4 #[.val (.ref a), .unset, .unset] [(.int 2)])
  refine og_istoreN X1 5 #[.val (.ref a), .val (.int 2), .unset] d10_4 rfl rfl ?_
  refine og_aloadN X1 6 d10_5 rfl rfl rfl ?_
  have f2 := q1.keep K1 nin0
  refine own_get X1 9 d10_6 (host := "") (Or.inl (ow hw 36 rfl)) Via.refl f2 rfl ?_
  intro T3 X4
  refine og_aloadN X4 10 d10_9 rfl rfl rfl ?_
  have f5 := q2.keep K1 nin0
  refine own_get X4 13 d10_10 (host := "") (Or.inl (ow hw 43 rfl)) Via.refl f5 rfl ?_
  intro T6 X7
  refine og_iloadN X7 14 d10_13 rfl rfl ?_
  have f8 := q3.exa.keep K1
  have f9 := q3.keep K1 all0
  refine own_virt X7 17 (a := u) (argsL := [(.int 2), (.int 2)]) (rest := []) d10_14 f8 (fun _ hZ => notFace_of_selects (args := #[]) (mvT hZ (ow hw 94 rfl))) (rf_sub222 l Z n0 h1 [] a0 hw hWd X7.old u x0 x1 f9.top q4 ) (ow hw 91 rfl) (ow hw 92 rfl) (ow hw 94 rfl) (ow hw 93 rfl) (ow hw 6 rfl) (ow hw 95 rfl) (by decide) (lenOf pd__28II_29Ljava_2flang_2fString_3b rfl) rfl rfl rfl (W := 0) rfl (by decide) (by decide) (by decide) (by decide) all0 rfl ?_
  intro T10 h10 v10 X10 K10 hQ10
  obtain ⟨r10, rfl⟩ := hQ10
  show OGo _ _ _ _ T10 (mkF m 17 #[.val (.ref a), .val (.int 2), .unset] [(.ref r10)])
  refine og_astoreN X10 18 #[.val (.ref a), .val (.int 2), .val (.ref r10)] d10_17 rfl rfl rfl ?_
  refine og_aloadN X10 19 d10_18 rfl rfl rfl ?_
  refine og_iloadN X10 20 d10_19 rfl rfl ?_
  refine og_iconst X10 21 (1 : Int32) d10_20 rfl rfl ?_
  refine og_iadd X10 22 d10_21 rfl ?_
  show OGo _ _ _ _ T10 (mkF m 22 #[.val (.ref a), .val (.int 2), .val (.ref r10)] [(.int 3), (.ref a)])
  have f11 := f5.keep K10 nin0
  have f12 := q0.keep K1
  have f13 := f12.keep K10
  have f14 := f2.keep K10 nin0
  refine own_put X10 25 d10_22 (host := "") (Or.inl (ow hw 43 rfl)) Via.refl f11 f13 (Or.inl (ow hw 44 rfl)) (ow hw 30 rfl) (ty := .int) (by decide) rfl rfl (om 0 rfl) rfl ?_
  intro T15 h15 X15 W15 K15 F15
  have f16 := Fld.other W15 f14 (Or.inr (slot_ne (Or.inr (ow hw 37 rfl)) (Or.inl (ow hw 44 rfl)) (by decide) (t := (.object "java/lang/String")) (t' := .int) (by decide) (by decide)))
  refine og_aloadN X15 26 d10_25 rfl rfl rfl ?_
  refine own_retA X15 d10_26 hret rfl rfl (by decide) (by decide) ?_
  exact ⟨r10, rfl, f16, F15⟩
theorem rf_ioc30 (a0 : Array Value) (hw : OHw a0 Z) (hWd : OWorld Z a0) (O0 : Old Z n0 h0) (b : Addr) (kb : ClassId) (x0 : Int32) (x1 : Int32) (x2 : Int32) (q0 : Arv Z h0 b kb .byte (3 : Int32) [(.int (StrChars.lo8 x0)), (.int (StrChars.lo8 x1)), (.int (StrChars.lo8 x2))] (.int 0)) (q1 : ∀ c ∈ [x0, x1, x2], ¬ c < 0 ∧ ¬ (255 : Int32) < c) :
    OMet l Z own_EL n0 yN17 (Jvm.Cond.code yN17 jdk_43_method_23_code 6 (some .int) :: wc) ({ frames := 0, cells := 0, slots := 0, locals := 0 } : Room) #[(.ref b), (.int 9), (.int 0), (.int 3)] h0 [] (fun vq hq => vq = some (.int (own_ix [x0, x1, x2] 0))) := by
  refine own_enter #[.val (.ref b), .val (.int 9), .val (.int 0), .val (.int 3), .unset, .unset] pn_java_lang_StringLatin1_indexOfChar___BIII_I (fun _ => rfl) hWd.1 O0 all0 ?_
  intro p e s m below meth c T0 X0 hnm hret
  refine og_iloadN X0 1 d24_0 rfl rfl ?_
  refine og_i2b X0 2 d24_1 rfl ?_
  show OGo _ _ _ _ T0 (mkF m 2 #[.val (.ref b), .val (.int 9), .val (.int 0), .val (.int 3), .unset, .unset] [(.int 9)])
  refine og_istore X0 4 #[.val (.ref b), .val (.int 9), .val (.int 0), .val (.int 3), .val (.int 9), .unset] d24_2 rfl rfl ?_
  refine og_iloadN X0 5 d24_4 rfl rfl ?_
  refine og_istore X0 7 #[.val (.ref b), .val (.int 9), .val (.int 0), .val (.int 3), .val (.int 9), .val (.int 0)] d24_5 rfl rfl ?_
  refine og_iload X0 9 d24_7 rfl rfl ?_
  refine og_iloadN X0 10 d24_9 rfl rfl ?_
  refine og_icmpN X0 13 d24_10 (XT.ii_ge_f (by decide)) rfl ?_
  refine og_aloadN X0 14 d24_13 rfl rfl rfl ?_
  refine og_iload X0 16 d24_14 rfl rfl ?_
  refine own_ldB X0 17 d24_16 q0 (by decide) (by decide) rfl rfl ?_
  refine og_iload X0 19 d24_17 rfl rfl ?_
  by_cases hc1 : (StrChars.lo8 x0) = (9 : Int32)
  · -- (StrChars.lo8 x0) = (9 : Int32)
    refine og_icmpN X0 22 d24_19 (XT.ii_ne_f hc1) rfl ?_
    refine og_iload X0 24 d24_22 rfl rfl ?_
    refine own_retI X0 d24_24 hret (by decide) (by decide) ?_
    (first | rfl | (simp only [own_ix, own_ixA, List.drop, if_true, if_false, own_tab2 (q1 _ (om 0 rfl)) hc1]; done) | (simp only [own_ix, own_ixA, List.drop, if_true, if_false, own_tab2 (q1 _ (om 0 rfl)) hc1]; rfl))
  · -- not
    refine og_icmpY X0 25 d24_19 (XT.ii_ne_t hc1) (by decide) (by decide) ?_
    refine og_iinc X0 28 #[.val (.ref b), .val (.int 9), .val (.int 0), .val (.int 3), .val (.int 9), .val (.int 1)] d24_25 rfl rfl rfl ?_
    refine og_goto X0 7 d24_28 (by decide) (by decide) ?_
    refine og_iload X0 9 d24_7 rfl rfl ?_
    refine og_iloadN X0 10 d24_9 rfl rfl ?_
    refine og_icmpN X0 13 d24_10 (XT.ii_ge_f (by decide)) rfl ?_
    refine og_aloadN X0 14 d24_13 rfl rfl rfl ?_
    refine og_iload X0 16 d24_14 rfl rfl ?_
    refine own_ldB X0 17 d24_16 q0 (by decide) (by decide) rfl rfl ?_
    refine og_iload X0 19 d24_17 rfl rfl ?_
    by_cases hc2 : (StrChars.lo8 x1) = (9 : Int32)
    · -- (StrChars.lo8 x1) = (9 : Int32)
      refine og_icmpN X0 22 d24_19 (XT.ii_ne_f hc2) rfl ?_
      refine og_iload X0 24 d24_22 rfl rfl ?_
      refine own_retI X0 d24_24 hret (by decide) (by decide) ?_
      (first | rfl | (simp only [own_ix, own_ixA, List.drop, if_true, if_false, own_tab3 hc1, own_tab2 (q1 _ (om 1 rfl)) hc2]; done) | (simp only [own_ix, own_ixA, List.drop, if_true, if_false, own_tab3 hc1, own_tab2 (q1 _ (om 1 rfl)) hc2]; rfl))
    · -- not
      refine og_icmpY X0 25 d24_19 (XT.ii_ne_t hc2) (by decide) (by decide) ?_
      refine og_iinc X0 28 #[.val (.ref b), .val (.int 9), .val (.int 0), .val (.int 3), .val (.int 9), .val (.int 2)] d24_25 rfl rfl rfl ?_
      refine og_goto X0 7 d24_28 (by decide) (by decide) ?_
      refine og_iload X0 9 d24_7 rfl rfl ?_
      refine og_iloadN X0 10 d24_9 rfl rfl ?_
      refine og_icmpN X0 13 d24_10 (XT.ii_ge_f (by decide)) rfl ?_
      refine og_aloadN X0 14 d24_13 rfl rfl rfl ?_
      refine og_iload X0 16 d24_14 rfl rfl ?_
      refine own_ldB X0 17 d24_16 q0 (by decide) (by decide) rfl rfl ?_
      refine og_iload X0 19 d24_17 rfl rfl ?_
      by_cases hc3 : (StrChars.lo8 x2) = (9 : Int32)
      · -- (StrChars.lo8 x2) = (9 : Int32)
        refine og_icmpN X0 22 d24_19 (XT.ii_ne_f hc3) rfl ?_
        refine og_iload X0 24 d24_22 rfl rfl ?_
        refine own_retI X0 d24_24 hret (by decide) (by decide) ?_
        (first | rfl | (simp only [own_ix, own_ixA, List.drop, if_true, if_false, own_tab3 hc1, own_tab3 hc2, own_tab2 (q1 _ (om 2 rfl)) hc3]; done) | (simp only [own_ix, own_ixA, List.drop, if_true, if_false, own_tab3 hc1, own_tab3 hc2, own_tab2 (q1 _ (om 2 rfl)) hc3]; rfl))
      · -- not
        refine og_icmpY X0 25 d24_19 (XT.ii_ne_t hc3) (by decide) (by decide) ?_
        refine og_iinc X0 28 #[.val (.ref b), .val (.int 9), .val (.int 0), .val (.int 3), .val (.int 9), .val (.int 3)] d24_25 rfl rfl rfl ?_
        refine og_goto X0 7 d24_28 (by decide) (by decide) ?_
        refine og_iload X0 9 d24_7 rfl rfl ?_
        refine og_iloadN X0 10 d24_9 rfl rfl ?_
        refine og_icmpY X0 31 d24_10 (XT.ii_ge_t (by decide)) (by decide) (by decide) ?_
        refine og_iconst X0 32 (-1 : Int32) d24_31 rfl rfl ?_
        refine own_retI X0 d24_32 hret (by decide) (by decide) ?_
        (first | rfl | (simp only [own_ix, own_ixA, List.drop, if_true, if_false, own_tab3 hc1, own_tab3 hc2, own_tab3 hc3]; done) | (simp only [own_ix, own_ixA, List.drop, if_true, if_false, own_tab3 hc1, own_tab3 hc2, own_tab3 hc3]; rfl))
theorem rf_iol30 (a0 : Array Value) (hw : OHw a0 Z) (hWd : OWorld Z a0) (O0 : Old Z n0 h0) (b : Addr) (kb : ClassId) (x0 : Int32) (x1 : Int32) (x2 : Int32) (q0 : Arv Z h0 b kb .byte (3 : Int32) [(.int (StrChars.lo8 x0)), (.int (StrChars.lo8 x1)), (.int (StrChars.lo8 x2))] (.int 0)) (q1 : ∀ c ∈ [x0, x1, x2], ¬ c < 0 ∧ ¬ (255 : Int32) < c) :
    OMet l Z own_EL n0 yN12 (Jvm.Cond.code yN12 jdk_43_method_22_code 4 (some .int) :: wc) ({ frames := 1, cells := 0, slots := 0, locals := 17 } : Room) #[(.ref b), (.int 9), (.int 0), (.int 3)] h0 [] (fun vq hq => vq = some (.int (own_ix [x0, x1, x2] 0))) := by
  refine own_enter #[.val (.ref b), .val (.int 9), .val (.int 0), .val (.int 3)] pn_java_lang_StringLatin1_indexOf___BIII_I (fun _ => rfl) hWd.1 O0 all0 ?_
  intro p e s m below meth c T0 X0 hnm hret
  refine og_iloadN X0 1 d14_0 rfl rfl ?_
  refine own_stat X0 4 (argsL := [(.int 9)]) (rest := []) d14_1 (rm15 l Z n0 h0 [] a0 hw hWd X0.old   ) (ow hw 81 rfl) (ow hw 82 rfl) (ow hw 79 rfl) (ow hw 83 rfl) (by decide) (lenOf pd__28I_29Z rfl) rfl rfl rfl (W := 0) rfl (by decide) (by decide) (by decide) (by decide) all0 rfl ?_
  intro T1 h1 v1 X1 K1 hQ1
  obtain rfl := hQ1
  show OGo _ _ _ _ T1 (mkF m 4 #[.val (.ref b), .val (.int 9), .val (.int 0), .val (.int 3)] [(.int 1)])
  refine og_ifY X1 9 d14_4 (XT.i0_ne_t (by decide)) (by decide) (by decide) ?_
  refine og_iloadN X1 10 d14_9 rfl rfl ?_
  refine og_iconst X1 11 (0 : Int32) d14_10 rfl rfl ?_
  refine own_stat X1 14 (argsL := [(.int 0), (.int 0)]) (rest := []) d14_11 (rm16 l Z n0 h1 [] a0 hw hWd X1.old (0 : Int32) (0 : Int32) (by decide) ) (ow hw 84 rfl) (ow hw 85 rfl) (ow hw 86 rfl) (ow hw 87 rfl) (by decide) (lenOf pd__28II_29I rfl) rfl rfl rfl (W := 0) rfl (by decide) (by decide) (by decide) (by decide) all0 rfl ?_
  intro T2 h2 v2 X2 K2 hQ2
  obtain rfl := hQ2
  show OGo _ _ _ _ T2 (mkF m 14 #[.val (.ref b), .val (.int 9), .val (.int 0), .val (.int 3)] [(.int 0)])
  refine og_istoreN X2 15 #[.val (.ref b), .val (.int 9), .val (.int 0), .val (.int 3)] d14_14 rfl rfl ?_
  refine og_iloadN X2 16 d14_15 rfl rfl ?_
  refine og_aloadN X2 17 d14_16 rfl rfl rfl ?_
  have f3 := q0.keep K1 nin0
  have f4 := f3.keep K2 nin0
  refine own_len X2 18 d14_17 f4 rfl ?_
  refine own_stat X2 21 (argsL := [(.int 3), (.int 3)]) (rest := []) d14_18 (rm_min0 l Z n0 h2 [] a0 hw hWd X2.old (3 : Int32) (3 : Int32) (by decide) ) (ow hw 88 rfl) (ow hw 89 rfl) (ow hw 86 rfl) (ow hw 90 rfl) (by decide) (lenOf pd__28II_29I rfl) rfl rfl rfl (W := 0) rfl (by decide) (by decide) (by decide) (by decide) all0 rfl ?_
  intro T5 h5 v5 X5 K5 hQ5
  obtain rfl := hQ5
  show OGo _ _ _ _ T5 (mkF m 21 #[.val (.ref b), .val (.int 9), .val (.int 0), .val (.int 3)] [(.int 3)])
  refine og_istoreN X5 22 #[.val (.ref b), .val (.int 9), .val (.int 0), .val (.int 3)] d14_21 rfl rfl ?_
  refine og_iloadN X5 23 d14_22 rfl rfl ?_
  refine og_iloadN X5 24 d14_23 rfl rfl ?_
  refine og_icmpY X5 29 d14_24 (XT.ii_lt_t (by decide)) (by decide) (by decide) ?_
  refine og_aloadN X5 30 d14_29 rfl rfl rfl ?_
  refine og_iloadN X5 31 d14_30 rfl rfl ?_
  refine og_iloadN X5 32 d14_31 rfl rfl ?_
  refine og_iloadN X5 33 d14_32 rfl rfl ?_
  have f6 := f4.keep K5 nin0
  refine own_stat X5 36 (argsL := [(.ref b), (.int 9), (.int 0), (.int 3)]) (rest := []) d14_33 (rf_ioc30 l Z n0 h5 [] a0 hw hWd X5.old b kb x0 x1 x2 f6 q1 ) (ow hw 114 rfl) (ow hw 115 rfl) (ow hw 79 rfl) (ow hw 116 rfl) (by decide) (lenOf pd__28_5bBIII_29I rfl) rfl rfl rfl (W := 0) rfl (by decide) (by decide) (by decide) (by decide) all0 rfl ?_
  intro T7 h7 v7 X7 K7 hQ7
  obtain rfl := hQ7
  show OGo _ _ _ _ T7 (mkF m 36 #[.val (.ref b), .val (.int 9), .val (.int 0), .val (.int 3)] [(.int (own_ix [x0, x1, x2] 0))])
  refine own_retI X7 d14_36 hret (by decide) (by decide) ?_
  exact rfl
theorem rf_ios30 (a0 : Array Value) (hw : OHw a0 Z) (hWd : OWorld Z a0) (O0 : Old Z n0 h0) (a : Addr) (x0 : Int32) (x1 : Int32) (x2 : Int32) (q0 : OStr Z h0 a [x0, x1, x2] h0.size) (q1 : ∀ c ∈ [x0, x1, x2], ¬ c < 0 ∧ ¬ (255 : Int32) < c) :
    OMet l Z own_EL n0 yN13 (Jvm.Cond.code yN13 jdk_42_method_80_code 3 (some .int) :: wc) ({ frames := 2, cells := 0, slots := 0, locals := 32 } : Room) #[(.ref a), (.int 9), (.int 0)] h0 [] (fun vq hq => vq = some (.int (own_ix [x0, x1, x2] 0))) := by
  refine own_enter #[.val (.ref a), .val (.int 9), .val (.int 0)] pn_java_lang_String_indexOf__II_I (fun _ => rfl) hWd.1 O0 all0 ?_
  intro p e s m below meth c T0 X0 hnm hret
  obtain ⟨t, kt, NN, vv, eE, eC, eV, eA, cod, bd, l4⟩ := q0.latin (fun c hc => (q1 c hc).2)
  obtain ⟨-, rfl, rfl, -⟩ := cod.resolve_right fun q => absurd q.1 (by decide)
  have eA2 : Arv Z h0 t kt .byte (3 : Int32) [(.int (StrChars.lo8 x0)), (.int (StrChars.lo8 x1)), (.int (StrChars.lo8 x2))] (.int 0) := eA
  refine og_aloadN X0 1 d12_0 rfl rfl rfl ?_
  refine own_virt X0 4 (a := a) (argsL := []) (rest := []) d12_1 eE (fun _ hZ => notFace_of_selects (args := #[]) (mvT hZ (ow hw 74 rfl))) (rm13 l Z n0 h0 [] a0 hw hWd X0.old a eC ) (ow hw 71 rfl) (ow hw 72 rfl) (ow hw 74 rfl) (ow hw 73 rfl) (ow hw 6 rfl) (ow hw 75 rfl) (by decide) (lenOf pd__28_29Z rfl) rfl rfl rfl (W := 0) rfl (by decide) (by decide) (by decide) (by decide) all0 rfl ?_
  intro T1 h1 v1 X1 K1 hQ1
  obtain rfl := hQ1
  show OGo _ _ _ _ T1 (mkF m 4 #[.val (.ref a), .val (.int 9), .val (.int 0)] [(.int 1)])
  refine og_ifN X1 7 d12_4 (XT.i0_eq_f (by decide)) rfl ?_
  refine og_aloadN X1 8 d12_7 rfl rfl rfl ?_
  have f2 := eV.keep K1 nin0
  refine own_get X1 11 d12_8 (host := "") (Or.inl (ow hw 24 rfl)) Via.refl f2 rfl ?_
  intro T3 X4
  refine og_iloadN X4 12 d12_11 rfl rfl ?_
  refine og_iloadN X4 13 d12_12 rfl rfl ?_
  refine og_aloadN X4 14 d12_13 rfl rfl rfl ?_
  have f5 := q0.keep K1 all0
  refine own_strLen X4 17 d12_14 f5 (own_wL hw) (ow hw 5 rfl) hWd.2.1.1 hWd.2.1.2 (ow hw 76 rfl) (ow hw 46 rfl) (ow hw 48 rfl) (ow hw 47 rfl) rfl (W := 3) rfl (by decide) (by decide) (by decide) (by decide) rfl ?_
  intro T6 X7
  show OGo _ _ _ _ T6 (mkF m 17 #[.val (.ref a), .val (.int 9), .val (.int 0)] [(.int 3), (.int 0), (.int 9), (.ref t)])
  have f8 := eA2.keep K1 nin0
  refine own_stat X7 20 (argsL := [(.ref t), (.int 9), (.int 0), (.int 3)]) (rest := []) d12_17 (rf_iol30 l Z n0 h1 [] a0 hw hWd X7.old t kt x0 x1 x2 f8 q1 ) (ow hw 77 rfl) (ow hw 78 rfl) (ow hw 79 rfl) (ow hw 80 rfl) (by decide) (lenOf pd__28_5bBIII_29I rfl) rfl rfl rfl (W := 0) rfl (by decide) (by decide) (by decide) (by decide) all0 rfl ?_
  intro T9 h9 v9 X9 K9 hQ9
  obtain rfl := hQ9
  show OGo _ _ _ _ T9 (mkF m 20 #[.val (.ref a), .val (.int 9), .val (.int 0)] [(.int (own_ix [x0, x1, x2] 0))])
  refine og_goto X9 36 d12_20 (by decide) (by decide) ?_
  refine own_retI X9 d12_36 hret (by decide) (by decide) ?_
  exact rfl
theorem rf_end300 (a0 : Array Value) (hw : OHw a0 Z) (hWd : OWorld Z a0) (O0 : Old Z n0 h0) (a : Addr) (u : Addr) (x0 : Int32) (x1 : Int32) (x2 : Int32) (q0 : Exa Z h0 a "com/example/ratable/ratable/core/JournalSums$Fields") (q1 : Fld Z h0 a "com/example/ratable/ratable/core/JournalSums$Fields" "line" "Ljava/lang/String;" (.ref u)) (q2 : Fld Z h0 a "com/example/ratable/ratable/core/JournalSums$Fields" "next" "I" (.int 0)) (q3 : OStr Z h0 u [x0, x1, x2] h0.size) (q4 : ∀ c ∈ [x0, x1, x2], ¬ c < 0 ∧ ¬ (255 : Int32) < c) (q5 : x0 = (9 : Int32)) :
    OMet l Z own_EL n0 yN14 (Jvm.Cond.code yN14 prog_51_method_8_code 2 (some .int) :: wc) ({ frames := 3, cells := 0, slots := 0, locals := 46 } : Room) #[(.ref a)] h0 [] (fun vq hq => vq = some (.int 0)) := by
  refine own_enter #[.val (.ref a), .unset] pn_com_example_ratable_ratable_core_JournalSums_Fields_end___I (fun _ => rfl) hWd.1 O0 all0 ?_
  intro p e s m below meth c T0 X0 hnm hret
  refine og_aloadN X0 1 d11_0 rfl rfl rfl ?_
  refine own_virt X0 4 (a := a) (argsL := []) (rest := []) d11_1 q0 (fun _ hZ => notFace_of_selects (args := #[]) (mvT hZ (ow hw 41 rfl))) (rm_more1 l Z n0 h0 [] a0 hw hWd X0.old a u [x0, x1, x2] (0 : Int32) q1 q2 q3.top (show ¬ (3 : Int32) < (0 : Int32) by decide) ) (ow hw 65 rfl) (ow hw 39 rfl) (ow hw 41 rfl) (ow hw 40 rfl) (ow hw 31 rfl) (ow hw 42 rfl) (by decide) (lenOf pd__28_29Z rfl) rfl rfl rfl (W := 0) rfl (by decide) (by decide) (by decide) (by decide) all0 rfl ?_
  intro T1 h1 v1 X1 K1 hQ1
  obtain rfl := hQ1
  show OGo _ _ _ _ T1 (mkF m 4 #[.val (.ref a), .unset] [(.int 1)])
  refine og_ifY X1 37 d11_4 (XT.i0_ne_t (by decide)) (by decide) (by decide) ?_
  refine og_aloadN X1 38 d11_37 rfl rfl rfl ?_
  have f2 := q1.keep K1 nin0
  refine own_get X1 41 d11_38 (host := "") (Or.inl (ow hw 36 rfl)) Via.refl f2 rfl ?_
  intro T3 X4
  refine og_bipush X4 43 (9 : Int32) d11_41 rfl rfl ?_
  refine og_aloadN X4 44 d11_43 rfl rfl rfl ?_
  have f5 := q2.keep K1 nin0
  refine own_get X4 47 d11_44 (host := "") (Or.inl (ow hw 43 rfl)) Via.refl f5 rfl ?_
  intro T6 X7
  have f8 := q3.exa.keep K1
  have f9 := q3.keep K1 all0
  refine own_virt X7 50 (a := u) (argsL := [(.int 9), (.int 0)]) (rest := []) d11_47 f8 (fun _ hZ => notFace_of_selects (args := #[]) (mvT hZ (ow hw 69 rfl))) (rf_ios30 l Z n0 h1 [] a0 hw hWd X7.old u x0 x1 x2 f9.top q4 ) (ow hw 66 rfl) (ow hw 67 rfl) (ow hw 69 rfl) (ow hw 68 rfl) (ow hw 6 rfl) (ow hw 70 rfl) (by decide) (lenOf pd__28II_29I rfl) rfl rfl rfl (W := 0) rfl (by decide) (by decide) (by decide) (by decide) all0 rfl ?_
  intro T10 h10 v10 X10 K10 hQ10
  obtain rfl := hQ10
  show OGo _ _ _ _ T10 (mkF m 50 #[.val (.ref a), .unset] [(.int (own_ix [x0, x1, x2] 0))])
  rw [show (own_ix [x0, x1, x2] 0) = (0 : Int32) by (first | rfl | (simp only [own_ix, own_ixA, List.drop, if_true, if_false, q5]; done) | (simp only [own_ix, own_ixA, List.drop, if_true, if_false, q5]; rfl))]
  refine og_istoreN X10 51 #[.val (.ref a), .val (.int 0)] d11_50 rfl rfl ?_
  refine og_iloadN X10 52 d11_51 rfl rfl ?_
  refine og_ifY X10 65 d11_52 (XT.i0_ge_t (by decide)) (by decide) (by decide) ?_
  refine og_iloadN X10 66 d11_65 rfl rfl ?_
  refine own_retI X10 d11_66 hret (by decide) (by decide) ?_
  exact rfl
theorem rf_ns300 (a0 : Array Value) (hw : OHw a0 Z) (hWd : OWorld Z a0) (O0 : Old Z n0 h0) (b : Addr) (kb : ClassId) (e0 : Value) (e1 : Value) (e2 : Value) (q0 : Arv Z h0 b kb .byte (3 : Int32) [e0, e1, e2] (.int 0)) :
    OMet l Z own_EL n0 yN18 (Jvm.Cond.code yN18 jdk_43_method_47_code 3 (some (.object "java/lang/String")) :: wc) ({ frames := 0, cells := 2, slots := 4, locals := 0 } : Room) #[(.ref b), (.int 0), (.int 0)] h0 [] (fun vq hq => ∃ (r : Addr), vq = some (.ref r)) := by
  refine own_enter #[.val (.ref b), .val (.int 0), .val (.int 0)] pn_java_lang_StringLatin1_newString___BII_Ljava_lang_String_ (fun _ => rfl) hWd.1 O0 all0 ?_
  intro p e s m below meth c T0 X0 hnm hret
  refine og_iloadN X0 1 d25_0 rfl rfl ?_
  refine og_ifN X0 4 d25_1 (XT.i0_ne_f (by decide)) rfl ?_
  refine own_ldcO X0 6 (cap := 0) d25_4 own_ELne (ow hw 120 rfl) (own_wS hw) (by decide) (by decide) (by decide) (by decide) rfl ?_
  intro T1 h1 a1 X1 K1
  refine own_retA X1 d25_6 hret rfl rfl (by decide) (by decide) ?_
  exact ⟨a1, rfl⟩
theorem rf_sub300 (a0 : Array Value) (hw : OHw a0 Z) (hWd : OWorld Z a0) (O0 : Old Z n0 h0) (a : Addr) (x0 : Int32) (x1 : Int32) (x2 : Int32) (q0 : OStr Z h0 a [x0, x1, x2] h0.size) (q1 : ∀ c ∈ [x0, x1, x2], ¬ c < 0 ∧ ¬ (255 : Int32) < c) :
    OMet l Z own_EL n0 yN15 (Jvm.Cond.code yN15 jdk_42_method_92_code 5 (some (.object "java/lang/String")) :: wc) ({ frames := 2, cells := 2, slots := 4, locals := 29 } : Room) #[(.ref a), (.int 0), (.int 0)] h0 [] (fun vq hq => ∃ (r : Addr), vq = some (.ref r)) := by
  refine own_enter #[.val (.ref a), .val (.int 0), .val (.int 0), .unset, .unset] pn_java_lang_String_substring__II_Ljava_lang_String_ (fun _ => rfl) hWd.1 O0 all0 ?_
  intro p e s m below meth c T0 X0 hnm hret
  obtain ⟨t, kt, NN, vv, eE, eC, eV, eA, cod, bd, l4⟩ := q0.latin (fun c hc => (q1 c hc).2)
  obtain ⟨-, rfl, rfl, -⟩ := cod.resolve_right fun q => absurd q.1 (by decide)
  have eA2 : Arv Z h0 t kt .byte (3 : Int32) [(.int (StrChars.lo8 x0)), (.int (StrChars.lo8 x1)), (.int (StrChars.lo8 x2))] (.int 0) := eA
  refine og_aloadN X0 1 d18_0 rfl rfl rfl ?_
  refine own_strLen X0 4 d18_1 q0 (own_wL hw) (ow hw 5 rfl) hWd.2.1.1 hWd.2.1.2 (ow hw 76 rfl) (ow hw 46 rfl) (ow hw 48 rfl) (ow hw 47 rfl) rfl (W := 0) rfl (by decide) (by decide) (by decide) (by decide) rfl ?_
  intro T1 X2
  show OGo _ _ _ _ T1 (mkF m 4 #[.val (.ref a), .val (.int 0), .val (.int 0), .unset, .unset] [(.int 3)])
  refine og_istoreN X2 5 #[.val (.ref a), .val (.int 0), .val (.int 0), .val (.int 3), .unset] d18_4 rfl rfl ?_
  refine og_iloadN X2 6 d18_5 rfl rfl ?_
  refine og_iloadN X2 7 d18_6 rfl rfl ?_
  refine og_iloadN X2 8 d18_7 rfl rfl ?_
  refine own_stat X2 11 (argsL := [(.int 0), (.int 0), (.int 3)]) (rest := []) d18_8 (rm19 l Z n0 h0 [] a0 hw hWd X2.old (0 : Int32) (0 : Int32) (3 : Int32) (by decide) (by decide) (by decide) ) (ow hw 96 rfl) (ow hw 97 rfl) (ow hw 6 rfl) (ow hw 98 rfl) (by decide) (lenOf pd__28III_29V rfl) rfl rfl rfl (W := 0) rfl (by decide) (by decide) (by decide) (by decide) all0 rfl ?_
  intro T3 h3 v3 X3 K3 hQ3
  obtain rfl := hQ3
  show OGo _ _ _ _ T3 (mkF m 11 #[.val (.ref a), .val (.int 0), .val (.int 0), .val (.int 3), .unset] [])
  refine og_iloadN X3 12 d18_11 rfl rfl ?_
  refine og_ifN X3 15 d18_12 (XT.i0_ne_f (by decide)) rfl ?_
  refine og_iloadN X3 16 d18_15 rfl rfl ?_
  refine og_iloadN X3 17 d18_16 rfl rfl ?_
  refine og_icmpY X3 22 d18_17 (XT.ii_ne_t (by decide)) (by decide) (by decide) ?_
  refine og_iloadN X3 23 d18_22 rfl rfl ?_
  refine og_iloadN X3 24 d18_23 rfl rfl ?_
  refine og_isub X3 25 d18_24 rfl ?_
  show OGo _ _ _ _ T3 (mkF m 25 #[.val (.ref a), .val (.int 0), .val (.int 0), .val (.int 3), .unset] [(.int 0)])
  refine og_istore X3 27 #[.val (.ref a), .val (.int 0), .val (.int 0), .val (.int 3), .val (.int 0)] d18_25 rfl rfl ?_
  refine og_aloadN X3 28 d18_27 rfl rfl rfl ?_
  have f4 := eE.keep K3
  have f5 := eC.keep K3 nin0
  refine own_virt X3 31 (a := a) (argsL := []) (rest := []) d18_28 f4 (fun _ hZ => notFace_of_selects (args := #[]) (mvT hZ (ow hw 74 rfl))) (rm13 l Z n0 h3 [] a0 hw hWd X3.old a f5 ) (ow hw 71 rfl) (ow hw 72 rfl) (ow hw 74 rfl) (ow hw 73 rfl) (ow hw 6 rfl) (ow hw 75 rfl) (by decide) (lenOf pd__28_29Z rfl) rfl rfl rfl (W := 0) rfl (by decide) (by decide) (by decide) (by decide) all0 rfl ?_
  intro T6 h6 v6 X6 K6 hQ6
  obtain rfl := hQ6
  show OGo _ _ _ _ T6 (mkF m 31 #[.val (.ref a), .val (.int 0), .val (.int 0), .val (.int 3), .val (.int 0)] [(.int 1)])
  refine og_ifN X6 34 d18_31 (XT.i0_eq_f (by decide)) rfl ?_
  refine og_aloadN X6 35 d18_34 rfl rfl rfl ?_
  have f7 := eV.keep K3 nin0
  have f8 := f7.keep K6 nin0
  refine own_get X6 38 d18_35 (host := "") (Or.inl (ow hw 24 rfl)) Via.refl f8 rfl ?_
  intro T9 X10
  refine og_iloadN X10 39 d18_38 rfl rfl ?_
  refine og_iload X10 41 d18_39 rfl rfl ?_
  have f11 := eA2.keep K3 nin0
  have f12 := f11.keep K6 nin0
  refine own_stat X10 44 (argsL := [(.ref t), (.int 0), (.int 0)]) (rest := []) d18_41 (rf_ns300 l Z n0 h6 [] a0 hw hWd X10.old t kt (.int (StrChars.lo8 x0)) (.int (StrChars.lo8 x1)) (.int (StrChars.lo8 x2)) f12 ) (ow hw 117 rfl) (ow hw 118 rfl) (ow hw 79 rfl) (ow hw 119 rfl) (by decide) (lenOf pd__28_5bBII_29Ljava_2flang_2fString_3b rfl) rfl rfl rfl (W := 0) rfl (by decide) (by decide) (by decide) (by decide) all0 rfl ?_
  intro T13 h13 v13 X13 K13 hQ13
  obtain ⟨r13, rfl⟩ := hQ13
  show OGo _ _ _ _ T13 (mkF m 44 #[.val (.ref a), .val (.int 0), .val (.int 0), .val (.int 3), .val (.int 0)] [(.ref r13)])
  refine og_goto X13 57 d18_44 (by decide) (by decide) ?_
  refine own_retA X13 d18_57 hret rfl rfl (by decide) (by decide) ?_
  exact ⟨r13, rfl⟩
theorem rf_txt300 (a0 : Array Value) (hw : OHw a0 Z) (hWd : OWorld Z a0) (O0 : Old Z n0 h0) (a : Addr) (u : Addr) (x0 : Int32) (x1 : Int32) (x2 : Int32) (q0 : Exa Z h0 a "com/example/ratable/ratable/core/JournalSums$Fields") (q1 : Fld Z h0 a "com/example/ratable/ratable/core/JournalSums$Fields" "line" "Ljava/lang/String;" (.ref u)) (q2 : Fld Z h0 a "com/example/ratable/ratable/core/JournalSums$Fields" "next" "I" (.int 0)) (q3 : OStr Z h0 u [x0, x1, x2] h0.size) (q4 : ∀ c ∈ [x0, x1, x2], ¬ c < 0 ∧ ¬ (255 : Int32) < c) (q5 : x0 = (9 : Int32)) (g0 : n0 ≤ a ∧ a < h0.size) :
    OMet l Z own_EL n0 yN16 (Jvm.Cond.code yN16 prog_51_method_3_code 3 (some (.object "java/lang/String")) :: wc) ({ frames := 4, cells := 2, slots := 4, locals := 59 } : Room) #[(.ref a)] h0 [a] (fun vq hq => ∃ (r : Addr), vq = some (.ref r) ∧ Fld Z hq a "com/example/ratable/ratable/core/JournalSums$Fields" "line" "Ljava/lang/String;" (.ref u) ∧ Fld Z hq a "com/example/ratable/ratable/core/JournalSums$Fields" "next" "I" (.int 1)) := by
  refine own_enter #[.val (.ref a), .unset, .unset] pn_com_example_ratable_ratable_core_JournalSums_Fields_text___Ljava_lang_String_ (fun _ => rfl) hWd.1 O0 (allS g0 all0) ?_
  intro p e s m below meth c T0 X0 hnm hret
  refine og_aloadN X0 1 d10_0 rfl rfl rfl ?_
  refine own_priv X0 4 (a := a) (argsL := []) (rest := []) d10_1 q0 (rf_end300 l Z n0 h0 [] a0 hw hWd X0.old a u x0 x1 x2 q0 q1 q2 q3.top q4 q5 ) (ow hw 61 rfl) (ow hw 62 rfl) (own_selfsel2 (ow hw 41 rfl) rfl (ow hw 62 rfl) (ow hw 63 rfl) (by decide)) (ow hw 63 rfl) (ow hw 31 rfl) (ow hw 64 rfl) (by decide) (lenOf pd__28_29I rfl) rfl rfl rfl (W := 0) rfl (by decide) (by decide) (by decide) (by decide) all0 rfl ?_
  intro T1 h1 v1 X1 K1 hQ1
  obtain rfl := hQ1
  show OGo _ _ _ _ T1 (mkF m 4 #[.val (.ref a), .unset, .unset] [(.int 0)])
  refine og_istoreN X1 5 #[.val (.ref a), .val (.int 0), .unset] d10_4 rfl rfl ?_
  refine og_aloadN X1 6 d10_5 rfl rfl rfl ?_
  have f2 := q1.keep K1 nin0
  refine own_get X1 9 d10_6 (host := "") (Or.inl (ow hw 36 rfl)) Via.refl f2 rfl ?_
  intro T3 X4
  refine og_aloadN X4 10 d10_9 rfl rfl rfl ?_
  have f5 := q2.keep K1 nin0
  refine own_get X4 13 d10_10 (host := "") (Or.inl (ow hw 43 rfl)) Via.refl f5 rfl ?_
  intro T6 X7
  refine og_iloadN X7 14 d10_13 rfl rfl ?_
  have f8 := q3.exa.keep K1
  have f9 := q3.keep K1 all0
  refine own_virt X7 17 (a := u) (argsL := [(.int 0), (.int 0)]) (rest := []) d10_14 f8 (fun _ hZ => notFace_of_selects (args := #[]) (mvT hZ (ow hw 94 rfl))) (rf_sub300 l Z n0 h1 [] a0 hw hWd X7.old u x0 x1 x2 f9.top q4 ) (ow hw 91 rfl) (ow hw 92 rfl) (ow hw 94 rfl) (ow hw 93 rfl) (ow hw 6 rfl) (ow hw 95 rfl) (by decide) (lenOf pd__28II_29Ljava_2flang_2fString_3b rfl) rfl rfl rfl (W := 0) rfl (by decide) (by decide) (by decide) (by decide) all0 rfl ?_
  intro T10 h10 v10 X10 K10 hQ10
  obtain ⟨r10, rfl⟩ := hQ10
  show OGo _ _ _ _ T10 (mkF m 17 #[.val (.ref a), .val (.int 0), .unset] [(.ref r10)])
  refine og_astoreN X10 18 #[.val (.ref a), .val (.int 0), .val (.ref r10)] d10_17 rfl rfl rfl ?_
  refine og_aloadN X10 19 d10_18 rfl rfl rfl ?_
  refine og_iloadN X10 20 d10_19 rfl rfl ?_
  refine og_iconst X10 21 (1 : Int32) d10_20 rfl rfl ?_
  refine og_iadd X10 22 d10_21 rfl ?_
  show OGo _ _ _ _ T10 (mkF m 22 #[.val (.ref a), .val (.int 0), .val (.ref r10)] [(.int 1), (.ref a)])
  have f11 := f5.keep K10 nin0
  have f12 := q0.keep K1
  have f13 := f12.keep K10
  have f14 := f2.keep K10 nin0
  refine own_put X10 25 d10_22 (host := "") (Or.inl (ow hw 43 rfl)) Via.refl f11 f13 (Or.inl (ow hw 44 rfl)) (ow hw 30 rfl) (ty := .int) (by decide) rfl rfl (om 0 rfl) rfl ?_
  intro T15 h15 X15 W15 K15 F15
  have f16 := Fld.other W15 f14 (Or.inr (slot_ne (Or.inr (ow hw 37 rfl)) (Or.inl (ow hw 44 rfl)) (by decide) (t := (.object "java/lang/String")) (t' := .int) (by decide) (by decide)))
  refine og_aloadN X15 26 d10_25 rfl rfl rfl ?_
  refine own_retA X15 d10_26 hret rfl rfl (by decide) (by decide) ?_
  exact ⟨r10, rfl, f16, F15⟩
theorem rf_end301 (a0 : Array Value) (hw : OHw a0 Z) (hWd : OWorld Z a0) (O0 : Old Z n0 h0) (a : Addr) (u : Addr) (x0 : Int32) (x1 : Int32) (x2 : Int32) (q0 : Exa Z h0 a "com/example/ratable/ratable/core/JournalSums$Fields") (q1 : Fld Z h0 a "com/example/ratable/ratable/core/JournalSums$Fields" "line" "Ljava/lang/String;" (.ref u)) (q2 : Fld Z h0 a "com/example/ratable/ratable/core/JournalSums$Fields" "next" "I" (.int 0)) (q3 : OStr Z h0 u [x0, x1, x2] h0.size) (q4 : ∀ c ∈ [x0, x1, x2], ¬ c < 0 ∧ ¬ (255 : Int32) < c) (q5 : ¬ x0 = (9 : Int32)) (q6 : x1 = (9 : Int32)) :
    OMet l Z own_EL n0 yN14 (Jvm.Cond.code yN14 prog_51_method_8_code 2 (some .int) :: wc) ({ frames := 3, cells := 0, slots := 0, locals := 46 } : Room) #[(.ref a)] h0 [] (fun vq hq => vq = some (.int 1)) := by
  refine own_enter #[.val (.ref a), .unset] pn_com_example_ratable_ratable_core_JournalSums_Fields_end___I (fun _ => rfl) hWd.1 O0 all0 ?_
  intro p e s m below meth c T0 X0 hnm hret
  refine og_aloadN X0 1 d11_0 rfl rfl rfl ?_
  refine own_virt X0 4 (a := a) (argsL := []) (rest := []) d11_1 q0 (fun _ hZ => notFace_of_selects (args := #[]) (mvT hZ (ow hw 41 rfl))) (rm_more1 l Z n0 h0 [] a0 hw hWd X0.old a u [x0, x1, x2] (0 : Int32) q1 q2 q3.top (show ¬ (3 : Int32) < (0 : Int32) by decide) ) (ow hw 65 rfl) (ow hw 39 rfl) (ow hw 41 rfl) (ow hw 40 rfl) (ow hw 31 rfl) (ow hw 42 rfl) (by decide) (lenOf pd__28_29Z rfl) rfl rfl rfl (W := 0) rfl (by decide) (by decide) (by decide) (by decide) all0 rfl ?_
  intro T1 h1 v1 X1 K1 hQ1
  obtain rfl := hQ1
  show OGo _ _ _ _ T1 (mkF m 4 #[.val (.ref a), .unset] [(.int 1)])
  refine og_ifY X1 37 d11_4 (XT.i0_ne_t (by decide)) (by decide) (by decide) ?_
  refine og_aloadN X1 38 d11_37 rfl rfl rfl ?_
  have f2 := q1.keep K1 nin0
  refine own_get X1 41 d11_38 (host := "") (Or.inl (ow hw 36 rfl)) Via.refl f2 rfl ?_
  intro T3 X4
  refine og_bipush X4 43 (9 : Int32) d11_41 rfl rfl ?_
  refine og_aloadN X4 44 d11_43 rfl rfl rfl ?_
  have f5 := q2.keep K1 nin0
  refine own_get X4 47 d11_44 (host := "") (Or.inl (ow hw 43 rfl)) Via.refl f5 rfl ?_
  intro T6 X7
  have f8 := q3.exa.keep K1
  have f9 := q3.keep K1 all0
  refine own_virt X7 50 (a := u) (argsL := [(.int 9), (.int 0)]) (rest := []) d11_47 f8 (fun _ hZ => notFace_of_selects (args := #[]) (mvT hZ (ow hw 69 rfl))) (rf_ios30 l Z n0 h1 [] a0 hw hWd X7.old u x0 x1 x2 f9.top q4 ) (ow hw 66 rfl) (ow hw 67 rfl) (ow hw 69 rfl) (ow hw 68 rfl) (ow hw 6 rfl) (ow hw 70 rfl) (by decide) (lenOf pd__28II_29I rfl) rfl rfl rfl (W := 0) rfl (by decide) (by decide) (by decide) (by decide) all0 rfl ?_
  intro T10 h10 v10 X10 K10 hQ10
  obtain rfl := hQ10
  show OGo _ _ _ _ T10 (mkF m 50 #[.val (.ref a), .unset] [(.int (own_ix [x0, x1, x2] 0))])
  rw [show (own_ix [x0, x1, x2] 0) = (1 : Int32) by (first | rfl | (simp only [own_ix, own_ixA, List.drop, if_true, if_false, q5, q6]; done) | (simp only [own_ix, own_ixA, List.drop, if_true, if_false, q5, q6]; rfl))]
  refine og_istoreN X10 51 #[.val (.ref a), .val (.int 1)] d11_50 rfl rfl ?_
  refine og_iloadN X10 52 d11_51 rfl rfl ?_
  refine og_ifY X10 65 d11_52 (XT.i0_ge_t (by decide)) (by decide) (by decide) ?_
  refine og_iloadN X10 66 d11_65 rfl rfl ?_
  refine own_retI X10 d11_66 hret (by decide) (by decide) ?_
  exact rfl
theorem rf_crb301 (a0 : Array Value) (hw : OHw a0 Z) (hWd : OWorld Z a0) (O0 : Old Z n0 h0) (b : Addr) (kb : ClassId) (e0 : Value) (e1 : Value) (e2 : Value) (q0 : Arv Z h0 b kb .byte (3 : Int32) [e0, e1, e2] (.int 0)) :
    OMet l Z own_EL n0 yN19 (Jvm.Cond.code yN19 jdk_65_method_133_code 5 (some (.array .byte)) :: wc) ({ frames := 1, cells := 1, slots := 1, locals := 40 } : Room) #[(.ref b), (.int 0), (.int 1)] h0 [] (fun vq hq => ∃ (r : Addr) (kr : ClassId), vq = some (.ref r) ∧ h0.size ≤ r ∧ Arv Z hq r kr .byte (1 : Int32) [e0] (.int 0)) := by
  refine own_enter #[.val (.ref b), .val (.int 0), .val (.int 1), .unset, .unset] pn_java_util_Arrays_copyOfRangeByte___BII__B (fun _ => rfl) hWd.1 O0 all0 ?_
  intro p e s m below meth c T0 X0 hnm hret
  refine og_iloadN X0 1 d27_0 rfl rfl ?_
  refine og_iloadN X0 2 d27_1 rfl rfl ?_
  refine own_stat X0 5 (argsL := [(.int 0), (.int 1)]) (rest := []) d27_2 (rm28 l Z n0 h0 [] a0 hw hWd X0.old (0 : Int32) (1 : Int32) (by decide) ) (ow hw 129 rfl) (ow hw 130 rfl) (ow hw 124 rfl) (ow hw 131 rfl) (by decide) (lenOf pd__28II_29V rfl) rfl rfl rfl (W := 0) rfl (by decide) (by decide) (by decide) (by decide) all0 rfl ?_
  intro T1 h1 v1 X1 K1 hQ1
  obtain rfl := hQ1
  show OGo _ _ _ _ T1 (mkF m 5 #[.val (.ref b), .val (.int 0), .val (.int 1), .unset, .unset] [])
  refine og_iloadN X1 6 d27_5 rfl rfl ?_
  refine og_iloadN X1 7 d27_6 rfl rfl ?_
  refine og_isub X1 8 d27_7 rfl ?_
  show OGo _ _ _ _ T1 (mkF m 8 #[.val (.ref b), .val (.int 0), .val (.int 1), .unset, .unset] [(.int 1)])
  refine og_istoreN X1 9 #[.val (.ref b), .val (.int 0), .val (.int 1), .val (.int 1), .unset] d27_8 rfl rfl ?_
  refine og_iloadN X1 10 d27_9 rfl rfl ?_
  refine own_arr X1 12 d27_10 (ow hw 19 rfl) (by decide) (cap := 1) (by decide) (by decide) (by decide) (by decide) rfl ?_
  intro T2 h2 b2 kb2 X2 K2 G2 U2 A2
  have f3 : Arv Z h2 b2 kb2 .byte (1 : Int32) [(.int 0)] (.int 0) := A2
  refine og_astore X2 14 #[.val (.ref b), .val (.int 0), .val (.int 1), .val (.int 1), .val (.ref b2)] d27_12 rfl rfl rfl ?_
  refine og_aloadN X2 15 d27_14 rfl rfl rfl ?_
  refine og_iloadN X2 16 d27_15 rfl rfl ?_
  refine og_aload X2 18 d27_16 rfl rfl rfl ?_
  refine og_iconst X2 19 (0 : Int32) d27_18 rfl rfl ?_
  refine og_aloadN X2 20 d27_19 rfl rfl rfl ?_
  have f4 := q0.keep K1 nin0
  have f5 := f4.keep K2 nin0
  refine own_len X2 21 d27_20 f5 rfl ?_
  refine og_iloadN X2 22 d27_21 rfl rfl ?_
  refine og_isub X2 23 d27_22 rfl ?_
  show OGo _ _ _ _ T2 (mkF m 23 #[.val (.ref b), .val (.int 0), .val (.int 1), .val (.int 1), .val (.ref b2)] [(.int 3), (.int 0), (.ref b2), (.int 0), (.ref b)])
  refine og_iloadN X2 24 d27_23 rfl rfl ?_
  refine own_stat X2 27 (argsL := [(.int 3), (.int 1)]) (rest := [(.int 0), (.ref b2), (.int 0), (.ref b)]) d27_24 (rm_min1 l Z n0 h2 [] a0 hw hWd X2.old (3 : Int32) (1 : Int32) (by decide) ) (ow hw 132 rfl) (ow hw 89 rfl) (ow hw 86 rfl) (ow hw 90 rfl) (by decide) (lenOf pd__28II_29I rfl) rfl rfl rfl (W := 4) rfl (by decide) (by decide) (by decide) (by decide) all0 rfl ?_
  intro T6 h6 v6 X6 K6 hQ6
  obtain rfl := hQ6
  show OGo _ _ _ _ T6 (mkF m 27 #[.val (.ref b), .val (.int 0), .val (.int 1), .val (.int 1), .val (.ref b2)] [(.int 1), (.int 0), (.ref b2), (.int 0), (.ref b)])
  have f7 := f5.keep K6 nin0
  have f8 := f3.keep K6 nin0
  refine own_cp X6 30 (us := [e0]) (rest := []) d27_27 f7 f8 rfl (om 0 rfl) (ow hw 133 rfl) (ow hw 136 rfl) (ow hw 134 rfl) (ow hw 135 rfl) (by decide) (by decide) (by decide) (by decide) (by decide) rfl (Nat.le_of_ble_eq_true rfl) rfl (W := 0) rfl (by decide) (by decide) rfl ?_
  intro T9 h9 X9 K9 A9
  have f10 : Arv Z h9 b2 kb2 .byte (1 : Int32) [e0] (.int 0) := A9
  show OGo _ _ _ _ T9 (mkF m 30 #[.val (.ref b), .val (.int 0), .val (.int 1), .val (.int 1), .val (.ref b2)] [])
  refine og_aload X9 32 d27_30 rfl rfl rfl ?_
  refine own_retA X9 d27_32 hret rfl rfl (by decide) (by decide) ?_
  exact ⟨b2, kb2, rfl, (Nat.le_trans K1.1 G2), f10⟩
theorem rf_cr301 (a0 : Array Value) (hw : OHw a0 Z) (hWd : OWorld Z a0) (O0 : Old Z n0 h0) (b : Addr) (kb : ClassId) (e0 : Value) (e1 : Value) (e2 : Value) (q0 : Arv Z h0 b kb .byte (3 : Int32) [e0, e1, e2] (.int 0)) :
    OMet l Z own_EL n0 yN20 (Jvm.Cond.code yN20 jdk_65_method_132_code 3 (some (.array .byte)) :: wc) ({ frames := 2, cells := 1, slots := 1, locals := 56 } : Room) #[(.ref b), (.int 0), (.int 1)] h0 [] (fun vq hq => ∃ (r : Addr) (kr : ClassId), vq = some (.ref r) ∧ h0.size ≤ r ∧ Arv Z hq r kr .byte (1 : Int32) [e0] (.int 0)) := by
  refine own_enter #[.val (.ref b), .val (.int 0), .val (.int 1)] pn_java_util_Arrays_copyOfRange___BII__B (fun _ => rfl) hWd.1 O0 all0 ?_
  intro p e s m below meth c T0 X0 hnm hret
  refine og_iloadN X0 1 d26_0 rfl rfl ?_
  refine og_ifN X0 4 d26_1 (XT.i0_ne_f (by decide)) rfl ?_
  refine og_iloadN X0 5 d26_4 rfl rfl ?_
  refine og_aloadN X0 6 d26_5 rfl rfl rfl ?_
  refine own_len X0 7 d26_6 q0 rfl ?_
  refine og_icmpN X0 10 d26_7 (XT.ii_eq_f (by decide)) rfl ?_
  refine og_aloadN X0 11 d26_10 rfl rfl rfl ?_
  refine og_iloadN X0 12 d26_11 rfl rfl ?_
  refine og_iloadN X0 13 d26_12 rfl rfl ?_
  refine own_stat X0 16 (argsL := [(.ref b), (.int 0), (.int 1)]) (rest := []) d26_13 (rf_crb301 l Z n0 h0 [] a0 hw hWd X0.old b kb e0 e1 e2 q0 ) (ow hw 126 rfl) (ow hw 127 rfl) (ow hw 124 rfl) (ow hw 128 rfl) (by decide) (lenOf pd__28_5bBII_29_5bB rfl) rfl rfl rfl (W := 0) rfl (by decide) (by decide) (by decide) (by decide) all0 rfl ?_
  intro T1 h1 v1 X1 K1 hQ1
  obtain ⟨r1, kr1, rfl, ge_r1, f2⟩ := hQ1
  show OGo _ _ _ _ T1 (mkF m 16 #[.val (.ref b), .val (.int 0), .val (.int 1)] [(.ref r1)])
  refine own_retA X1 d26_16 hret rfl rfl (by decide) (by decide) ?_
  exact ⟨r1, kr1, rfl, ge_r1, f2⟩
theorem rf_ns301 (a0 : Array Value) (hw : OHw a0 Z) (hWd : OWorld Z a0) (O0 : Old Z n0 h0) (b : Addr) (kb : ClassId) (e0 : Value) (e1 : Value) (e2 : Value) (q0 : Arv Z h0 b kb .byte (3 : Int32) [e0, e1, e2] (.int 0)) :
    OMet l Z own_EL n0 yN18 (Jvm.Cond.code yN18 jdk_43_method_47_code 3 (some (.object "java/lang/String")) :: wc) ({ frames := 3, cells := 2, slots := 5, locals := 72 } : Room) #[(.ref b), (.int 0), (.int 1)] h0 [] (fun vq hq => ∃ (r : Addr), vq = some (.ref r)) := by
  refine own_enter #[.val (.ref b), .val (.int 0), .val (.int 1)] pn_java_lang_StringLatin1_newString___BII_Ljava_lang_String_ (fun _ => rfl) hWd.1 O0 all0 ?_
  intro p e s m below meth c T0 X0 hnm hret
  refine og_iloadN X0 1 d25_0 rfl rfl ?_
  refine og_ifY X0 7 d25_1 (XT.i0_ne_t (by decide)) (by decide) (by decide) ?_
  refine own_new X0 10 d25_7 (ow hw 121 rfl) (ow hw 5 rfl) (ow hw 6 rfl) (by decide) (by decide) rfl ?_
  intro T1 h1 b1 X1 K1 G1 U1 E1 D1
  have f2 : Fld Z h1 b1 "java/lang/String" "value" "[B" .null := D1 (Or.inr (ow hw 20 rfl)) (ty := (.array .byte)) (by decide)
  have f3 : Fld Z h1 b1 "java/lang/String" "coder" "B" (.int 0) := D1 (Or.inr (ow hw 21 rfl)) (ty := .byte) (by decide)
  refine og_dup X1 11 d25_10 rfl rfl ?_
  refine og_aloadN X1 12 d25_11 rfl rfl rfl ?_
  refine og_iloadN X1 13 d25_12 rfl rfl ?_
  refine og_iloadN X1 14 d25_13 rfl rfl ?_
  refine og_iloadN X1 15 d25_14 rfl rfl ?_
  refine og_iadd X1 16 d25_15 rfl ?_
  show OGo _ _ _ _ T1 (mkF m 16 #[.val (.ref b), .val (.int 0), .val (.int 1)] [(.int 1), (.int 0), (.ref b), (.ref b1), (.ref b1)])
  have f4 := q0.keep K1 nin0
  refine own_stat X1 19 (argsL := [(.ref b), (.int 0), (.int 1)]) (rest := [(.ref b1), (.ref b1)]) d25_16 (rf_cr301 l Z n0 h1 [] a0 hw hWd X1.old b kb e0 e1 e2 f4 ) (ow hw 122 rfl) (ow hw 123 rfl) (ow hw 124 rfl) (ow hw 125 rfl) (by decide) (lenOf pd__28_5bBII_29_5bB rfl) rfl rfl rfl (W := 2) rfl (by decide) (by decide) (by decide) (by decide) all0 rfl ?_
  intro T5 h5 v5 X5 K5 hQ5
  obtain ⟨r5, kr5, rfl, ge_r5, f6⟩ := hQ5
  show OGo _ _ _ _ T5 (mkF m 19 #[.val (.ref b), .val (.int 0), .val (.int 1)] [(.ref r5), (.ref b1), (.ref b1)])
  refine og_iconst X5 20 (0 : Int32) d25_19 rfl rfl ?_
  have f7 := E1.keep K5
  have f8 := f2.keep K5 nin0
  have f9 := f3.keep K5 nin0
  refine own_spec X5 23 (a := b1) (argsL := [(.ref r5), (.int 0)]) (rest := [(.ref b1)]) d25_20 rfl (rm29 l Z n0 h5 [] a0 hw hWd X5.old b1 r5 .null (0 : Int32) f7 f8 f9 (own_svb X5 (om 0 rfl))) (ow hw 137 rfl) (ow hw 138 rfl) (ow hw 6 rfl) (ow hw 139 rfl) (by decide) (lenOf pd__28_5bBB_29V rfl) rfl rfl rfl (W := 1) rfl (by decide) (by decide) (by decide) (by decide) (allS (om 0 rfl) all0) rfl ?_
  intro T10 h10 v10 X10 K10 hQ10
  obtain rfl := hQ10
  show OGo _ _ _ _ T10 (mkF m 23 #[.val (.ref b), .val (.int 0), .val (.int 1)] [(.ref b1)])
  refine own_retA X10 d25_23 hret rfl rfl (by decide) (by decide) ?_
  exact ⟨b1, rfl⟩
theorem rf_sub301 (a0 : Array Value) (hw : OHw a0 Z) (hWd : OWorld Z a0) (O0 : Old Z n0 h0) (a : Addr) (x0 : Int32) (x1 : Int32) (x2 : Int32) (q0 : OStr Z h0 a [x0, x1, x2] h0.size) (q1 : ∀ c ∈ [x0, x1, x2], ¬ c < 0 ∧ ¬ (255 : Int32) < c) :
    OMet l Z own_EL n0 yN15 (Jvm.Cond.code yN15 jdk_42_method_92_code 5 (some (.object "java/lang/String")) :: wc) ({ frames := 4, cells := 2, slots := 5, locals := 86 } : Room) #[(.ref a), (.int 0), (.int 1)] h0 [] (fun vq hq => ∃ (r : Addr), vq = some (.ref r)) := by
  refine own_enter #[.val (.ref a), .val (.int 0), .val (.int 1), .unset, .unset] pn_java_lang_String_substring__II_Ljava_lang_String_ (fun _ => rfl) hWd.1 O0 all0 ?_
  intro p e s m below meth c T0 X0 hnm hret
  obtain ⟨t, kt, NN, vv, eE, eC, eV, eA, cod, bd, l4⟩ := q0.latin (fun c hc => (q1 c hc).2)
  obtain ⟨-, rfl, rfl, -⟩ := cod.resolve_right fun q => absurd q.1 (by decide)
  have eA2 : Arv Z h0 t kt .byte (3 : Int32) [(.int (StrChars.lo8 x0)), (.int (StrChars.lo8 x1)), (.int (StrChars.lo8 x2))] (.int 0) := eA
  refine og_aloadN X0 1 d18_0 rfl rfl rfl ?_
  refine own_strLen X0 4 d18_1 q0 (own_wL hw) (ow hw 5 rfl) hWd.2.1.1 hWd.2.1.2 (ow hw 76 rfl) (ow hw 46 rfl) (ow hw 48 rfl) (ow hw 47 rfl) rfl (W := 0) rfl (by decide) (by decide) (by decide) (by decide) rfl ?_
  intro T1 X2
  show OGo _ _ _ _ T1 (mkF m 4 #[.val (.ref a), .val (.int 0), .val (.int 1), .unset, .unset] [(.int 3)])
  refine og_istoreN X2 5 #[.val (.ref a), .val (.int 0), .val (.int 1), .val (.int 3), .unset] d18_4 rfl rfl ?_
  refine og_iloadN X2 6 d18_5 rfl rfl ?_
  refine og_iloadN X2 7 d18_6 rfl rfl ?_
  refine og_iloadN X2 8 d18_7 rfl rfl ?_
  refine own_stat X2 11 (argsL := [(.int 0), (.int 1), (.int 3)]) (rest := []) d18_8 (rm19 l Z n0 h0 [] a0 hw hWd X2.old (0 : Int32) (1 : Int32) (3 : Int32) (by decide) (by decide) (by decide) ) (ow hw 96 rfl) (ow hw 97 rfl) (ow hw 6 rfl) (ow hw 98 rfl) (by decide) (lenOf pd__28III_29V rfl) rfl rfl rfl (W := 0) rfl (by decide) (by decide) (by decide) (by decide) all0 rfl ?_
  intro T3 h3 v3 X3 K3 hQ3
  obtain rfl := hQ3
  show OGo _ _ _ _ T3 (mkF m 11 #[.val (.ref a), .val (.int 0), .val (.int 1), .val (.int 3), .unset] [])
  refine og_iloadN X3 12 d18_11 rfl rfl ?_
  refine og_ifN X3 15 d18_12 (XT.i0_ne_f (by decide)) rfl ?_
  refine og_iloadN X3 16 d18_15 rfl rfl ?_
  refine og_iloadN X3 17 d18_16 rfl rfl ?_
  refine og_icmpY X3 22 d18_17 (XT.ii_ne_t (by decide)) (by decide) (by decide) ?_
  refine og_iloadN X3 23 d18_22 rfl rfl ?_
  refine og_iloadN X3 24 d18_23 rfl rfl ?_
  refine og_isub X3 25 d18_24 rfl ?_
  show OGo _ _ _ _ T3 (mkF m 25 #[.val (.ref a), .val (.int 0), .val (.int 1), .val (.int 3), .unset] [(.int 1)])
  refine og_istore X3 27 #[.val (.ref a), .val (.int 0), .val (.int 1), .val (.int 3), .val (.int 1)] d18_25 rfl rfl ?_
  refine og_aloadN X3 28 d18_27 rfl rfl rfl ?_
  have f4 := eE.keep K3
  have f5 := eC.keep K3 nin0
  refine own_virt X3 31 (a := a) (argsL := []) (rest := []) d18_28 f4 (fun _ hZ => notFace_of_selects (args := #[]) (mvT hZ (ow hw 74 rfl))) (rm13 l Z n0 h3 [] a0 hw hWd X3.old a f5 ) (ow hw 71 rfl) (ow hw 72 rfl) (ow hw 74 rfl) (ow hw 73 rfl) (ow hw 6 rfl) (ow hw 75 rfl) (by decide) (lenOf pd__28_29Z rfl) rfl rfl rfl (W := 0) rfl (by decide) (by decide) (by decide) (by decide) all0 rfl ?_
  intro T6 h6 v6 X6 K6 hQ6
  obtain rfl := hQ6
  show OGo _ _ _ _ T6 (mkF m 31 #[.val (.ref a), .val (.int 0), .val (.int 1), .val (.int 3), .val (.int 1)] [(.int 1)])
  refine og_ifN X6 34 d18_31 (XT.i0_eq_f (by decide)) rfl ?_
  refine og_aloadN X6 35 d18_34 rfl rfl rfl ?_
  have f7 := eV.keep K3 nin0
  have f8 := f7.keep K6 nin0
  refine own_get X6 38 d18_35 (host := "") (Or.inl (ow hw 24 rfl)) Via.refl f8 rfl ?_
  intro T9 X10
  refine og_iloadN X10 39 d18_38 rfl rfl ?_
  refine og_iload X10 41 d18_39 rfl rfl ?_
  have f11 := eA2.keep K3 nin0
  have f12 := f11.keep K6 nin0
  refine own_stat X10 44 (argsL := [(.ref t), (.int 0), (.int 1)]) (rest := []) d18_41 (rf_ns301 l Z n0 h6 [] a0 hw hWd X10.old t kt (.int (StrChars.lo8 x0)) (.int (StrChars.lo8 x1)) (.int (StrChars.lo8 x2)) f12 ) (ow hw 117 rfl) (ow hw 118 rfl) (ow hw 79 rfl) (ow hw 119 rfl) (by decide) (lenOf pd__28_5bBII_29Ljava_2flang_2fString_3b rfl) rfl rfl rfl (W := 0) rfl (by decide) (by decide) (by decide) (by decide) all0 rfl ?_
  intro T13 h13 v13 X13 K13 hQ13
  obtain ⟨r13, rfl⟩ := hQ13
  show OGo _ _ _ _ T13 (mkF m 44 #[.val (.ref a), .val (.int 0), .val (.int 1), .val (.int 3), .val (.int 1)] [(.ref r13)])
  refine og_goto X13 57 d18_44 (by decide) (by decide) ?_
  refine own_retA X13 d18_57 hret rfl rfl (by decide) (by decide) ?_
  exact ⟨r13, rfl⟩
theorem rf_txt301 (a0 : Array Value) (hw : OHw a0 Z) (hWd : OWorld Z a0) (O0 : Old Z n0 h0) (a : Addr) (u : Addr) (x0 : Int32) (x1 : Int32) (x2 : Int32) (q0 : Exa Z h0 a "com/example/ratable/ratable/core/JournalSums$Fields") (q1 : Fld Z h0 a "com/example/ratable/ratable/core/JournalSums$Fields" "line" "Ljava/lang/String;" (.ref u)) (q2 : Fld Z h0 a "com/example/ratable/ratable/core/JournalSums$Fields" "next" "I" (.int 0)) (q3 : OStr Z h0 u [x0, x1, x2] h0.size) (q4 : ∀ c ∈ [x0, x1, x2], ¬ c < 0 ∧ ¬ (255 : Int32) < c) (q5 : ¬ x0 = (9 : Int32)) (q6 : x1 = (9 : Int32)) (g0 : n0 ≤ a ∧ a < h0.size) :
    OMet l Z own_EL n0 yN16 (Jvm.Cond.code yN16 prog_51_method_3_code 3 (some (.object "java/lang/String")) :: wc) ({ frames := 5, cells := 2, slots := 5, locals := 102 } : Room) #[(.ref a)] h0 [a] (fun vq hq => ∃ (r : Addr), vq = some (.ref r) ∧ Fld Z hq a "com/example/ratable/ratable/core/JournalSums$Fields" "line" "Ljava/lang/String;" (.ref u) ∧ Fld Z hq a "com/example/ratable/ratable/core/JournalSums$Fields" "next" "I" (.int 2)) := by
  refine own_enter #[.val (.ref a), .unset, .unset] pn_com_example_ratable_ratable_core_JournalSums_Fields_text___Ljava_lang_String_ (fun _ => rfl) hWd.1 O0 (allS g0 all0) ?_
  intro p e s m below meth c T0 X0 hnm hret
  refine og_aloadN X0 1 d10_0 rfl rfl rfl ?_
  refine own_priv X0 4 (a := a) (argsL := []) (rest := []) d10_1 q0 (rf_end301 l Z n0 h0 [] a0 hw hWd X0.old a u x0 x1 x2 q0 q1 q2 q3.top q4 q5 q6 ) (ow hw 61 rfl) (ow hw 62 rfl) (own_selfsel2 (ow hw 41 rfl) rfl (ow hw 62 rfl) (ow hw 63 rfl) (by decide)) (ow hw 63 rfl) (ow hw 31 rfl) (ow hw 64 rfl) (by decide) (lenOf pd__28_29I rfl) rfl rfl rfl (W := 0) rfl (by decide) (by decide) (by decide) (by decide) all0 rfl ?_
  intro T1 h1 v1 X1 K1 hQ1
  obtain rfl := hQ1
  show OGo _ _ _ _ T1 (mkF m 4 #[.val (.ref a), .unset, .unset] [(.int 1)])
  refine og_istoreN X1 5 #[.val (.ref a), .val (.int 1), .unset] d10_4 rfl rfl ?_
  refine og_aloadN X1 6 d10_5 rfl rfl rfl ?_
  have f2 := q1.keep K1 nin0
  refine own_get X1 9 d10_6 (host := "") (Or.inl (ow hw 36 rfl)) Via.refl f2 rfl ?_
  intro T3 X4
  refine og_aloadN X4 10 d10_9 rfl rfl rfl ?_
  have f5 := q2.keep K1 nin0
  refine own_get X4 13 d10_10 (host := "") (Or.inl (ow hw 43 rfl)) Via.refl f5 rfl ?_
  intro T6 X7
  refine og_iloadN X7 14 d10_13 rfl rfl ?_
  have f8 := q3.exa.keep K1
  have f9 := q3.keep K1 all0
  refine own_virt X7 17 (a := u) (argsL := [(.int 0), (.int 1)]) (rest := []) d10_14 f8 (fun _ hZ => notFace_of_selects (args := #[]) (mvT hZ (ow hw 94 rfl))) (rf_sub301 l Z n0 h1 [] a0 hw hWd X7.old u x0 x1 x2 f9.top q4 ) (ow hw 91 rfl) (ow hw 92 rfl) (ow hw 94 rfl) (ow hw 93 rfl) (ow hw 6 rfl) (ow hw 95 rfl) (by decide) (lenOf pd__28II_29Ljava_2flang_2fString_3b rfl) rfl rfl rfl (W := 0) rfl (by decide) (by decide) (by decide) (by decide) all0 rfl ?_
  intro T10 h10 v10 X10 K10 hQ10
  obtain ⟨r10, rfl⟩ := hQ10
  show OGo _ _ _ _ T10 (mkF m 17 #[.val (.ref a), .val (.int 1), .unset] [(.ref r10)])
  refine og_astoreN X10 18 #[.val (.ref a), .val (.int 1), .val (.ref r10)] d10_17 rfl rfl rfl ?_
  refine og_aloadN X10 19 d10_18 rfl rfl rfl ?_
  refine og_iloadN X10 20 d10_19 rfl rfl ?_
  refine og_iconst X10 21 (1 : Int32) d10_20 rfl rfl ?_
  refine og_iadd X10 22 d10_21 rfl ?_
  show OGo _ _ _ _ T10 (mkF m 22 #[.val (.ref a), .val (.int 1), .val (.ref r10)] [(.int 2), (.ref a)])
  have f11 := f5.keep K10 nin0
  have f12 := q0.keep K1
  have f13 := f12.keep K10
  have f14 := f2.keep K10 nin0
  refine own_put X10 25 d10_22 (host := "") (Or.inl (ow hw 43 rfl)) Via.refl f11 f13 (Or.inl (ow hw 44 rfl)) (ow hw 30 rfl) (ty := .int) (by decide) rfl rfl (om 0 rfl) rfl ?_
  intro T15 h15 X15 W15 K15 F15
  have f16 := Fld.other W15 f14 (Or.inr (slot_ne (Or.inr (ow hw 37 rfl)) (Or.inl (ow hw 44 rfl)) (by decide) (t := (.object "java/lang/String")) (t' := .int) (by decide) (by decide)))
  refine og_aloadN X15 26 d10_25 rfl rfl rfl ?_
  refine own_retA X15 d10_26 hret rfl rfl (by decide) (by decide) ?_
  exact ⟨r10, rfl, f16, F15⟩
theorem rf_end302 (a0 : Array Value) (hw : OHw a0 Z) (hWd : OWorld Z a0) (O0 : Old Z n0 h0) (a : Addr) (u : Addr) (x0 : Int32) (x1 : Int32) (x2 : Int32) (q0 : Exa Z h0 a "com/example/ratable/ratable/core/JournalSums$Fields") (q1 : Fld Z h0 a "com/example/ratable/ratable/core/JournalSums$Fields" "line" "Ljava/lang/String;" (.ref u)) (q2 : Fld Z h0 a "com/example/ratable/ratable/core/JournalSums$Fields" "next" "I" (.int 0)) (q3 : OStr Z h0 u [x0, x1, x2] h0.size) (q4 : ∀ c ∈ [x0, x1, x2], ¬ c < 0 ∧ ¬ (255 : Int32) < c) (q5 : ¬ x0 = (9 : Int32)) (q6 : ¬ x1 = (9 : Int32)) (q7 : x2 = (9 : Int32)) :
    OMet l Z own_EL n0 yN14 (Jvm.Cond.code yN14 prog_51_method_8_code 2 (some .int) :: wc) ({ frames := 3, cells := 0, slots := 0, locals := 46 } : Room) #[(.ref a)] h0 [] (fun vq hq => vq = some (.int 2)) := by
  refine own_enter #[.val (.ref a), .unset] pn_com_example_ratable_ratable_core_JournalSums_Fields_end___I (fun _ => rfl) hWd.1 O0 all0 ?_
  intro p e s m below meth c T0 X0 hnm hret
  refine og_aloadN X0 1 d11_0 rfl rfl rfl ?_
  refine own_virt X0 4 (a := a) (argsL := []) (rest := []) d11_1 q0 (fun _ hZ => notFace_of_selects (args := #[]) (mvT hZ (ow hw 41 rfl))) (rm_more1 l Z n0 h0 [] a0 hw hWd X0.old a u [x0, x1, x2] (0 : Int32) q1 q2 q3.top (show ¬ (3 : Int32) < (0 : Int32) by decide) ) (ow hw 65 rfl) (ow hw 39 rfl) (ow hw 41 rfl) (ow hw 40 rfl) (ow hw 31 rfl) (ow hw 42 rfl) (by decide) (lenOf pd__28_29Z rfl) rfl rfl rfl (W := 0) rfl (by decide) (by decide) (by decide) (by decide) all0 rfl ?_
  intro T1 h1 v1 X1 K1 hQ1
  obtain rfl := hQ1
  show OGo _ _ _ _ T1 (mkF m 4 #[.val (.ref a), .unset] [(.int 1)])
  refine og_ifY X1 37 d11_4 (XT.i0_ne_t (by decide)) (by decide) (by decide) ?_
  refine og_aloadN X1 38 d11_37 rfl rfl rfl ?_
  have f2 := q1.keep K1 nin0
  refine own_get X1 41 d11_38 (host := "") (Or.inl (ow hw 36 rfl)) Via.refl f2 rfl ?_
  intro T3 X4
  refine og_bipush X4 43 (9 : Int32) d11_41 rfl rfl ?_
  refine og_aloadN X4 44 d11_43 rfl rfl rfl ?_
  have f5 := q2.keep K1 nin0
  refine own_get X4 47 d11_44 (host := "") (Or.inl (ow hw 43 rfl)) Via.refl f5 rfl ?_
  intro T6 X7
  have f8 := q3.exa.keep K1
  have f9 := q3.keep K1 all0
  refine own_virt X7 50 (a := u) (argsL := [(.int 9), (.int 0)]) (rest := []) d11_47 f8 (fun _ hZ => notFace_of_selects (args := #[]) (mvT hZ (ow hw 69 rfl))) (rf_ios30 l Z n0 h1 [] a0 hw hWd X7.old u x0 x1 x2 f9.top q4 ) (ow hw 66 rfl) (ow hw 67 rfl) (ow hw 69 rfl) (ow hw 68 rfl) (ow hw 6 rfl) (ow hw 70 rfl) (by decide) (lenOf pd__28II_29I rfl) rfl rfl rfl (W := 0) rfl (by decide) (by decide) (by decide) (by decide) all0 rfl ?_
  intro T10 h10 v10 X10 K10 hQ10
  obtain rfl := hQ10
  show OGo _ _ _ _ T10 (mkF m 50 #[.val (.ref a), .unset] [(.int (own_ix [x0, x1, x2] 0))])
  rw [show (own_ix [x0, x1, x2] 0) = (2 : Int32) by (first | rfl | (simp only [own_ix, own_ixA, List.drop, if_true, if_false, q5, q6, q7]; done) | (simp only [own_ix, own_ixA, List.drop, if_true, if_false, q5, q6, q7]; rfl))]
  refine og_istoreN X10 51 #[.val (.ref a), .val (.int 2)] d11_50 rfl rfl ?_
  refine og_iloadN X10 52 d11_51 rfl rfl ?_
  refine og_ifY X10 65 d11_52 (XT.i0_ge_t (by decide)) (by decide) (by decide) ?_
  refine og_iloadN X10 66 d11_65 rfl rfl ?_
  refine own_retI X10 d11_66 hret (by decide) (by decide) ?_
  exact rfl
theorem rf_crb302 (a0 : Array Value) (hw : OHw a0 Z) (hWd : OWorld Z a0) (O0 : Old Z n0 h0) (b : Addr) (kb : ClassId) (e0 : Value) (e1 : Value) (e2 : Value) (q0 : Arv Z h0 b kb .byte (3 : Int32) [e0, e1, e2] (.int 0)) :
    OMet l Z own_EL n0 yN19 (Jvm.Cond.code yN19 jdk_65_method_133_code 5 (some (.array .byte)) :: wc) ({ frames := 1, cells := 1, slots := 2, locals := 40 } : Room) #[(.ref b), (.int 0), (.int 2)] h0 [] (fun vq hq => ∃ (r : Addr) (kr : ClassId), vq = some (.ref r) ∧ h0.size ≤ r ∧ Arv Z hq r kr .byte (2 : Int32) [e0, e1] (.int 0)) := by
  refine own_enter #[.val (.ref b), .val (.int 0), .val (.int 2), .unset, .unset] pn_java_util_Arrays_copyOfRangeByte___BII__B (fun _ => rfl) hWd.1 O0 all0 ?_
  intro p e s m below meth c T0 X0 hnm hret
  refine og_iloadN X0 1 d27_0 rfl rfl ?_
  refine og_iloadN X0 2 d27_1 rfl rfl ?_
  refine own_stat X0 5 (argsL := [(.int 0), (.int 2)]) (rest := []) d27_2 (rm28 l Z n0 h0 [] a0 hw hWd X0.old (0 : Int32) (2 : Int32) (by decide) ) (ow hw 129 rfl) (ow hw 130 rfl) (ow hw 124 rfl) (ow hw 131 rfl) (by decide) (lenOf pd__28II_29V rfl) rfl rfl rfl (W := 0) rfl (by decide) (by decide) (by decide) (by decide) all0 rfl ?_
  intro T1 h1 v1 X1 K1 hQ1
  obtain rfl := hQ1
  show OGo _ _ _ _ T1 (mkF m 5 #[.val (.ref b), .val (.int 0), .val (.int 2), .unset, .unset] [])
  refine og_iloadN X1 6 d27_5 rfl rfl ?_
  refine og_iloadN X1 7 d27_6 rfl rfl ?_
  refine og_isub X1 8 d27_7 rfl ?_
  show OGo _ _ _ _ T1 (mkF m 8 #[.val (.ref b), .val (.int 0), .val (.int 2), .unset, .unset] [(.int 2)])
  refine og_istoreN X1 9 #[.val (.ref b), .val (.int 0), .val (.int 2), .val (.int 2), .unset] d27_8 rfl rfl ?_
  refine og_iloadN X1 10 d27_9 rfl rfl ?_
  refine own_arr X1 12 d27_10 (ow hw 19 rfl) (by decide) (cap := 2) (by decide) (by decide) (by decide) (by decide) rfl ?_
  intro T2 h2 b2 kb2 X2 K2 G2 U2 A2
  have f3 : Arv Z h2 b2 kb2 .byte (2 : Int32) [(.int 0), (.int 0)] (.int 0) := A2
  refine og_astore X2 14 #[.val (.ref b), .val (.int 0), .val (.int 2), .val (.int 2), .val (.ref b2)] d27_12 rfl rfl rfl ?_
  refine og_aloadN X2 15 d27_14 rfl rfl rfl ?_
  refine og_iloadN X2 16 d27_15 rfl rfl ?_
  refine og_aload X2 18 d27_16 rfl rfl rfl ?_
  refine og_iconst X2 19 (0 : Int32) d27_18 rfl rfl ?_
  refine og_aloadN X2 20 d27_19 rfl rfl rfl ?_
  have f4 := q0.keep K1 nin0
  have f5 := f4.keep K2 nin0
  refine own_len X2 21 d27_20 f5 rfl ?_
  refine og_iloadN X2 22 d27_21 rfl rfl ?_
  refine og_isub X2 23 d27_22 rfl ?_
  show OGo _ _ _ _ T2 (mkF m 23 #[.val (.ref b), .val (.int 0), .val (.int 2), .val (.int 2), .val (.ref b2)] [(.int 3), (.int 0), (.ref b2), (.int 0), (.ref b)])
  refine og_iloadN X2 24 d27_23 rfl rfl ?_
  refine own_stat X2 27 (argsL := [(.int 3), (.int 2)]) (rest := [(.int 0), (.ref b2), (.int 0), (.ref b)]) d27_24 (rm_min1 l Z n0 h2 [] a0 hw hWd X2.old (3 : Int32) (2 : Int32) (by decide) ) (ow hw 132 rfl) (ow hw 89 rfl) (ow hw 86 rfl) (ow hw 90 rfl) (by decide) (lenOf pd__28II_29I rfl) rfl rfl rfl (W := 4) rfl (by decide) (by decide) (by decide) (by decide) all0 rfl ?_
  intro T6 h6 v6 X6 K6 hQ6
  obtain rfl := hQ6
  show OGo _ _ _ _ T6 (mkF m 27 #[.val (.ref b), .val (.int 0), .val (.int 2), .val (.int 2), .val (.ref b2)] [(.int 2), (.int 0), (.ref b2), (.int 0), (.ref b)])
  have f7 := f5.keep K6 nin0
  have f8 := f3.keep K6 nin0
  refine own_cp X6 30 (us := [e0, e1]) (rest := []) d27_27 f7 f8 rfl (om 0 rfl) (ow hw 133 rfl) (ow hw 136 rfl) (ow hw 134 rfl) (ow hw 135 rfl) (by decide) (by decide) (by decide) (by decide) (by decide) rfl (Nat.le_of_ble_eq_true rfl) rfl (W := 0) rfl (by decide) (by decide) rfl ?_
  intro T9 h9 X9 K9 A9
  have f10 : Arv Z h9 b2 kb2 .byte (2 : Int32) [e0, e1] (.int 0) := A9
  show OGo _ _ _ _ T9 (mkF m 30 #[.val (.ref b), .val (.int 0), .val (.int 2), .val (.int 2), .val (.ref b2)] [])
  refine og_aload X9 32 d27_30 rfl rfl rfl ?_
  refine own_retA X9 d27_32 hret rfl rfl (by decide) (by decide) ?_
  exact ⟨b2, kb2, rfl, (Nat.le_trans K1.1 G2), f10⟩
theorem rf_cr302 (a0 : Array Value) (hw : OHw a0 Z) (hWd : OWorld Z a0) (O0 : Old Z n0 h0) (b : Addr) (kb : ClassId) (e0 : Value) (e1 : Value) (e2 : Value) (q0 : Arv Z h0 b kb .byte (3 : Int32) [e0, e1, e2] (.int 0)) :
    OMet l Z own_EL n0 yN20 (Jvm.Cond.code yN20 jdk_65_method_132_code 3 (some (.array .byte)) :: wc) ({ frames := 2, cells := 1, slots := 2, locals := 56 } : Room) #[(.ref b), (.int 0), (.int 2)] h0 [] (fun vq hq => ∃ (r : Addr) (kr : ClassId), vq = some (.ref r) ∧ h0.size ≤ r ∧ Arv Z hq r kr .byte (2 : Int32) [e0, e1] (.int 0)) := by
  refine own_enter #[.val (.ref b), .val (.int 0), .val (.int 2)] pn_java_util_Arrays_copyOfRange___BII__B (fun _ => rfl) hWd.1 O0 all0 ?_
  intro p e s m below meth c T0 X0 hnm hret
  refine og_iloadN X0 1 d26_0 rfl rfl ?_
  refine og_ifN X0 4 d26_1 (XT.i0_ne_f (by decide)) rfl ?_
  refine og_iloadN X0 5 d26_4 rfl rfl ?_
  refine og_aloadN X0 6 d26_5 rfl rfl rfl ?_
  refine own_len X0 7 d26_6 q0 rfl ?_
  refine og_icmpN X0 10 d26_7 (XT.ii_eq_f (by decide)) rfl ?_
  refine og_aloadN X0 11 d26_10 rfl rfl rfl ?_
  refine og_iloadN X0 12 d26_11 rfl rfl ?_
  refine og_iloadN X0 13 d26_12 rfl rfl ?_
  refine own_stat X0 16 (argsL := [(.ref b), (.int 0), (.int 2)]) (rest := []) d26_13 (rf_crb302 l Z n0 h0 [] a0 hw hWd X0.old b kb e0 e1 e2 q0 ) (ow hw 126 rfl) (ow hw 127 rfl) (ow hw 124 rfl) (ow hw 128 rfl) (by decide) (lenOf pd__28_5bBII_29_5bB rfl) rfl rfl rfl (W := 0) rfl (by decide) (by decide) (by decide) (by decide) all0 rfl ?_
  intro T1 h1 v1 X1 K1 hQ1
  obtain ⟨r1, kr1, rfl, ge_r1, f2⟩ := hQ1
  show OGo _ _ _ _ T1 (mkF m 16 #[.val (.ref b), .val (.int 0), .val (.int 2)] [(.ref r1)])
  refine own_retA X1 d26_16 hret rfl rfl (by decide) (by decide) ?_
  exact ⟨r1, kr1, rfl, ge_r1, f2⟩
theorem rf_ns302 (a0 : Array Value) (hw : OHw a0 Z) (hWd : OWorld Z a0) (O0 : Old Z n0 h0) (b : Addr) (kb : ClassId) (e0 : Value) (e1 : Value) (e2 : Value) (q0 : Arv Z h0 b kb .byte (3 : Int32) [e0, e1, e2] (.int 0)) :
    OMet l Z own_EL n0 yN18 (Jvm.Cond.code yN18 jdk_43_method_47_code 3 (some (.object "java/lang/String")) :: wc) ({ frames := 3, cells := 2, slots := 6, locals := 72 } : Room) #[(.ref b), (.int 0), (.int 2)] h0 [] (fun vq hq => ∃ (r : Addr), vq = some (.ref r)) := by
  refine own_enter #[.val (.ref b), .val (.int 0), .val (.int 2)] pn_java_lang_StringLatin1_newString___BII_Ljava_lang_String_ (fun _ => rfl) hWd.1 O0 all0 ?_
  intro p e s m below meth c T0 X0 hnm hret
  refine og_iloadN X0 1 d25_0 rfl rfl ?_
  refine og_ifY X0 7 d25_1 (XT.i0_ne_t (by decide)) (by decide) (by decide) ?_
  refine own_new X0 10 d25_7 (ow hw 121 rfl) (ow hw 5 rfl) (ow hw 6 rfl) (by decide) (by decide) rfl ?_
  intro T1 h1 b1 X1 K1 G1 U1 E1 D1
  have f2 : Fld Z h1 b1 "java/lang/String" "value" "[B" .null := D1 (Or.inr (ow hw 20 rfl)) (ty := (.array .byte)) (by decide)
  have f3 : Fld Z h1 b1 "java/lang/String" "coder" "B" (.int 0) := D1 (Or.inr (ow hw 21 rfl)) (ty := .byte) (by decide)
  refine og_dup X1 11 d25_10 rfl rfl ?_
  refine og_aloadN X1 12 d25_11 rfl rfl rfl ?_
  refine og_iloadN X1 13 d25_12 rfl rfl ?_
  refine og_iloadN X1 14 d25_13 rfl rfl ?_
  refine og_iloadN X1 15 d25_14 rfl rfl ?_
  refine og_iadd X1 16 d25_15 rfl ?_
  show OGo _ _ _ _ T1 (mkF m 16 #[.val (.ref b), .val (.int 0), .val (.int 2)] [(.int 2), (.int 0), (.ref b), (.ref b1), (.ref b1)])
  have f4 := q0.keep K1 nin0
  refine own_stat X1 19 (argsL := [(.ref b), (.int 0), (.int 2)]) (rest := [(.ref b1), (.ref b1)]) d25_16 (rf_cr302 l Z n0 h1 [] a0 hw hWd X1.old b kb e0 e1 e2 f4 ) (ow hw 122 rfl) (ow hw 123 rfl) (ow hw 124 rfl) (ow hw 125 rfl) (by decide) (lenOf pd__28_5bBII_29_5bB rfl) rfl rfl rfl (W := 2) rfl (by decide) (by decide) (by decide) (by decide) all0 rfl ?_
  intro T5 h5 v5 X5 K5 hQ5
  obtain ⟨r5, kr5, rfl, ge_r5, f6⟩ := hQ5
  show OGo _ _ _ _ T5 (mkF m 19 #[.val (.ref b), .val (.int 0), .val (.int 2)] [(.ref r5), (.ref b1), (.ref b1)])
  refine og_iconst X5 20 (0 : Int32) d25_19 rfl rfl ?_
  have f7 := E1.keep K5
  have f8 := f2.keep K5 nin0
  have f9 := f3.keep K5 nin0
  refine own_spec X5 23 (a := b1) (argsL := [(.ref r5), (.int 0)]) (rest := [(.ref b1)]) d25_20 rfl (rm29 l Z n0 h5 [] a0 hw hWd X5.old b1 r5 .null (0 : Int32) f7 f8 f9 (own_svb X5 (om 0 rfl))) (ow hw 137 rfl) (ow hw 138 rfl) (ow hw 6 rfl) (ow hw 139 rfl) (by decide) (lenOf pd__28_5bBB_29V rfl) rfl rfl rfl (W := 1) rfl (by decide) (by decide) (by decide) (by decide) (allS (om 0 rfl) all0) rfl ?_
  intro T10 h10 v10 X10 K10 hQ10
  obtain rfl := hQ10
  show OGo _ _ _ _ T10 (mkF m 23 #[.val (.ref b), .val (.int 0), .val (.int 2)] [(.ref b1)])
  refine own_retA X10 d25_23 hret rfl rfl (by decide) (by decide) ?_
  exact ⟨b1, rfl⟩
theorem rf_sub302 (a0 : Array Value) (hw : OHw a0 Z) (hWd : OWorld Z a0) (O0 : Old Z n0 h0) (a : Addr) (x0 : Int32) (x1 : Int32) (x2 : Int32) (q0 : OStr Z h0 a [x0, x1, x2] h0.size) (q1 : ∀ c ∈ [x0, x1, x2], ¬ c < 0 ∧ ¬ (255 : Int32) < c) :
    OMet l Z own_EL n0 yN15 (Jvm.Cond.code yN15 jdk_42_method_92_code 5 (some (.object "java/lang/String")) :: wc) ({ frames := 4, cells := 2, slots := 6, locals := 86 } : Room) #[(.ref a), (.int 0), (.int 2)] h0 [] (fun vq hq => ∃ (r : Addr), vq = some (.ref r)) := by
  refine own_enter #[.val (.ref a), .val (.int 0), .val (.int 2), .unset, .unset] pn_java_lang_String_substring__II_Ljava_lang_String_ (fun _ => rfl) hWd.1 O0 all0 ?_
  intro p e s m below meth c T0 X0 hnm hret
  obtain ⟨t, kt, NN, vv, eE, eC, eV, eA, cod, bd, l4⟩ := q0.latin (fun c hc => (q1 c hc).2)
  obtain ⟨-, rfl, rfl, -⟩ := cod.resolve_right fun q => absurd q.1 (by decide)
  have eA2 : Arv Z h0 t kt .byte (3 : Int32) [(.int (StrChars.lo8 x0)), (.int (StrChars.lo8 x1)), (.int (StrChars.lo8 x2))] (.int 0) := eA
  refine og_aloadN X0 1 d18_0 rfl rfl rfl ?_
  refine own_strLen X0 4 d18_1 q0 (own_wL hw) (ow hw 5 rfl) hWd.2.1.1 hWd.2.1.2 (ow hw 76 rfl) (ow hw 46 rfl) (ow hw 48 rfl) (ow hw 47 rfl) rfl (W := 0) rfl (by decide) (by decide) (by decide) (by decide) rfl ?_
  intro T1 X2
  show OGo _ _ _ _ T1 (mkF m 4 #[.val (.ref a), .val (.int 0), .val (.int 2), .unset, .unset] [(.int 3)])
  refine og_istoreN X2 5 #[.val (.ref a), .val (.int 0), .val (.int 2), .val (.int 3), .unset] d18_4 rfl rfl ?_
  refine og_iloadN X2 6 d18_5 rfl rfl ?_
  refine og_iloadN X2 7 d18_6 rfl rfl ?_
  refine og_iloadN X2 8 d18_7 rfl rfl ?_
  refine own_stat X2 11 (argsL := [(.int 0), (.int 2), (.int 3)]) (rest := []) d18_8 (rm19 l Z n0 h0 [] a0 hw hWd X2.old (0 : Int32) (2 : Int32) (3 : Int32) (by decide) (by decide) (by decide) ) (ow hw 96 rfl) (ow hw 97 rfl) (ow hw 6 rfl) (ow hw 98 rfl) (by decide) (lenOf pd__28III_29V rfl) rfl rfl rfl (W := 0) rfl (by decide) (by decide) (by decide) (by decide) all0 rfl ?_
  intro T3 h3 v3 X3 K3 hQ3
  obtain rfl := hQ3
  show OGo _ _ _ _ T3 (mkF m 11 #[.val (.ref a), .val (.int 0), .val (.int 2), .val (.int 3), .unset] [])
  refine og_iloadN X3 12 d18_11 rfl rfl ?_
  refine og_ifN X3 15 d18_12 (XT.i0_ne_f (by decide)) rfl ?_
  refine og_iloadN X3 16 d18_15 rfl rfl ?_
  refine og_iloadN X3 17 d18_16 rfl rfl ?_
  refine og_icmpY X3 22 d18_17 (XT.ii_ne_t (by decide)) (by decide) (by decide) ?_
  refine og_iloadN X3 23 d18_22 rfl rfl ?_
  refine og_iloadN X3 24 d18_23 rfl rfl ?_
  refine og_isub X3 25 d18_24 rfl ?_
  show OGo _ _ _ _ T3 (mkF m 25 #[.val (.ref a), .val (.int 0), .val (.int 2), .val (.int 3), .unset] [(.int 2)])
  refine og_istore X3 27 #[.val (.ref a), .val (.int 0), .val (.int 2), .val (.int 3), .val (.int 2)] d18_25 rfl rfl ?_
  refine og_aloadN X3 28 d18_27 rfl rfl rfl ?_
  have f4 := eE.keep K3
  have f5 := eC.keep K3 nin0
  refine own_virt X3 31 (a := a) (argsL := []) (rest := []) d18_28 f4 (fun _ hZ => notFace_of_selects (args := #[]) (mvT hZ (ow hw 74 rfl))) (rm13 l Z n0 h3 [] a0 hw hWd X3.old a f5 ) (ow hw 71 rfl) (ow hw 72 rfl) (ow hw 74 rfl) (ow hw 73 rfl) (ow hw 6 rfl) (ow hw 75 rfl) (by decide) (lenOf pd__28_29Z rfl) rfl rfl rfl (W := 0) rfl (by decide) (by decide) (by decide) (by decide) all0 rfl ?_
  intro T6 h6 v6 X6 K6 hQ6
  obtain rfl := hQ6
  show OGo _ _ _ _ T6 (mkF m 31 #[.val (.ref a), .val (.int 0), .val (.int 2), .val (.int 3), .val (.int 2)] [(.int 1)])
  refine og_ifN X6 34 d18_31 (XT.i0_eq_f (by decide)) rfl ?_
  refine og_aloadN X6 35 d18_34 rfl rfl rfl ?_
  have f7 := eV.keep K3 nin0
  have f8 := f7.keep K6 nin0
  refine own_get X6 38 d18_35 (host := "") (Or.inl (ow hw 24 rfl)) Via.refl f8 rfl ?_
  intro T9 X10
  refine og_iloadN X10 39 d18_38 rfl rfl ?_
  refine og_iload X10 41 d18_39 rfl rfl ?_
  have f11 := eA2.keep K3 nin0
  have f12 := f11.keep K6 nin0
  refine own_stat X10 44 (argsL := [(.ref t), (.int 0), (.int 2)]) (rest := []) d18_41 (rf_ns302 l Z n0 h6 [] a0 hw hWd X10.old t kt (.int (StrChars.lo8 x0)) (.int (StrChars.lo8 x1)) (.int (StrChars.lo8 x2)) f12 ) (ow hw 117 rfl) (ow hw 118 rfl) (ow hw 79 rfl) (ow hw 119 rfl) (by decide) (lenOf pd__28_5bBII_29Ljava_2flang_2fString_3b rfl) rfl rfl rfl (W := 0) rfl (by decide) (by decide) (by decide) (by decide) all0 rfl ?_
  intro T13 h13 v13 X13 K13 hQ13
  obtain ⟨r13, rfl⟩ := hQ13
  show OGo _ _ _ _ T13 (mkF m 44 #[.val (.ref a), .val (.int 0), .val (.int 2), .val (.int 3), .val (.int 2)] [(.ref r13)])
  refine og_goto X13 57 d18_44 (by decide) (by decide) ?_
  refine own_retA X13 d18_57 hret rfl rfl (by decide) (by decide) ?_
  exact ⟨r13, rfl⟩
theorem rf_txt302 (a0 : Array Value) (hw : OHw a0 Z) (hWd : OWorld Z a0) (O0 : Old Z n0 h0) (a : Addr) (u : Addr) (x0 : Int32) (x1 : Int32) (x2 : Int32) (q0 : Exa Z h0 a "com/example/ratable/ratable/core/JournalSums$Fields") (q1 : Fld Z h0 a "com/example/ratable/ratable/core/JournalSums$Fields" "line" "Ljava/lang/String;" (.ref u)) (q2 : Fld Z h0 a "com/example/ratable/ratable/core/JournalSums$Fields" "next" "I" (.int 0)) (q3 : OStr Z h0 u [x0, x1, x2] h0.size) (q4 : ∀ c ∈ [x0, x1, x2], ¬ c < 0 ∧ ¬ (255 : Int32) < c) (q5 : ¬ x0 = (9 : Int32)) (q6 : ¬ x1 = (9 : Int32)) (q7 : x2 = (9 : Int32)) (g0 : n0 ≤ a ∧ a < h0.size) :
    OMet l Z own_EL n0 yN16 (Jvm.Cond.code yN16 prog_51_method_3_code 3 (some (.object "java/lang/String")) :: wc) ({ frames := 5, cells := 2, slots := 6, locals := 102 } : Room) #[(.ref a)] h0 [a] (fun vq hq => ∃ (r : Addr), vq = some (.ref r) ∧ Fld Z hq a "com/example/ratable/ratable/core/JournalSums$Fields" "line" "Ljava/lang/String;" (.ref u) ∧ Fld Z hq a "com/example/ratable/ratable/core/JournalSums$Fields" "next" "I" (.int 3)) := by
  refine own_enter #[.val (.ref a), .unset, .unset] pn_com_example_ratable_ratable_core_JournalSums_Fields_text___Ljava_lang_String_ (fun _ => rfl) hWd.1 O0 (allS g0 all0) ?_
  intro p e s m below meth c T0 X0 hnm hret
  refine og_aloadN X0 1 d10_0 rfl rfl rfl ?_
  refine own_priv X0 4 (a := a) (argsL := []) (rest := []) d10_1 q0 (rf_end302 l Z n0 h0 [] a0 hw hWd X0.old a u x0 x1 x2 q0 q1 q2 q3.top q4 q5 q6 q7 ) (ow hw 61 rfl) (ow hw 62 rfl) (own_selfsel2 (ow hw 41 rfl) rfl (ow hw 62 rfl) (ow hw 63 rfl) (by decide)) (ow hw 63 rfl) (ow hw 31 rfl) (ow hw 64 rfl) (by decide) (lenOf pd__28_29I rfl) rfl rfl rfl (W := 0) rfl (by decide) (by decide) (by decide) (by decide) all0 rfl ?_
  intro T1 h1 v1 X1 K1 hQ1
  obtain rfl := hQ1
  show OGo _ _ _ _ T1 (mkF m 4 #[.val (.ref a), .unset, .unset] [(.int 2)])
  refine og_istoreN X1 5 #[.val (.ref a), .val (.int 2), .unset] d10_4 rfl rfl ?_
  refine og_aloadN X1 6 d10_5 rfl rfl rfl ?_
  have f2 := q1.keep K1 nin0
  refine own_get X1 9 d10_6 (host := "") (Or.inl (ow hw 36 rfl)) Via.refl f2 rfl ?_
  intro T3 X4
  refine og_aloadN X4 10 d10_9 rfl rfl rfl ?_
  have f5 := q2.keep K1 nin0
  refine own_get X4 13 d10_10 (host := "") (Or.inl (ow hw 43 rfl)) Via.refl f5 rfl ?_
  intro T6 X7
  refine og_iloadN X7 14 d10_13 rfl rfl ?_
  have f8 := q3.exa.keep K1
  have f9 := q3.keep K1 all0
  refine own_virt X7 17 (a := u) (argsL := [(.int 0), (.int 2)]) (rest := []) d10_14 f8 (fun _ hZ => notFace_of_selects (args := #[]) (mvT hZ (ow hw 94 rfl))) (rf_sub302 l Z n0 h1 [] a0 hw hWd X7.old u x0 x1 x2 f9.top q4 ) (ow hw 91 rfl) (ow hw 92 rfl) (ow hw 94 rfl) (ow hw 93 rfl) (ow hw 6 rfl) (ow hw 95 rfl) (by decide) (lenOf pd__28II_29Ljava_2flang_2fString_3b rfl) rfl rfl rfl (W := 0) rfl (by decide) (by decide) (by decide) (by decide) all0 rfl ?_
  intro T10 h10 v10 X10 K10 hQ10
  obtain ⟨r10, rfl⟩ := hQ10
  show OGo _ _ _ _ T10 (mkF m 17 #[.val (.ref a), .val (.int 2), .unset] [(.ref r10)])
  refine og_astoreN X10 18 #[.val (.ref a), .val (.int 2), .val (.ref r10)] d10_17 rfl rfl rfl ?_
  refine og_aloadN X10 19 d10_18 rfl rfl rfl ?_
  refine og_iloadN X10 20 d10_19 rfl rfl ?_
  refine og_iconst X10 21 (1 : Int32) d10_20 rfl rfl ?_
  refine og_iadd X10 22 d10_21 rfl ?_
  show OGo _ _ _ _ T10 (mkF m 22 #[.val (.ref a), .val (.int 2), .val (.ref r10)] [(.int 3), (.ref a)])
  have f11 := f5.keep K10 nin0
  have f12 := q0.keep K1
  have f13 := f12.keep K10
  have f14 := f2.keep K10 nin0
  refine own_put X10 25 d10_22 (host := "") (Or.inl (ow hw 43 rfl)) Via.refl f11 f13 (Or.inl (ow hw 44 rfl)) (ow hw 30 rfl) (ty := .int) (by decide) rfl rfl (om 0 rfl) rfl ?_
  intro T15 h15 X15 W15 K15 F15
  have f16 := Fld.other W15 f14 (Or.inr (slot_ne (Or.inr (ow hw 37 rfl)) (Or.inl (ow hw 44 rfl)) (by decide) (t := (.object "java/lang/String")) (t' := .int) (by decide) (by decide)))
  refine og_aloadN X15 26 d10_25 rfl rfl rfl ?_
  refine own_retA X15 d10_26 hret rfl rfl (by decide) (by decide) ?_
  exact ⟨r10, rfl, f16, F15⟩
theorem rf_end303 (a0 : Array Value) (hw : OHw a0 Z) (hWd : OWorld Z a0) (O0 : Old Z n0 h0) (a : Addr) (u : Addr) (x0 : Int32) (x1 : Int32) (x2 : Int32) (q0 : Exa Z h0 a "com/example/ratable/ratable/core/JournalSums$Fields") (q1 : Fld Z h0 a "com/example/ratable/ratable/core/JournalSums$Fields" "line" "Ljava/lang/String;" (.ref u)) (q2 : Fld Z h0 a "com/example/ratable/ratable/core/JournalSums$Fields" "next" "I" (.int 0)) (q3 : OStr Z h0 u [x0, x1, x2] h0.size) (q4 : ∀ c ∈ [x0, x1, x2], ¬ c < 0 ∧ ¬ (255 : Int32) < c) (q5 : ¬ x0 = (9 : Int32)) (q6 : ¬ x1 = (9 : Int32)) (q7 : ¬ x2 = (9 : Int32)) :
    OMet l Z own_EL n0 yN14 (Jvm.Cond.code yN14 prog_51_method_8_code 2 (some .int) :: wc) ({ frames := 3, cells := 0, slots := 0, locals := 46 } : Room) #[(.ref a)] h0 [] (fun vq hq => vq = some (.int 3)) := by
  refine own_enter #[.val (.ref a), .unset] pn_com_example_ratable_ratable_core_JournalSums_Fields_end___I (fun _ => rfl) hWd.1 O0 all0 ?_
  intro p e s m below meth c T0 X0 hnm hret
  refine og_aloadN X0 1 d11_0 rfl rfl rfl ?_
  refine own_virt X0 4 (a := a) (argsL := []) (rest := []) d11_1 q0 (fun _ hZ => notFace_of_selects (args := #[]) (mvT hZ (ow hw 41 rfl))) (rm_more1 l Z n0 h0 [] a0 hw hWd X0.old a u [x0, x1, x2] (0 : Int32) q1 q2 q3.top (show ¬ (3 : Int32) < (0 : Int32) by decide) ) (ow hw 65 rfl) (ow hw 39 rfl) (ow hw 41 rfl) (ow hw 40 rfl) (ow hw 31 rfl) (ow hw 42 rfl) (by decide) (lenOf pd__28_29Z rfl) rfl rfl rfl (W := 0) rfl (by decide) (by decide) (by decide) (by decide) all0 rfl ?_
  intro T1 h1 v1 X1 K1 hQ1
  obtain rfl := hQ1
  show OGo _ _ _ _ T1 (mkF m 4 #[.val (.ref a), .unset] [(.int 1)])
  refine og_ifY X1 37 d11_4 (XT.i0_ne_t (by decide)) (by decide) (by decide) ?_
  refine og_aloadN X1 38 d11_37 rfl rfl rfl ?_
  have f2 := q1.keep K1 nin0
  refine own_get X1 41 d11_38 (host := "") (Or.inl (ow hw 36 rfl)) Via.refl f2 rfl ?_
  intro T3 X4
  refine og_bipush X4 43 (9 : Int32) d11_41 rfl rfl ?_
  refine og_aloadN X4 44 d11_43 rfl rfl rfl ?_
  have f5 := q2.keep K1 nin0
  refine own_get X4 47 d11_44 (host := "") (Or.inl (ow hw 43 rfl)) Via.refl f5 rfl ?_
  intro T6 X7
  have f8 := q3.exa.keep K1
  have f9 := q3.keep K1 all0
  refine own_virt X7 50 (a := u) (argsL := [(.int 9), (.int 0)]) (rest := []) d11_47 f8 (fun _ hZ => notFace_of_selects (args := #[]) (mvT hZ (ow hw 69 rfl))) (rf_ios30 l Z n0 h1 [] a0 hw hWd X7.old u x0 x1 x2 f9.top q4 ) (ow hw 66 rfl) (ow hw 67 rfl) (ow hw 69 rfl) (ow hw 68 rfl) (ow hw 6 rfl) (ow hw 70 rfl) (by decide) (lenOf pd__28II_29I rfl) rfl rfl rfl (W := 0) rfl (by decide) (by decide) (by decide) (by decide) all0 rfl ?_
  intro T10 h10 v10 X10 K10 hQ10
  obtain rfl := hQ10
  show OGo _ _ _ _ T10 (mkF m 50 #[.val (.ref a), .unset] [(.int (own_ix [x0, x1, x2] 0))])
  rw [show (own_ix [x0, x1, x2] 0) = (-1 : Int32) by (first | rfl | (simp only [own_ix, own_ixA, List.drop, if_true, if_false, q5, q6, q7]; done) | (simp only [own_ix, own_ixA, List.drop, if_true, if_false, q5, q6, q7]; rfl))]
  refine og_istoreN X10 51 #[.val (.ref a), .val (.int (-1 : Int32))] d11_50 rfl rfl ?_
  refine og_iloadN X10 52 d11_51 rfl rfl ?_
  refine og_ifN X10 55 d11_52 (XT.i0_ge_f (by decide)) rfl ?_
  refine og_aloadN X10 56 d11_55 rfl rfl rfl ?_
  have f11 := f2.keep K10 nin0
  refine own_get X10 59 d11_56 (host := "") (Or.inl (ow hw 36 rfl)) Via.refl f11 rfl ?_
  intro T12 X13
  have f14 := f9.keep K10 all0
  refine own_strLen X13 62 d11_59 f14 (own_wL hw) (ow hw 5 rfl) hWd.2.1.1 hWd.2.1.2 (ow hw 45 rfl) (ow hw 46 rfl) (ow hw 48 rfl) (ow hw 47 rfl) rfl (W := 0) rfl (by decide) (by decide) (by decide) (by decide) rfl ?_
  intro T15 X16
  show OGo _ _ _ _ T15 (mkF m 62 #[.val (.ref a), .val (.int (-1 : Int32))] [(.int 3)])
  refine og_goto X16 66 d11_62 (by decide) (by decide) ?_
  refine own_retI X16 d11_66 hret (by decide) (by decide) ?_
  exact rfl
theorem rf_sub303 (a0 : Array Value) (hw : OHw a0 Z) (hWd : OWorld Z a0) (O0 : Old Z n0 h0) (a : Addr) (x0 : Int32) (x1 : Int32) (x2 : Int32) (q0 : OStr Z h0 a [x0, x1, x2] h0.size) (q1 : ∀ c ∈ [x0, x1, x2], ¬ c < 0 ∧ ¬ (255 : Int32) < c) :
    OMet l Z own_EL n0 yN15 (Jvm.Cond.code yN15 jdk_42_method_92_code 5 (some (.object "java/lang/String")) :: wc) ({ frames := 2, cells := 0, slots := 0, locals := 29 } : Room) #[(.ref a), (.int 0), (.int 3)] h0 [] (fun vq hq => ∃ (r : Addr), vq = some (.ref r)) := by
  refine own_enter #[.val (.ref a), .val (.int 0), .val (.int 3), .unset, .unset] pn_java_lang_String_substring__II_Ljava_lang_String_ (fun _ => rfl) hWd.1 O0 all0 ?_
  intro p e s m below meth c T0 X0 hnm hret
  obtain ⟨t, kt, NN, vv, eE, eC, eV, eA, cod, bd, l4⟩ := q0.latin (fun c hc => (q1 c hc).2)
  obtain ⟨-, rfl, rfl, -⟩ := cod.resolve_right fun q => absurd q.1 (by decide)
  have eA2 : Arv Z h0 t kt .byte (3 : Int32) [(.int (StrChars.lo8 x0)), (.int (StrChars.lo8 x1)), (.int (StrChars.lo8 x2))] (.int 0) := eA
  refine og_aloadN X0 1 d18_0 rfl rfl rfl ?_
  refine own_strLen X0 4 d18_1 q0 (own_wL hw) (ow hw 5 rfl) hWd.2.1.1 hWd.2.1.2 (ow hw 76 rfl) (ow hw 46 rfl) (ow hw 48 rfl) (ow hw 47 rfl) rfl (W := 0) rfl (by decide) (by decide) (by decide) (by decide) rfl ?_
  intro T1 X2
  show OGo _ _ _ _ T1 (mkF m 4 #[.val (.ref a), .val (.int 0), .val (.int 3), .unset, .unset] [(.int 3)])
  refine og_istoreN X2 5 #[.val (.ref a), .val (.int 0), .val (.int 3), .val (.int 3), .unset] d18_4 rfl rfl ?_
  refine og_iloadN X2 6 d18_5 rfl rfl ?_
  refine og_iloadN X2 7 d18_6 rfl rfl ?_
  refine og_iloadN X2 8 d18_7 rfl rfl ?_
  refine own_stat X2 11 (argsL := [(.int 0), (.int 3), (.int 3)]) (rest := []) d18_8 (rm19 l Z n0 h0 [] a0 hw hWd X2.old (0 : Int32) (3 : Int32) (3 : Int32) (by decide) (by decide) (by decide) ) (ow hw 96 rfl) (ow hw 97 rfl) (ow hw 6 rfl) (ow hw 98 rfl) (by decide) (lenOf pd__28III_29V rfl) rfl rfl rfl (W := 0) rfl (by decide) (by decide) (by decide) (by decide) all0 rfl ?_
  intro T3 h3 v3 X3 K3 hQ3
  obtain rfl := hQ3
  show OGo _ _ _ _ T3 (mkF m 11 #[.val (.ref a), .val (.int 0), .val (.int 3), .val (.int 3), .unset] [])
  refine og_iloadN X3 12 d18_11 rfl rfl ?_
  refine og_ifN X3 15 d18_12 (XT.i0_ne_f (by decide)) rfl ?_
  refine og_iloadN X3 16 d18_15 rfl rfl ?_
  refine og_iloadN X3 17 d18_16 rfl rfl ?_
  refine og_icmpN X3 20 d18_17 (XT.ii_ne_f (by decide)) rfl ?_
  refine og_aloadN X3 21 d18_20 rfl rfl rfl ?_
  refine own_retA X3 d18_21 hret rfl rfl (by decide) (by decide) ?_
  exact ⟨a, rfl⟩
theorem rf_txt303 (a0 : Array Value) (hw : OHw a0 Z) (hWd : OWorld Z a0) (O0 : Old Z n0 h0) (a : Addr) (u : Addr) (x0 : Int32) (x1 : Int32) (x2 : Int32) (q0 : Exa Z h0 a "com/example/ratable/ratable/core/JournalSums$Fields") (q1 : Fld Z h0 a "com/example/ratable/ratable/core/JournalSums$Fields" "line" "Ljava/lang/String;" (.ref u)) (q2 : Fld Z h0 a "com/example/ratable/ratable/core/JournalSums$Fields" "next" "I" (.int 0)) (q3 : OStr Z h0 u [x0, x1, x2] h0.size) (q4 : ∀ c ∈ [x0, x1, x2], ¬ c < 0 ∧ ¬ (255 : Int32) < c) (q5 : ¬ x0 = (9 : Int32)) (q6 : ¬ x1 = (9 : Int32)) (q7 : ¬ x2 = (9 : Int32)) (g0 : n0 ≤ a ∧ a < h0.size) :
    OMet l Z own_EL n0 yN16 (Jvm.Cond.code yN16 prog_51_method_3_code 3 (some (.object "java/lang/String")) :: wc) ({ frames := 4, cells := 0, slots := 0, locals := 59 } : Room) #[(.ref a)] h0 [a] (fun vq hq => ∃ (r : Addr), vq = some (.ref r) ∧ Fld Z hq a "com/example/ratable/ratable/core/JournalSums$Fields" "line" "Ljava/lang/String;" (.ref u) ∧ Fld Z hq a "com/example/ratable/ratable/core/JournalSums$Fields" "next" "I" (.int 4)) := by
  refine own_enter #[.val (.ref a), .unset, .unset] pn_com_example_ratable_ratable_core_JournalSums_Fields_text___Ljava_lang_String_ (fun _ => rfl) hWd.1 O0 (allS g0 all0) ?_
  intro p e s m below meth c T0 X0 hnm hret
  refine og_aloadN X0 1 d10_0 rfl rfl rfl ?_
  refine own_priv X0 4 (a := a) (argsL := []) (rest := []) d10_1 q0 (rf_end303 l Z n0 h0 [] a0 hw hWd X0.old a u x0 x1 x2 q0 q1 q2 q3.top q4 q5 q6 q7 ) (ow hw 61 rfl) (ow hw 62 rfl) (own_selfsel2 (ow hw 41 rfl) rfl (ow hw 62 rfl) (ow hw 63 rfl) (by decide)) (ow hw 63 rfl) (ow hw 31 rfl) (ow hw 64 rfl) (by decide) (lenOf pd__28_29I rfl) rfl rfl rfl (W := 0) rfl (by decide) (by decide) (by decide) (by decide) all0 rfl ?_
  intro T1 h1 v1 X1 K1 hQ1
  obtain rfl := hQ1
  show OGo _ _ _ _ T1 (mkF m 4 #[.val (.ref a), .unset, .unset] [(.int 3)])
  refine og_istoreN X1 5 #[.val (.ref a), .val (.int 3), .unset] d10_4 rfl rfl ?_
  refine og_aloadN X1 6 d10_5 rfl rfl rfl ?_
  have f2 := q1.keep K1 nin0
  refine own_get X1 9 d10_6 (host := "") (Or.inl (ow hw 36 rfl)) Via.refl f2 rfl ?_
  intro T3 X4
  refine og_aloadN X4 10 d10_9 rfl rfl rfl ?_
  have f5 := q2.keep K1 nin0
  refine own_get X4 13 d10_10 (host := "") (Or.inl (ow hw 43 rfl)) Via.refl f5 rfl ?_
  intro T6 X7
  refine og_iloadN X7 14 d10_13 rfl rfl ?_
  have f8 := q3.exa.keep K1
  have f9 := q3.keep K1 all0
  refine own_virt X7 17 (a := u) (argsL := [(.int 0), (.int 3)]) (rest := []) d10_14 f8 (fun _ hZ => notFace_of_selects (args := #[]) (mvT hZ (ow hw 94 rfl))) (rf_sub303 l Z n0 h1 [] a0 hw hWd X7.old u x0 x1 x2 f9.top q4 ) (ow hw 91 rfl) (ow hw 92 rfl) (ow hw 94 rfl) (ow hw 93 rfl) (ow hw 6 rfl) (ow hw 95 rfl) (by decide) (lenOf pd__28II_29Ljava_2flang_2fString_3b rfl) rfl rfl rfl (W := 0) rfl (by decide) (by decide) (by decide) (by decide) all0 rfl ?_
  intro T10 h10 v10 X10 K10 hQ10
  obtain ⟨r10, rfl⟩ := hQ10
  show OGo _ _ _ _ T10 (mkF m 17 #[.val (.ref a), .val (.int 3), .unset] [(.ref r10)])
  refine og_astoreN X10 18 #[.val (.ref a), .val (.int 3), .val (.ref r10)] d10_17 rfl rfl rfl ?_
  refine og_aloadN X10 19 d10_18 rfl rfl rfl ?_
  refine og_iloadN X10 20 d10_19 rfl rfl ?_
  refine og_iconst X10 21 (1 : Int32) d10_20 rfl rfl ?_
  refine og_iadd X10 22 d10_21 rfl ?_
  show OGo _ _ _ _ T10 (mkF m 22 #[.val (.ref a), .val (.int 3), .val (.ref r10)] [(.int 4), (.ref a)])
  have f11 := f5.keep K10 nin0
  have f12 := q0.keep K1
  have f13 := f12.keep K10
  have f14 := f2.keep K10 nin0
  refine own_put X10 25 d10_22 (host := "") (Or.inl (ow hw 43 rfl)) Via.refl f11 f13 (Or.inl (ow hw 44 rfl)) (ow hw 30 rfl) (ty := .int) (by decide) rfl rfl (om 0 rfl) rfl ?_
  intro T15 h15 X15 W15 K15 F15
  have f16 := Fld.other W15 f14 (Or.inr (slot_ne (Or.inr (ow hw 37 rfl)) (Or.inl (ow hw 44 rfl)) (by decide) (t := (.object "java/lang/String")) (t' := .int) (by decide) (by decide)))
  refine og_aloadN X15 26 d10_25 rfl rfl rfl ?_
  refine own_retA X15 d10_26 hret rfl rfl (by decide) (by decide) ?_
  exact ⟨r10, rfl, f16, F15⟩
theorem rf_ioc31 (a0 : Array Value) (hw : OHw a0 Z) (hWd : OWorld Z a0) (O0 : Old Z n0 h0) (b : Addr) (kb : ClassId) (x0 : Int32) (x1 : Int32) (x2 : Int32) (q0 : Arv Z h0 b kb .byte (3 : Int32) [(.int (StrChars.lo8 x0)), (.int (StrChars.lo8 x1)), (.int (StrChars.lo8 x2))] (.int 0)) (q1 : ∀ c ∈ [x0, x1, x2], ¬ c < 0 ∧ ¬ (255 : Int32) < c) :
    OMet l Z own_EL n0 yN17 (Jvm.Cond.code yN17 jdk_43_method_23_code 6 (some .int) :: wc) ({ frames := 0, cells := 0, slots := 0, locals := 0 } : Room) #[(.ref b), (.int 9), (.int 1), (.int 3)] h0 [] (fun vq hq => vq = some (.int (own_ix [x0, x1, x2] 1))) := by
  refine own_enter #[.val (.ref b), .val (.int 9), .val (.int 1), .val (.int 3), .unset, .unset] pn_java_lang_StringLatin1_indexOfChar___BIII_I (fun _ => rfl) hWd.1 O0 all0 ?_
  intro p e s m below meth c T0 X0 hnm hret
  refine og_iloadN X0 1 d24_0 rfl rfl ?_
  refine og_i2b X0 2 d24_1 rfl ?_
  show OGo _ _ _ _ T0 (mkF m 2 #[.val (.ref b), .val (.int 9), .val (.int 1), .val (.int 3), .unset, .unset] [(.int 9)])
  refine og_istore X0 4 #[.val (.ref b), .val (.int 9), .val (.int 1), .val (.int 3), .val (.int 9), .unset] d24_2 rfl rfl ?_
  refine og_iloadN X0 5 d24_4 rfl rfl ?_
  refine og_istore X0 7 #[.val (.ref b), .val (.int 9), .val (.int 1), .val (.int 3), .val (.int 9), .val (.int 1)] d24_5 rfl rfl ?_
  refine og_iload X0 9 d24_7 rfl rfl ?_
  refine og_iloadN X0 10 d24_9 rfl rfl ?_
  refine og_icmpN X0 13 d24_10 (XT.ii_ge_f (by decide)) rfl ?_
  refine og_aloadN X0 14 d24_13 rfl rfl rfl ?_
  refine og_iload X0 16 d24_14 rfl rfl ?_
  refine own_ldB X0 17 d24_16 q0 (by decide) (by decide) rfl rfl ?_
  refine og_iload X0 19 d24_17 rfl rfl ?_
  by_cases hc1 : (StrChars.lo8 x1) = (9 : Int32)
  · -- (StrChars.lo8 x1) = (9 : Int32)
    refine og_icmpN X0 22 d24_19 (XT.ii_ne_f hc1) rfl ?_
    refine og_iload X0 24 d24_22 rfl rfl ?_
    refine own_retI X0 d24_24 hret (by decide) (by decide) ?_
    (first | rfl | (simp only [own_ix, own_ixA, List.drop, if_true, if_false, own_tab2 (q1 _ (om 1 rfl)) hc1]; done) | (simp only [own_ix, own_ixA, List.drop, if_true, if_false, own_tab2 (q1 _ (om 1 rfl)) hc1]; rfl))
  · -- not
    refine og_icmpY X0 25 d24_19 (XT.ii_ne_t hc1) (by decide) (by decide) ?_
    refine og_iinc X0 28 #[.val (.ref b), .val (.int 9), .val (.int 1), .val (.int 3), .val (.int 9), .val (.int 2)] d24_25 rfl rfl rfl ?_
    refine og_goto X0 7 d24_28 (by decide) (by decide) ?_
    refine og_iload X0 9 d24_7 rfl rfl ?_
    refine og_iloadN X0 10 d24_9 rfl rfl ?_
    refine og_icmpN X0 13 d24_10 (XT.ii_ge_f (by decide)) rfl ?_
    refine og_aloadN X0 14 d24_13 rfl rfl rfl ?_
    refine og_iload X0 16 d24_14 rfl rfl ?_
    refine own_ldB X0 17 d24_16 q0 (by decide) (by decide) rfl rfl ?_
    refine og_iload X0 19 d24_17 rfl rfl ?_
    by_cases hc2 : (StrChars.lo8 x2) = (9 : Int32)
    · -- (StrChars.lo8 x2) = (9 : Int32)
      refine og_icmpN X0 22 d24_19 (XT.ii_ne_f hc2) rfl ?_
      refine og_iload X0 24 d24_22 rfl rfl ?_
      refine own_retI X0 d24_24 hret (by decide) (by decide) ?_
      (first | rfl | (simp only [own_ix, own_ixA, List.drop, if_true, if_false, own_tab3 hc1, own_tab2 (q1 _ (om 2 rfl)) hc2]; done) | (simp only [own_ix, own_ixA, List.drop, if_true, if_false, own_tab3 hc1, own_tab2 (q1 _ (om 2 rfl)) hc2]; rfl))
    · -- not
      refine og_icmpY X0 25 d24_19 (XT.ii_ne_t hc2) (by decide) (by decide) ?_
      refine og_iinc X0 28 #[.val (.ref b), .val (.int 9), .val (.int 1), .val (.int 3), .val (.int 9), .val (.int 3)] d24_25 rfl rfl rfl ?_
      refine og_goto X0 7 d24_28 (by decide) (by decide) ?_
      refine og_iload X0 9 d24_7 rfl rfl ?_
      refine og_iloadN X0 10 d24_9 rfl rfl ?_
      refine og_icmpY X0 31 d24_10 (XT.ii_ge_t (by decide)) (by decide) (by decide) ?_
      refine og_iconst X0 32 (-1 : Int32) d24_31 rfl rfl ?_
      refine own_retI X0 d24_32 hret (by decide) (by decide) ?_
      (first | rfl | (simp only [own_ix, own_ixA, List.drop, if_true, if_false, own_tab3 hc1, own_tab3 hc2]; done) | (simp only [own_ix, own_ixA, List.drop, if_true, if_false, own_tab3 hc1, own_tab3 hc2]; rfl))
theorem rf_iol31 (a0 : Array Value) (hw : OHw a0 Z) (hWd : OWorld Z a0) (O0 : Old Z n0 h0) (b : Addr) (kb : ClassId) (x0 : Int32) (x1 : Int32) (x2 : Int32) (q0 : Arv Z h0 b kb .byte (3 : Int32) [(.int (StrChars.lo8 x0)), (.int (StrChars.lo8 x1)), (.int (StrChars.lo8 x2))] (.int 0)) (q1 : ∀ c ∈ [x0, x1, x2], ¬ c < 0 ∧ ¬ (255 : Int32) < c) :
    OMet l Z own_EL n0 yN12 (Jvm.Cond.code yN12 jdk_43_method_22_code 4 (some .int) :: wc) ({ frames := 1, cells := 0, slots := 0, locals := 17 } : Room) #[(.ref b), (.int 9), (.int 1), (.int 3)] h0 [] (fun vq hq => vq = some (.int (own_ix [x0, x1, x2] 1))) := by
  refine own_enter #[.val (.ref b), .val (.int 9), .val (.int 1), .val (.int 3)] pn_java_lang_StringLatin1_indexOf___BIII_I (fun _ => rfl) hWd.1 O0 all0 ?_
  intro p e s m below meth c T0 X0 hnm hret
  refine og_iloadN X0 1 d14_0 rfl rfl ?_
  refine own_stat X0 4 (argsL := [(.int 9)]) (rest := []) d14_1 (rm15 l Z n0 h0 [] a0 hw hWd X0.old   ) (ow hw 81 rfl) (ow hw 82 rfl) (ow hw 79 rfl) (ow hw 83 rfl) (by decide) (lenOf pd__28I_29Z rfl) rfl rfl rfl (W := 0) rfl (by decide) (by decide) (by decide) (by decide) all0 rfl ?_
  intro T1 h1 v1 X1 K1 hQ1
  obtain rfl := hQ1
  show OGo _ _ _ _ T1 (mkF m 4 #[.val (.ref b), .val (.int 9), .val (.int 1), .val (.int 3)] [(.int 1)])
  refine og_ifY X1 9 d14_4 (XT.i0_ne_t (by decide)) (by decide) (by decide) ?_
  refine og_iloadN X1 10 d14_9 rfl rfl ?_
  refine og_iconst X1 11 (0 : Int32) d14_10 rfl rfl ?_
  refine own_stat X1 14 (argsL := [(.int 1), (.int 0)]) (rest := []) d14_11 (rm16 l Z n0 h1 [] a0 hw hWd X1.old (1 : Int32) (0 : Int32) (by decide) ) (ow hw 84 rfl) (ow hw 85 rfl) (ow hw 86 rfl) (ow hw 87 rfl) (by decide) (lenOf pd__28II_29I rfl) rfl rfl rfl (W := 0) rfl (by decide) (by decide) (by decide) (by decide) all0 rfl ?_
  intro T2 h2 v2 X2 K2 hQ2
  obtain rfl := hQ2
  show OGo _ _ _ _ T2 (mkF m 14 #[.val (.ref b), .val (.int 9), .val (.int 1), .val (.int 3)] [(.int 1)])
  refine og_istoreN X2 15 #[.val (.ref b), .val (.int 9), .val (.int 1), .val (.int 3)] d14_14 rfl rfl ?_
  refine og_iloadN X2 16 d14_15 rfl rfl ?_
  refine og_aloadN X2 17 d14_16 rfl rfl rfl ?_
  have f3 := q0.keep K1 nin0
  have f4 := f3.keep K2 nin0
  refine own_len X2 18 d14_17 f4 rfl ?_
  refine own_stat X2 21 (argsL := [(.int 3), (.int 3)]) (rest := []) d14_18 (rm_min0 l Z n0 h2 [] a0 hw hWd X2.old (3 : Int32) (3 : Int32) (by decide) ) (ow hw 88 rfl) (ow hw 89 rfl) (ow hw 86 rfl) (ow hw 90 rfl) (by decide) (lenOf pd__28II_29I rfl) rfl rfl rfl (W := 0) rfl (by decide) (by decide) (by decide) (by decide) all0 rfl ?_
  intro T5 h5 v5 X5 K5 hQ5
  obtain rfl := hQ5
  show OGo _ _ _ _ T5 (mkF m 21 #[.val (.ref b), .val (.int 9), .val (.int 1), .val (.int 3)] [(.int 3)])
  refine og_istoreN X5 22 #[.val (.ref b), .val (.int 9), .val (.int 1), .val (.int 3)] d14_21 rfl rfl ?_
  refine og_iloadN X5 23 d14_22 rfl rfl ?_
  refine og_iloadN X5 24 d14_23 rfl rfl ?_
  refine og_icmpY X5 29 d14_24 (XT.ii_lt_t (by decide)) (by decide) (by decide) ?_
  refine og_aloadN X5 30 d14_29 rfl rfl rfl ?_
  refine og_iloadN X5 31 d14_30 rfl rfl ?_
  refine og_iloadN X5 32 d14_31 rfl rfl ?_
  refine og_iloadN X5 33 d14_32 rfl rfl ?_
  have f6 := f4.keep K5 nin0
  refine own_stat X5 36 (argsL := [(.ref b), (.int 9), (.int 1), (.int 3)]) (rest := []) d14_33 (rf_ioc31 l Z n0 h5 [] a0 hw hWd X5.old b kb x0 x1 x2 f6 q1 ) (ow hw 114 rfl) (ow hw 115 rfl) (ow hw 79 rfl) (ow hw 116 rfl) (by decide) (lenOf pd__28_5bBIII_29I rfl) rfl rfl rfl (W := 0) rfl (by decide) (by decide) (by decide) (by decide) all0 rfl ?_
  intro T7 h7 v7 X7 K7 hQ7
  obtain rfl := hQ7
  show OGo _ _ _ _ T7 (mkF m 36 #[.val (.ref b), .val (.int 9), .val (.int 1), .val (.int 3)] [(.int (own_ix [x0, x1, x2] 1))])
  refine own_retI X7 d14_36 hret (by decide) (by decide) ?_
  exact rfl
theorem rf_ios31 (a0 : Array Value) (hw : OHw a0 Z) (hWd : OWorld Z a0) (O0 : Old Z n0 h0) (a : Addr) (x0 : Int32) (x1 : Int32) (x2 : Int32) (q0 : OStr Z h0 a [x0, x1, x2] h0.size) (q1 : ∀ c ∈ [x0, x1, x2], ¬ c < 0 ∧ ¬ (255 : Int32) < c) :
    OMet l Z own_EL n0 yN13 (Jvm.Cond.code yN13 jdk_42_method_80_code 3 (some .int) :: wc) ({ frames := 2, cells := 0, slots := 0, locals := 32 } : Room) #[(.ref a), (.int 9), (.int 1)] h0 [] (fun vq hq => vq = some (.int (own_ix [x0, x1, x2] 1))) := by
  refine own_enter #[.val (.ref a), .val (.int 9), .val (.int 1)] pn_java_lang_String_indexOf__II_I (fun _ => rfl) hWd.1 O0 all0 ?_
  intro p e s m below meth c T0 X0 hnm hret
  obtain ⟨t, kt, NN, vv, eE, eC, eV, eA, cod, bd, l4⟩ := q0.latin (fun c hc => (q1 c hc).2)
  obtain ⟨-, rfl, rfl, -⟩ := cod.resolve_right fun q => absurd q.1 (by decide)
  have eA2 : Arv Z h0 t kt .byte (3 : Int32) [(.int (StrChars.lo8 x0)), (.int (StrChars.lo8 x1)), (.int (StrChars.lo8 x2))] (.int 0) := eA
  refine og_aloadN X0 1 d12_0 rfl rfl rfl ?_
  refine own_virt X0 4 (a := a) (argsL := []) (rest := []) d12_1 eE (fun _ hZ => notFace_of_selects (args := #[]) (mvT hZ (ow hw 74 rfl))) (rm13 l Z n0 h0 [] a0 hw hWd X0.old a eC ) (ow hw 71 rfl) (ow hw 72 rfl) (ow hw 74 rfl) (ow hw 73 rfl) (ow hw 6 rfl) (ow hw 75 rfl) (by decide) (lenOf pd__28_29Z rfl) rfl rfl rfl (W := 0) rfl (by decide) (by decide) (by decide) (by decide) all0 rfl ?_
  intro T1 h1 v1 X1 K1 hQ1
  obtain rfl := hQ1
  show OGo _ _ _ _ T1 (mkF m 4 #[.val (.ref a), .val (.int 9), .val (.int 1)] [(.int 1)])
  refine og_ifN X1 7 d12_4 (XT.i0_eq_f (by decide)) rfl ?_
  refine og_aloadN X1 8 d12_7 rfl rfl rfl ?_
  have f2 := eV.keep K1 nin0
  refine own_get X1 11 d12_8 (host := "") (Or.inl (ow hw 24 rfl)) Via.refl f2 rfl ?_
  intro T3 X4
  refine og_iloadN X4 12 d12_11 rfl rfl ?_
  refine og_iloadN X4 13 d12_12 rfl rfl ?_
  refine og_aloadN X4 14 d12_13 rfl rfl rfl ?_
  have f5 := q0.keep K1 all0
  refine own_strLen X4 17 d12_14 f5 (own_wL hw) (ow hw 5 rfl) hWd.2.1.1 hWd.2.1.2 (ow hw 76 rfl) (ow hw 46 rfl) (ow hw 48 rfl) (ow hw 47 rfl) rfl (W := 3) rfl (by decide) (by decide) (by decide) (by decide) rfl ?_
  intro T6 X7
  show OGo _ _ _ _ T6 (mkF m 17 #[.val (.ref a), .val (.int 9), .val (.int 1)] [(.int 3), (.int 1), (.int 9), (.ref t)])
  have f8 := eA2.keep K1 nin0
  refine own_stat X7 20 (argsL := [(.ref t), (.int 9), (.int 1), (.int 3)]) (rest := []) d12_17 (rf_iol31 l Z n0 h1 [] a0 hw hWd X7.old t kt x0 x1 x2 f8 q1 ) (ow hw 77 rfl) (ow hw 78 rfl) (ow hw 79 rfl) (ow hw 80 rfl) (by decide) (lenOf pd__28_5bBIII_29I rfl) rfl rfl rfl (W := 0) rfl (by decide) (by decide) (by decide) (by decide) all0 rfl ?_
  intro T9 h9 v9 X9 K9 hQ9
  obtain rfl := hQ9
  show OGo _ _ _ _ T9 (mkF m 20 #[.val (.ref a), .val (.int 9), .val (.int 1)] [(.int (own_ix [x0, x1, x2] 1))])
  refine og_goto X9 36 d12_20 (by decide) (by decide) ?_
  refine own_retI X9 d12_36 hret (by decide) (by decide) ?_
  exact rfl
theorem rf_end311 (a0 : Array Value) (hw : OHw a0 Z) (hWd : OWorld Z a0) (O0 : Old Z n0 h0) (a : Addr) (u : Addr) (x0 : Int32) (x1 : Int32) (x2 : Int32) (q0 : Exa Z h0 a "com/example/ratable/ratable/core/JournalSums$Fields") (q1 : Fld Z h0 a "com/example/ratable/ratable/core/JournalSums$Fields" "line" "Ljava/lang/String;" (.ref u)) (q2 : Fld Z h0 a "com/example/ratable/ratable/core/JournalSums$Fields" "next" "I" (.int 1)) (q3 : OStr Z h0 u [x0, x1, x2] h0.size) (q4 : ∀ c ∈ [x0, x1, x2], ¬ c < 0 ∧ ¬ (255 : Int32) < c) (q5 : x1 = (9 : Int32)) :
    OMet l Z own_EL n0 yN14 (Jvm.Cond.code yN14 prog_51_method_8_code 2 (some .int) :: wc) ({ frames := 3, cells := 0, slots := 0, locals := 46 } : Room) #[(.ref a)] h0 [] (fun vq hq => vq = some (.int 1)) := by
  refine own_enter #[.val (.ref a), .unset] pn_com_example_ratable_ratable_core_JournalSums_Fields_end___I (fun _ => rfl) hWd.1 O0 all0 ?_
  intro p e s m below meth c T0 X0 hnm hret
  refine og_aloadN X0 1 d11_0 rfl rfl rfl ?_
  refine own_virt X0 4 (a := a) (argsL := []) (rest := []) d11_1 q0 (fun _ hZ => notFace_of_selects (args := #[]) (mvT hZ (ow hw 41 rfl))) (rm_more1 l Z n0 h0 [] a0 hw hWd X0.old a u [x0, x1, x2] (1 : Int32) q1 q2 q3.top (show ¬ (3 : Int32) < (1 : Int32) by decide) ) (ow hw 65 rfl) (ow hw 39 rfl) (ow hw 41 rfl) (ow hw 40 rfl) (ow hw 31 rfl) (ow hw 42 rfl) (by decide) (lenOf pd__28_29Z rfl) rfl rfl rfl (W := 0) rfl (by decide) (by decide) (by decide) (by decide) all0 rfl ?_
  intro T1 h1 v1 X1 K1 hQ1
  obtain rfl := hQ1
  show OGo _ _ _ _ T1 (mkF m 4 #[.val (.ref a), .unset] [(.int 1)])
  refine og_ifY X1 37 d11_4 (XT.i0_ne_t (by decide)) (by decide) (by decide) ?_
  refine og_aloadN X1 38 d11_37 rfl rfl rfl ?_
  have f2 := q1.keep K1 nin0
  refine own_get X1 41 d11_38 (host := "") (Or.inl (ow hw 36 rfl)) Via.refl f2 rfl ?_
  intro T3 X4
  refine og_bipush X4 43 (9 : Int32) d11_41 rfl rfl ?_
  refine og_aloadN X4 44 d11_43 rfl rfl rfl ?_
  have f5 := q2.keep K1 nin0
  refine own_get X4 47 d11_44 (host := "") (Or.inl (ow hw 43 rfl)) Via.refl f5 rfl ?_
  intro T6 X7
  have f8 := q3.exa.keep K1
  have f9 := q3.keep K1 all0
  refine own_virt X7 50 (a := u) (argsL := [(.int 9), (.int 1)]) (rest := []) d11_47 f8 (fun _ hZ => notFace_of_selects (args := #[]) (mvT hZ (ow hw 69 rfl))) (rf_ios31 l Z n0 h1 [] a0 hw hWd X7.old u x0 x1 x2 f9.top q4 ) (ow hw 66 rfl) (ow hw 67 rfl) (ow hw 69 rfl) (ow hw 68 rfl) (ow hw 6 rfl) (ow hw 70 rfl) (by decide) (lenOf pd__28II_29I rfl) rfl rfl rfl (W := 0) rfl (by decide) (by decide) (by decide) (by decide) all0 rfl ?_
  intro T10 h10 v10 X10 K10 hQ10
  obtain rfl := hQ10
  show OGo _ _ _ _ T10 (mkF m 50 #[.val (.ref a), .unset] [(.int (own_ix [x0, x1, x2] 1))])
  rw [show (own_ix [x0, x1, x2] 1) = (1 : Int32) by (first | rfl | (simp only [own_ix, own_ixA, List.drop, if_true, if_false, q5]; done) | (simp only [own_ix, own_ixA, List.drop, if_true, if_false, q5]; rfl))]
  refine og_istoreN X10 51 #[.val (.ref a), .val (.int 1)] d11_50 rfl rfl ?_
  refine og_iloadN X10 52 d11_51 rfl rfl ?_
  refine og_ifY X10 65 d11_52 (XT.i0_ge_t (by decide)) (by decide) (by decide) ?_
  refine og_iloadN X10 66 d11_65 rfl rfl ?_
  refine own_retI X10 d11_66 hret (by decide) (by decide) ?_
  exact rfl
theorem rf_ns311 (a0 : Array Value) (hw : OHw a0 Z) (hWd : OWorld Z a0) (O0 : Old Z n0 h0) (b : Addr) (kb : ClassId) (e0 : Value) (e1 : Value) (e2 : Value) (q0 : Arv Z h0 b kb .byte (3 : Int32) [e0, e1, e2] (.int 0)) :
    OMet l Z own_EL n0 yN18 (Jvm.Cond.code yN18 jdk_43_method_47_code 3 (some (.object "java/lang/String")) :: wc) ({ frames := 0, cells := 2, slots := 4, locals := 0 } : Room) #[(.ref b), (.int 1), (.int 0)] h0 [] (fun vq hq => ∃ (r : Addr), vq = some (.ref r)) := by
  refine own_enter #[.val (.ref b), .val (.int 1), .val (.int 0)] pn_java_lang_StringLatin1_newString___BII_Ljava_lang_String_ (fun _ => rfl) hWd.1 O0 all0 ?_
  intro p e s m below meth c T0 X0 hnm hret
  refine og_iloadN X0 1 d25_0 rfl rfl ?_
  refine og_ifN X0 4 d25_1 (XT.i0_ne_f (by decide)) rfl ?_
  refine own_ldcO X0 6 (cap := 0) d25_4 own_ELne (ow hw 120 rfl) (own_wS hw) (by decide) (by decide) (by decide) (by decide) rfl ?_
  intro T1 h1 a1 X1 K1
  refine own_retA X1 d25_6 hret rfl rfl (by decide) (by decide) ?_
  exact ⟨a1, rfl⟩
theorem rf_sub311 (a0 : Array Value) (hw : OHw a0 Z) (hWd : OWorld Z a0) (O0 : Old Z n0 h0) (a : Addr) (x0 : Int32) (x1 : Int32) (x2 : Int32) (q0 : OStr Z h0 a [x0, x1, x2] h0.size) (q1 : ∀ c ∈ [x0, x1, x2], ¬ c < 0 ∧ ¬ (255 : Int32) < c) :
    OMet l Z own_EL n0 yN15 (Jvm.Cond.code yN15 jdk_42_method_92_code 5 (some (.object "java/lang/String")) :: wc) ({ frames := 2, cells := 2, slots := 4, locals := 29 } : Room) #[(.ref a), (.int 1), (.int 1)] h0 [] (fun vq hq => ∃ (r : Addr), vq = some (.ref r)) := by
  refine own_enter #[.val (.ref a), .val (.int 1), .val (.int 1), .unset, .unset] pn_java_lang_String_substring__II_Ljava_lang_String_ (fun _ => rfl) hWd.1 O0 all0 ?_
  intro p e s m below meth c T0 X0 hnm hret
  obtain ⟨t, kt, NN, vv, eE, eC, eV, eA, cod, bd, l4⟩ := q0.latin (fun c hc => (q1 c hc).2)
  obtain ⟨-, rfl, rfl, -⟩ := cod.resolve_right fun q => absurd q.1 (by decide)
  have eA2 : Arv Z h0 t kt .byte (3 : Int32) [(.int (StrChars.lo8 x0)), (.int (StrChars.lo8 x1)), (.int (StrChars.lo8 x2))] (.int 0) := eA
  refine og_aloadN X0 1 d18_0 rfl rfl rfl ?_
  refine own_strLen X0 4 d18_1 q0 (own_wL hw) (ow hw 5 rfl) hWd.2.1.1 hWd.2.1.2 (ow hw 76 rfl) (ow hw 46 rfl) (ow hw 48 rfl) (ow hw 47 rfl) rfl (W := 0) rfl (by decide) (by decide) (by decide) (by decide) rfl ?_
  intro T1 X2
  show OGo _ _ _ _ T1 (mkF m 4 #[.val (.ref a), .val (.int 1), .val (.int 1), .unset, .unset] [(.int 3)])
  refine og_istoreN X2 5 #[.val (.ref a), .val (.int 1), .val (.int 1), .val (.int 3), .unset] d18_4 rfl rfl ?_
  refine og_iloadN X2 6 d18_5 rfl rfl ?_
  refine og_iloadN X2 7 d18_6 rfl rfl ?_
  refine og_iloadN X2 8 d18_7 rfl rfl ?_
  refine own_stat X2 11 (argsL := [(.int 1), (.int 1), (.int 3)]) (rest := []) d18_8 (rm19 l Z n0 h0 [] a0 hw hWd X2.old (1 : Int32) (1 : Int32) (3 : Int32) (by decide) (by decide) (by decide) ) (ow hw 96 rfl) (ow hw 97 rfl) (ow hw 6 rfl) (ow hw 98 rfl) (by decide) (lenOf pd__28III_29V rfl) rfl rfl rfl (W := 0) rfl (by decide) (by decide) (by decide) (by decide) all0 rfl ?_
  intro T3 h3 v3 X3 K3 hQ3
  obtain rfl := hQ3
  show OGo _ _ _ _ T3 (mkF m 11 #[.val (.ref a), .val (.int 1), .val (.int 1), .val (.int 3), .unset] [])
  refine og_iloadN X3 12 d18_11 rfl rfl ?_
  refine og_ifY X3 22 d18_12 (XT.i0_ne_t (by decide)) (by decide) (by decide) ?_
  refine og_iloadN X3 23 d18_22 rfl rfl ?_
  refine og_iloadN X3 24 d18_23 rfl rfl ?_
  refine og_isub X3 25 d18_24 rfl ?_
  show OGo _ _ _ _ T3 (mkF m 25 #[.val (.ref a), .val (.int 1), .val (.int 1), .val (.int 3), .unset] [(.int 0)])
  refine og_istore X3 27 #[.val (.ref a), .val (.int 1), .val (.int 1), .val (.int 3), .val (.int 0)] d18_25 rfl rfl ?_
  refine og_aloadN X3 28 d18_27 rfl rfl rfl ?_
  have f4 := eE.keep K3
  have f5 := eC.keep K3 nin0
  refine own_virt X3 31 (a := a) (argsL := []) (rest := []) d18_28 f4 (fun _ hZ => notFace_of_selects (args := #[]) (mvT hZ (ow hw 74 rfl))) (rm13 l Z n0 h3 [] a0 hw hWd X3.old a f5 ) (ow hw 71 rfl) (ow hw 72 rfl) (ow hw 74 rfl) (ow hw 73 rfl) (ow hw 6 rfl) (ow hw 75 rfl) (by decide) (lenOf pd__28_29Z rfl) rfl rfl rfl (W := 0) rfl (by decide) (by decide) (by decide) (by decide) all0 rfl ?_
  intro T6 h6 v6 X6 K6 hQ6
  obtain rfl := hQ6
  show OGo _ _ _ _ T6 (mkF m 31 #[.val (.ref a), .val (.int 1), .val (.int 1), .val (.int 3), .val (.int 0)] [(.int 1)])
  refine og_ifN X6 34 d18_31 (XT.i0_eq_f (by decide)) rfl ?_
  refine og_aloadN X6 35 d18_34 rfl rfl rfl ?_
  have f7 := eV.keep K3 nin0
  have f8 := f7.keep K6 nin0
  refine own_get X6 38 d18_35 (host := "") (Or.inl (ow hw 24 rfl)) Via.refl f8 rfl ?_
  intro T9 X10
  refine og_iloadN X10 39 d18_38 rfl rfl ?_
  refine og_iload X10 41 d18_39 rfl rfl ?_
  have f11 := eA2.keep K3 nin0
  have f12 := f11.keep K6 nin0
  refine own_stat X10 44 (argsL := [(.ref t), (.int 1), (.int 0)]) (rest := []) d18_41 (rf_ns311 l Z n0 h6 [] a0 hw hWd X10.old t kt (.int (StrChars.lo8 x0)) (.int (StrChars.lo8 x1)) (.int (StrChars.lo8 x2)) f12 ) (ow hw 117 rfl) (ow hw 118 rfl) (ow hw 79 rfl) (ow hw 119 rfl) (by decide) (lenOf pd__28_5bBII_29Ljava_2flang_2fString_3b rfl) rfl rfl rfl (W := 0) rfl (by decide) (by decide) (by decide) (by decide) all0 rfl ?_
  intro T13 h13 v13 X13 K13 hQ13
  obtain ⟨r13, rfl⟩ := hQ13
  show OGo _ _ _ _ T13 (mkF m 44 #[.val (.ref a), .val (.int 1), .val (.int 1), .val (.int 3), .val (.int 0)] [(.ref r13)])
  refine og_goto X13 57 d18_44 (by decide) (by decide) ?_
  refine own_retA X13 d18_57 hret rfl rfl (by decide) (by decide) ?_
  exact ⟨r13, rfl⟩
theorem rf_txt311 (a0 : Array Value) (hw : OHw a0 Z) (hWd : OWorld Z a0) (O0 : Old Z n0 h0) (a : Addr) (u : Addr) (x0 : Int32) (x1 : Int32) (x2 : Int32) (q0 : Exa Z h0 a "com/example/ratable/ratable/core/JournalSums$Fields") (q1 : Fld Z h0 a "com/example/ratable/ratable/core/JournalSums$Fields" "line" "Ljava/lang/String;" (.ref u)) (q2 : Fld Z h0 a "com/example/ratable/ratable/core/JournalSums$Fields" "next" "I" (.int 1)) (q3 : OStr Z h0 u [x0, x1, x2] h0.size) (q4 : ∀ c ∈ [x0, x1, x2], ¬ c < 0 ∧ ¬ (255 : Int32) < c) (q5 : x1 = (9 : Int32)) (g0 : n0 ≤ a ∧ a < h0.size) :
    OMet l Z own_EL n0 yN16 (Jvm.Cond.code yN16 prog_51_method_3_code 3 (some (.object "java/lang/String")) :: wc) ({ frames := 4, cells := 2, slots := 4, locals := 59 } : Room) #[(.ref a)] h0 [a] (fun vq hq => ∃ (r : Addr), vq = some (.ref r) ∧ Fld Z hq a "com/example/ratable/ratable/core/JournalSums$Fields" "line" "Ljava/lang/String;" (.ref u) ∧ Fld Z hq a "com/example/ratable/ratable/core/JournalSums$Fields" "next" "I" (.int 2)) := by
  refine own_enter #[.val (.ref a), .unset, .unset] pn_com_example_ratable_ratable_core_JournalSums_Fields_text___Ljava_lang_String_ (fun _ => rfl) hWd.1 O0 (allS g0 all0) ?_
  intro p e s m below meth c T0 X0 hnm hret
  refine og_aloadN X0 1 d10_0 rfl rfl rfl ?_
  refine own_priv X0 4 (a := a) (argsL := []) (rest := []) d10_1 q0 (rf_end311 l Z n0 h0 [] a0 hw hWd X0.old a u x0 x1 x2 q0 q1 q2 q3.top q4 q5 ) (ow hw 61 rfl) (ow hw 62 rfl) (own_selfsel2 (ow hw 41 rfl) rfl (ow hw 62 rfl) (ow hw 63 rfl) (by decide)) (ow hw 63 rfl) (ow hw 31 rfl) (ow hw 64 rfl) (by decide) (lenOf pd__28_29I rfl) rfl rfl rfl (W := 0) rfl (by decide) (by decide) (by decide) (by decide) all0 rfl ?_
  intro T1 h1 v1 X1 K1 hQ1
  obtain rfl := hQ1
  show OGo _ _ _ _ T1 (mkF m 4 #[.val (.ref a), .unset, .unset] [(.int 1)])
  refine og_istoreN X1 5 #[.val (.ref a), .val (.int 1), .unset] d10_4 rfl rfl ?_
  refine og_aloadN X1 6 d10_5 rfl rfl rfl ?_
  have f2 := q1.keep K1 nin0
  refine own_get X1 9 d10_6 (host := "") (Or.inl (ow hw 36 rfl)) Via.refl f2 rfl ?_
  intro T3 X4
  refine og_aloadN X4 10 d10_9 rfl rfl rfl ?_
  have f5 := q2.keep K1 nin0
  refine own_get X4 13 d10_10 (host := "") (Or.inl (ow hw 43 rfl)) Via.refl f5 rfl ?_
  intro T6 X7
  refine og_iloadN X7 14 d10_13 rfl rfl ?_
  have f8 := q3.exa.keep K1
  have f9 := q3.keep K1 all0
  refine own_virt X7 17 (a := u) (argsL := [(.int 1), (.int 1)]) (rest := []) d10_14 f8 (fun _ hZ => notFace_of_selects (args := #[]) (mvT hZ (ow hw 94 rfl))) (rf_sub311 l Z n0 h1 [] a0 hw hWd X7.old u x0 x1 x2 f9.top q4 ) (ow hw 91 rfl) (ow hw 92 rfl) (ow hw 94 rfl) (ow hw 93 rfl) (ow hw 6 rfl) (ow hw 95 rfl) (by decide) (lenOf pd__28II_29Ljava_2flang_2fString_3b rfl) rfl rfl rfl (W := 0) rfl (by decide) (by decide) (by decide) (by decide) all0 rfl ?_
  intro T10 h10 v10 X10 K10 hQ10
  obtain ⟨r10, rfl⟩ := hQ10
  show OGo _ _ _ _ T10 (mkF m 17 #[.val (.ref a), .val (.int 1), .unset] [(.ref r10)])
  refine og_astoreN X10 18 #[.val (.ref a), .val (.int 1), .val (.ref r10)] d10_17 rfl rfl rfl ?_
  refine og_aloadN X10 19 d10_18 rfl rfl rfl ?_
  refine og_iloadN X10 20 d10_19 rfl rfl ?_
  refine og_iconst X10 21 (1 : Int32) d10_20 rfl rfl ?_
  refine og_iadd X10 22 d10_21 rfl ?_
  show OGo _ _ _ _ T10 (mkF m 22 #[.val (.ref a), .val (.int 1), .val (.ref r10)] [(.int 2), (.ref a)])
  have f11 := f5.keep K10 nin0
  have f12 := q0.keep K1
  have f13 := f12.keep K10
  have f14 := f2.keep K10 nin0
  refine own_put X10 25 d10_22 (host := "") (Or.inl (ow hw 43 rfl)) Via.refl f11 f13 (Or.inl (ow hw 44 rfl)) (ow hw 30 rfl) (ty := .int) (by decide) rfl rfl (om 0 rfl) rfl ?_
  intro T15 h15 X15 W15 K15 F15
  have f16 := Fld.other W15 f14 (Or.inr (slot_ne (Or.inr (ow hw 37 rfl)) (Or.inl (ow hw 44 rfl)) (by decide) (t := (.object "java/lang/String")) (t' := .int) (by decide) (by decide)))
  refine og_aloadN X15 26 d10_25 rfl rfl rfl ?_
  refine own_retA X15 d10_26 hret rfl rfl (by decide) (by decide) ?_
  exact ⟨r10, rfl, f16, F15⟩
theorem rf_end312 (a0 : Array Value) (hw : OHw a0 Z) (hWd : OWorld Z a0) (O0 : Old Z n0 h0) (a : Addr) (u : Addr) (x0 : Int32) (x1 : Int32) (x2 : Int32) (q0 : Exa Z h0 a "com/example/ratable/ratable/core/JournalSums$Fields") (q1 : Fld Z h0 a "com/example/ratable/ratable/core/JournalSums$Fields" "line" "Ljava/lang/String;" (.ref u)) (q2 : Fld Z h0 a "com/example/ratable/ratable/core/JournalSums$Fields" "next" "I" (.int 1)) (q3 : OStr Z h0 u [x0, x1, x2] h0.size) (q4 : ∀ c ∈ [x0, x1, x2], ¬ c < 0 ∧ ¬ (255 : Int32) < c) (q5 : ¬ x1 = (9 : Int32)) (q6 : x2 = (9 : Int32)) :
    OMet l Z own_EL n0 yN14 (Jvm.Cond.code yN14 prog_51_method_8_code 2 (some .int) :: wc) ({ frames := 3, cells := 0, slots := 0, locals := 46 } : Room) #[(.ref a)] h0 [] (fun vq hq => vq = some (.int 2)) := by
  refine own_enter #[.val (.ref a), .unset] pn_com_example_ratable_ratable_core_JournalSums_Fields_end___I (fun _ => rfl) hWd.1 O0 all0 ?_
  intro p e s m below meth c T0 X0 hnm hret
  refine og_aloadN X0 1 d11_0 rfl rfl rfl ?_
  refine own_virt X0 4 (a := a) (argsL := []) (rest := []) d11_1 q0 (fun _ hZ => notFace_of_selects (args := #[]) (mvT hZ (ow hw 41 rfl))) (rm_more1 l Z n0 h0 [] a0 hw hWd X0.old a u [x0, x1, x2] (1 : Int32) q1 q2 q3.top (show ¬ (3 : Int32) < (1 : Int32) by decide) ) (ow hw 65 rfl) (ow hw 39 rfl) (ow hw 41 rfl) (ow hw 40 rfl) (ow hw 31 rfl) (ow hw 42 rfl) (by decide) (lenOf pd__28_29Z rfl) rfl rfl rfl (W := 0) rfl (by decide) (by decide) (by decide) (by decide) all0 rfl ?_
  intro T1 h1 v1 X1 K1 hQ1
  obtain rfl := hQ1
  show OGo _ _ _ _ T1 (mkF m 4 #[.val (.ref a), .unset] [(.int 1)])
  refine og_ifY X1 37 d11_4 (XT.i0_ne_t (by decide)) (by decide) (by decide) ?_
  refine og_aloadN X1 38 d11_37 rfl rfl rfl ?_
  have f2 := q1.keep K1 nin0
  refine own_get X1 41 d11_38 (host := "") (Or.inl (ow hw 36 rfl)) Via.refl f2 rfl ?_
  intro T3 X4
  refine og_bipush X4 43 (9 : Int32) d11_41 rfl rfl ?_
  refine og_aloadN X4 44 d11_43 rfl rfl rfl ?_
  have f5 := q2.keep K1 nin0
  refine own_get X4 47 d11_44 (host := "") (Or.inl (ow hw 43 rfl)) Via.refl f5 rfl ?_
  intro T6 X7
  have f8 := q3.exa.keep K1
  have f9 := q3.keep K1 all0
  refine own_virt X7 50 (a := u) (argsL := [(.int 9), (.int 1)]) (rest := []) d11_47 f8 (fun _ hZ => notFace_of_selects (args := #[]) (mvT hZ (ow hw 69 rfl))) (rf_ios31 l Z n0 h1 [] a0 hw hWd X7.old u x0 x1 x2 f9.top q4 ) (ow hw 66 rfl) (ow hw 67 rfl) (ow hw 69 rfl) (ow hw 68 rfl) (ow hw 6 rfl) (ow hw 70 rfl) (by decide) (lenOf pd__28II_29I rfl) rfl rfl rfl (W := 0) rfl (by decide) (by decide) (by decide) (by decide) all0 rfl ?_
  intro T10 h10 v10 X10 K10 hQ10
  obtain rfl := hQ10
  show OGo _ _ _ _ T10 (mkF m 50 #[.val (.ref a), .unset] [(.int (own_ix [x0, x1, x2] 1))])
  rw [show (own_ix [x0, x1, x2] 1) = (2 : Int32) by (first | rfl | (simp only [own_ix, own_ixA, List.drop, if_true, if_false, q5, q6]; done) | (simp only [own_ix, own_ixA, List.drop, if_true, if_false, q5, q6]; rfl))]
  refine og_istoreN X10 51 #[.val (.ref a), .val (.int 2)] d11_50 rfl rfl ?_
  refine og_iloadN X10 52 d11_51 rfl rfl ?_
  refine og_ifY X10 65 d11_52 (XT.i0_ge_t (by decide)) (by decide) (by decide) ?_
  refine og_iloadN X10 66 d11_65 rfl rfl ?_
  refine own_retI X10 d11_66 hret (by decide) (by decide) ?_
  exact rfl
theorem rf_crb312 (a0 : Array Value) (hw : OHw a0 Z) (hWd : OWorld Z a0) (O0 : Old Z n0 h0) (b : Addr) (kb : ClassId) (e0 : Value) (e1 : Value) (e2 : Value) (q0 : Arv Z h0 b kb .byte (3 : Int32) [e0, e1, e2] (.int 0)) :
    OMet l Z own_EL n0 yN19 (Jvm.Cond.code yN19 jdk_65_method_133_code 5 (some (.array .byte)) :: wc) ({ frames := 1, cells := 1, slots := 1, locals := 40 } : Room) #[(.ref b), (.int 1), (.int 2)] h0 [] (fun vq hq => ∃ (r : Addr) (kr : ClassId), vq = some (.ref r) ∧ h0.size ≤ r ∧ Arv Z hq r kr .byte (1 : Int32) [e1] (.int 0)) := by
  refine own_enter #[.val (.ref b), .val (.int 1), .val (.int 2), .unset, .unset] pn_java_util_Arrays_copyOfRangeByte___BII__B (fun _ => rfl) hWd.1 O0 all0 ?_
  intro p e s m below meth c T0 X0 hnm hret
  refine og_iloadN X0 1 d27_0 rfl rfl ?_
  refine og_iloadN X0 2 d27_1 rfl rfl ?_
  refine own_stat X0 5 (argsL := [(.int 1), (.int 2)]) (rest := []) d27_2 (rm28 l Z n0 h0 [] a0 hw hWd X0.old (1 : Int32) (2 : Int32) (by decide) ) (ow hw 129 rfl) (ow hw 130 rfl) (ow hw 124 rfl) (ow hw 131 rfl) (by decide) (lenOf pd__28II_29V rfl) rfl rfl rfl (W := 0) rfl (by decide) (by decide) (by decide) (by decide) all0 rfl ?_
  intro T1 h1 v1 X1 K1 hQ1
  obtain rfl := hQ1
  show OGo _ _ _ _ T1 (mkF m 5 #[.val (.ref b), .val (.int 1), .val (.int 2), .unset, .unset] [])
  refine og_iloadN X1 6 d27_5 rfl rfl ?_
  refine og_iloadN X1 7 d27_6 rfl rfl ?_
  refine og_isub X1 8 d27_7 rfl ?_
  show OGo _ _ _ _ T1 (mkF m 8 #[.val (.ref b), .val (.int 1), .val (.int 2), .unset, .unset] [(.int 1)])
  refine og_istoreN X1 9 #[.val (.ref b), .val (.int 1), .val (.int 2), .val (.int 1), .unset] d27_8 rfl rfl ?_
  refine og_iloadN X1 10 d27_9 rfl rfl ?_
  refine own_arr X1 12 d27_10 (ow hw 19 rfl) (by decide) (cap := 1) (by decide) (by decide) (by decide) (by decide) rfl ?_
  intro T2 h2 b2 kb2 X2 K2 G2 U2 A2
  have f3 : Arv Z h2 b2 kb2 .byte (1 : Int32) [(.int 0)] (.int 0) := A2
  refine og_astore X2 14 #[.val (.ref b), .val (.int 1), .val (.int 2), .val (.int 1), .val (.ref b2)] d27_12 rfl rfl rfl ?_
  refine og_aloadN X2 15 d27_14 rfl rfl rfl ?_
  refine og_iloadN X2 16 d27_15 rfl rfl ?_
  refine og_aload X2 18 d27_16 rfl rfl rfl ?_
  refine og_iconst X2 19 (0 : Int32) d27_18 rfl rfl ?_
  refine og_aloadN X2 20 d27_19 rfl rfl rfl ?_
  have f4 := q0.keep K1 nin0
  have f5 := f4.keep K2 nin0
  refine own_len X2 21 d27_20 f5 rfl ?_
  refine og_iloadN X2 22 d27_21 rfl rfl ?_
  refine og_isub X2 23 d27_22 rfl ?_
  show OGo _ _ _ _ T2 (mkF m 23 #[.val (.ref b), .val (.int 1), .val (.int 2), .val (.int 1), .val (.ref b2)] [(.int 2), (.int 0), (.ref b2), (.int 1), (.ref b)])
  refine og_iloadN X2 24 d27_23 rfl rfl ?_
  refine own_stat X2 27 (argsL := [(.int 2), (.int 1)]) (rest := [(.int 0), (.ref b2), (.int 1), (.ref b)]) d27_24 (rm_min1 l Z n0 h2 [] a0 hw hWd X2.old (2 : Int32) (1 : Int32) (by decide) ) (ow hw 132 rfl) (ow hw 89 rfl) (ow hw 86 rfl) (ow hw 90 rfl) (by decide) (lenOf pd__28II_29I rfl) rfl rfl rfl (W := 4) rfl (by decide) (by decide) (by decide) (by decide) all0 rfl ?_
  intro T6 h6 v6 X6 K6 hQ6
  obtain rfl := hQ6
  show OGo _ _ _ _ T6 (mkF m 27 #[.val (.ref b), .val (.int 1), .val (.int 2), .val (.int 1), .val (.ref b2)] [(.int 1), (.int 0), (.ref b2), (.int 1), (.ref b)])
  have f7 := f5.keep K6 nin0
  have f8 := f3.keep K6 nin0
  refine own_cp X6 30 (us := [e1]) (rest := []) d27_27 f7 f8 rfl (om 0 rfl) (ow hw 133 rfl) (ow hw 136 rfl) (ow hw 134 rfl) (ow hw 135 rfl) (by decide) (by decide) (by decide) (by decide) (by decide) rfl (Nat.le_of_ble_eq_true rfl) rfl (W := 0) rfl (by decide) (by decide) rfl ?_
  intro T9 h9 X9 K9 A9
  have f10 : Arv Z h9 b2 kb2 .byte (1 : Int32) [e1] (.int 0) := A9
  show OGo _ _ _ _ T9 (mkF m 30 #[.val (.ref b), .val (.int 1), .val (.int 2), .val (.int 1), .val (.ref b2)] [])
  refine og_aload X9 32 d27_30 rfl rfl rfl ?_
  refine own_retA X9 d27_32 hret rfl rfl (by decide) (by decide) ?_
  exact ⟨b2, kb2, rfl, (Nat.le_trans K1.1 G2), f10⟩
theorem rf_cr312 (a0 : Array Value) (hw : OHw a0 Z) (hWd : OWorld Z a0) (O0 : Old Z n0 h0) (b : Addr) (kb : ClassId) (e0 : Value) (e1 : Value) (e2 : Value) (q0 : Arv Z h0 b kb .byte (3 : Int32) [e0, e1, e2] (.int 0)) :
    OMet l Z own_EL n0 yN20 (Jvm.Cond.code yN20 jdk_65_method_132_code 3 (some (.array .byte)) :: wc) ({ frames := 2, cells := 1, slots := 1, locals := 56 } : Room) #[(.ref b), (.int 1), (.int 2)] h0 [] (fun vq hq => ∃ (r : Addr) (kr : ClassId), vq = some (.ref r) ∧ h0.size ≤ r ∧ Arv Z hq r kr .byte (1 : Int32) [e1] (.int 0)) := by
  refine own_enter #[.val (.ref b), .val (.int 1), .val (.int 2)] pn_java_util_Arrays_copyOfRange___BII__B (fun _ => rfl) hWd.1 O0 all0 ?_
  intro p e s m below meth c T0 X0 hnm hret
  refine og_iloadN X0 1 d26_0 rfl rfl ?_
  refine og_ifY X0 10 d26_1 (XT.i0_ne_t (by decide)) (by decide) (by decide) ?_
  refine og_aloadN X0 11 d26_10 rfl rfl rfl ?_
  refine og_iloadN X0 12 d26_11 rfl rfl ?_
  refine og_iloadN X0 13 d26_12 rfl rfl ?_
  refine own_stat X0 16 (argsL := [(.ref b), (.int 1), (.int 2)]) (rest := []) d26_13 (rf_crb312 l Z n0 h0 [] a0 hw hWd X0.old b kb e0 e1 e2 q0 ) (ow hw 126 rfl) (ow hw 127 rfl) (ow hw 124 rfl) (ow hw 128 rfl) (by decide) (lenOf pd__28_5bBII_29_5bB rfl) rfl rfl rfl (W := 0) rfl (by decide) (by decide) (by decide) (by decide) all0 rfl ?_
  intro T1 h1 v1 X1 K1 hQ1
  obtain ⟨r1, kr1, rfl, ge_r1, f2⟩ := hQ1
  show OGo _ _ _ _ T1 (mkF m 16 #[.val (.ref b), .val (.int 1), .val (.int 2)] [(.ref r1)])
  refine own_retA X1 d26_16 hret rfl rfl (by decide) (by decide) ?_
  exact ⟨r1, kr1, rfl, ge_r1, f2⟩
theorem rf_ns312 (a0 : Array Value) (hw : OHw a0 Z) (hWd : OWorld Z a0) (O0 : Old Z n0 h0) (b : Addr) (kb : ClassId) (e0 : Value) (e1 : Value) (e2 : Value) (q0 : Arv Z h0 b kb .byte (3 : Int32) [e0, e1, e2] (.int 0)) :
    OMet l Z own_EL n0 yN18 (Jvm.Cond.code yN18 jdk_43_method_47_code 3 (some (.object "java/lang/String")) :: wc) ({ frames := 3, cells := 2, slots := 5, locals := 72 } : Room) #[(.ref b), (.int 1), (.int 1)] h0 [] (fun vq hq => ∃ (r : Addr), vq = some (.ref r)) := by
  refine own_enter #[.val (.ref b), .val (.int 1), .val (.int 1)] pn_java_lang_StringLatin1_newString___BII_Ljava_lang_String_ (fun _ => rfl) hWd.1 O0 all0 ?_
  intro p e s m below meth c T0 X0 hnm hret
  refine og_iloadN X0 1 d25_0 rfl rfl ?_
  refine og_ifY X0 7 d25_1 (XT.i0_ne_t (by decide)) (by decide) (by decide) ?_
  refine own_new X0 10 d25_7 (ow hw 121 rfl) (ow hw 5 rfl) (ow hw 6 rfl) (by decide) (by decide) rfl ?_
  intro T1 h1 b1 X1 K1 G1 U1 E1 D1
  have f2 : Fld Z h1 b1 "java/lang/String" "value" "[B" .null := D1 (Or.inr (ow hw 20 rfl)) (ty := (.array .byte)) (by decide)
  have f3 : Fld Z h1 b1 "java/lang/String" "coder" "B" (.int 0) := D1 (Or.inr (ow hw 21 rfl)) (ty := .byte) (by decide)
  refine og_dup X1 11 d25_10 rfl rfl ?_
  refine og_aloadN X1 12 d25_11 rfl rfl rfl ?_
  refine og_iloadN X1 13 d25_12 rfl rfl ?_
  refine og_iloadN X1 14 d25_13 rfl rfl ?_
  refine og_iloadN X1 15 d25_14 rfl rfl ?_
  refine og_iadd X1 16 d25_15 rfl ?_
  show OGo _ _ _ _ T1 (mkF m 16 #[.val (.ref b), .val (.int 1), .val (.int 1)] [(.int 2), (.int 1), (.ref b), (.ref b1), (.ref b1)])
  have f4 := q0.keep K1 nin0
  refine own_stat X1 19 (argsL := [(.ref b), (.int 1), (.int 2)]) (rest := [(.ref b1), (.ref b1)]) d25_16 (rf_cr312 l Z n0 h1 [] a0 hw hWd X1.old b kb e0 e1 e2 f4 ) (ow hw 122 rfl) (ow hw 123 rfl) (ow hw 124 rfl) (ow hw 125 rfl) (by decide) (lenOf pd__28_5bBII_29_5bB rfl) rfl rfl rfl (W := 2) rfl (by decide) (by decide) (by decide) (by decide) all0 rfl ?_
  intro T5 h5 v5 X5 K5 hQ5
  obtain ⟨r5, kr5, rfl, ge_r5, f6⟩ := hQ5
  show OGo _ _ _ _ T5 (mkF m 19 #[.val (.ref b), .val (.int 1), .val (.int 1)] [(.ref r5), (.ref b1), (.ref b1)])
  refine og_iconst X5 20 (0 : Int32) d25_19 rfl rfl ?_
  have f7 := E1.keep K5
  have f8 := f2.keep K5 nin0
  have f9 := f3.keep K5 nin0
  refine own_spec X5 23 (a := b1) (argsL := [(.ref r5), (.int 0)]) (rest := [(.ref b1)]) d25_20 rfl (rm29 l Z n0 h5 [] a0 hw hWd X5.old b1 r5 .null (0 : Int32) f7 f8 f9 (own_svb X5 (om 0 rfl))) (ow hw 137 rfl) (ow hw 138 rfl) (ow hw 6 rfl) (ow hw 139 rfl) (by decide) (lenOf pd__28_5bBB_29V rfl) rfl rfl rfl (W := 1) rfl (by decide) (by decide) (by decide) (by decide) (allS (om 0 rfl) all0) rfl ?_
  intro T10 h10 v10 X10 K10 hQ10
  obtain rfl := hQ10
  show OGo _ _ _ _ T10 (mkF m 23 #[.val (.ref b), .val (.int 1), .val (.int 1)] [(.ref b1)])
  refine own_retA X10 d25_23 hret rfl rfl (by decide) (by decide) ?_
  exact ⟨b1, rfl⟩
theorem rf_sub312 (a0 : Array Value) (hw : OHw a0 Z) (hWd : OWorld Z a0) (O0 : Old Z n0 h0) (a : Addr) (x0 : Int32) (x1 : Int32) (x2 : Int32) (q0 : OStr Z h0 a [x0, x1, x2] h0.size) (q1 : ∀ c ∈ [x0, x1, x2], ¬ c < 0 ∧ ¬ (255 : Int32) < c) :
    OMet l Z own_EL n0 yN15 (Jvm.Cond.code yN15 jdk_42_method_92_code 5 (some (.object "java/lang/String")) :: wc) ({ frames := 4, cells := 2, slots := 5, locals := 86 } : Room) #[(.ref a), (.int 1), (.int 2)] h0 [] (fun vq hq => ∃ (r : Addr), vq = some (.ref r)) := by
  refine own_enter #[.val (.ref a), .val (.int 1), .val (.int 2), .unset, .unset] pn_java_lang_String_substring__II_Ljava_lang_String_ (fun _ => rfl) hWd.1 O0 all0 ?_
  intro p e s m below meth c T0 X0 hnm hret
  obtain ⟨t, kt, NN, vv, eE, eC, eV, eA, cod, bd, l4⟩ := q0.latin (fun c hc => (q1 c hc).2)
  obtain ⟨-, rfl, rfl, -⟩ := cod.resolve_right fun q => absurd q.1 (by decide)
  have eA2 : Arv Z h0 t kt .byte (3 : Int32) [(.int (StrChars.lo8 x0)), (.int (StrChars.lo8 x1)), (.int (StrChars.lo8 x2))] (.int 0) := eA
  refine og_aloadN X0 1 d18_0 rfl rfl rfl ?_
  refine own_strLen X0 4 d18_1 q0 (own_wL hw) (ow hw 5 rfl) hWd.2.1.1 hWd.2.1.2 (ow hw 76 rfl) (ow hw 46 rfl) (ow hw 48 rfl) (ow hw 47 rfl) rfl (W := 0) rfl (by decide) (by decide) (by decide) (by decide) rfl ?_
  intro T1 X2
  show OGo _ _ _ _ T1 (mkF m 4 #[.val (.ref a), .val (.int 1), .val (.int 2), .unset, .unset] [(.int 3)])
  refine og_istoreN X2 5 #[.val (.ref a), .val (.int 1), .val (.int 2), .val (.int 3), .unset] d18_4 rfl rfl ?_
  refine og_iloadN X2 6 d18_5 rfl rfl ?_
  refine og_iloadN X2 7 d18_6 rfl rfl ?_
  refine og_iloadN X2 8 d18_7 rfl rfl ?_
  refine own_stat X2 11 (argsL := [(.int 1), (.int 2), (.int 3)]) (rest := []) d18_8 (rm19 l Z n0 h0 [] a0 hw hWd X2.old (1 : Int32) (2 : Int32) (3 : Int32) (by decide) (by decide) (by decide) ) (ow hw 96 rfl) (ow hw 97 rfl) (ow hw 6 rfl) (ow hw 98 rfl) (by decide) (lenOf pd__28III_29V rfl) rfl rfl rfl (W := 0) rfl (by decide) (by decide) (by decide) (by decide) all0 rfl ?_
  intro T3 h3 v3 X3 K3 hQ3
  obtain rfl := hQ3
  show OGo _ _ _ _ T3 (mkF m 11 #[.val (.ref a), .val (.int 1), .val (.int 2), .val (.int 3), .unset] [])
  refine og_iloadN X3 12 d18_11 rfl rfl ?_
  refine og_ifY X3 22 d18_12 (XT.i0_ne_t (by decide)) (by decide) (by decide) ?_
  refine og_iloadN X3 23 d18_22 rfl rfl ?_
  refine og_iloadN X3 24 d18_23 rfl rfl ?_
  refine og_isub X3 25 d18_24 rfl ?_
  show OGo _ _ _ _ T3 (mkF m 25 #[.val (.ref a), .val (.int 1), .val (.int 2), .val (.int 3), .unset] [(.int 1)])
  refine og_istore X3 27 #[.val (.ref a), .val (.int 1), .val (.int 2), .val (.int 3), .val (.int 1)] d18_25 rfl rfl ?_
  refine og_aloadN X3 28 d18_27 rfl rfl rfl ?_
  have f4 := eE.keep K3
  have f5 := eC.keep K3 nin0
  refine own_virt X3 31 (a := a) (argsL := []) (rest := []) d18_28 f4 (fun _ hZ => notFace_of_selects (args := #[]) (mvT hZ (ow hw 74 rfl))) (rm13 l Z n0 h3 [] a0 hw hWd X3.old a f5 ) (ow hw 71 rfl) (ow hw 72 rfl) (ow hw 74 rfl) (ow hw 73 rfl) (ow hw 6 rfl) (ow hw 75 rfl) (by decide) (lenOf pd__28_29Z rfl) rfl rfl rfl (W := 0) rfl (by decide) (by decide) (by decide) (by decide) all0 rfl ?_
  intro T6 h6 v6 X6 K6 hQ6
  obtain rfl := hQ6
  show OGo _ _ _ _ T6 (mkF m 31 #[.val (.ref a), .val (.int 1), .val (.int 2), .val (.int 3), .val (.int 1)] [(.int 1)])
  refine og_ifN X6 34 d18_31 (XT.i0_eq_f (by decide)) rfl ?_
  refine og_aloadN X6 35 d18_34 rfl rfl rfl ?_
  have f7 := eV.keep K3 nin0
  have f8 := f7.keep K6 nin0
  refine own_get X6 38 d18_35 (host := "") (Or.inl (ow hw 24 rfl)) Via.refl f8 rfl ?_
  intro T9 X10
  refine og_iloadN X10 39 d18_38 rfl rfl ?_
  refine og_iload X10 41 d18_39 rfl rfl ?_
  have f11 := eA2.keep K3 nin0
  have f12 := f11.keep K6 nin0
  refine own_stat X10 44 (argsL := [(.ref t), (.int 1), (.int 1)]) (rest := []) d18_41 (rf_ns312 l Z n0 h6 [] a0 hw hWd X10.old t kt (.int (StrChars.lo8 x0)) (.int (StrChars.lo8 x1)) (.int (StrChars.lo8 x2)) f12 ) (ow hw 117 rfl) (ow hw 118 rfl) (ow hw 79 rfl) (ow hw 119 rfl) (by decide) (lenOf pd__28_5bBII_29Ljava_2flang_2fString_3b rfl) rfl rfl rfl (W := 0) rfl (by decide) (by decide) (by decide) (by decide) all0 rfl ?_
  intro T13 h13 v13 X13 K13 hQ13
  obtain ⟨r13, rfl⟩ := hQ13
  show OGo _ _ _ _ T13 (mkF m 44 #[.val (.ref a), .val (.int 1), .val (.int 2), .val (.int 3), .val (.int 1)] [(.ref r13)])
  refine og_goto X13 57 d18_44 (by decide) (by decide) ?_
  refine own_retA X13 d18_57 hret rfl rfl (by decide) (by decide) ?_
  exact ⟨r13, rfl⟩
theorem rf_txt312 (a0 : Array Value) (hw : OHw a0 Z) (hWd : OWorld Z a0) (O0 : Old Z n0 h0) (a : Addr) (u : Addr) (x0 : Int32) (x1 : Int32) (x2 : Int32) (q0 : Exa Z h0 a "com/example/ratable/ratable/core/JournalSums$Fields") (q1 : Fld Z h0 a "com/example/ratable/ratable/core/JournalSums$Fields" "line" "Ljava/lang/String;" (.ref u)) (q2 : Fld Z h0 a "com/example/ratable/ratable/core/JournalSums$Fields" "next" "I" (.int 1)) (q3 : OStr Z h0 u [x0, x1, x2] h0.size) (q4 : ∀ c ∈ [x0, x1, x2], ¬ c < 0 ∧ ¬ (255 : Int32) < c) (q5 : ¬ x1 = (9 : Int32)) (q6 : x2 = (9 : Int32)) (g0 : n0 ≤ a ∧ a < h0.size) :
    OMet l Z own_EL n0 yN16 (Jvm.Cond.code yN16 prog_51_method_3_code 3 (some (.object "java/lang/String")) :: wc) ({ frames := 5, cells := 2, slots := 5, locals := 102 } : Room) #[(.ref a)] h0 [a] (fun vq hq => ∃ (r : Addr), vq = some (.ref r) ∧ Fld Z hq a "com/example/ratable/ratable/core/JournalSums$Fields" "line" "Ljava/lang/String;" (.ref u) ∧ Fld Z hq a "com/example/ratable/ratable/core/JournalSums$Fields" "next" "I" (.int 3)) := by
  refine own_enter #[.val (.ref a), .unset, .unset] pn_com_example_ratable_ratable_core_JournalSums_Fields_text___Ljava_lang_String_ (fun _ => rfl) hWd.1 O0 (allS g0 all0) ?_
  intro p e s m below meth c T0 X0 hnm hret
  refine og_aloadN X0 1 d10_0 rfl rfl rfl ?_
  refine own_priv X0 4 (a := a) (argsL := []) (rest := []) d10_1 q0 (rf_end312 l Z n0 h0 [] a0 hw hWd X0.old a u x0 x1 x2 q0 q1 q2 q3.top q4 q5 q6 ) (ow hw 61 rfl) (ow hw 62 rfl) (own_selfsel2 (ow hw 41 rfl) rfl (ow hw 62 rfl) (ow hw 63 rfl) (by decide)) (ow hw 63 rfl) (ow hw 31 rfl) (ow hw 64 rfl) (by decide) (lenOf pd__28_29I rfl) rfl rfl rfl (W := 0) rfl (by decide) (by decide) (by decide) (by decide) all0 rfl ?_
  intro T1 h1 v1 X1 K1 hQ1
  obtain rfl := hQ1
  show OGo _ _ _ _ T1 (mkF m 4 #[.val (.ref a), .unset, .unset] [(.int 2)])
  refine og_istoreN X1 5 #[.val (.ref a), .val (.int 2), .unset] d10_4 rfl rfl ?_
  refine og_aloadN X1 6 d10_5 rfl rfl rfl ?_
  have f2 := q1.keep K1 nin0
  refine own_get X1 9 d10_6 (host := "") (Or.inl (ow hw 36 rfl)) Via.refl f2 rfl ?_
  intro T3 X4
  refine og_aloadN X4 10 d10_9 rfl rfl rfl ?_
  have f5 := q2.keep K1 nin0
  refine own_get X4 13 d10_10 (host := "") (Or.inl (ow hw 43 rfl)) Via.refl f5 rfl ?_
  intro T6 X7
  refine og_iloadN X7 14 d10_13 rfl rfl ?_
  have f8 := q3.exa.keep K1
  have f9 := q3.keep K1 all0
  refine own_virt X7 17 (a := u) (argsL := [(.int 1), (.int 2)]) (rest := []) d10_14 f8 (fun _ hZ => notFace_of_selects (args := #[]) (mvT hZ (ow hw 94 rfl))) (rf_sub312 l Z n0 h1 [] a0 hw hWd X7.old u x0 x1 x2 f9.top q4 ) (ow hw 91 rfl) (ow hw 92 rfl) (ow hw 94 rfl) (ow hw 93 rfl) (ow hw 6 rfl) (ow hw 95 rfl) (by decide) (lenOf pd__28II_29Ljava_2flang_2fString_3b rfl) rfl rfl rfl (W := 0) rfl (by decide) (by decide) (by decide) (by decide) all0 rfl ?_
  intro T10 h10 v10 X10 K10 hQ10
  obtain ⟨r10, rfl⟩ := hQ10
  show OGo _ _ _ _ T10 (mkF m 17 #[.val (.ref a), .val (.int 2), .unset] [(.ref r10)])
  refine og_astoreN X10 18 #[.val (.ref a), .val (.int 2), .val (.ref r10)] d10_17 rfl rfl rfl ?_
  refine og_aloadN X10 19 d10_18 rfl rfl rfl ?_
  refine og_iloadN X10 20 d10_19 rfl rfl ?_
  refine og_iconst X10 21 (1 : Int32) d10_20 rfl rfl ?_
  refine og_iadd X10 22 d10_21 rfl ?_
  show OGo _ _ _ _ T10 (mkF m 22 #[.val (.ref a), .val (.int 2), .val (.ref r10)] [(.int 3), (.ref a)])
  have f11 := f5.keep K10 nin0
  have f12 := q0.keep K1
  have f13 := f12.keep K10
  have f14 := f2.keep K10 nin0
  refine own_put X10 25 d10_22 (host := "") (Or.inl (ow hw 43 rfl)) Via.refl f11 f13 (Or.inl (ow hw 44 rfl)) (ow hw 30 rfl) (ty := .int) (by decide) rfl rfl (om 0 rfl) rfl ?_
  intro T15 h15 X15 W15 K15 F15
  have f16 := Fld.other W15 f14 (Or.inr (slot_ne (Or.inr (ow hw 37 rfl)) (Or.inl (ow hw 44 rfl)) (by decide) (t := (.object "java/lang/String")) (t' := .int) (by decide) (by decide)))
  refine og_aloadN X15 26 d10_25 rfl rfl rfl ?_
  refine own_retA X15 d10_26 hret rfl rfl (by decide) (by decide) ?_
  exact ⟨r10, rfl, f16, F15⟩
theorem rf_end313 (a0 : Array Value) (hw : OHw a0 Z) (hWd : OWorld Z a0) (O0 : Old Z n0 h0) (a : Addr) (u : Addr) (x0 : Int32) (x1 : Int32) (x2 : Int32) (q0 : Exa Z h0 a "com/example/ratable/ratable/core/JournalSums$Fields") (q1 : Fld Z h0 a "com/example/ratable/ratable/core/JournalSums$Fields" "line" "Ljava/lang/String;" (.ref u)) (q2 : Fld Z h0 a "com/example/ratable/ratable/core/JournalSums$Fields" "next" "I" (.int 1)) (q3 : OStr Z h0 u [x0, x1, x2] h0.size) (q4 : ∀ c ∈ [x0, x1, x2], ¬ c < 0 ∧ ¬ (255 : Int32) < c) (q5 : ¬ x1 = (9 : Int32)) (q6 : ¬ x2 = (9 : Int32)) :
    OMet l Z own_EL n0 yN14 (Jvm.Cond.code yN14 prog_51_method_8_code 2 (some .int) :: wc) ({ frames := 3, cells := 0, slots := 0, locals := 46 } : Room) #[(.ref a)] h0 [] (fun vq hq => vq = some (.int 3)) := by
  refine own_enter #[.val (.ref a), .unset] pn_com_example_ratable_ratable_core_JournalSums_Fields_end___I (fun _ => rfl) hWd.1 O0 all0 ?_
  intro p e s m below meth c T0 X0 hnm hret
  refine og_aloadN X0 1 d11_0 rfl rfl rfl ?_
  refine own_virt X0 4 (a := a) (argsL := []) (rest := []) d11_1 q0 (fun _ hZ => notFace_of_selects (args := #[]) (mvT hZ (ow hw 41 rfl))) (rm_more1 l Z n0 h0 [] a0 hw hWd X0.old a u [x0, x1, x2] (1 : Int32) q1 q2 q3.top (show ¬ (3 : Int32) < (1 : Int32) by decide) ) (ow hw 65 rfl) (ow hw 39 rfl) (ow hw 41 rfl) (ow hw 40 rfl) (ow hw 31 rfl) (ow hw 42 rfl) (by decide) (lenOf pd__28_29Z rfl) rfl rfl rfl (W := 0) rfl (by decide) (by decide) (by decide) (by decide) all0 rfl ?_
  intro T1 h1 v1 X1 K1 hQ1
  obtain rfl := hQ1
  show OGo _ _ _ _ T1 (mkF m 4 #[.val (.ref a), .unset] [(.int 1)])
  refine og_ifY X1 37 d11_4 (XT.i0_ne_t (by decide)) (by decide) (by decide) ?_
  refine og_aloadN X1 38 d11_37 rfl rfl rfl ?_
  have f2 := q1.keep K1 nin0
  refine own_get X1 41 d11_38 (host := "") (Or.inl (ow hw 36 rfl)) Via.refl f2 rfl ?_
  intro T3 X4
  refine og_bipush X4 43 (9 : Int32) d11_41 rfl rfl ?_
  refine og_aloadN X4 44 d11_43 rfl rfl rfl ?_
  have f5 := q2.keep K1 nin0
  refine own_get X4 47 d11_44 (host := "") (Or.inl (ow hw 43 rfl)) Via.refl f5 rfl ?_
  intro T6 X7
  have f8 := q3.exa.keep K1
  have f9 := q3.keep K1 all0
  refine own_virt X7 50 (a := u) (argsL := [(.int 9), (.int 1)]) (rest := []) d11_47 f8 (fun _ hZ => notFace_of_selects (args := #[]) (mvT hZ (ow hw 69 rfl))) (rf_ios31 l Z n0 h1 [] a0 hw hWd X7.old u x0 x1 x2 f9.top q4 ) (ow hw 66 rfl) (ow hw 67 rfl) (ow hw 69 rfl) (ow hw 68 rfl) (ow hw 6 rfl) (ow hw 70 rfl) (by decide) (lenOf pd__28II_29I rfl) rfl rfl rfl (W := 0) rfl (by decide) (by decide) (by decide) (by decide) all0 rfl ?_
  intro T10 h10 v10 X10 K10 hQ10
  obtain rfl := hQ10
  show OGo _ _ _ _ T10 (mkF m 50 #[.val (.ref a), .unset] [(.int (own_ix [x0, x1, x2] 1))])
  rw [show (own_ix [x0, x1, x2] 1) = (-1 : Int32) by (first | rfl | (simp only [own_ix, own_ixA, List.drop, if_true, if_false, q5, q6]; done) | (simp only [own_ix, own_ixA, List.drop, if_true, if_false, q5, q6]; rfl))]
  refine og_istoreN X10 51 #[.val (.ref a), .val (.int (-1 : Int32))] d11_50 rfl rfl ?_
  refine og_iloadN X10 52 d11_51 rfl rfl ?_
  refine og_ifN X10 55 d11_52 (XT.i0_ge_f (by decide)) rfl ?_
  refine og_aloadN X10 56 d11_55 rfl rfl rfl ?_
  have f11 := f2.keep K10 nin0
  refine own_get X10 59 d11_56 (host := "") (Or.inl (ow hw 36 rfl)) Via.refl f11 rfl ?_
  intro T12 X13
  have f14 := f9.keep K10 all0
  refine own_strLen X13 62 d11_59 f14 (own_wL hw) (ow hw 5 rfl) hWd.2.1.1 hWd.2.1.2 (ow hw 45 rfl) (ow hw 46 rfl) (ow hw 48 rfl) (ow hw 47 rfl) rfl (W := 0) rfl (by decide) (by decide) (by decide) (by decide) rfl ?_
  intro T15 X16
  show OGo _ _ _ _ T15 (mkF m 62 #[.val (.ref a), .val (.int (-1 : Int32))] [(.int 3)])
  refine og_goto X16 66 d11_62 (by decide) (by decide) ?_
  refine own_retI X16 d11_66 hret (by decide) (by decide) ?_
  exact rfl
theorem rf_crb313 (a0 : Array Value) (hw : OHw a0 Z) (hWd : OWorld Z a0) (O0 : Old Z n0 h0) (b : Addr) (kb : ClassId) (e0 : Value) (e1 : Value) (e2 : Value) (q0 : Arv Z h0 b kb .byte (3 : Int32) [e0, e1, e2] (.int 0)) :
    OMet l Z own_EL n0 yN19 (Jvm.Cond.code yN19 jdk_65_method_133_code 5 (some (.array .byte)) :: wc) ({ frames := 1, cells := 1, slots := 2, locals := 40 } : Room) #[(.ref b), (.int 1), (.int 3)] h0 [] (fun vq hq => ∃ (r : Addr) (kr : ClassId), vq = some (.ref r) ∧ h0.size ≤ r ∧ Arv Z hq r kr .byte (2 : Int32) [e1, e2] (.int 0)) := by
  refine own_enter #[.val (.ref b), .val (.int 1), .val (.int 3), .unset, .unset] pn_java_util_Arrays_copyOfRangeByte___BII__B (fun _ => rfl) hWd.1 O0 all0 ?_
  intro p e s m below meth c T0 X0 hnm hret
  refine og_iloadN X0 1 d27_0 rfl rfl ?_
  refine og_iloadN X0 2 d27_1 rfl rfl ?_
  refine own_stat X0 5 (argsL := [(.int 1), (.int 3)]) (rest := []) d27_2 (rm28 l Z n0 h0 [] a0 hw hWd X0.old (1 : Int32) (3 : Int32) (by decide) ) (ow hw 129 rfl) (ow hw 130 rfl) (ow hw 124 rfl) (ow hw 131 rfl) (by decide) (lenOf pd__28II_29V rfl) rfl rfl rfl (W := 0) rfl (by decide) (by decide) (by decide) (by decide) all0 rfl ?_
  intro T1 h1 v1 X1 K1 hQ1
  obtain rfl := hQ1
  show OGo _ _ _ _ T1 (mkF m 5 #[.val (.ref b), .val (.int 1), .val (.int 3), .unset, .unset] [])
  refine og_iloadN X1 6 d27_5 rfl rfl ?_
  refine og_iloadN X1 7 d27_6 rfl rfl ?_
  refine og_isub X1 8 d27_7 rfl ?_
  show OGo _ _ _ _ T1 (mkF m 8 #[.val (.ref b), .val (.int 1), .val (.int 3), .unset, .unset] [(.int 2)])
  refine og_istoreN X1 9 #[.val (.ref b), .val (.int 1), .val (.int 3), .val (.int 2), .unset] d27_8 rfl rfl ?_
  refine og_iloadN X1 10 d27_9 rfl rfl ?_
  refine own_arr X1 12 d27_10 (ow hw 19 rfl) (by decide) (cap := 2) (by decide) (by decide) (by decide) (by decide) rfl ?_
  intro T2 h2 b2 kb2 X2 K2 G2 U2 A2
  have f3 : Arv Z h2 b2 kb2 .byte (2 : Int32) [(.int 0), (.int 0)] (.int 0) := A2
  refine og_astore X2 14 #[.val (.ref b), .val (.int 1), .val (.int 3), .val (.int 2), .val (.ref b2)] d27_12 rfl rfl rfl ?_
  refine og_aloadN X2 15 d27_14 rfl rfl rfl ?_
  refine og_iloadN X2 16 d27_15 rfl rfl ?_
  refine og_aload X2 18 d27_16 rfl rfl rfl ?_
  refine og_iconst X2 19 (0 : Int32) d27_18 rfl rfl ?_
  refine og_aloadN X2 20 d27_19 rfl rfl rfl ?_
  have f4 := q0.keep K1 nin0
  have f5 := f4.keep K2 nin0
  refine own_len X2 21 d27_20 f5 rfl ?_
  refine og_iloadN X2 22 d27_21 rfl rfl ?_
  refine og_isub X2 23 d27_22 rfl ?_
  show OGo _ _ _ _ T2 (mkF m 23 #[.val (.ref b), .val (.int 1), .val (.int 3), .val (.int 2), .val (.ref b2)] [(.int 2), (.int 0), (.ref b2), (.int 1), (.ref b)])
  refine og_iloadN X2 24 d27_23 rfl rfl ?_
  refine own_stat X2 27 (argsL := [(.int 2), (.int 2)]) (rest := [(.int 0), (.ref b2), (.int 1), (.ref b)]) d27_24 (rm_min0 l Z n0 h2 [] a0 hw hWd X2.old (2 : Int32) (2 : Int32) (by decide) ) (ow hw 132 rfl) (ow hw 89 rfl) (ow hw 86 rfl) (ow hw 90 rfl) (by decide) (lenOf pd__28II_29I rfl) rfl rfl rfl (W := 4) rfl (by decide) (by decide) (by decide) (by decide) all0 rfl ?_
  intro T6 h6 v6 X6 K6 hQ6
  obtain rfl := hQ6
  show OGo _ _ _ _ T6 (mkF m 27 #[.val (.ref b), .val (.int 1), .val (.int 3), .val (.int 2), .val (.ref b2)] [(.int 2), (.int 0), (.ref b2), (.int 1), (.ref b)])
  have f7 := f5.keep K6 nin0
  have f8 := f3.keep K6 nin0
  refine own_cp X6 30 (us := [e1, e2]) (rest := []) d27_27 f7 f8 rfl (om 0 rfl) (ow hw 133 rfl) (ow hw 136 rfl) (ow hw 134 rfl) (ow hw 135 rfl) (by decide) (by decide) (by decide) (by decide) (by decide) rfl (Nat.le_of_ble_eq_true rfl) rfl (W := 0) rfl (by decide) (by decide) rfl ?_
  intro T9 h9 X9 K9 A9
  have f10 : Arv Z h9 b2 kb2 .byte (2 : Int32) [e1, e2] (.int 0) := A9
  show OGo _ _ _ _ T9 (mkF m 30 #[.val (.ref b), .val (.int 1), .val (.int 3), .val (.int 2), .val (.ref b2)] [])
  refine og_aload X9 32 d27_30 rfl rfl rfl ?_
  refine own_retA X9 d27_32 hret rfl rfl (by decide) (by decide) ?_
  exact ⟨b2, kb2, rfl, (Nat.le_trans K1.1 G2), f10⟩
theorem rf_cr313 (a0 : Array Value) (hw : OHw a0 Z) (hWd : OWorld Z a0) (O0 : Old Z n0 h0) (b : Addr) (kb : ClassId) (e0 : Value) (e1 : Value) (e2 : Value) (q0 : Arv Z h0 b kb .byte (3 : Int32) [e0, e1, e2] (.int 0)) :
    OMet l Z own_EL n0 yN20 (Jvm.Cond.code yN20 jdk_65_method_132_code 3 (some (.array .byte)) :: wc) ({ frames := 2, cells := 1, slots := 2, locals := 56 } : Room) #[(.ref b), (.int 1), (.int 3)] h0 [] (fun vq hq => ∃ (r : Addr) (kr : ClassId), vq = some (.ref r) ∧ h0.size ≤ r ∧ Arv Z hq r kr .byte (2 : Int32) [e1, e2] (.int 0)) := by
  refine own_enter #[.val (.ref b), .val (.int 1), .val (.int 3)] pn_java_util_Arrays_copyOfRange___BII__B (fun _ => rfl) hWd.1 O0 all0 ?_
  intro p e s m below meth c T0 X0 hnm hret
  refine og_iloadN X0 1 d26_0 rfl rfl ?_
  refine og_ifY X0 10 d26_1 (XT.i0_ne_t (by decide)) (by decide) (by decide) ?_
  refine og_aloadN X0 11 d26_10 rfl rfl rfl ?_
  refine og_iloadN X0 12 d26_11 rfl rfl ?_
  refine og_iloadN X0 13 d26_12 rfl rfl ?_
  refine own_stat X0 16 (argsL := [(.ref b), (.int 1), (.int 3)]) (rest := []) d26_13 (rf_crb313 l Z n0 h0 [] a0 hw hWd X0.old b kb e0 e1 e2 q0 ) (ow hw 126 rfl) (ow hw 127 rfl) (ow hw 124 rfl) (ow hw 128 rfl) (by decide) (lenOf pd__28_5bBII_29_5bB rfl) rfl rfl rfl (W := 0) rfl (by decide) (by decide) (by decide) (by decide) all0 rfl ?_
  intro T1 h1 v1 X1 K1 hQ1
  obtain ⟨r1, kr1, rfl, ge_r1, f2⟩ := hQ1
  show OGo _ _ _ _ T1 (mkF m 16 #[.val (.ref b), .val (.int 1), .val (.int 3)] [(.ref r1)])
  refine own_retA X1 d26_16 hret rfl rfl (by decide) (by decide) ?_
  exact ⟨r1, kr1, rfl, ge_r1, f2⟩
theorem rf_ns313 (a0 : Array Value) (hw : OHw a0 Z) (hWd : OWorld Z a0) (O0 : Old Z n0 h0) (b : Addr) (kb : ClassId) (e0 : Value) (e1 : Value) (e2 : Value) (q0 : Arv Z h0 b kb .byte (3 : Int32) [e0, e1, e2] (.int 0)) :
    OMet l Z own_EL n0 yN18 (Jvm.Cond.code yN18 jdk_43_method_47_code 3 (some (.object "java/lang/String")) :: wc) ({ frames := 3, cells := 2, slots := 6, locals := 72 } : Room) #[(.ref b), (.int 1), (.int 2)] h0 [] (fun vq hq => ∃ (r : Addr), vq = some (.ref r)) := by
  refine own_enter #[.val (.ref b), .val (.int 1), .val (.int 2)] pn_java_lang_StringLatin1_newString___BII_Ljava_lang_String_ (fun _ => rfl) hWd.1 O0 all0 ?_
  intro p e s m below meth c T0 X0 hnm hret
  refine og_iloadN X0 1 d25_0 rfl rfl ?_
  refine og_ifY X0 7 d25_1 (XT.i0_ne_t (by decide)) (by decide) (by decide) ?_
  refine own_new X0 10 d25_7 (ow hw 121 rfl) (ow hw 5 rfl) (ow hw 6 rfl) (by decide) (by decide) rfl ?_
  intro T1 h1 b1 X1 K1 G1 U1 E1 D1
  have f2 : Fld Z h1 b1 "java/lang/String" "value" "[B" .null := D1 (Or.inr (ow hw 20 rfl)) (ty := (.array .byte)) (by decide)
  have f3 : Fld Z h1 b1 "java/lang/String" "coder" "B" (.int 0) := D1 (Or.inr (ow hw 21 rfl)) (ty := .byte) (by decide)
  refine og_dup X1 11 d25_10 rfl rfl ?_
  refine og_aloadN X1 12 d25_11 rfl rfl rfl ?_
  refine og_iloadN X1 13 d25_12 rfl rfl ?_
  refine og_iloadN X1 14 d25_13 rfl rfl ?_
  refine og_iloadN X1 15 d25_14 rfl rfl ?_
  refine og_iadd X1 16 d25_15 rfl ?_
  show OGo _ _ _ _ T1 (mkF m 16 #[.val (.ref b), .val (.int 1), .val (.int 2)] [(.int 3), (.int 1), (.ref b), (.ref b1), (.ref b1)])
  have f4 := q0.keep K1 nin0
  refine own_stat X1 19 (argsL := [(.ref b), (.int 1), (.int 3)]) (rest := [(.ref b1), (.ref b1)]) d25_16 (rf_cr313 l Z n0 h1 [] a0 hw hWd X1.old b kb e0 e1 e2 f4 ) (ow hw 122 rfl) (ow hw 123 rfl) (ow hw 124 rfl) (ow hw 125 rfl) (by decide) (lenOf pd__28_5bBII_29_5bB rfl) rfl rfl rfl (W := 2) rfl (by decide) (by decide) (by decide) (by decide) all0 rfl ?_
  intro T5 h5 v5 X5 K5 hQ5
  obtain ⟨r5, kr5, rfl, ge_r5, f6⟩ := hQ5
  show OGo _ _ _ _ T5 (mkF m 19 #[.val (.ref b), .val (.int 1), .val (.int 2)] [(.ref r5), (.ref b1), (.ref b1)])
  refine og_iconst X5 20 (0 : Int32) d25_19 rfl rfl ?_
  have f7 := E1.keep K5
  have f8 := f2.keep K5 nin0
  have f9 := f3.keep K5 nin0
  refine own_spec X5 23 (a := b1) (argsL := [(.ref r5), (.int 0)]) (rest := [(.ref b1)]) d25_20 rfl (rm29 l Z n0 h5 [] a0 hw hWd X5.old b1 r5 .null (0 : Int32) f7 f8 f9 (own_svb X5 (om 0 rfl))) (ow hw 137 rfl) (ow hw 138 rfl) (ow hw 6 rfl) (ow hw 139 rfl) (by decide) (lenOf pd__28_5bBB_29V rfl) rfl rfl rfl (W := 1) rfl (by decide) (by decide) (by decide) (by decide) (allS (om 0 rfl) all0) rfl ?_
  intro T10 h10 v10 X10 K10 hQ10
  obtain rfl := hQ10
  show OGo _ _ _ _ T10 (mkF m 23 #[.val (.ref b), .val (.int 1), .val (.int 2)] [(.ref b1)])
  refine own_retA X10 d25_23 hret rfl rfl (by decide) (by decide) ?_
  exact ⟨b1, rfl⟩
theorem rf_sub313 (a0 : Array Value) (hw : OHw a0 Z) (hWd : OWorld Z a0) (O0 : Old Z n0 h0) (a : Addr) (x0 : Int32) (x1 : Int32) (x2 : Int32) (q0 : OStr Z h0 a [x0, x1, x2] h0.size) (q1 : ∀ c ∈ [x0, x1, x2], ¬ c < 0 ∧ ¬ (255 : Int32) < c) :
    OMet l Z own_EL n0 yN15 (Jvm.Cond.code yN15 jdk_42_method_92_code 5 (some (.object "java/lang/String")) :: wc) ({ frames := 4, cells := 2, slots := 6, locals := 86 } : Room) #[(.ref a), (.int 1), (.int 3)] h0 [] (fun vq hq => ∃ (r : Addr), vq = some (.ref r)) := by
  refine own_enter #[.val (.ref a), .val (.int 1), .val (.int 3), .unset, .unset] pn_java_lang_String_substring__II_Ljava_lang_String_ (fun _ => rfl) hWd.1 O0 all0 ?_
  intro p e s m below meth c T0 X0 hnm hret
  obtain ⟨t, kt, NN, vv, eE, eC, eV, eA, cod, bd, l4⟩ := q0.latin (fun c hc => (q1 c hc).2)
  obtain ⟨-, rfl, rfl, -⟩ := cod.resolve_right fun q => absurd q.1 (by decide)
  have eA2 : Arv Z h0 t kt .byte (3 : Int32) [(.int (StrChars.lo8 x0)), (.int (StrChars.lo8 x1)), (.int (StrChars.lo8 x2))] (.int 0) := eA
  refine og_aloadN X0 1 d18_0 rfl rfl rfl ?_
  refine own_strLen X0 4 d18_1 q0 (own_wL hw) (ow hw 5 rfl) hWd.2.1.1 hWd.2.1.2 (ow hw 76 rfl) (ow hw 46 rfl) (ow hw 48 rfl) (ow hw 47 rfl) rfl (W := 0) rfl (by decide) (by decide) (by decide) (by decide) rfl ?_
  intro T1 X2
  show OGo _ _ _ _ T1 (mkF m 4 #[.val (.ref a), .val (.int 1), .val (.int 3), .unset, .unset] [(.int 3)])
  refine og_istoreN X2 5 #[.val (.ref a), .val (.int 1), .val (.int 3), .val (.int 3), .unset] d18_4 rfl rfl ?_
  refine og_iloadN X2 6 d18_5 rfl rfl ?_
  refine og_iloadN X2 7 d18_6 rfl rfl ?_
  refine og_iloadN X2 8 d18_7 rfl rfl ?_
  refine own_stat X2 11 (argsL := [(.int 1), (.int 3), (.int 3)]) (rest := []) d18_8 (rm19 l Z n0 h0 [] a0 hw hWd X2.old (1 : Int32) (3 : Int32) (3 : Int32) (by decide) (by decide) (by decide) ) (ow hw 96 rfl) (ow hw 97 rfl) (ow hw 6 rfl) (ow hw 98 rfl) (by decide) (lenOf pd__28III_29V rfl) rfl rfl rfl (W := 0) rfl (by decide) (by decide) (by decide) (by decide) all0 rfl ?_
  intro T3 h3 v3 X3 K3 hQ3
  obtain rfl := hQ3
  show OGo _ _ _ _ T3 (mkF m 11 #[.val (.ref a), .val (.int 1), .val (.int 3), .val (.int 3), .unset] [])
  refine og_iloadN X3 12 d18_11 rfl rfl ?_
  refine og_ifY X3 22 d18_12 (XT.i0_ne_t (by decide)) (by decide) (by decide) ?_
  refine og_iloadN X3 23 d18_22 rfl rfl ?_
  refine og_iloadN X3 24 d18_23 rfl rfl ?_
  refine og_isub X3 25 d18_24 rfl ?_
  show OGo _ _ _ _ T3 (mkF m 25 #[.val (.ref a), .val (.int 1), .val (.int 3), .val (.int 3), .unset] [(.int 2)])
  refine og_istore X3 27 #[.val (.ref a), .val (.int 1), .val (.int 3), .val (.int 3), .val (.int 2)] d18_25 rfl rfl ?_
  refine og_aloadN X3 28 d18_27 rfl rfl rfl ?_
  have f4 := eE.keep K3
  have f5 := eC.keep K3 nin0
  refine own_virt X3 31 (a := a) (argsL := []) (rest := []) d18_28 f4 (fun _ hZ => notFace_of_selects (args := #[]) (mvT hZ (ow hw 74 rfl))) (rm13 l Z n0 h3 [] a0 hw hWd X3.old a f5 ) (ow hw 71 rfl) (ow hw 72 rfl) (ow hw 74 rfl) (ow hw 73 rfl) (ow hw 6 rfl) (ow hw 75 rfl) (by decide) (lenOf pd__28_29Z rfl) rfl rfl rfl (W := 0) rfl (by decide) (by decide) (by decide) (by decide) all0 rfl ?_
  intro T6 h6 v6 X6 K6 hQ6
  obtain rfl := hQ6
  show OGo _ _ _ _ T6 (mkF m 31 #[.val (.ref a), .val (.int 1), .val (.int 3), .val (.int 3), .val (.int 2)] [(.int 1)])
  refine og_ifN X6 34 d18_31 (XT.i0_eq_f (by decide)) rfl ?_
  refine og_aloadN X6 35 d18_34 rfl rfl rfl ?_
  have f7 := eV.keep K3 nin0
  have f8 := f7.keep K6 nin0
  refine own_get X6 38 d18_35 (host := "") (Or.inl (ow hw 24 rfl)) Via.refl f8 rfl ?_
  intro T9 X10
  refine og_iloadN X10 39 d18_38 rfl rfl ?_
  refine og_iload X10 41 d18_39 rfl rfl ?_
  have f11 := eA2.keep K3 nin0
  have f12 := f11.keep K6 nin0
  refine own_stat X10 44 (argsL := [(.ref t), (.int 1), (.int 2)]) (rest := []) d18_41 (rf_ns313 l Z n0 h6 [] a0 hw hWd X10.old t kt (.int (StrChars.lo8 x0)) (.int (StrChars.lo8 x1)) (.int (StrChars.lo8 x2)) f12 ) (ow hw 117 rfl) (ow hw 118 rfl) (ow hw 79 rfl) (ow hw 119 rfl) (by decide) (lenOf pd__28_5bBII_29Ljava_2flang_2fString_3b rfl) rfl rfl rfl (W := 0) rfl (by decide) (by decide) (by decide) (by decide) all0 rfl ?_
  intro T13 h13 v13 X13 K13 hQ13
  obtain ⟨r13, rfl⟩ := hQ13
  show OGo _ _ _ _ T13 (mkF m 44 #[.val (.ref a), .val (.int 1), .val (.int 3), .val (.int 3), .val (.int 2)] [(.ref r13)])
  refine og_goto X13 57 d18_44 (by decide) (by decide) ?_
  refine own_retA X13 d18_57 hret rfl rfl (by decide) (by decide) ?_
  exact ⟨r13, rfl⟩
theorem rf_txt313 (a0 : Array Value) (hw : OHw a0 Z) (hWd : OWorld Z a0) (O0 : Old Z n0 h0) (a : Addr) (u : Addr) (x0 : Int32) (x1 : Int32) (x2 : Int32) (q0 : Exa Z h0 a "com/example/ratable/ratable/core/JournalSums$Fields") (q1 : Fld Z h0 a "com/example/ratable/ratable/core/JournalSums$Fields" "line" "Ljava/lang/String;" (.ref u)) (q2 : Fld Z h0 a "com/example/ratable/ratable/core/JournalSums$Fields" "next" "I" (.int 1)) (q3 : OStr Z h0 u [x0, x1, x2] h0.size) (q4 : ∀ c ∈ [x0, x1, x2], ¬ c < 0 ∧ ¬ (255 : Int32) < c) (q5 : ¬ x1 = (9 : Int32)) (q6 : ¬ x2 = (9 : Int32)) (g0 : n0 ≤ a ∧ a < h0.size) :
    OMet l Z own_EL n0 yN16 (Jvm.Cond.code yN16 prog_51_method_3_code 3 (some (.object "java/lang/String")) :: wc) ({ frames := 5, cells := 2, slots := 6, locals := 102 } : Room) #[(.ref a)] h0 [a] (fun vq hq => ∃ (r : Addr), vq = some (.ref r) ∧ Fld Z hq a "com/example/ratable/ratable/core/JournalSums$Fields" "line" "Ljava/lang/String;" (.ref u) ∧ Fld Z hq a "com/example/ratable/ratable/core/JournalSums$Fields" "next" "I" (.int 4)) := by
  refine own_enter #[.val (.ref a), .unset, .unset] pn_com_example_ratable_ratable_core_JournalSums_Fields_text___Ljava_lang_String_ (fun _ => rfl) hWd.1 O0 (allS g0 all0) ?_
  intro p e s m below meth c T0 X0 hnm hret
  refine og_aloadN X0 1 d10_0 rfl rfl rfl ?_
  refine own_priv X0 4 (a := a) (argsL := []) (rest := []) d10_1 q0 (rf_end313 l Z n0 h0 [] a0 hw hWd X0.old a u x0 x1 x2 q0 q1 q2 q3.top q4 q5 q6 ) (ow hw 61 rfl) (ow hw 62 rfl) (own_selfsel2 (ow hw 41 rfl) rfl (ow hw 62 rfl) (ow hw 63 rfl) (by decide)) (ow hw 63 rfl) (ow hw 31 rfl) (ow hw 64 rfl) (by decide) (lenOf pd__28_29I rfl) rfl rfl rfl (W := 0) rfl (by decide) (by decide) (by decide) (by decide) all0 rfl ?_
  intro T1 h1 v1 X1 K1 hQ1
  obtain rfl := hQ1
  show OGo _ _ _ _ T1 (mkF m 4 #[.val (.ref a), .unset, .unset] [(.int 3)])
  refine og_istoreN X1 5 #[.val (.ref a), .val (.int 3), .unset] d10_4 rfl rfl ?_
  refine og_aloadN X1 6 d10_5 rfl rfl rfl ?_
  have f2 := q1.keep K1 nin0
  refine own_get X1 9 d10_6 (host := "") (Or.inl (ow hw 36 rfl)) Via.refl f2 rfl ?_
  intro T3 X4
  refine og_aloadN X4 10 d10_9 rfl rfl rfl ?_
  have f5 := q2.keep K1 nin0
  refine own_get X4 13 d10_10 (host := "") (Or.inl (ow hw 43 rfl)) Via.refl f5 rfl ?_
  intro T6 X7
  refine og_iloadN X7 14 d10_13 rfl rfl ?_
  have f8 := q3.exa.keep K1
  have f9 := q3.keep K1 all0
  refine own_virt X7 17 (a := u) (argsL := [(.int 1), (.int 3)]) (rest := []) d10_14 f8 (fun _ hZ => notFace_of_selects (args := #[]) (mvT hZ (ow hw 94 rfl))) (rf_sub313 l Z n0 h1 [] a0 hw hWd X7.old u x0 x1 x2 f9.top q4 ) (ow hw 91 rfl) (ow hw 92 rfl) (ow hw 94 rfl) (ow hw 93 rfl) (ow hw 6 rfl) (ow hw 95 rfl) (by decide) (lenOf pd__28II_29Ljava_2flang_2fString_3b rfl) rfl rfl rfl (W := 0) rfl (by decide) (by decide) (by decide) (by decide) all0 rfl ?_
  intro T10 h10 v10 X10 K10 hQ10
  obtain ⟨r10, rfl⟩ := hQ10
  show OGo _ _ _ _ T10 (mkF m 17 #[.val (.ref a), .val (.int 3), .unset] [(.ref r10)])
  refine og_astoreN X10 18 #[.val (.ref a), .val (.int 3), .val (.ref r10)] d10_17 rfl rfl rfl ?_
  refine og_aloadN X10 19 d10_18 rfl rfl rfl ?_
  refine og_iloadN X10 20 d10_19 rfl rfl ?_
  refine og_iconst X10 21 (1 : Int32) d10_20 rfl rfl ?_
  refine og_iadd X10 22 d10_21 rfl ?_
  show OGo _ _ _ _ T10 (mkF m 22 #[.val (.ref a), .val (.int 3), .val (.ref r10)] [(.int 4), (.ref a)])
  have f11 := f5.keep K10 nin0
  have f12 := q0.keep K1
  have f13 := f12.keep K10
  have f14 := f2.keep K10 nin0
  refine own_put X10 25 d10_22 (host := "") (Or.inl (ow hw 43 rfl)) Via.refl f11 f13 (Or.inl (ow hw 44 rfl)) (ow hw 30 rfl) (ty := .int) (by decide) rfl rfl (om 0 rfl) rfl ?_
  intro T15 h15 X15 W15 K15 F15
  have f16 := Fld.other W15 f14 (Or.inr (slot_ne (Or.inr (ow hw 37 rfl)) (Or.inl (ow hw 44 rfl)) (by decide) (t := (.object "java/lang/String")) (t' := .int) (by decide) (by decide)))
  refine og_aloadN X15 26 d10_25 rfl rfl rfl ?_
  refine own_retA X15 d10_26 hret rfl rfl (by decide) (by decide) ?_
  exact ⟨r10, rfl, f16, F15⟩
theorem rf_ioc32 (a0 : Array Value) (hw : OHw a0 Z) (hWd : OWorld Z a0) (O0 : Old Z n0 h0) (b : Addr) (kb : ClassId) (x0 : Int32) (x1 : Int32) (x2 : Int32) (q0 : Arv Z h0 b kb .byte (3 : Int32) [(.int (StrChars.lo8 x0)), (.int (StrChars.lo8 x1)), (.int (StrChars.lo8 x2))] (.int 0)) (q1 : ∀ c ∈ [x0, x1, x2], ¬ c < 0 ∧ ¬ (255 : Int32) < c) :
    OMet l Z own_EL n0 yN17 (Jvm.Cond.code yN17 jdk_43_method_23_code 6 (some .int) :: wc) ({ frames := 0, cells := 0, slots := 0, locals := 0 } : Room) #[(.ref b), (.int 9), (.int 2), (.int 3)] h0 [] (fun vq hq => vq = some (.int (own_ix [x0, x1, x2] 2))) := by
  refine own_enter #[.val (.ref b), .val (.int 9), .val (.int 2), .val (.int 3), .unset, .unset] pn_java_lang_StringLatin1_indexOfChar___BIII_I (fun _ => rfl) hWd.1 O0 all0 ?_
  intro p e s m below meth c T0 X0 hnm hret
  refine og_iloadN X0 1 d24_0 rfl rfl ?_
  refine og_i2b X0 2 d24_1 rfl ?_
  show OGo _ _ _ _ T0 (mkF m 2 #[.val (.ref b), .val (.int 9), .val (.int 2), .val (.int 3), .unset, .unset] [(.int 9)])
  refine og_istore X0 4 #[.val (.ref b), .val (.int 9), .val (.int 2), .val (.int 3), .val (.int 9), .unset] d24_2 rfl rfl ?_
  refine og_iloadN X0 5 d24_4 rfl rfl ?_
  refine og_istore X0 7 #[.val (.ref b), .val (.int 9), .val (.int 2), .val (.int 3), .val (.int 9), .val (.int 2)] d24_5 rfl rfl ?_
  refine og_iload X0 9 d24_7 rfl rfl ?_
  refine og_iloadN X0 10 d24_9 rfl rfl ?_
  refine og_icmpN X0 13 d24_10 (XT.ii_ge_f (by decide)) rfl ?_
  refine og_aloadN X0 14 d24_13 rfl rfl rfl ?_
  refine og_iload X0 16 d24_14 rfl rfl ?_
  refine own_ldB X0 17 d24_16 q0 (by decide) (by decide) rfl rfl ?_
  refine og_iload X0 19 d24_17 rfl rfl ?_
  by_cases hc1 : (StrChars.lo8 x2) = (9 : Int32)
  · -- (StrChars.lo8 x2) = (9 : Int32)
    refine og_icmpN X0 22 d24_19 (XT.ii_ne_f hc1) rfl ?_
    refine og_iload X0 24 d24_22 rfl rfl ?_
    refine own_retI X0 d24_24 hret (by decide) (by decide) ?_
    (first | rfl | (simp only [own_ix, own_ixA, List.drop, if_true, if_false, own_tab2 (q1 _ (om 2 rfl)) hc1]; done) | (simp only [own_ix, own_ixA, List.drop, if_true, if_false, own_tab2 (q1 _ (om 2 rfl)) hc1]; rfl))
  · -- not
    refine og_icmpY X0 25 d24_19 (XT.ii_ne_t hc1) (by decide) (by decide) ?_
    refine og_iinc X0 28 #[.val (.ref b), .val (.int 9), .val (.int 2), .val (.int 3), .val (.int 9), .val (.int 3)] d24_25 rfl rfl rfl ?_
    refine og_goto X0 7 d24_28 (by decide) (by decide) ?_
    refine og_iload X0 9 d24_7 rfl rfl ?_
    refine og_iloadN X0 10 d24_9 rfl rfl ?_
    refine og_icmpY X0 31 d24_10 (XT.ii_ge_t (by decide)) (by decide) (by decide) ?_
    refine og_iconst X0 32 (-1 : Int32) d24_31 rfl rfl ?_
    refine own_retI X0 d24_32 hret (by decide) (by decide) ?_
    (first | rfl | (simp only [own_ix, own_ixA, List.drop, if_true, if_false, own_tab3 hc1]; done) | (simp only [own_ix, own_ixA, List.drop, if_true, if_false, own_tab3 hc1]; rfl))
theorem rf_iol32 (a0 : Array Value) (hw : OHw a0 Z) (hWd : OWorld Z a0) (O0 : Old Z n0 h0) (b : Addr) (kb : ClassId) (x0 : Int32) (x1 : Int32) (x2 : Int32) (q0 : Arv Z h0 b kb .byte (3 : Int32) [(.int (StrChars.lo8 x0)), (.int (StrChars.lo8 x1)), (.int (StrChars.lo8 x2))] (.int 0)) (q1 : ∀ c ∈ [x0, x1, x2], ¬ c < 0 ∧ ¬ (255 : Int32) < c) :
    OMet l Z own_EL n0 yN12 (Jvm.Cond.code yN12 jdk_43_method_22_code 4 (some .int) :: wc) ({ frames := 1, cells := 0, slots := 0, locals := 17 } : Room) #[(.ref b), (.int 9), (.int 2), (.int 3)] h0 [] (fun vq hq => vq = some (.int (own_ix [x0, x1, x2] 2))) := by
  refine own_enter #[.val (.ref b), .val (.int 9), .val (.int 2), .val (.int 3)] pn_java_lang_StringLatin1_indexOf___BIII_I (fun _ => rfl) hWd.1 O0 all0 ?_
  intro p e s m below meth c T0 X0 hnm hret
  refine og_iloadN X0 1 d14_0 rfl rfl ?_
  refine own_stat X0 4 (argsL := [(.int 9)]) (rest := []) d14_1 (rm15 l Z n0 h0 [] a0 hw hWd X0.old   ) (ow hw 81 rfl) (ow hw 82 rfl) (ow hw 79 rfl) (ow hw 83 rfl) (by decide) (lenOf pd__28I_29Z rfl) rfl rfl rfl (W := 0) rfl (by decide) (by decide) (by decide) (by decide) all0 rfl ?_
  intro T1 h1 v1 X1 K1 hQ1
  obtain rfl := hQ1
  show OGo _ _ _ _ T1 (mkF m 4 #[.val (.ref b), .val (.int 9), .val (.int 2), .val (.int 3)] [(.int 1)])
  refine og_ifY X1 9 d14_4 (XT.i0_ne_t (by decide)) (by decide) (by decide) ?_
  refine og_iloadN X1 10 d14_9 rfl rfl ?_
  refine og_iconst X1 11 (0 : Int32) d14_10 rfl rfl ?_
  refine own_stat X1 14 (argsL := [(.int 2), (.int 0)]) (rest := []) d14_11 (rm16 l Z n0 h1 [] a0 hw hWd X1.old (2 : Int32) (0 : Int32) (by decide) ) (ow hw 84 rfl) (ow hw 85 rfl) (ow hw 86 rfl) (ow hw 87 rfl) (by decide) (lenOf pd__28II_29I rfl) rfl rfl rfl (W := 0) rfl (by decide) (by decide) (by decide) (by decide) all0 rfl ?_
  intro T2 h2 v2 X2 K2 hQ2
  obtain rfl := hQ2
  show OGo _ _ _ _ T2 (mkF m 14 #[.val (.ref b), .val (.int 9), .val (.int 2), .val (.int 3)] [(.int 2)])
  refine og_istoreN X2 15 #[.val (.ref b), .val (.int 9), .val (.int 2), .val (.int 3)] d14_14 rfl rfl ?_
  refine og_iloadN X2 16 d14_15 rfl rfl ?_
  refine og_aloadN X2 17 d14_16 rfl rfl rfl ?_
  have f3 := q0.keep K1 nin0
  have f4 := f3.keep K2 nin0
  refine own_len X2 18 d14_17 f4 rfl ?_
  refine own_stat X2 21 (argsL := [(.int 3), (.int 3)]) (rest := []) d14_18 (rm_min0 l Z n0 h2 [] a0 hw hWd X2.old (3 : Int32) (3 : Int32) (by decide) ) (ow hw 88 rfl) (ow hw 89 rfl) (ow hw 86 rfl) (ow hw 90 rfl) (by decide) (lenOf pd__28II_29I rfl) rfl rfl rfl (W := 0) rfl (by decide) (by decide) (by decide) (by decide) all0 rfl ?_
  intro T5 h5 v5 X5 K5 hQ5
  obtain rfl := hQ5
  show OGo _ _ _ _ T5 (mkF m 21 #[.val (.ref b), .val (.int 9), .val (.int 2), .val (.int 3)] [(.int 3)])
  refine og_istoreN X5 22 #[.val (.ref b), .val (.int 9), .val (.int 2), .val (.int 3)] d14_21 rfl rfl ?_
  refine og_iloadN X5 23 d14_22 rfl rfl ?_
  refine og_iloadN X5 24 d14_23 rfl rfl ?_
  refine og_icmpY X5 29 d14_24 (XT.ii_lt_t (by decide)) (by decide) (by decide) ?_
  refine og_aloadN X5 30 d14_29 rfl rfl rfl ?_
  refine og_iloadN X5 31 d14_30 rfl rfl ?_
  refine og_iloadN X5 32 d14_31 rfl rfl ?_
  refine og_iloadN X5 33 d14_32 rfl rfl ?_
  have f6 := f4.keep K5 nin0
  refine own_stat X5 36 (argsL := [(.ref b), (.int 9), (.int 2), (.int 3)]) (rest := []) d14_33 (rf_ioc32 l Z n0 h5 [] a0 hw hWd X5.old b kb x0 x1 x2 f6 q1 ) (ow hw 114 rfl) (ow hw 115 rfl) (ow hw 79 rfl) (ow hw 116 rfl) (by decide) (lenOf pd__28_5bBIII_29I rfl) rfl rfl rfl (W := 0) rfl (by decide) (by decide) (by decide) (by decide) all0 rfl ?_
  intro T7 h7 v7 X7 K7 hQ7
  obtain rfl := hQ7
  show OGo _ _ _ _ T7 (mkF m 36 #[.val (.ref b), .val (.int 9), .val (.int 2), .val (.int 3)] [(.int (own_ix [x0, x1, x2] 2))])
  refine own_retI X7 d14_36 hret (by decide) (by decide) ?_
  exact rfl
theorem rf_ios32 (a0 : Array Value) (hw : OHw a0 Z) (hWd : OWorld Z a0) (O0 : Old Z n0 h0) (a : Addr) (x0 : Int32) (x1 : Int32) (x2 : Int32) (q0 : OStr Z h0 a [x0, x1, x2] h0.size) (q1 : ∀ c ∈ [x0, x1, x2], ¬ c < 0 ∧ ¬ (255 : Int32) < c) :
    OMet l Z own_EL n0 yN13 (Jvm.Cond.code yN13 jdk_42_method_80_code 3 (some .int) :: wc) ({ frames := 2, cells := 0, slots := 0, locals := 32 } : Room) #[(.ref a), (.int 9), (.int 2)] h0 [] (fun vq hq => vq = some (.int (own_ix [x0, x1, x2] 2))) := by
  refine own_enter #[.val (.ref a), .val (.int 9), .val (.int 2)] pn_java_lang_String_indexOf__II_I (fun _ => rfl) hWd.1 O0 all0 ?_
  intro p e s m below meth c T0 X0 hnm hret
  obtain ⟨t, kt, NN, vv, eE, eC, eV, eA, cod, bd, l4⟩ := q0.latin (fun c hc => (q1 c hc).2)
  obtain ⟨-, rfl, rfl, -⟩ := cod.resolve_right fun q => absurd q.1 (by decide)
  have eA2 : Arv Z h0 t kt .byte (3 : Int32) [(.int (StrChars.lo8 x0)), (.int (StrChars.lo8 x1)), (.int (StrChars.lo8 x2))] (.int 0) := eA
  refine og_aloadN X0 1 d12_0 rfl rfl rfl ?_
  refine own_virt X0 4 (a := a) (argsL := []) (rest := []) d12_1 eE (fun _ hZ => notFace_of_selects (args := #[]) (mvT hZ (ow hw 74 rfl))) (rm13 l Z n0 h0 [] a0 hw hWd X0.old a eC ) (ow hw 71 rfl) (ow hw 72 rfl) (ow hw 74 rfl) (ow hw 73 rfl) (ow hw 6 rfl) (ow hw 75 rfl) (by decide) (lenOf pd__28_29Z rfl) rfl rfl rfl (W := 0) rfl (by decide) (by decide) (by decide) (by decide) all0 rfl ?_
  intro T1 h1 v1 X1 K1 hQ1
  obtain rfl := hQ1
  show OGo _ _ _ _ T1 (mkF m 4 #[.val (.ref a), .val (.int 9), .val (.int 2)] [(.int 1)])
  refine og_ifN X1 7 d12_4 (XT.i0_eq_f (by decide)) rfl ?_
  refine og_aloadN X1 8 d12_7 rfl rfl rfl ?_
  have f2 := eV.keep K1 nin0
  refine own_get X1 11 d12_8 (host := "") (Or.inl (ow hw 24 rfl)) Via.refl f2 rfl ?_
  intro T3 X4
  refine og_iloadN X4 12 d12_11 rfl rfl ?_
  refine og_iloadN X4 13 d12_12 rfl rfl ?_
  refine og_aloadN X4 14 d12_13 rfl rfl rfl ?_
  have f5 := q0.keep K1 all0
  refine own_strLen X4 17 d12_14 f5 (own_wL hw) (ow hw 5 rfl) hWd.2.1.1 hWd.2.1.2 (ow hw 76 rfl) (ow hw 46 rfl) (ow hw 48 rfl) (ow hw 47 rfl) rfl (W := 3) rfl (by decide) (by decide) (by decide) (by decide) rfl ?_
  intro T6 X7
  show OGo _ _ _ _ T6 (mkF m 17 #[.val (.ref a), .val (.int 9), .val (.int 2)] [(.int 3), (.int 2), (.int 9), (.ref t)])
  have f8 := eA2.keep K1 nin0
  refine own_stat X7 20 (argsL := [(.ref t), (.int 9), (.int 2), (.int 3)]) (rest := []) d12_17 (rf_iol32 l Z n0 h1 [] a0 hw hWd X7.old t kt x0 x1 x2 f8 q1 ) (ow hw 77 rfl) (ow hw 78 rfl) (ow hw 79 rfl) (ow hw 80 rfl) (by decide) (lenOf pd__28_5bBIII_29I rfl) rfl rfl rfl (W := 0) rfl (by decide) (by decide) (by decide) (by decide) all0 rfl ?_
  intro T9 h9 v9 X9 K9 hQ9
  obtain rfl := hQ9
  show OGo _ _ _ _ T9 (mkF m 20 #[.val (.ref a), .val (.int 9), .val (.int 2)] [(.int (own_ix [x0, x1, x2] 2))])
  refine og_goto X9 36 d12_20 (by decide) (by decide) ?_
  refine own_retI X9 d12_36 hret (by decide) (by decide) ?_
  exact rfl
theorem rf_end322 (a0 : Array Value) (hw : OHw a0 Z) (hWd : OWorld Z a0) (O0 : Old Z n0 h0) (a : Addr) (u : Addr) (x0 : Int32) (x1 : Int32) (x2 : Int32) (q0 : Exa Z h0 a "com/example/ratable/ratable/core/JournalSums$Fields") (q1 : Fld Z h0 a "com/example/ratable/ratable/core/JournalSums$Fields" "line" "Ljava/lang/String;" (.ref u)) (q2 : Fld Z h0 a "com/example/ratable/ratable/core/JournalSums$Fields" "next" "I" (.int 2)) (q3 : OStr Z h0 u [x0, x1, x2] h0.size) (q4 : ∀ c ∈ [x0, x1, x2], ¬ c < 0 ∧ ¬ (255 : Int32) < c) (q5 : x2 = (9 : Int32)) :
    OMet l Z own_EL n0 yN14 (Jvm.Cond.code yN14 prog_51_method_8_code 2 (some .int) :: wc) ({ frames := 3, cells := 0, slots := 0, locals := 46 } : Room) #[(.ref a)] h0 [] (fun vq hq => vq = some (.int 2)) := by
  refine own_enter #[.val (.ref a), .unset] pn_com_example_ratable_ratable_core_JournalSums_Fields_end___I (fun _ => rfl) hWd.1 O0 all0 ?_
  intro p e s m below meth c T0 X0 hnm hret
  refine og_aloadN X0 1 d11_0 rfl rfl rfl ?_
  refine own_virt X0 4 (a := a) (argsL := []) (rest := []) d11_1 q0 (fun _ hZ => notFace_of_selects (args := #[]) (mvT hZ (ow hw 41 rfl))) (rm_more1 l Z n0 h0 [] a0 hw hWd X0.old a u [x0, x1, x2] (2 : Int32) q1 q2 q3.top (show ¬ (3 : Int32) < (2 : Int32) by decide) ) (ow hw 65 rfl) (ow hw 39 rfl) (ow hw 41 rfl) (ow hw 40 rfl) (ow hw 31 rfl) (ow hw 42 rfl) (by decide) (lenOf pd__28_29Z rfl) rfl rfl rfl (W := 0) rfl (by decide) (by decide) (by decide) (by decide) all0 rfl ?_
  intro T1 h1 v1 X1 K1 hQ1
  obtain rfl := hQ1
  show OGo _ _ _ _ T1 (mkF m 4 #[.val (.ref a), .unset] [(.int 1)])
  refine og_ifY X1 37 d11_4 (XT.i0_ne_t (by decide)) (by decide) (by decide) ?_
  refine og_aloadN X1 38 d11_37 rfl rfl rfl ?_
  have f2 := q1.keep K1 nin0
  refine own_get X1 41 d11_38 (host := "") (Or.inl (ow hw 36 rfl)) Via.refl f2 rfl ?_
  intro T3 X4
  refine og_bipush X4 43 (9 : Int32) d11_41 rfl rfl ?_
  refine og_aloadN X4 44 d11_43 rfl rfl rfl ?_
  have f5 := q2.keep K1 nin0
  refine own_get X4 47 d11_44 (host := "") (Or.inl (ow hw 43 rfl)) Via.refl f5 rfl ?_
  intro T6 X7
  have f8 := q3.exa.keep K1
  have f9 := q3.keep K1 all0
  refine own_virt X7 50 (a := u) (argsL := [(.int 9), (.int 2)]) (rest := []) d11_47 f8 (fun _ hZ => notFace_of_selects (args := #[]) (mvT hZ (ow hw 69 rfl))) (rf_ios32 l Z n0 h1 [] a0 hw hWd X7.old u x0 x1 x2 f9.top q4 ) (ow hw 66 rfl) (ow hw 67 rfl) (ow hw 69 rfl) (ow hw 68 rfl) (ow hw 6 rfl) (ow hw 70 rfl) (by decide) (lenOf pd__28II_29I rfl) rfl rfl rfl (W := 0) rfl (by decide) (by decide) (by decide) (by decide) all0 rfl ?_
  intro T10 h10 v10 X10 K10 hQ10
  obtain rfl := hQ10
  show OGo _ _ _ _ T10 (mkF m 50 #[.val (.ref a), .unset] [(.int (own_ix [x0, x1, x2] 2))])
  rw [show (own_ix [x0, x1, x2] 2) = (2 : Int32) by (first | rfl | (simp only [own_ix, own_ixA, List.drop, if_true, if_false, q5]; done) | (simp only [own_ix, own_ixA, List.drop, if_true, if_false, q5]; rfl))]
  refine og_istoreN X10 51 #[.val (.ref a), .val (.int 2)] d11_50 rfl rfl ?_
  refine og_iloadN X10 52 d11_51 rfl rfl ?_
  refine og_ifY X10 65 d11_52 (XT.i0_ge_t (by decide)) (by decide) (by decide) ?_
  refine og_iloadN X10 66 d11_65 rfl rfl ?_
  refine own_retI X10 d11_66 hret (by decide) (by decide) ?_
  exact rfl
theorem rf_ns322 (a0 : Array Value) (hw : OHw a0 Z) (hWd : OWorld Z a0) (O0 : Old Z n0 h0) (b : Addr) (kb : ClassId) (e0 : Value) (e1 : Value) (e2 : Value) (q0 : Arv Z h0 b kb .byte (3 : Int32) [e0, e1, e2] (.int 0)) :
    OMet l Z own_EL n0 yN18 (Jvm.Cond.code yN18 jdk_43_method_47_code 3 (some (.object "java/lang/String")) :: wc) ({ frames := 0, cells := 2, slots := 4, locals := 0 } : Room) #[(.ref b), (.int 2), (.int 0)] h0 [] (fun vq hq => ∃ (r : Addr), vq = some (.ref r)) := by
  refine own_enter #[.val (.ref b), .val (.int 2), .val (.int 0)] pn_java_lang_StringLatin1_newString___BII_Ljava_lang_String_ (fun _ => rfl) hWd.1 O0 all0 ?_
  intro p e s m below meth c T0 X0 hnm hret
  refine og_iloadN X0 1 d25_0 rfl rfl ?_
  refine og_ifN X0 4 d25_1 (XT.i0_ne_f (by decide)) rfl ?_
  refine own_ldcO X0 6 (cap := 0) d25_4 own_ELne (ow hw 120 rfl) (own_wS hw) (by decide) (by decide) (by decide) (by decide) rfl ?_
  intro T1 h1 a1 X1 K1
  refine own_retA X1 d25_6 hret rfl rfl (by decide) (by decide) ?_
  exact ⟨a1, rfl⟩
theorem rf_sub322 (a0 : Array Value) (hw : OHw a0 Z) (hWd : OWorld Z a0) (O0 : Old Z n0 h0) (a : Addr) (x0 : Int32) (x1 : Int32) (x2 : Int32) (q0 : OStr Z h0 a [x0, x1, x2] h0.size) (q1 : ∀ c ∈ [x0, x1, x2], ¬ c < 0 ∧ ¬ (255 : Int32) < c) :
    OMet l Z own_EL n0 yN15 (Jvm.Cond.code yN15 jdk_42_method_92_code 5 (some (.object "java/lang/String")) :: wc) ({ frames := 2, cells := 2, slots := 4, locals := 29 } : Room) #[(.ref a), (.int 2), (.int 2)] h0 [] (fun vq hq => ∃ (r : Addr), vq = some (.ref r)) := by
  refine own_enter #[.val (.ref a), .val (.int 2), .val (.int 2), .unset, .unset] pn_java_lang_String_substring__II_Ljava_lang_String_ (fun _ => rfl) hWd.1 O0 all0 ?_
  intro p e s m below meth c T0 X0 hnm hret
  obtain ⟨t, kt, NN, vv, eE, eC, eV, eA, cod, bd, l4⟩ := q0.latin (fun c hc => (q1 c hc).2)
  obtain ⟨-, rfl, rfl, -⟩ := cod.resolve_right fun q => absurd q.1 (by decide)
  have eA2 : Arv Z h0 t kt .byte (3 : Int32) [(.int (StrChars.lo8 x0)), (.int (StrChars.lo8 x1)), (.int (StrChars.lo8 x2))] (.int 0) := eA
  refine og_aloadN X0 1 d18_0 rfl rfl rfl ?_
  refine own_strLen X0 4 d18_1 q0 (own_wL hw) (ow hw 5 rfl) hWd.2.1.1 hWd.2.1.2 (ow hw 76 rfl) (ow hw 46 rfl) (ow hw 48 rfl) (ow hw 47 rfl) rfl (W := 0) rfl (by decide) (by decide) (by decide) (by decide) rfl ?_
  intro T1 X2
  show OGo _ _ _ _ T1 (mkF m 4 #[.val (.ref a), .val (.int 2), .val (.int 2), .unset, .unset] [(.int 3)])
  refine og_istoreN X2 5 #[.val (.ref a), .val (.int 2), .val (.int 2), .val (.int 3), .unset] d18_4 rfl rfl ?_
  refine og_iloadN X2 6 d18_5 rfl rfl ?_
  refine og_iloadN X2 7 d18_6 rfl rfl ?_
  refine og_iloadN X2 8 d18_7 rfl rfl ?_
  refine own_stat X2 11 (argsL := [(.int 2), (.int 2), (.int 3)]) (rest := []) d18_8 (rm19 l Z n0 h0 [] a0 hw hWd X2.old (2 : Int32) (2 : Int32) (3 : Int32) (by decide) (by decide) (by decide) ) (ow hw 96 rfl) (ow hw 97 rfl) (ow hw 6 rfl) (ow hw 98 rfl) (by decide) (lenOf pd__28III_29V rfl) rfl rfl rfl (W := 0) rfl (by decide) (by decide) (by decide) (by decide) all0 rfl ?_
  intro T3 h3 v3 X3 K3 hQ3
  obtain rfl := hQ3
  show OGo _ _ _ _ T3 (mkF m 11 #[.val (.ref a), .val (.int 2), .val (.int 2), .val (.int 3), .unset] [])
  refine og_iloadN X3 12 d18_11 rfl rfl ?_
  refine og_ifY X3 22 d18_12 (XT.i0_ne_t (by decide)) (by decide) (by decide) ?_
  refine og_iloadN X3 23 d18_22 rfl rfl ?_
  refine og_iloadN X3 24 d18_23 rfl rfl ?_
  refine og_isub X3 25 d18_24 rfl ?_
  show OGo _ _ _ _ T3 (mkF m 25 #[.val (.ref a), .val (.int 2), .val (.int 2), .val (.int 3), .unset] [(.int 0)])
  refine og_istore X3 27 #[.val (.ref a), .val (.int 2), .val (.int 2), .val (.int 3), .val (.int 0)] d18_25 rfl rfl ?_
  refine og_aloadN X3 28 d18_27 rfl rfl rfl ?_
  have f4 := eE.keep K3
  have f5 := eC.keep K3 nin0
  refine own_virt X3 31 (a := a) (argsL := []) (rest := []) d18_28 f4 (fun _ hZ => notFace_of_selects (args := #[]) (mvT hZ (ow hw 74 rfl))) (rm13 l Z n0 h3 [] a0 hw hWd X3.old a f5 ) (ow hw 71 rfl) (ow hw 72 rfl) (ow hw 74 rfl) (ow hw 73 rfl) (ow hw 6 rfl) (ow hw 75 rfl) (by decide) (lenOf pd__28_29Z rfl) rfl rfl rfl (W := 0) rfl (by decide) (by decide) (by decide) (by decide) all0 rfl ?_
  intro T6 h6 v6 X6 K6 hQ6
  obtain rfl := hQ6
  show OGo _ _ _ _ T6 (mkF m 31 #[.val (.ref a), .val (.int 2), .val (.int 2), .val (.int 3), .val (.int 0)] [(.int 1)])
  refine og_ifN X6 34 d18_31 (XT.i0_eq_f (by decide)) rfl ?_
  refine og_aloadN X6 35 d18_34 rfl rfl rfl ?_
  have f7 := eV.keep K3 nin0
  have f8 := f7.keep K6 nin0
  refine own_get X6 38 d18_35 (host := "") (Or.inl (ow hw 24 rfl)) Via.refl f8 rfl ?_
  intro T9 X10
  refine og_iloadN X10 39 d18_38 rfl rfl ?_
  refine og_iload X10 41 d18_39 rfl rfl ?_
  have f11 := eA2.keep K3 nin0
  have f12 := f11.keep K6 nin0
  refine own_stat X10 44 (argsL := [(.ref t), (.int 2), (.int 0)]) (rest := []) d18_41 (rf_ns322 l Z n0 h6 [] a0 hw hWd X10.old t kt (.int (StrChars.lo8 x0)) (.int (StrChars.lo8 x1)) (.int (StrChars.lo8 x2)) f12 ) (ow hw 117 rfl) (ow hw 118 rfl) (ow hw 79 rfl) (ow hw 119 rfl) (by decide) (lenOf pd__28_5bBII_29Ljava_2flang_2fString_3b rfl) rfl rfl rfl (W := 0) rfl (by decide) (by decide) (by decide) (by decide) all0 rfl ?_
  intro T13 h13 v13 X13 K13 hQ13
  obtain ⟨r13, rfl⟩ := hQ13
  show OGo _ _ _ _ T13 (mkF m 44 #[.val (.ref a), .val (.int 2), .val (.int 2), .val (.int 3), .val (.int 0)] [(.ref r13)])
  refine og_goto X13 57 d18_44 (by decide) (by decide) ?_
  refine own_retA X13 d18_57 hret rfl rfl (by decide) (by decide) ?_
  exact ⟨r13, rfl⟩
theorem rf_txt322 (a0 : Array Value) (hw : OHw a0 Z) (hWd : OWorld Z a0) (O0 : Old Z n0 h0) (a : Addr) (u : Addr) (x0 : Int32) (x1 : Int32) (x2 : Int32) (q0 : Exa Z h0 a "com/example/ratable/ratable/core/JournalSums$Fields") (q1 : Fld Z h0 a "com/example/ratable/ratable/core/JournalSums$Fields" "line" "Ljava/lang/String;" (.ref u)) (q2 : Fld Z h0 a "com/example/ratable/ratable/core/JournalSums$Fields" "next" "I" (.int 2)) (q3 : OStr Z h0 u [x0, x1, x2] h0.size) (q4 : ∀ c ∈ [x0, x1, x2], ¬ c < 0 ∧ ¬ (255 : Int32) < c) (q5 : x2 = (9 : Int32)) (g0 : n0 ≤ a ∧ a < h0.size) :
    OMet l Z own_EL n0 yN16 (Jvm.Cond.code yN16 prog_51_method_3_code 3 (some (.object "java/lang/String")) :: wc) ({ frames := 4, cells := 2, slots := 4, locals := 59 } : Room) #[(.ref a)] h0 [a] (fun vq hq => ∃ (r : Addr), vq = some (.ref r) ∧ Fld Z hq a "com/example/ratable/ratable/core/JournalSums$Fields" "line" "Ljava/lang/String;" (.ref u) ∧ Fld Z hq a "com/example/ratable/ratable/core/JournalSums$Fields" "next" "I" (.int 3)) := by
  refine own_enter #[.val (.ref a), .unset, .unset] pn_com_example_ratable_ratable_core_JournalSums_Fields_text___Ljava_lang_String_ (fun _ => rfl) hWd.1 O0 (allS g0 all0) ?_
  intro p e s m below meth c T0 X0 hnm hret
  refine og_aloadN X0 1 d10_0 rfl rfl rfl ?_
  refine own_priv X0 4 (a := a) (argsL := []) (rest := []) d10_1 q0 (rf_end322 l Z n0 h0 [] a0 hw hWd X0.old a u x0 x1 x2 q0 q1 q2 q3.top q4 q5 ) (ow hw 61 rfl) (ow hw 62 rfl) (own_selfsel2 (ow hw 41 rfl) rfl (ow hw 62 rfl) (ow hw 63 rfl) (by decide)) (ow hw 63 rfl) (ow hw 31 rfl) (ow hw 64 rfl) (by decide) (lenOf pd__28_29I rfl) rfl rfl rfl (W := 0) rfl (by decide) (by decide) (by decide) (by decide) all0 rfl ?_
  intro T1 h1 v1 X1 K1 hQ1
  obtain rfl := hQ1
  show OGo _ _ _ _ T1 (mkF m 4 #[.val (.ref a), .unset, .unset] [(.int 2)])
  refine og_istoreN X1 5 #[.val (.ref a), .val (.int 2), .unset] d10_4 rfl rfl ?_
  refine og_aloadN X1 6 d10_5 rfl rfl rfl ?_
  have f2 := q1.keep K1 nin0
  refine own_get X1 9 d10_6 (host := "") (Or.inl (ow hw 36 rfl)) Via.refl f2 rfl ?_
  intro T3 X4
  refine og_aloadN X4 10 d10_9 rfl rfl rfl ?_
  have f5 := q2.keep K1 nin0
  refine own_get X4 13 d10_10 (host := "") (Or.inl (ow hw 43 rfl)) Via.refl f5 rfl ?_
  intro T6 X7
  refine og_iloadN X7 14 d10_13 rfl rfl ?_
  have f8 := q3.exa.keep K1
  have f9 := q3.keep K1 all0
  refine own_virt X7 17 (a := u) (argsL := [(.int 2), (.int 2)]) (rest := []) d10_14 f8 (fun _ hZ => notFace_of_selects (args := #[]) (mvT hZ (ow hw 94 rfl))) (rf_sub322 l Z n0 h1 [] a0 hw hWd X7.old u x0 x1 x2 f9.top q4 ) (ow hw 91 rfl) (ow hw 92 rfl) (ow hw 94 rfl) (ow hw 93 rfl) (ow hw 6 rfl) (ow hw 95 rfl) (by decide) (lenOf pd__28II_29Ljava_2flang_2fString_3b rfl) rfl rfl rfl (W := 0) rfl (by decide) (by decide) (by decide) (by decide) all0 rfl ?_
  intro T10 h10 v10 X10 K10 hQ10
  obtain ⟨r10, rfl⟩ := hQ10
  show OGo _ _ _ _ T10 (mkF m 17 #[.val (.ref a), .val (.int 2), .unset] [(.ref r10)])
  refine og_astoreN X10 18 #[.val (.ref a), .val (.int 2), .val (.ref r10)] d10_17 rfl rfl rfl ?_
  refine og_aloadN X10 19 d10_18 rfl rfl rfl ?_
  refine og_iloadN X10 20 d10_19 rfl rfl ?_
  refine og_iconst X10 21 (1 : Int32) d10_20 rfl rfl ?_
  refine og_iadd X10 22 d10_21 rfl ?_
  show OGo _ _ _ _ T10 (mkF m 22 #[.val (.ref a), .val (.int 2), .val (.ref r10)] [(.int 3), (.ref a)])
  have f11 := f5.keep K10 nin0
  have f12 := q0.keep K1
  have f13 := f12.keep K10
  have f14 := f2.keep K10 nin0
  refine own_put X10 25 d10_22 (host := "") (Or.inl (ow hw 43 rfl)) Via.refl f11 f13 (Or.inl (ow hw 44 rfl)) (ow hw 30 rfl) (ty := .int) (by decide) rfl rfl (om 0 rfl) rfl ?_
  intro T15 h15 X15 W15 K15 F15
  have f16 := Fld.other W15 f14 (Or.inr (slot_ne (Or.inr (ow hw 37 rfl)) (Or.inl (ow hw 44 rfl)) (by decide) (t := (.object "java/lang/String")) (t' := .int) (by decide) (by decide)))
  refine og_aloadN X15 26 d10_25 rfl rfl rfl ?_
  refine own_retA X15 d10_26 hret rfl rfl (by decide) (by decide) ?_
  exact ⟨r10, rfl, f16, F15⟩
theorem rf_end323 (a0 : Array Value) (hw : OHw a0 Z) (hWd : OWorld Z a0) (O0 : Old Z n0 h0) (a : Addr) (u : Addr) (x0 : Int32) (x1 : Int32) (x2 : Int32) (q0 : Exa Z h0 a "com/example/ratable/ratable/core/JournalSums$Fields") (q1 : Fld Z h0 a "com/example/ratable/ratable/core/JournalSums$Fields" "line" "Ljava/lang/String;" (.ref u)) (q2 : Fld Z h0 a "com/example/ratable/ratable/core/JournalSums$Fields" "next" "I" (.int 2)) (q3 : OStr Z h0 u [x0, x1, x2] h0.size) (q4 : ∀ c ∈ [x0, x1, x2], ¬ c < 0 ∧ ¬ (255 : Int32) < c) (q5 : ¬ x2 = (9 : Int32)) :
    OMet l Z own_EL n0 yN14 (Jvm.Cond.code yN14 prog_51_method_8_code 2 (some .int) :: wc) ({ frames := 3, cells := 0, slots := 0, locals := 46 } : Room) #[(.ref a)] h0 [] (fun vq hq => vq = some (.int 3)) := by
  refine own_enter #[.val (.ref a), .unset] pn_com_example_ratable_ratable_core_JournalSums_Fields_end___I (fun _ => rfl) hWd.1 O0 all0 ?_
  intro p e s m below meth c T0 X0 hnm hret
  refine og_aloadN X0 1 d11_0 rfl rfl rfl ?_
  refine own_virt X0 4 (a := a) (argsL := []) (rest := []) d11_1 q0 (fun _ hZ => notFace_of_selects (args := #[]) (mvT hZ (ow hw 41 rfl))) (rm_more1 l Z n0 h0 [] a0 hw hWd X0.old a u [x0, x1, x2] (2 : Int32) q1 q2 q3.top (show ¬ (3 : Int32) < (2 : Int32) by decide) ) (ow hw 65 rfl) (ow hw 39 rfl) (ow hw 41 rfl) (ow hw 40 rfl) (ow hw 31 rfl) (ow hw 42 rfl) (by decide) (lenOf pd__28_29Z rfl) rfl rfl rfl (W := 0) rfl (by decide) (by decide) (by decide) (by decide) all0 rfl ?_
  intro T1 h1 v1 X1 K1 hQ1
  obtain rfl := hQ1
  show OGo _ _ _ _ T1 (mkF m 4 #[.val (.ref a), .unset] [(.int 1)])
  refine og_ifY X1 37 d11_4 (XT.i0_ne_t (by decide)) (by decide) (by decide) ?_
  refine og_aloadN X1 38 d11_37 rfl rfl rfl ?_
  have f2 := q1.keep K1 nin0
  refine own_get X1 41 d11_38 (host := "") (Or.inl (ow hw 36 rfl)) Via.refl f2 rfl ?_
  intro T3 X4
  refine og_bipush X4 43 (9 : Int32) d11_41 rfl rfl ?_
  refine og_aloadN X4 44 d11_43 rfl rfl rfl ?_
  have f5 := q2.keep K1 nin0
  refine own_get X4 47 d11_44 (host := "") (Or.inl (ow hw 43 rfl)) Via.refl f5 rfl ?_
  intro T6 X7
  have f8 := q3.exa.keep K1
  have f9 := q3.keep K1 all0
  refine own_virt X7 50 (a := u) (argsL := [(.int 9), (.int 2)]) (rest := []) d11_47 f8 (fun _ hZ => notFace_of_selects (args := #[]) (mvT hZ (ow hw 69 rfl))) (rf_ios32 l Z n0 h1 [] a0 hw hWd X7.old u x0 x1 x2 f9.top q4 ) (ow hw 66 rfl) (ow hw 67 rfl) (ow hw 69 rfl) (ow hw 68 rfl) (ow hw 6 rfl) (ow hw 70 rfl) (by decide) (lenOf pd__28II_29I rfl) rfl rfl rfl (W := 0) rfl (by decide) (by decide) (by decide) (by decide) all0 rfl ?_
  intro T10 h10 v10 X10 K10 hQ10
  obtain rfl := hQ10
  show OGo _ _ _ _ T10 (mkF m 50 #[.val (.ref a), .unset] [(.int (own_ix [x0, x1, x2] 2))])
  rw [show (own_ix [x0, x1, x2] 2) = (-1 : Int32) by (first | rfl | (simp only [own_ix, own_ixA, List.drop, if_true, if_false, q5]; done) | (simp only [own_ix, own_ixA, List.drop, if_true, if_false, q5]; rfl))]
  refine og_istoreN X10 51 #[.val (.ref a), .val (.int (-1 : Int32))] d11_50 rfl rfl ?_
  refine og_iloadN X10 52 d11_51 rfl rfl ?_
  refine og_ifN X10 55 d11_52 (XT.i0_ge_f (by decide)) rfl ?_
  refine og_aloadN X10 56 d11_55 rfl rfl rfl ?_
  have f11 := f2.keep K10 nin0
  refine own_get X10 59 d11_56 (host := "") (Or.inl (ow hw 36 rfl)) Via.refl f11 rfl ?_
  intro T12 X13
  have f14 := f9.keep K10 all0
  refine own_strLen X13 62 d11_59 f14 (own_wL hw) (ow hw 5 rfl) hWd.2.1.1 hWd.2.1.2 (ow hw 45 rfl) (ow hw 46 rfl) (ow hw 48 rfl) (ow hw 47 rfl) rfl (W := 0) rfl (by decide) (by decide) (by decide) (by decide) rfl ?_
  intro T15 X16
  show OGo _ _ _ _ T15 (mkF m 62 #[.val (.ref a), .val (.int (-1 : Int32))] [(.int 3)])
  refine og_goto X16 66 d11_62 (by decide) (by decide) ?_
  refine own_retI X16 d11_66 hret (by decide) (by decide) ?_
  exact rfl
theorem rf_crb323 (a0 : Array Value) (hw : OHw a0 Z) (hWd : OWorld Z a0) (O0 : Old Z n0 h0) (b : Addr) (kb : ClassId) (e0 : Value) (e1 : Value) (e2 : Value) (q0 : Arv Z h0 b kb .byte (3 : Int32) [e0, e1, e2] (.int 0)) :
    OMet l Z own_EL n0 yN19 (Jvm.Cond.code yN19 jdk_65_method_133_code 5 (some (.array .byte)) :: wc) ({ frames := 1, cells := 1, slots := 1, locals := 40 } : Room) #[(.ref b), (.int 2), (.int 3)] h0 [] (fun vq hq => ∃ (r : Addr) (kr : ClassId), vq = some (.ref r) ∧ h0.size ≤ r ∧ Arv Z hq r kr .byte (1 : Int32) [e2] (.int 0)) := by
  refine own_enter #[.val (.ref b), .val (.int 2), .val (.int 3), .unset, .unset] pn_java_util_Arrays_copyOfRangeByte___BII__B (fun _ => rfl) hWd.1 O0 all0 ?_
  intro p e s m below meth c T0 X0 hnm hret
  refine og_iloadN X0 1 d27_0 rfl rfl ?_
  refine og_iloadN X0 2 d27_1 rfl rfl ?_
  refine own_stat X0 5 (argsL := [(.int 2), (.int 3)]) (rest := []) d27_2 (rm28 l Z n0 h0 [] a0 hw hWd X0.old (2 : Int32) (3 : Int32) (by decide) ) (ow hw 129 rfl) (ow hw 130 rfl) (ow hw 124 rfl) (ow hw 131 rfl) (by decide) (lenOf pd__28II_29V rfl) rfl rfl rfl (W := 0) rfl (by decide) (by decide) (by decide) (by decide) all0 rfl ?_
  intro T1 h1 v1 X1 K1 hQ1
  obtain rfl := hQ1
  show OGo _ _ _ _ T1 (mkF m 5 #[.val (.ref b), .val (.int 2), .val (.int 3), .unset, .unset] [])
  refine og_iloadN X1 6 d27_5 rfl rfl ?_
  refine og_iloadN X1 7 d27_6 rfl rfl ?_
  refine og_isub X1 8 d27_7 rfl ?_
  show OGo _ _ _ _ T1 (mkF m 8 #[.val (.ref b), .val (.int 2), .val (.int 3), .unset, .unset] [(.int 1)])
  refine og_istoreN X1 9 #[.val (.ref b), .val (.int 2), .val (.int 3), .val (.int 1), .unset] d27_8 rfl rfl ?_
  refine og_iloadN X1 10 d27_9 rfl rfl ?_
  refine own_arr X1 12 d27_10 (ow hw 19 rfl) (by decide) (cap := 1) (by decide) (by decide) (by decide) (by decide) rfl ?_
  intro T2 h2 b2 kb2 X2 K2 G2 U2 A2
  have f3 : Arv Z h2 b2 kb2 .byte (1 : Int32) [(.int 0)] (.int 0) := A2
  refine og_astore X2 14 #[.val (.ref b), .val (.int 2), .val (.int 3), .val (.int 1), .val (.ref b2)] d27_12 rfl rfl rfl ?_
  refine og_aloadN X2 15 d27_14 rfl rfl rfl ?_
  refine og_iloadN X2 16 d27_15 rfl rfl ?_
  refine og_aload X2 18 d27_16 rfl rfl rfl ?_
  refine og_iconst X2 19 (0 : Int32) d27_18 rfl rfl ?_
  refine og_aloadN X2 20 d27_19 rfl rfl rfl ?_
  have f4 := q0.keep K1 nin0
  have f5 := f4.keep K2 nin0
  refine own_len X2 21 d27_20 f5 rfl ?_
  refine og_iloadN X2 22 d27_21 rfl rfl ?_
  refine og_isub X2 23 d27_22 rfl ?_
  show OGo _ _ _ _ T2 (mkF m 23 #[.val (.ref b), .val (.int 2), .val (.int 3), .val (.int 1), .val (.ref b2)] [(.int 1), (.int 0), (.ref b2), (.int 2), (.ref b)])
  refine og_iloadN X2 24 d27_23 rfl rfl ?_
  refine own_stat X2 27 (argsL := [(.int 1), (.int 1)]) (rest := [(.int 0), (.ref b2), (.int 2), (.ref b)]) d27_24 (rm_min0 l Z n0 h2 [] a0 hw hWd X2.old (1 : Int32) (1 : Int32) (by decide) ) (ow hw 132 rfl) (ow hw 89 rfl) (ow hw 86 rfl) (ow hw 90 rfl) (by decide) (lenOf pd__28II_29I rfl) rfl rfl rfl (W := 4) rfl (by decide) (by decide) (by decide) (by decide) all0 rfl ?_
  intro T6 h6 v6 X6 K6 hQ6
  obtain rfl := hQ6
  show OGo _ _ _ _ T6 (mkF m 27 #[.val (.ref b), .val (.int 2), .val (.int 3), .val (.int 1), .val (.ref b2)] [(.int 1), (.int 0), (.ref b2), (.int 2), (.ref b)])
  have f7 := f5.keep K6 nin0
  have f8 := f3.keep K6 nin0
  refine own_cp X6 30 (us := [e2]) (rest := []) d27_27 f7 f8 rfl (om 0 rfl) (ow hw 133 rfl) (ow hw 136 rfl) (ow hw 134 rfl) (ow hw 135 rfl) (by decide) (by decide) (by decide) (by decide) (by decide) rfl (Nat.le_of_ble_eq_true rfl) rfl (W := 0) rfl (by decide) (by decide) rfl ?_
  intro T9 h9 X9 K9 A9
  have f10 : Arv Z h9 b2 kb2 .byte (1 : Int32) [e2] (.int 0) := A9
  show OGo _ _ _ _ T9 (mkF m 30 #[.val (.ref b), .val (.int 2), .val (.int 3), .val (.int 1), .val (.ref b2)] [])
  refine og_aload X9 32 d27_30 rfl rfl rfl ?_
  refine own_retA X9 d27_32 hret rfl rfl (by decide) (by decide) ?_
  exact ⟨b2, kb2, rfl, (Nat.le_trans K1.1 G2), f10⟩
theorem rf_cr323 (a0 : Array Value) (hw : OHw a0 Z) (hWd : OWorld Z a0) (O0 : Old Z n0 h0) (b : Addr) (kb : ClassId) (e0 : Value) (e1 : Value) (e2 : Value) (q0 : Arv Z h0 b kb .byte (3 : Int32) [e0, e1, e2] (.int 0)) :
    OMet l Z own_EL n0 yN20 (Jvm.Cond.code yN20 jdk_65_method_132_code 3 (some (.array .byte)) :: wc) ({ frames := 2, cells := 1, slots := 1, locals := 56 } : Room) #[(.ref b), (.int 2), (.int 3)] h0 [] (fun vq hq => ∃ (r : Addr) (kr : ClassId), vq = some (.ref r) ∧ h0.size ≤ r ∧ Arv Z hq r kr .byte (1 : Int32) [e2] (.int 0)) := by
  refine own_enter #[.val (.ref b), .val (.int 2), .val (.int 3)] pn_java_util_Arrays_copyOfRange___BII__B (fun _ => rfl) hWd.1 O0 all0 ?_
  intro p e s m below meth c T0 X0 hnm hret
  refine og_iloadN X0 1 d26_0 rfl rfl ?_
  refine og_ifY X0 10 d26_1 (XT.i0_ne_t (by decide)) (by decide) (by decide) ?_
  refine og_aloadN X0 11 d26_10 rfl rfl rfl ?_
  refine og_iloadN X0 12 d26_11 rfl rfl ?_
  refine og_iloadN X0 13 d26_12 rfl rfl ?_
  refine own_stat X0 16 (argsL := [(.ref b), (.int 2), (.int 3)]) (rest := []) d26_13 (rf_crb323 l Z n0 h0 [] a0 hw hWd X0.old b kb e0 e1 e2 q0 ) (ow hw 126 rfl) (ow hw 127 rfl) (ow hw 124 rfl) (ow hw 128 rfl) (by decide) (lenOf pd__28_5bBII_29_5bB rfl) rfl rfl rfl (W := 0) rfl (by decide) (by decide) (by decide) (by decide) all0 rfl ?_
  intro T1 h1 v1 X1 K1 hQ1
  obtain ⟨r1, kr1, rfl, ge_r1, f2⟩ := hQ1
  show OGo _ _ _ _ T1 (mkF m 16 #[.val (.ref b), .val (.int 2), .val (.int 3)] [(.ref r1)])
  refine own_retA X1 d26_16 hret rfl rfl (by decide) (by decide) ?_
  exact ⟨r1, kr1, rfl, ge_r1, f2⟩
theorem rf_ns323 (a0 : Array Value) (hw : OHw a0 Z) (hWd : OWorld Z a0) (O0 : Old Z n0 h0) (b : Addr) (kb : ClassId) (e0 : Value) (e1 : Value) (e2 : Value) (q0 : Arv Z h0 b kb .byte (3 : Int32) [e0, e1, e2] (.int 0)) :
    OMet l Z own_EL n0 yN18 (Jvm.Cond.code yN18 jdk_43_method_47_code 3 (some (.object "java/lang/String")) :: wc) ({ frames := 3, cells := 2, slots := 5, locals := 72 } : Room) #[(.ref b), (.int 2), (.int 1)] h0 [] (fun vq hq => ∃ (r : Addr), vq = some (.ref r)) := by
  refine own_enter #[.val (.ref b), .val (.int 2), .val (.int 1)] pn_java_lang_StringLatin1_newString___BII_Ljava_lang_String_ (fun _ => rfl) hWd.1 O0 all0 ?_
  intro p e s m below meth c T0 X0 hnm hret
  refine og_iloadN X0 1 d25_0 rfl rfl ?_
  refine og_ifY X0 7 d25_1 (XT.i0_ne_t (by decide)) (by decide) (by decide) ?_
  refine own_new X0 10 d25_7 (ow hw 121 rfl) (ow hw 5 rfl) (ow hw 6 rfl) (by decide) (by decide) rfl ?_
  intro T1 h1 b1 X1 K1 G1 U1 E1 D1
  have f2 : Fld Z h1 b1 "java/lang/String" "value" "[B" .null := D1 (Or.inr (ow hw 20 rfl)) (ty := (.array .byte)) (by decide)
  have f3 : Fld Z h1 b1 "java/lang/String" "coder" "B" (.int 0) := D1 (Or.inr (ow hw 21 rfl)) (ty := .byte) (by decide)
  refine og_dup X1 11 d25_10 rfl rfl ?_
  refine og_aloadN X1 12 d25_11 rfl rfl rfl ?_
  refine og_iloadN X1 13 d25_12 rfl rfl ?_
  refine og_iloadN X1 14 d25_13 rfl rfl ?_
  refine og_iloadN X1 15 d25_14 rfl rfl ?_
  refine og_iadd X1 16 d25_15 rfl ?_
  show OGo _ _ _ _ T1 (mkF m 16 #[.val (.ref b), .val (.int 2), .val (.int 1)] [(.int 3), (.int 2), (.ref b), (.ref b1), (.ref b1)])
  have f4 := q0.keep K1 nin0
  refine own_stat X1 19 (argsL := [(.ref b), (.int 2), (.int 3)]) (rest := [(.ref b1), (.ref b1)]) d25_16 (rf_cr323 l Z n0 h1 [] a0 hw hWd X1.old b kb e0 e1 e2 f4 ) (ow hw 122 rfl) (ow hw 123 rfl) (ow hw 124 rfl) (ow hw 125 rfl) (by decide) (lenOf pd__28_5bBII_29_5bB rfl) rfl rfl rfl (W := 2) rfl (by decide) (by decide) (by decide) (by decide) all0 rfl ?_
  intro T5 h5 v5 X5 K5 hQ5
  obtain ⟨r5, kr5, rfl, ge_r5, f6⟩ := hQ5
  show OGo _ _ _ _ T5 (mkF m 19 #[.val (.ref b), .val (.int 2), .val (.int 1)] [(.ref r5), (.ref b1), (.ref b1)])
  refine og_iconst X5 20 (0 : Int32) d25_19 rfl rfl ?_
  have f7 := E1.keep K5
  have f8 := f2.keep K5 nin0
  have f9 := f3.keep K5 nin0
  refine own_spec X5 23 (a := b1) (argsL := [(.ref r5), (.int 0)]) (rest := [(.ref b1)]) d25_20 rfl (rm29 l Z n0 h5 [] a0 hw hWd X5.old b1 r5 .null (0 : Int32) f7 f8 f9 (own_svb X5 (om 0 rfl))) (ow hw 137 rfl) (ow hw 138 rfl) (ow hw 6 rfl) (ow hw 139 rfl) (by decide) (lenOf pd__28_5bBB_29V rfl) rfl rfl rfl (W := 1) rfl (by decide) (by decide) (by decide) (by decide) (allS (om 0 rfl) all0) rfl ?_
  intro T10 h10 v10 X10 K10 hQ10
  obtain rfl := hQ10
  show OGo _ _ _ _ T10 (mkF m 23 #[.val (.ref b), .val (.int 2), .val (.int 1)] [(.ref b1)])
  refine own_retA X10 d25_23 hret rfl rfl (by decide) (by decide) ?_
  exact ⟨b1, rfl⟩
theorem rf_sub323 (a0 : Array Value) (hw : OHw a0 Z) (hWd : OWorld Z a0) (O0 : Old Z n0 h0) (a : Addr) (x0 : Int32) (x1 : Int32) (x2 : Int32) (q0 : OStr Z h0 a [x0, x1, x2] h0.size) (q1 : ∀ c ∈ [x0, x1, x2], ¬ c < 0 ∧ ¬ (255 : Int32) < c) :
    OMet l Z own_EL n0 yN15 (Jvm.Cond.code yN15 jdk_42_method_92_code 5 (some (.object "java/lang/String")) :: wc) ({ frames := 4, cells := 2, slots := 5, locals := 86 } : Room) #[(.ref a), (.int 2), (.int 3)] h0 [] (fun vq hq => ∃ (r : Addr), vq = some (.ref r)) := by
  refine own_enter #[.val (.ref a), .val (.int 2), .val (.int 3), .unset, .unset] pn_java_lang_String_substring__II_Ljava_lang_String_ (fun _ => rfl) hWd.1 O0 all0 ?_
  intro p e s m below meth c T0 X0 hnm hret
  obtain ⟨t, kt, NN, vv, eE, eC, eV, eA, cod, bd, l4⟩ := q0.latin (fun c hc => (q1 c hc).2)
  obtain ⟨-, rfl, rfl, -⟩ := cod.resolve_right fun q => absurd q.1 (by decide)
  have eA2 : Arv Z h0 t kt .byte (3 : Int32) [(.int (StrChars.lo8 x0)), (.int (StrChars.lo8 x1)), (.int (StrChars.lo8 x2))] (.int 0) := eA
  refine og_aloadN X0 1 d18_0 rfl rfl rfl ?_
  refine own_strLen X0 4 d18_1 q0 (own_wL hw) (ow hw 5 rfl) hWd.2.1.1 hWd.2.1.2 (ow hw 76 rfl) (ow hw 46 rfl) (ow hw 48 rfl) (ow hw 47 rfl) rfl (W := 0) rfl (by decide) (by decide) (by decide) (by decide) rfl ?_
  intro T1 X2
  show OGo _ _ _ _ T1 (mkF m 4 #[.val (.ref a), .val (.int 2), .val (.int 3), .unset, .unset] [(.int 3)])
  refine og_istoreN X2 5 #[.val (.ref a), .val (.int 2), .val (.int 3), .val (.int 3), .unset] d18_4 rfl rfl ?_
  refine og_iloadN X2 6 d18_5 rfl rfl ?_
  refine og_iloadN X2 7 d18_6 rfl rfl ?_
  refine og_iloadN X2 8 d18_7 rfl rfl ?_
  refine own_stat X2 11 (argsL := [(.int 2), (.int 3), (.int 3)]) (rest := []) d18_8 (rm19 l Z n0 h0 [] a0 hw hWd X2.old (2 : Int32) (3 : Int32) (3 : Int32) (by decide) (by decide) (by decide) ) (ow hw 96 rfl) (ow hw 97 rfl) (ow hw 6 rfl) (ow hw 98 rfl) (by decide) (lenOf pd__28III_29V rfl) rfl rfl rfl (W := 0) rfl (by decide) (by decide) (by decide) (by decide) all0 rfl ?_
  intro T3 h3 v3 X3 K3 hQ3
  obtain rfl := hQ3
  show OGo _ _ _ _ T3 (mkF m 11 #[.val (.ref a), .val (.int 2), .val (.int 3), .val (.int 3), .unset] [])
  refine og_iloadN X3 12 d18_11 rfl rfl ?_
  refine og_ifY X3 22 d18_12 (XT.i0_ne_t (by decide)) (by decide) (by decide) ?_
  refine og_iloadN X3 23 d18_22 rfl rfl ?_
  refine og_iloadN X3 24 d18_23 rfl rfl ?_
  refine og_isub X3 25 d18_24 rfl ?_
  show OGo _ _ _ _ T3 (mkF m 25 #[.val (.ref a), .val (.int 2), .val (.int 3), .val (.int 3), .unset] [(.int 1)])
  refine og_istore X3 27 #[.val (.ref a), .val (.int 2), .val (.int 3), .val (.int 3), .val (.int 1)] d18_25 rfl rfl ?_
  refine og_aloadN X3 28 d18_27 rfl rfl rfl ?_
  have f4 := eE.keep K3
  have f5 := eC.keep K3 nin0
  refine own_virt X3 31 (a := a) (argsL := []) (rest := []) d18_28 f4 (fun _ hZ => notFace_of_selects (args := #[]) (mvT hZ (ow hw 74 rfl))) (rm13 l Z n0 h3 [] a0 hw hWd X3.old a f5 ) (ow hw 71 rfl) (ow hw 72 rfl) (ow hw 74 rfl) (ow hw 73 rfl) (ow hw 6 rfl) (ow hw 75 rfl) (by decide) (lenOf pd__28_29Z rfl) rfl rfl rfl (W := 0) rfl (by decide) (by decide) (by decide) (by decide) all0 rfl ?_
  intro T6 h6 v6 X6 K6 hQ6
  obtain rfl := hQ6
  show OGo _ _ _ _ T6 (mkF m 31 #[.val (.ref a), .val (.int 2), .val (.int 3), .val (.int 3), .val (.int 1)] [(.int 1)])
  refine og_ifN X6 34 d18_31 (XT.i0_eq_f (by decide)) rfl ?_
  refine og_aloadN X6 35 d18_34 rfl rfl rfl ?_
  have f7 := eV.keep K3 nin0
  have f8 := f7.keep K6 nin0
  refine own_get X6 38 d18_35 (host := "") (Or.inl (ow hw 24 rfl)) Via.refl f8 rfl ?_
  intro T9 X10
  refine og_iloadN X10 39 d18_38 rfl rfl ?_
  refine og_iload X10 41 d18_39 rfl rfl ?_
  have f11 := eA2.keep K3 nin0
  have f12 := f11.keep K6 nin0
  refine own_stat X10 44 (argsL := [(.ref t), (.int 2), (.int 1)]) (rest := []) d18_41 (rf_ns323 l Z n0 h6 [] a0 hw hWd X10.old t kt (.int (StrChars.lo8 x0)) (.int (StrChars.lo8 x1)) (.int (StrChars.lo8 x2)) f12 ) (ow hw 117 rfl) (ow hw 118 rfl) (ow hw 79 rfl) (ow hw 119 rfl) (by decide) (lenOf pd__28_5bBII_29Ljava_2flang_2fString_3b rfl) rfl rfl rfl (W := 0) rfl (by decide) (by decide) (by decide) (by decide) all0 rfl ?_
  intro T13 h13 v13 X13 K13 hQ13
  obtain ⟨r13, rfl⟩ := hQ13
  show OGo _ _ _ _ T13 (mkF m 44 #[.val (.ref a), .val (.int 2), .val (.int 3), .val (.int 3), .val (.int 1)] [(.ref r13)])
  refine og_goto X13 57 d18_44 (by decide) (by decide) ?_
  refine own_retA X13 d18_57 hret rfl rfl (by decide) (by decide) ?_
  exact ⟨r13, rfl⟩
theorem rf_txt323 (a0 : Array Value) (hw : OHw a0 Z) (hWd : OWorld Z a0) (O0 : Old Z n0 h0) (a : Addr) (u : Addr) (x0 : Int32) (x1 : Int32) (x2 : Int32) (q0 : Exa Z h0 a "com/example/ratable/ratable/core/JournalSums$Fields") (q1 : Fld Z h0 a "com/example/ratable/ratable/core/JournalSums$Fields" "line" "Ljava/lang/String;" (.ref u)) (q2 : Fld Z h0 a "com/example/ratable/ratable/core/JournalSums$Fields" "next" "I" (.int 2)) (q3 : OStr Z h0 u [x0, x1, x2] h0.size) (q4 : ∀ c ∈ [x0, x1, x2], ¬ c < 0 ∧ ¬ (255 : Int32) < c) (q5 : ¬ x2 = (9 : Int32)) (g0 : n0 ≤ a ∧ a < h0.size) :
    OMet l Z own_EL n0 yN16 (Jvm.Cond.code yN16 prog_51_method_3_code 3 (some (.object "java/lang/String")) :: wc) ({ frames := 5, cells := 2, slots := 5, locals := 102 } : Room) #[(.ref a)] h0 [a] (fun vq hq => ∃ (r : Addr), vq = some (.ref r) ∧ Fld Z hq a "com/example/ratable/ratable/core/JournalSums$Fields" "line" "Ljava/lang/String;" (.ref u) ∧ Fld Z hq a "com/example/ratable/ratable/core/JournalSums$Fields" "next" "I" (.int 4)) := by
  refine own_enter #[.val (.ref a), .unset, .unset] pn_com_example_ratable_ratable_core_JournalSums_Fields_text___Ljava_lang_String_ (fun _ => rfl) hWd.1 O0 (allS g0 all0) ?_
  intro p e s m below meth c T0 X0 hnm hret
  refine og_aloadN X0 1 d10_0 rfl rfl rfl ?_
  refine own_priv X0 4 (a := a) (argsL := []) (rest := []) d10_1 q0 (rf_end323 l Z n0 h0 [] a0 hw hWd X0.old a u x0 x1 x2 q0 q1 q2 q3.top q4 q5 ) (ow hw 61 rfl) (ow hw 62 rfl) (own_selfsel2 (ow hw 41 rfl) rfl (ow hw 62 rfl) (ow hw 63 rfl) (by decide)) (ow hw 63 rfl) (ow hw 31 rfl) (ow hw 64 rfl) (by decide) (lenOf pd__28_29I rfl) rfl rfl rfl (W := 0) rfl (by decide) (by decide) (by decide) (by decide) all0 rfl ?_
  intro T1 h1 v1 X1 K1 hQ1
  obtain rfl := hQ1
  show OGo _ _ _ _ T1 (mkF m 4 #[.val (.ref a), .unset, .unset] [(.int 3)])
  refine og_istoreN X1 5 #[.val (.ref a), .val (.int 3), .unset] d10_4 rfl rfl ?_
  refine og_aloadN X1 6 d10_5 rfl rfl rfl ?_
  have f2 := q1.keep K1 nin0
  refine own_get X1 9 d10_6 (host := "") (Or.inl (ow hw 36 rfl)) Via.refl f2 rfl ?_
  intro T3 X4
  refine og_aloadN X4 10 d10_9 rfl rfl rfl ?_
  have f5 := q2.keep K1 nin0
  refine own_get X4 13 d10_10 (host := "") (Or.inl (ow hw 43 rfl)) Via.refl f5 rfl ?_
  intro T6 X7
  refine og_iloadN X7 14 d10_13 rfl rfl ?_
  have f8 := q3.exa.keep K1
  have f9 := q3.keep K1 all0
  refine own_virt X7 17 (a := u) (argsL := [(.int 2), (.int 3)]) (rest := []) d10_14 f8 (fun _ hZ => notFace_of_selects (args := #[]) (mvT hZ (ow hw 94 rfl))) (rf_sub323 l Z n0 h1 [] a0 hw hWd X7.old u x0 x1 x2 f9.top q4 ) (ow hw 91 rfl) (ow hw 92 rfl) (ow hw 94 rfl) (ow hw 93 rfl) (ow hw 6 rfl) (ow hw 95 rfl) (by decide) (lenOf pd__28II_29Ljava_2flang_2fString_3b rfl) rfl rfl rfl (W := 0) rfl (by decide) (by decide) (by decide) (by decide) all0 rfl ?_
  intro T10 h10 v10 X10 K10 hQ10
  obtain ⟨r10, rfl⟩ := hQ10
  show OGo _ _ _ _ T10 (mkF m 17 #[.val (.ref a), .val (.int 3), .unset] [(.ref r10)])
  refine og_astoreN X10 18 #[.val (.ref a), .val (.int 3), .val (.ref r10)] d10_17 rfl rfl rfl ?_
  refine og_aloadN X10 19 d10_18 rfl rfl rfl ?_
  refine og_iloadN X10 20 d10_19 rfl rfl ?_
  refine og_iconst X10 21 (1 : Int32) d10_20 rfl rfl ?_
  refine og_iadd X10 22 d10_21 rfl ?_
  show OGo _ _ _ _ T10 (mkF m 22 #[.val (.ref a), .val (.int 3), .val (.ref r10)] [(.int 4), (.ref a)])
  have f11 := f5.keep K10 nin0
  have f12 := q0.keep K1
  have f13 := f12.keep K10
  have f14 := f2.keep K10 nin0
  refine own_put X10 25 d10_22 (host := "") (Or.inl (ow hw 43 rfl)) Via.refl f11 f13 (Or.inl (ow hw 44 rfl)) (ow hw 30 rfl) (ty := .int) (by decide) rfl rfl (om 0 rfl) rfl ?_
  intro T15 h15 X15 W15 K15 F15
  have f16 := Fld.other W15 f14 (Or.inr (slot_ne (Or.inr (ow hw 37 rfl)) (Or.inl (ow hw 44 rfl)) (by decide) (t := (.object "java/lang/String")) (t' := .int) (by decide) (by decide)))
  refine og_aloadN X15 26 d10_25 rfl rfl rfl ?_
  refine own_retA X15 d10_26 hret rfl rfl (by decide) (by decide) ?_
  exact ⟨r10, rfl, f16, F15⟩
theorem rf_iol33 (a0 : Array Value) (hw : OHw a0 Z) (hWd : OWorld Z a0) (O0 : Old Z n0 h0) (b : Addr) (kb : ClassId) (x0 : Int32) (x1 : Int32) (x2 : Int32) (q0 : Arv Z h0 b kb .byte (3 : Int32) [(.int (StrChars.lo8 x0)), (.int (StrChars.lo8 x1)), (.int (StrChars.lo8 x2))] (.int 0)) (q1 : ∀ c ∈ [x0, x1, x2], ¬ c < 0 ∧ ¬ (255 : Int32) < c) :
    OMet l Z own_EL n0 yN12 (Jvm.Cond.code yN12 jdk_43_method_22_code 4 (some .int) :: wc) ({ frames := 1, cells := 0, slots := 0, locals := 13 } : Room) #[(.ref b), (.int 9), (.int 3), (.int 3)] h0 [] (fun vq hq => vq = some (.int (-1 : Int32))) := by
  refine own_enter #[.val (.ref b), .val (.int 9), .val (.int 3), .val (.int 3)] pn_java_lang_StringLatin1_indexOf___BIII_I (fun _ => rfl) hWd.1 O0 all0 ?_
  intro p e s m below meth c T0 X0 hnm hret
  refine og_iloadN X0 1 d14_0 rfl rfl ?_
  refine own_stat X0 4 (argsL := [(.int 9)]) (rest := []) d14_1 (rm15 l Z n0 h0 [] a0 hw hWd X0.old   ) (ow hw 81 rfl) (ow hw 82 rfl) (ow hw 79 rfl) (ow hw 83 rfl) (by decide) (lenOf pd__28I_29Z rfl) rfl rfl rfl (W := 0) rfl (by decide) (by decide) (by decide) (by decide) all0 rfl ?_
  intro T1 h1 v1 X1 K1 hQ1
  obtain rfl := hQ1
  show OGo _ _ _ _ T1 (mkF m 4 #[.val (.ref b), .val (.int 9), .val (.int 3), .val (.int 3)] [(.int 1)])
  refine og_ifY X1 9 d14_4 (XT.i0_ne_t (by decide)) (by decide) (by decide) ?_
  refine og_iloadN X1 10 d14_9 rfl rfl ?_
  refine og_iconst X1 11 (0 : Int32) d14_10 rfl rfl ?_
  refine own_stat X1 14 (argsL := [(.int 3), (.int 0)]) (rest := []) d14_11 (rm16 l Z n0 h1 [] a0 hw hWd X1.old (3 : Int32) (0 : Int32) (by decide) ) (ow hw 84 rfl) (ow hw 85 rfl) (ow hw 86 rfl) (ow hw 87 rfl) (by decide) (lenOf pd__28II_29I rfl) rfl rfl rfl (W := 0) rfl (by decide) (by decide) (by decide) (by decide) all0 rfl ?_
  intro T2 h2 v2 X2 K2 hQ2
  obtain rfl := hQ2
  show OGo _ _ _ _ T2 (mkF m 14 #[.val (.ref b), .val (.int 9), .val (.int 3), .val (.int 3)] [(.int 3)])
  refine og_istoreN X2 15 #[.val (.ref b), .val (.int 9), .val (.int 3), .val (.int 3)] d14_14 rfl rfl ?_
  refine og_iloadN X2 16 d14_15 rfl rfl ?_
  refine og_aloadN X2 17 d14_16 rfl rfl rfl ?_
  have f3 := q0.keep K1 nin0
  have f4 := f3.keep K2 nin0
  refine own_len X2 18 d14_17 f4 rfl ?_
  refine own_stat X2 21 (argsL := [(.int 3), (.int 3)]) (rest := []) d14_18 (rm_min0 l Z n0 h2 [] a0 hw hWd X2.old (3 : Int32) (3 : Int32) (by decide) ) (ow hw 88 rfl) (ow hw 89 rfl) (ow hw 86 rfl) (ow hw 90 rfl) (by decide) (lenOf pd__28II_29I rfl) rfl rfl rfl (W := 0) rfl (by decide) (by decide) (by decide) (by decide) all0 rfl ?_
  intro T5 h5 v5 X5 K5 hQ5
  obtain rfl := hQ5
  show OGo _ _ _ _ T5 (mkF m 21 #[.val (.ref b), .val (.int 9), .val (.int 3), .val (.int 3)] [(.int 3)])
  refine og_istoreN X5 22 #[.val (.ref b), .val (.int 9), .val (.int 3), .val (.int 3)] d14_21 rfl rfl ?_
  refine og_iloadN X5 23 d14_22 rfl rfl ?_
  refine og_iloadN X5 24 d14_23 rfl rfl ?_
  refine og_icmpN X5 27 d14_24 (XT.ii_lt_f (by decide)) rfl ?_
  refine og_iconst X5 28 (-1 : Int32) d14_27 rfl rfl ?_
  refine own_retI X5 d14_28 hret (by decide) (by decide) ?_
  exact rfl
theorem rf_ios33 (a0 : Array Value) (hw : OHw a0 Z) (hWd : OWorld Z a0) (O0 : Old Z n0 h0) (a : Addr) (x0 : Int32) (x1 : Int32) (x2 : Int32) (q0 : OStr Z h0 a [x0, x1, x2] h0.size) (q1 : ∀ c ∈ [x0, x1, x2], ¬ c < 0 ∧ ¬ (255 : Int32) < c) :
    OMet l Z own_EL n0 yN13 (Jvm.Cond.code yN13 jdk_42_method_80_code 3 (some .int) :: wc) ({ frames := 2, cells := 0, slots := 0, locals := 28 } : Room) #[(.ref a), (.int 9), (.int 3)] h0 [] (fun vq hq => vq = some (.int (-1 : Int32))) := by
  refine own_enter #[.val (.ref a), .val (.int 9), .val (.int 3)] pn_java_lang_String_indexOf__II_I (fun _ => rfl) hWd.1 O0 all0 ?_
  intro p e s m below meth c T0 X0 hnm hret
  obtain ⟨t, kt, NN, vv, eE, eC, eV, eA, cod, bd, l4⟩ := q0.latin (fun c hc => (q1 c hc).2)
  obtain ⟨-, rfl, rfl, -⟩ := cod.resolve_right fun q => absurd q.1 (by decide)
  have eA2 : Arv Z h0 t kt .byte (3 : Int32) [(.int (StrChars.lo8 x0)), (.int (StrChars.lo8 x1)), (.int (StrChars.lo8 x2))] (.int 0) := eA
  refine og_aloadN X0 1 d12_0 rfl rfl rfl ?_
  refine own_virt X0 4 (a := a) (argsL := []) (rest := []) d12_1 eE (fun _ hZ => notFace_of_selects (args := #[]) (mvT hZ (ow hw 74 rfl))) (rm13 l Z n0 h0 [] a0 hw hWd X0.old a eC ) (ow hw 71 rfl) (ow hw 72 rfl) (ow hw 74 rfl) (ow hw 73 rfl) (ow hw 6 rfl) (ow hw 75 rfl) (by decide) (lenOf pd__28_29Z rfl) rfl rfl rfl (W := 0) rfl (by decide) (by decide) (by decide) (by decide) all0 rfl ?_
  intro T1 h1 v1 X1 K1 hQ1
  obtain rfl := hQ1
  show OGo _ _ _ _ T1 (mkF m 4 #[.val (.ref a), .val (.int 9), .val (.int 3)] [(.int 1)])
  refine og_ifN X1 7 d12_4 (XT.i0_eq_f (by decide)) rfl ?_
  refine og_aloadN X1 8 d12_7 rfl rfl rfl ?_
  have f2 := eV.keep K1 nin0
  refine own_get X1 11 d12_8 (host := "") (Or.inl (ow hw 24 rfl)) Via.refl f2 rfl ?_
  intro T3 X4
  refine og_iloadN X4 12 d12_11 rfl rfl ?_
  refine og_iloadN X4 13 d12_12 rfl rfl ?_
  refine og_aloadN X4 14 d12_13 rfl rfl rfl ?_
  have f5 := q0.keep K1 all0
  refine own_strLen X4 17 d12_14 f5 (own_wL hw) (ow hw 5 rfl) hWd.2.1.1 hWd.2.1.2 (ow hw 76 rfl) (ow hw 46 rfl) (ow hw 48 rfl) (ow hw 47 rfl) rfl (W := 3) rfl (by decide) (by decide) (by decide) (by decide) rfl ?_
  intro T6 X7
  show OGo _ _ _ _ T6 (mkF m 17 #[.val (.ref a), .val (.int 9), .val (.int 3)] [(.int 3), (.int 3), (.int 9), (.ref t)])
  have f8 := eA2.keep K1 nin0
  refine own_stat X7 20 (argsL := [(.ref t), (.int 9), (.int 3), (.int 3)]) (rest := []) d12_17 (rf_iol33 l Z n0 h1 [] a0 hw hWd X7.old t kt x0 x1 x2 f8 q1 ) (ow hw 77 rfl) (ow hw 78 rfl) (ow hw 79 rfl) (ow hw 80 rfl) (by decide) (lenOf pd__28_5bBIII_29I rfl) rfl rfl rfl (W := 0) rfl (by decide) (by decide) (by decide) (by decide) all0 rfl ?_
  intro T9 h9 v9 X9 K9 hQ9
  obtain rfl := hQ9
  show OGo _ _ _ _ T9 (mkF m 20 #[.val (.ref a), .val (.int 9), .val (.int 3)] [(.int (-1 : Int32))])
  refine og_goto X9 36 d12_20 (by decide) (by decide) ?_
  refine own_retI X9 d12_36 hret (by decide) (by decide) ?_
  exact rfl
theorem rf_end333 (a0 : Array Value) (hw : OHw a0 Z) (hWd : OWorld Z a0) (O0 : Old Z n0 h0) (a : Addr) (u : Addr) (x0 : Int32) (x1 : Int32) (x2 : Int32) (q0 : Exa Z h0 a "com/example/ratable/ratable/core/JournalSums$Fields") (q1 : Fld Z h0 a "com/example/ratable/ratable/core/JournalSums$Fields" "line" "Ljava/lang/String;" (.ref u)) (q2 : Fld Z h0 a "com/example/ratable/ratable/core/JournalSums$Fields" "next" "I" (.int 3)) (q3 : OStr Z h0 u [x0, x1, x2] h0.size) (q4 : ∀ c ∈ [x0, x1, x2], ¬ c < 0 ∧ ¬ (255 : Int32) < c) :
    OMet l Z own_EL n0 yN14 (Jvm.Cond.code yN14 prog_51_method_8_code 2 (some .int) :: wc) ({ frames := 3, cells := 0, slots := 0, locals := 42 } : Room) #[(.ref a)] h0 [] (fun vq hq => vq = some (.int 3)) := by
  refine own_enter #[.val (.ref a), .unset] pn_com_example_ratable_ratable_core_JournalSums_Fields_end___I (fun _ => rfl) hWd.1 O0 all0 ?_
  intro p e s m below meth c T0 X0 hnm hret
  refine og_aloadN X0 1 d11_0 rfl rfl rfl ?_
  refine own_virt X0 4 (a := a) (argsL := []) (rest := []) d11_1 q0 (fun _ hZ => notFace_of_selects (args := #[]) (mvT hZ (ow hw 41 rfl))) (rm_more1 l Z n0 h0 [] a0 hw hWd X0.old a u [x0, x1, x2] (3 : Int32) q1 q2 q3.top (show ¬ (3 : Int32) < (3 : Int32) by decide) ) (ow hw 65 rfl) (ow hw 39 rfl) (ow hw 41 rfl) (ow hw 40 rfl) (ow hw 31 rfl) (ow hw 42 rfl) (by decide) (lenOf pd__28_29Z rfl) rfl rfl rfl (W := 0) rfl (by decide) (by decide) (by decide) (by decide) all0 rfl ?_
  intro T1 h1 v1 X1 K1 hQ1
  obtain rfl := hQ1
  show OGo _ _ _ _ T1 (mkF m 4 #[.val (.ref a), .unset] [(.int 1)])
  refine og_ifY X1 37 d11_4 (XT.i0_ne_t (by decide)) (by decide) (by decide) ?_
  refine og_aloadN X1 38 d11_37 rfl rfl rfl ?_
  have f2 := q1.keep K1 nin0
  refine own_get X1 41 d11_38 (host := "") (Or.inl (ow hw 36 rfl)) Via.refl f2 rfl ?_
  intro T3 X4
  refine og_bipush X4 43 (9 : Int32) d11_41 rfl rfl ?_
  refine og_aloadN X4 44 d11_43 rfl rfl rfl ?_
  have f5 := q2.keep K1 nin0
  refine own_get X4 47 d11_44 (host := "") (Or.inl (ow hw 43 rfl)) Via.refl f5 rfl ?_
  intro T6 X7
  have f8 := q3.exa.keep K1
  have f9 := q3.keep K1 all0
  refine own_virt X7 50 (a := u) (argsL := [(.int 9), (.int 3)]) (rest := []) d11_47 f8 (fun _ hZ => notFace_of_selects (args := #[]) (mvT hZ (ow hw 69 rfl))) (rf_ios33 l Z n0 h1 [] a0 hw hWd X7.old u x0 x1 x2 f9.top q4 ) (ow hw 66 rfl) (ow hw 67 rfl) (ow hw 69 rfl) (ow hw 68 rfl) (ow hw 6 rfl) (ow hw 70 rfl) (by decide) (lenOf pd__28II_29I rfl) rfl rfl rfl (W := 0) rfl (by decide) (by decide) (by decide) (by decide) all0 rfl ?_
  intro T10 h10 v10 X10 K10 hQ10
  obtain rfl := hQ10
  show OGo _ _ _ _ T10 (mkF m 50 #[.val (.ref a), .unset] [(.int (-1 : Int32))])
  refine og_istoreN X10 51 #[.val (.ref a), .val (.int (-1 : Int32))] d11_50 rfl rfl ?_
  refine og_iloadN X10 52 d11_51 rfl rfl ?_
  refine og_ifN X10 55 d11_52 (XT.i0_ge_f (by decide)) rfl ?_
  refine og_aloadN X10 56 d11_55 rfl rfl rfl ?_
  have f11 := f2.keep K10 nin0
  refine own_get X10 59 d11_56 (host := "") (Or.inl (ow hw 36 rfl)) Via.refl f11 rfl ?_
  intro T12 X13
  have f14 := f9.keep K10 all0
  refine own_strLen X13 62 d11_59 f14 (own_wL hw) (ow hw 5 rfl) hWd.2.1.1 hWd.2.1.2 (ow hw 45 rfl) (ow hw 46 rfl) (ow hw 48 rfl) (ow hw 47 rfl) rfl (W := 0) rfl (by decide) (by decide) (by decide) (by decide) rfl ?_
  intro T15 X16
  show OGo _ _ _ _ T15 (mkF m 62 #[.val (.ref a), .val (.int (-1 : Int32))] [(.int 3)])
  refine og_goto X16 66 d11_62 (by decide) (by decide) ?_
  refine own_retI X16 d11_66 hret (by decide) (by decide) ?_
  exact rfl
theorem rf_ns333 (a0 : Array Value) (hw : OHw a0 Z) (hWd : OWorld Z a0) (O0 : Old Z n0 h0) (b : Addr) (kb : ClassId) (e0 : Value) (e1 : Value) (e2 : Value) (q0 : Arv Z h0 b kb .byte (3 : Int32) [e0, e1, e2] (.int 0)) :
    OMet l Z own_EL n0 yN18 (Jvm.Cond.code yN18 jdk_43_method_47_code 3 (some (.object "java/lang/String")) :: wc) ({ frames := 0, cells := 2, slots := 4, locals := 0 } : Room) #[(.ref b), (.int 3), (.int 0)] h0 [] (fun vq hq => ∃ (r : Addr), vq = some (.ref r)) := by
  refine own_enter #[.val (.ref b), .val (.int 3), .val (.int 0)] pn_java_lang_StringLatin1_newString___BII_Ljava_lang_String_ (fun _ => rfl) hWd.1 O0 all0 ?_
  intro p e s m below meth c T0 X0 hnm hret
  refine og_iloadN X0 1 d25_0 rfl rfl ?_
  refine og_ifN X0 4 d25_1 (XT.i0_ne_f (by decide)) rfl ?_
  refine own_ldcO X0 6 (cap := 0) d25_4 own_ELne (ow hw 120 rfl) (own_wS hw) (by decide) (by decide) (by decide) (by decide) rfl ?_
  intro T1 h1 a1 X1 K1
  refine own_retA X1 d25_6 hret rfl rfl (by decide) (by decide) ?_
  exact ⟨a1, rfl⟩
theorem rf_sub333 (a0 : Array Value) (hw : OHw a0 Z) (hWd : OWorld Z a0) (O0 : Old Z n0 h0) (a : Addr) (x0 : Int32) (x1 : Int32) (x2 : Int32) (q0 : OStr Z h0 a [x0, x1, x2] h0.size) (q1 : ∀ c ∈ [x0, x1, x2], ¬ c < 0 ∧ ¬ (255 : Int32) < c) :
    OMet l Z own_EL n0 yN15 (Jvm.Cond.code yN15 jdk_42_method_92_code 5 (some (.object "java/lang/String")) :: wc) ({ frames := 2, cells := 2, slots := 4, locals := 29 } : Room) #[(.ref a), (.int 3), (.int 3)] h0 [] (fun vq hq => ∃ (r : Addr), vq = some (.ref r)) := by
  refine own_enter #[.val (.ref a), .val (.int 3), .val (.int 3), .unset, .unset] pn_java_lang_String_substring__II_Ljava_lang_String_ (fun _ => rfl) hWd.1 O0 all0 ?_
  intro p e s m below meth c T0 X0 hnm hret
  obtain ⟨t, kt, NN, vv, eE, eC, eV, eA, cod, bd, l4⟩ := q0.latin (fun c hc => (q1 c hc).2)
  obtain ⟨-, rfl, rfl, -⟩ := cod.resolve_right fun q => absurd q.1 (by decide)
  have eA2 : Arv Z h0 t kt .byte (3 : Int32) [(.int (StrChars.lo8 x0)), (.int (StrChars.lo8 x1)), (.int (StrChars.lo8 x2))] (.int 0) := eA
  refine og_aloadN X0 1 d18_0 rfl rfl rfl ?_
  refine own_strLen X0 4 d18_1 q0 (own_wL hw) (ow hw 5 rfl) hWd.2.1.1 hWd.2.1.2 (ow hw 76 rfl) (ow hw 46 rfl) (ow hw 48 rfl) (ow hw 47 rfl) rfl (W := 0) rfl (by decide) (by decide) (by decide) (by decide) rfl ?_
  intro T1 X2
  show OGo _ _ _ _ T1 (mkF m 4 #[.val (.ref a), .val (.int 3), .val (.int 3), .unset, .unset] [(.int 3)])
  refine og_istoreN X2 5 #[.val (.ref a), .val (.int 3), .val (.int 3), .val (.int 3), .unset] d18_4 rfl rfl ?_
  refine og_iloadN X2 6 d18_5 rfl rfl ?_
  refine og_iloadN X2 7 d18_6 rfl rfl ?_
  refine og_iloadN X2 8 d18_7 rfl rfl ?_
  refine own_stat X2 11 (argsL := [(.int 3), (.int 3), (.int 3)]) (rest := []) d18_8 (rm19 l Z n0 h0 [] a0 hw hWd X2.old (3 : Int32) (3 : Int32) (3 : Int32) (by decide) (by decide) (by decide) ) (ow hw 96 rfl) (ow hw 97 rfl) (ow hw 6 rfl) (ow hw 98 rfl) (by decide) (lenOf pd__28III_29V rfl) rfl rfl rfl (W := 0) rfl (by decide) (by decide) (by decide) (by decide) all0 rfl ?_
  intro T3 h3 v3 X3 K3 hQ3
  obtain rfl := hQ3
  show OGo _ _ _ _ T3 (mkF m 11 #[.val (.ref a), .val (.int 3), .val (.int 3), .val (.int 3), .unset] [])
  refine og_iloadN X3 12 d18_11 rfl rfl ?_
  refine og_ifY X3 22 d18_12 (XT.i0_ne_t (by decide)) (by decide) (by decide) ?_
  refine og_iloadN X3 23 d18_22 rfl rfl ?_
  refine og_iloadN X3 24 d18_23 rfl rfl ?_
  refine og_isub X3 25 d18_24 rfl ?_
  show OGo _ _ _ _ T3 (mkF m 25 #[.val (.ref a), .val (.int 3), .val (.int 3), .val (.int 3), .unset] [(.int 0)])
  refine og_istore X3 27 #[.val (.ref a), .val (.int 3), .val (.int 3), .val (.int 3), .val (.int 0)] d18_25 rfl rfl ?_
  refine og_aloadN X3 28 d18_27 rfl rfl rfl ?_
  have f4 := eE.keep K3
  have f5 := eC.keep K3 nin0
  refine own_virt X3 31 (a := a) (argsL := []) (rest := []) d18_28 f4 (fun _ hZ => notFace_of_selects (args := #[]) (mvT hZ (ow hw 74 rfl))) (rm13 l Z n0 h3 [] a0 hw hWd X3.old a f5 ) (ow hw 71 rfl) (ow hw 72 rfl) (ow hw 74 rfl) (ow hw 73 rfl) (ow hw 6 rfl) (ow hw 75 rfl) (by decide) (lenOf pd__28_29Z rfl) rfl rfl rfl (W := 0) rfl (by decide) (by decide) (by decide) (by decide) all0 rfl ?_
  intro T6 h6 v6 X6 K6 hQ6
  obtain rfl := hQ6
  show OGo _ _ _ _ T6 (mkF m 31 #[.val (.ref a), .val (.int 3), .val (.int 3), .val (.int 3), .val (.int 0)] [(.int 1)])
  refine og_ifN X6 34 d18_31 (XT.i0_eq_f (by decide)) rfl ?_
  refine og_aloadN X6 35 d18_34 rfl rfl rfl ?_
  have f7 := eV.keep K3 nin0
  have f8 := f7.keep K6 nin0
  refine own_get X6 38 d18_35 (host := "") (Or.inl (ow hw 24 rfl)) Via.refl f8 rfl ?_
  intro T9 X10
  refine og_iloadN X10 39 d18_38 rfl rfl ?_
  refine og_iload X10 41 d18_39 rfl rfl ?_
  have f11 := eA2.keep K3 nin0
  have f12 := f11.keep K6 nin0
  refine own_stat X10 44 (argsL := [(.ref t), (.int 3), (.int 0)]) (rest := []) d18_41 (rf_ns333 l Z n0 h6 [] a0 hw hWd X10.old t kt (.int (StrChars.lo8 x0)) (.int (StrChars.lo8 x1)) (.int (StrChars.lo8 x2)) f12 ) (ow hw 117 rfl) (ow hw 118 rfl) (ow hw 79 rfl) (ow hw 119 rfl) (by decide) (lenOf pd__28_5bBII_29Ljava_2flang_2fString_3b rfl) rfl rfl rfl (W := 0) rfl (by decide) (by decide) (by decide) (by decide) all0 rfl ?_
  intro T13 h13 v13 X13 K13 hQ13
  obtain ⟨r13, rfl⟩ := hQ13
  show OGo _ _ _ _ T13 (mkF m 44 #[.val (.ref a), .val (.int 3), .val (.int 3), .val (.int 3), .val (.int 0)] [(.ref r13)])
  refine og_goto X13 57 d18_44 (by decide) (by decide) ?_
  refine own_retA X13 d18_57 hret rfl rfl (by decide) (by decide) ?_
  exact ⟨r13, rfl⟩
theorem rf_txt333 (a0 : Array Value) (hw : OHw a0 Z) (hWd : OWorld Z a0) (O0 : Old Z n0 h0) (a : Addr) (u : Addr) (x0 : Int32) (x1 : Int32) (x2 : Int32) (q0 : Exa Z h0 a "com/example/ratable/ratable/core/JournalSums$Fields") (q1 : Fld Z h0 a "com/example/ratable/ratable/core/JournalSums$Fields" "line" "Ljava/lang/String;" (.ref u)) (q2 : Fld Z h0 a "com/example/ratable/ratable/core/JournalSums$Fields" "next" "I" (.int 3)) (q3 : OStr Z h0 u [x0, x1, x2] h0.size) (q4 : ∀ c ∈ [x0, x1, x2], ¬ c < 0 ∧ ¬ (255 : Int32) < c) (g0 : n0 ≤ a ∧ a < h0.size) :
    OMet l Z own_EL n0 yN16 (Jvm.Cond.code yN16 prog_51_method_3_code 3 (some (.object "java/lang/String")) :: wc) ({ frames := 4, cells := 2, slots := 4, locals := 55 } : Room) #[(.ref a)] h0 [a] (fun vq hq => ∃ (r : Addr), vq = some (.ref r) ∧ Fld Z hq a "com/example/ratable/ratable/core/JournalSums$Fields" "line" "Ljava/lang/String;" (.ref u) ∧ Fld Z hq a "com/example/ratable/ratable/core/JournalSums$Fields" "next" "I" (.int 4)) := by
  refine own_enter #[.val (.ref a), .unset, .unset] pn_com_example_ratable_ratable_core_JournalSums_Fields_text___Ljava_lang_String_ (fun _ => rfl) hWd.1 O0 (allS g0 all0) ?_
  intro p e s m below meth c T0 X0 hnm hret
  refine og_aloadN X0 1 d10_0 rfl rfl rfl ?_
  refine own_priv X0 4 (a := a) (argsL := []) (rest := []) d10_1 q0 (rf_end333 l Z n0 h0 [] a0 hw hWd X0.old a u x0 x1 x2 q0 q1 q2 q3.top q4 ) (ow hw 61 rfl) (ow hw 62 rfl) (own_selfsel2 (ow hw 41 rfl) rfl (ow hw 62 rfl) (ow hw 63 rfl) (by decide)) (ow hw 63 rfl) (ow hw 31 rfl) (ow hw 64 rfl) (by decide) (lenOf pd__28_29I rfl) rfl rfl rfl (W := 0) rfl (by decide) (by decide) (by decide) (by decide) all0 rfl ?_
  intro T1 h1 v1 X1 K1 hQ1
  obtain rfl := hQ1
  show OGo _ _ _ _ T1 (mkF m 4 #[.val (.ref a), .unset, .unset] [(.int 3)])
  refine og_istoreN X1 5 #[.val (.ref a), .val (.int 3), .unset] d10_4 rfl rfl ?_
  refine og_aloadN X1 6 d10_5 rfl rfl rfl ?_
  have f2 := q1.keep K1 nin0
  refine own_get X1 9 d10_6 (host := "") (Or.inl (ow hw 36 rfl)) Via.refl f2 rfl ?_
  intro T3 X4
  refine og_aloadN X4 10 d10_9 rfl rfl rfl ?_
  have f5 := q2.keep K1 nin0
  refine own_get X4 13 d10_10 (host := "") (Or.inl (ow hw 43 rfl)) Via.refl f5 rfl ?_
  intro T6 X7
  refine og_iloadN X7 14 d10_13 rfl rfl ?_
  have f8 := q3.exa.keep K1
  have f9 := q3.keep K1 all0
  refine own_virt X7 17 (a := u) (argsL := [(.int 3), (.int 3)]) (rest := []) d10_14 f8 (fun _ hZ => notFace_of_selects (args := #[]) (mvT hZ (ow hw 94 rfl))) (rf_sub333 l Z n0 h1 [] a0 hw hWd X7.old u x0 x1 x2 f9.top q4 ) (ow hw 91 rfl) (ow hw 92 rfl) (ow hw 94 rfl) (ow hw 93 rfl) (ow hw 6 rfl) (ow hw 95 rfl) (by decide) (lenOf pd__28II_29Ljava_2flang_2fString_3b rfl) rfl rfl rfl (W := 0) rfl (by decide) (by decide) (by decide) (by decide) all0 rfl ?_
  intro T10 h10 v10 X10 K10 hQ10
  obtain ⟨r10, rfl⟩ := hQ10
  show OGo _ _ _ _ T10 (mkF m 17 #[.val (.ref a), .val (.int 3), .unset] [(.ref r10)])
  refine og_astoreN X10 18 #[.val (.ref a), .val (.int 3), .val (.ref r10)] d10_17 rfl rfl rfl ?_
  refine og_aloadN X10 19 d10_18 rfl rfl rfl ?_
  refine og_iloadN X10 20 d10_19 rfl rfl ?_
  refine og_iconst X10 21 (1 : Int32) d10_20 rfl rfl ?_
  refine og_iadd X10 22 d10_21 rfl ?_
  show OGo _ _ _ _ T10 (mkF m 22 #[.val (.ref a), .val (.int 3), .val (.ref r10)] [(.int 4), (.ref a)])
  have f11 := f5.keep K10 nin0
  have f12 := q0.keep K1
  have f13 := f12.keep K10
  have f14 := f2.keep K10 nin0
  refine own_put X10 25 d10_22 (host := "") (Or.inl (ow hw 43 rfl)) Via.refl f11 f13 (Or.inl (ow hw 44 rfl)) (ow hw 30 rfl) (ty := .int) (by decide) rfl rfl (om 0 rfl) rfl ?_
  intro T15 h15 X15 W15 K15 F15
  have f16 := Fld.other W15 f14 (Or.inr (slot_ne (Or.inr (ow hw 37 rfl)) (Or.inl (ow hw 44 rfl)) (by decide) (t := (.object "java/lang/String")) (t' := .int) (by decide) (by decide)))
  refine og_aloadN X15 26 d10_25 rfl rfl rfl ?_
  refine own_retA X15 d10_26 hret rfl rfl (by decide) (by decide) ?_
  exact ⟨r10, rfl, f16, F15⟩
theorem rm_tab0 (a0 : Array Value) (hw : OHw a0 Z) (hWd : OWorld Z a0) (O0 : Old Z n0 h0) (x : Int32)  :
    OMet l Z own_EL n0 yN21 (Jvm.Cond.code yN21 method_3_code 2 (some .int) :: wc) ({ frames := 0, cells := 0, slots := 0, locals := 0 } : Room) #[(.int 0), (.int x)] h0 [] (fun vq hq => vq = some (.int 0)) := by
  refine own_enter #[.val (.int 0), .val (.int x)] pn_com_example_ratable_ratable_core_FieldsMorePinLaw_tab__ZC_I (fun _ => rfl) hWd.1 O0 all0 ?_
  intro p e s m below meth c T0 X0 hnm hret
  refine og_iloadN X0 1 d5_0 rfl rfl ?_
  refine og_ifY X0 14 d5_1 (XT.i0_eq_t (by decide)) (by decide) (by decide) ?_
  refine og_iconst X0 15 (0 : Int32) d5_14 rfl rfl ?_
  refine own_retI X0 d5_15 hret (by decide) (by decide) ?_
  exact rfl
theorem rm_tab1 (a0 : Array Value) (hw : OHw a0 Z) (hWd : OWorld Z a0) (O0 : Old Z n0 h0) (x : Int32) (q0 : x = (9 : Int32)) :
    OMet l Z own_EL n0 yN21 (Jvm.Cond.code yN21 method_3_code 2 (some .int) :: wc) ({ frames := 0, cells := 0, slots := 0, locals := 0 } : Room) #[(.int 1), (.int x)] h0 [] (fun vq hq => vq = some (.int 1)) := by
  refine own_enter #[.val (.int 1), .val (.int x)] pn_com_example_ratable_ratable_core_FieldsMorePinLaw_tab__ZC_I (fun _ => rfl) hWd.1 O0 all0 ?_
  intro p e s m below meth c T0 X0 hnm hret
  refine og_iloadN X0 1 d5_0 rfl rfl ?_
  refine og_ifN X0 4 d5_1 (XT.i0_eq_f (by decide)) rfl ?_
  refine og_iloadN X0 5 d5_4 rfl rfl ?_
  refine og_bipush X0 7 (9 : Int32) d5_5 rfl rfl ?_
  refine og_icmpN X0 10 d5_7 (XT.ii_ne_f q0) rfl ?_
  refine og_iconst X0 11 (1 : Int32) d5_10 rfl rfl ?_
  refine og_goto X0 15 d5_11 (by decide) (by decide) ?_
  refine own_retI X0 d5_15 hret (by decide) (by decide) ?_
  exact rfl
theorem rm_tab2 (a0 : Array Value) (hw : OHw a0 Z) (hWd : OWorld Z a0) (O0 : Old Z n0 h0) (x : Int32) (q0 : ¬ x = (9 : Int32)) :
    OMet l Z own_EL n0 yN21 (Jvm.Cond.code yN21 method_3_code 2 (some .int) :: wc) ({ frames := 0, cells := 0, slots := 0, locals := 0 } : Room) #[(.int 1), (.int x)] h0 [] (fun vq hq => vq = some (.int 0)) := by
  refine own_enter #[.val (.int 1), .val (.int x)] pn_com_example_ratable_ratable_core_FieldsMorePinLaw_tab__ZC_I (fun _ => rfl) hWd.1 O0 all0 ?_
  intro p e s m below meth c T0 X0 hnm hret
  refine og_iloadN X0 1 d5_0 rfl rfl ?_
  refine og_ifN X0 4 d5_1 (XT.i0_eq_f (by decide)) rfl ?_
  refine og_iloadN X0 5 d5_4 rfl rfl ?_
  refine og_bipush X0 7 (9 : Int32) d5_5 rfl rfl ?_
  refine og_icmpY X0 14 d5_7 (XT.ii_ne_t q0) (by decide) (by decide) ?_
  refine og_iconst X0 15 (0 : Int32) d5_14 rfl rfl ?_
  refine own_retI X0 d5_15 hret (by decide) (by decide) ?_
  exact rfl
theorem rm_ln0 (a0 : Array Value) (hw : OHw a0 Z) (hWd : OWorld Z a0) (O0 : Old Z n0 h0) (x0 : Int32) (x1 : Int32) (x2 : Int32)  :
    OMet l Z own_EL n0 yN22 (Jvm.Cond.code yN22 method_4_code 4 (some (.object "java/lang/String")) :: wc) ({ frames := 3, cells := 6, slots := 12, locals := 43 } : Room) #[(.int 0), (.int x0), (.int x1), (.int x2)] h0 [] (fun vq hq => ∃ (r : Addr), vq = some (.ref r) ∧ h0.size ≤ r ∧ OStr Z hq r [] hq.size) := by
  refine own_enter #[.val (.int 0), .val (.int x0), .val (.int x1), .val (.int x2)] pn_com_example_ratable_ratable_core_FieldsMorePinLaw_line__ICCC_Ljava_lang_String_ (fun _ => rfl) hWd.1 O0 all0 ?_
  intro p e s m below meth c T0 X0 hnm hret
  refine og_iloadN X0 1 d1_0 rfl rfl ?_
  refine og_ifN X0 4 d1_1 (XT.i0_ne_f (by decide)) rfl ?_
  refine own_new X0 7 d1_4 (ow hw 4 rfl) (ow hw 5 rfl) (ow hw 6 rfl) (by decide) (by decide) rfl ?_
  intro T1 h1 b1 X1 K1 G1 U1 E1 D1
  have f2 : Fld Z h1 b1 "java/lang/String" "value" "[B" .null := D1 (Or.inr (ow hw 20 rfl)) (ty := (.array .byte)) (by decide)
  have f3 : Fld Z h1 b1 "java/lang/String" "coder" "B" (.int 0) := D1 (Or.inr (ow hw 21 rfl)) (ty := .byte) (by decide)
  refine og_dup X1 8 d1_7 rfl rfl ?_
  refine og_iconst X1 9 (0 : Int32) d1_8 rfl rfl ?_
  refine own_arr X1 11 d1_9 (ow hw 7 rfl) (by decide) (cap := 0) (by decide) (by decide) (by decide) (by decide) rfl ?_
  intro T4 h4 b4 kb4 X4 K4 G4 U4 A4
  have f5 : Arv Z h4 b4 kb4 .char (0 : Int32) [] (.int 0) := A4
  have f6 := E1.keep K4
  have f7 := f2.keep K4 nin0
  have f8 := f3.keep K4 nin0
  refine own_spec X4 14 (a := b1) (argsL := [(.ref b4)]) (rest := [(.ref b1)]) d1_11 rfl (rm_emp1 l Z n0 h4 [] a0 hw hWd X4.old b1 b4 .null (0 : Int32) kb4 f6 f7 f8 f5 (own_svb X4 (om 1 rfl))) (ow hw 8 rfl) (ow hw 9 rfl) (ow hw 6 rfl) (ow hw 10 rfl) (by decide) (lenOf pd__28_5bC_29V rfl) rfl rfl rfl (W := 1) rfl (by decide) (by decide) (by decide) (by decide) (allS (om 1 rfl) all0) rfl ?_
  intro T9 h9 v9 X9 K9 hQ9
  obtain ⟨rfl, f10⟩ := hQ9
  show OGo _ _ _ _ T9 (mkF m 14 #[.val (.int 0), .val (.int x0), .val (.int x1), .val (.int x2)] [(.ref b1)])
  refine own_retA X9 d1_14 hret rfl rfl (by decide) (by decide) ?_
  exact ⟨b1, rfl, G1, f10.top⟩
theorem rm_ln1 (a0 : Array Value) (hw : OHw a0 Z) (hWd : OWorld Z a0) (O0 : Old Z n0 h0) (x0 : Int32) (x1 : Int32) (x2 : Int32) (q0 : ¬ x0 < 0) (q1 : ¬ (255 : Int32) < x0) :
    OMet l Z own_EL n0 yN22 (Jvm.Cond.code yN22 method_4_code 4 (some (.object "java/lang/String")) :: wc) ({ frames := 4, cells := 3, slots := 6, locals := 66 } : Room) #[(.int 1), (.int x0), (.int x1), (.int x2)] h0 [] (fun vq hq => ∃ (r : Addr), vq = some (.ref r) ∧ h0.size ≤ r ∧ OStr Z hq r [x0] hq.size) := by
  refine own_enter #[.val (.int 1), .val (.int x0), .val (.int x1), .val (.int x2)] pn_com_example_ratable_ratable_core_FieldsMorePinLaw_line__ICCC_Ljava_lang_String_ (fun _ => rfl) hWd.1 O0 all0 ?_
  intro p e s m below meth c T0 X0 hnm hret
  refine og_iloadN X0 1 d1_0 rfl rfl ?_
  refine og_ifY X0 15 d1_1 (XT.i0_ne_t (by decide)) (by decide) (by decide) ?_
  refine og_iloadN X0 16 d1_15 rfl rfl ?_
  refine og_iconst X0 17 (1 : Int32) d1_16 rfl rfl ?_
  refine og_icmpN X0 20 d1_17 (XT.ii_ne_f (by decide)) rfl ?_
  refine own_new X0 23 d1_20 (ow hw 4 rfl) (ow hw 5 rfl) (ow hw 6 rfl) (by decide) (by decide) rfl ?_
  intro T1 h1 b1 X1 K1 G1 U1 E1 D1
  have f2 : Fld Z h1 b1 "java/lang/String" "value" "[B" .null := D1 (Or.inr (ow hw 20 rfl)) (ty := (.array .byte)) (by decide)
  have f3 : Fld Z h1 b1 "java/lang/String" "coder" "B" (.int 0) := D1 (Or.inr (ow hw 21 rfl)) (ty := .byte) (by decide)
  refine og_dup X1 24 d1_23 rfl rfl ?_
  refine og_iconst X1 25 (1 : Int32) d1_24 rfl rfl ?_
  refine own_arr X1 27 d1_25 (ow hw 7 rfl) (by decide) (cap := 1) (by decide) (by decide) (by decide) (by decide) rfl ?_
  intro T4 h4 b4 kb4 X4 K4 G4 U4 A4
  have f5 : Arv Z h4 b4 kb4 .char (1 : Int32) [(.int 0)] (.int 0) := A4
  refine og_dup X4 28 d1_27 rfl rfl ?_
  refine og_iconst X4 29 (0 : Int32) d1_28 rfl rfl ?_
  refine og_iloadN X4 30 d1_29 rfl rfl ?_
  refine own_stC X4 31 d1_30 f5 (own_nch q0 (own_up8 q1)) (by decide) (by decide) (i := 0) (by decide) (Nat.le_of_ble_eq_true rfl) (om 0 rfl) rfl ?_
  intro T6 h6 X6 W6 K6 A6
  have f7 : Arv Z h6 b4 kb4 .char (1 : Int32) [(.int x0)] (.int 0) := A6
  have f8 := E1.keep K4
  have f9 := f8.keep K6
  have f10 := f2.keep K4 nin0
  have f11 := f10.keep K6 (ninS (Nat.ne_of_lt (Nat.lt_of_lt_of_le U1 G4)) nin0)
  have f12 := f3.keep K4 nin0
  have f13 := f12.keep K6 (ninS (Nat.ne_of_lt (Nat.lt_of_lt_of_le U1 G4)) nin0)
  have hp14 : ∀ c ∈ ([x0] : List Int32), ¬ c < 0 ∧ ¬ (255 : Int32) < c := (own_lS ⟨q0, q1⟩ own_l0)
  refine own_specB X6 34 (a := b1) (argsL := [(.ref b4)]) (rest := [(.ref b1)]) d1_31 rfl (fun vm0 hZ => StrChars.Road.backV (W := 1) hZ (own_wV hw) (kI := 4) (ow hw 5 rfl) (cs := [x0]) (n := 1) (own_svb X6 (om 1 rfl)).1 (own_n0 X6) f9 f11 f13 f7 (hWd.2.1.1.ext X6.old.2) hWd.2.1.2 rfl rfl (by decide) (by decide) hp14 rfl (by decide) (by decide)) (fun v h' L q => ⟨q.2.1, q.2.2.1⟩) (ow hw 8 rfl) (ow hw 9 rfl) (ow hw 10 rfl) (by decide) (lenOf pd__28_5bC_29V rfl) rfl rfl rfl (W := 1) rfl (by decide) (by decide) (allS (om 1 rfl) all0) rfl ?_
  intro T14 h14 v14 L14 X14 K14 hQ14
  obtain ⟨rfl, -, -, E14, C14, t14, k14, -, gt14, nt14, V14, A14⟩ := hQ14
  have f15 := own_mkStr E14 C14 V14 A14 rfl hp14 rfl rfl (Nat.le_of_ble_eq_true rfl)
  show OGo _ _ _ _ T14 (mkF m 34 #[.val (.int 1), .val (.int x0), .val (.int x1), .val (.int x2)] [(.ref b1)])
  refine own_retA X14 d1_34 hret rfl rfl (by decide) (by decide) ?_
  exact ⟨b1, rfl, G1, f15.top⟩
theorem rm_ln2 (a0 : Array Value) (hw : OHw a0 Z) (hWd : OWorld Z a0) (O0 : Old Z n0 h0) (x0 : Int32) (x1 : Int32) (x2 : Int32) (q0 : ¬ x0 < 0) (q1 : ¬ (255 : Int32) < x0) (q2 : ¬ x1 < 0) (q3 : ¬ (255 : Int32) < x1) :
    OMet l Z own_EL n0 yN22 (Jvm.Cond.code yN22 method_4_code 4 (some (.object "java/lang/String")) :: wc) ({ frames := 4, cells := 3, slots := 8, locals := 66 } : Room) #[(.int 2), (.int x0), (.int x1), (.int x2)] h0 [] (fun vq hq => ∃ (r : Addr), vq = some (.ref r) ∧ h0.size ≤ r ∧ OStr Z hq r [x0, x1] hq.size) := by
  refine own_enter #[.val (.int 2), .val (.int x0), .val (.int x1), .val (.int x2)] pn_com_example_ratable_ratable_core_FieldsMorePinLaw_line__ICCC_Ljava_lang_String_ (fun _ => rfl) hWd.1 O0 all0 ?_
  intro p e s m below meth c T0 X0 hnm hret
  refine og_iloadN X0 1 d1_0 rfl rfl ?_
  refine og_ifY X0 15 d1_1 (XT.i0_ne_t (by decide)) (by decide) (by decide) ?_
  refine og_iloadN X0 16 d1_15 rfl rfl ?_
  refine og_iconst X0 17 (1 : Int32) d1_16 rfl rfl ?_
  refine og_icmpY X0 35 d1_17 (XT.ii_ne_t (by decide)) (by decide) (by decide) ?_
  refine og_iloadN X0 36 d1_35 rfl rfl ?_
  refine og_iconst X0 37 (2 : Int32) d1_36 rfl rfl ?_
  refine og_icmpN X0 40 d1_37 (XT.ii_ne_f (by decide)) rfl ?_
  refine own_new X0 43 d1_40 (ow hw 4 rfl) (ow hw 5 rfl) (ow hw 6 rfl) (by decide) (by decide) rfl ?_
  intro T1 h1 b1 X1 K1 G1 U1 E1 D1
  have f2 : Fld Z h1 b1 "java/lang/String" "value" "[B" .null := D1 (Or.inr (ow hw 20 rfl)) (ty := (.array .byte)) (by decide)
  have f3 : Fld Z h1 b1 "java/lang/String" "coder" "B" (.int 0) := D1 (Or.inr (ow hw 21 rfl)) (ty := .byte) (by decide)
  refine og_dup X1 44 d1_43 rfl rfl ?_
  refine og_iconst X1 45 (2 : Int32) d1_44 rfl rfl ?_
  refine own_arr X1 47 d1_45 (ow hw 7 rfl) (by decide) (cap := 2) (by decide) (by decide) (by decide) (by decide) rfl ?_
  intro T4 h4 b4 kb4 X4 K4 G4 U4 A4
  have f5 : Arv Z h4 b4 kb4 .char (2 : Int32) [(.int 0), (.int 0)] (.int 0) := A4
  refine og_dup X4 48 d1_47 rfl rfl ?_
  refine og_iconst X4 49 (0 : Int32) d1_48 rfl rfl ?_
  refine og_iloadN X4 50 d1_49 rfl rfl ?_
  refine own_stC X4 51 d1_50 f5 (own_nch q0 (own_up8 q1)) (by decide) (by decide) (i := 0) (by decide) (Nat.le_of_ble_eq_true rfl) (om 0 rfl) rfl ?_
  intro T6 h6 X6 W6 K6 A6
  have f7 : Arv Z h6 b4 kb4 .char (2 : Int32) [(.int x0), (.int 0)] (.int 0) := A6
  refine og_dup X6 52 d1_51 rfl rfl ?_
  refine og_iconst X6 53 (1 : Int32) d1_52 rfl rfl ?_
  refine og_iloadN X6 54 d1_53 rfl rfl ?_
  refine own_stC X6 55 d1_54 f7 (own_nch q2 (own_up8 q3)) (by decide) (by decide) (i := 1) (by decide) (Nat.le_of_ble_eq_true rfl) (om 0 rfl) rfl ?_
  intro T8 h8 X8 W8 K8 A8
  have f9 : Arv Z h8 b4 kb4 .char (2 : Int32) [(.int x0), (.int x1)] (.int 0) := A8
  have f10 := E1.keep K4
  have f11 := f10.keep K6
  have f12 := f11.keep K8
  have f13 := f2.keep K4 nin0
  have f14 := f13.keep K6 (ninS (Nat.ne_of_lt (Nat.lt_of_lt_of_le U1 G4)) nin0)
  have f15 := f14.keep K8 (ninS (Nat.ne_of_lt (Nat.lt_of_lt_of_le U1 G4)) nin0)
  have f16 := f3.keep K4 nin0
  have f17 := f16.keep K6 (ninS (Nat.ne_of_lt (Nat.lt_of_lt_of_le U1 G4)) nin0)
  have f18 := f17.keep K8 (ninS (Nat.ne_of_lt (Nat.lt_of_lt_of_le U1 G4)) nin0)
  have hp19 : ∀ c ∈ ([x0, x1] : List Int32), ¬ c < 0 ∧ ¬ (255 : Int32) < c := (own_lS ⟨q0, q1⟩ (own_lS ⟨q2, q3⟩ own_l0))
  refine own_specB X8 58 (a := b1) (argsL := [(.ref b4)]) (rest := [(.ref b1)]) d1_55 rfl (fun vm0 hZ => StrChars.Road.backV (W := 1) hZ (own_wV hw) (kI := 4) (ow hw 5 rfl) (cs := [x0, x1]) (n := 2) (own_svb X8 (om 1 rfl)).1 (own_n0 X8) f12 f15 f18 f9 (hWd.2.1.1.ext X8.old.2) hWd.2.1.2 rfl rfl (by decide) (by decide) hp19 rfl (by decide) (by decide)) (fun v h' L q => ⟨q.2.1, q.2.2.1⟩) (ow hw 8 rfl) (ow hw 9 rfl) (ow hw 10 rfl) (by decide) (lenOf pd__28_5bC_29V rfl) rfl rfl rfl (W := 1) rfl (by decide) (by decide) (allS (om 1 rfl) all0) rfl ?_
  intro T19 h19 v19 L19 X19 K19 hQ19
  obtain ⟨rfl, -, -, E19, C19, t19, k19, -, gt19, nt19, V19, A19⟩ := hQ19
  have f20 := own_mkStr E19 C19 V19 A19 rfl hp19 rfl rfl (Nat.le_of_ble_eq_true rfl)
  show OGo _ _ _ _ T19 (mkF m 58 #[.val (.int 2), .val (.int x0), .val (.int x1), .val (.int x2)] [(.ref b1)])
  refine own_retA X19 d1_58 hret rfl rfl (by decide) (by decide) ?_
  exact ⟨b1, rfl, G1, f20.top⟩
theorem rm_ln3 (a0 : Array Value) (hw : OHw a0 Z) (hWd : OWorld Z a0) (O0 : Old Z n0 h0) (x0 : Int32) (x1 : Int32) (x2 : Int32) (q0 : ¬ x0 < 0) (q1 : ¬ (255 : Int32) < x0) (q2 : ¬ x1 < 0) (q3 : ¬ (255 : Int32) < x1) (q4 : ¬ x2 < 0) (q5 : ¬ (255 : Int32) < x2) :
    OMet l Z own_EL n0 yN22 (Jvm.Cond.code yN22 method_4_code 4 (some (.object "java/lang/String")) :: wc) ({ frames := 4, cells := 3, slots := 10, locals := 66 } : Room) #[(.int 3), (.int x0), (.int x1), (.int x2)] h0 [] (fun vq hq => ∃ (r : Addr), vq = some (.ref r) ∧ h0.size ≤ r ∧ OStr Z hq r [x0, x1, x2] hq.size) := by
  refine own_enter #[.val (.int 3), .val (.int x0), .val (.int x1), .val (.int x2)] pn_com_example_ratable_ratable_core_FieldsMorePinLaw_line__ICCC_Ljava_lang_String_ (fun _ => rfl) hWd.1 O0 all0 ?_
  intro p e s m below meth c T0 X0 hnm hret
  refine og_iloadN X0 1 d1_0 rfl rfl ?_
  refine og_ifY X0 15 d1_1 (XT.i0_ne_t (by decide)) (by decide) (by decide) ?_
  refine og_iloadN X0 16 d1_15 rfl rfl ?_
  refine og_iconst X0 17 (1 : Int32) d1_16 rfl rfl ?_
  refine og_icmpY X0 35 d1_17 (XT.ii_ne_t (by decide)) (by decide) (by decide) ?_
  refine og_iloadN X0 36 d1_35 rfl rfl ?_
  refine og_iconst X0 37 (2 : Int32) d1_36 rfl rfl ?_
  refine og_icmpY X0 59 d1_37 (XT.ii_ne_t (by decide)) (by decide) (by decide) ?_
  refine own_new X0 62 d1_59 (ow hw 4 rfl) (ow hw 5 rfl) (ow hw 6 rfl) (by decide) (by decide) rfl ?_
  intro T1 h1 b1 X1 K1 G1 U1 E1 D1
  have f2 : Fld Z h1 b1 "java/lang/String" "value" "[B" .null := D1 (Or.inr (ow hw 20 rfl)) (ty := (.array .byte)) (by decide)
  have f3 : Fld Z h1 b1 "java/lang/String" "coder" "B" (.int 0) := D1 (Or.inr (ow hw 21 rfl)) (ty := .byte) (by decide)
  refine og_dup X1 63 d1_62 rfl rfl ?_
  refine og_iconst X1 64 (3 : Int32) d1_63 rfl rfl ?_
  refine own_arr X1 66 d1_64 (ow hw 7 rfl) (by decide) (cap := 3) (by decide) (by decide) (by decide) (by decide) rfl ?_
  intro T4 h4 b4 kb4 X4 K4 G4 U4 A4
  have f5 : Arv Z h4 b4 kb4 .char (3 : Int32) [(.int 0), (.int 0), (.int 0)] (.int 0) := A4
  refine og_dup X4 67 d1_66 rfl rfl ?_
  refine og_iconst X4 68 (0 : Int32) d1_67 rfl rfl ?_
  refine og_iloadN X4 69 d1_68 rfl rfl ?_
  refine own_stC X4 70 d1_69 f5 (own_nch q0 (own_up8 q1)) (by decide) (by decide) (i := 0) (by decide) (Nat.le_of_ble_eq_true rfl) (om 0 rfl) rfl ?_
  intro T6 h6 X6 W6 K6 A6
  have f7 : Arv Z h6 b4 kb4 .char (3 : Int32) [(.int x0), (.int 0), (.int 0)] (.int 0) := A6
  refine og_dup X6 71 d1_70 rfl rfl ?_
  refine og_iconst X6 72 (1 : Int32) d1_71 rfl rfl ?_
  refine og_iloadN X6 73 d1_72 rfl rfl ?_
  refine own_stC X6 74 d1_73 f7 (own_nch q2 (own_up8 q3)) (by decide) (by decide) (i := 1) (by decide) (Nat.le_of_ble_eq_true rfl) (om 0 rfl) rfl ?_
  intro T8 h8 X8 W8 K8 A8
  have f9 : Arv Z h8 b4 kb4 .char (3 : Int32) [(.int x0), (.int x1), (.int 0)] (.int 0) := A8
  refine og_dup X8 75 d1_74 rfl rfl ?_
  refine og_iconst X8 76 (2 : Int32) d1_75 rfl rfl ?_
  refine og_iloadN X8 77 d1_76 rfl rfl ?_
  refine own_stC X8 78 d1_77 f9 (own_nch q4 (own_up8 q5)) (by decide) (by decide) (i := 2) (by decide) (Nat.le_of_ble_eq_true rfl) (om 0 rfl) rfl ?_
  intro T10 h10 X10 W10 K10 A10
  have f11 : Arv Z h10 b4 kb4 .char (3 : Int32) [(.int x0), (.int x1), (.int x2)] (.int 0) := A10
  have f12 := E1.keep K4
  have f13 := f12.keep K6
  have f14 := f13.keep K8
  have f15 := f14.keep K10
  have f16 := f2.keep K4 nin0
  have f17 := f16.keep K6 (ninS (Nat.ne_of_lt (Nat.lt_of_lt_of_le U1 G4)) nin0)
  have f18 := f17.keep K8 (ninS (Nat.ne_of_lt (Nat.lt_of_lt_of_le U1 G4)) nin0)
  have f19 := f18.keep K10 (ninS (Nat.ne_of_lt (Nat.lt_of_lt_of_le U1 G4)) nin0)
  have f20 := f3.keep K4 nin0
  have f21 := f20.keep K6 (ninS (Nat.ne_of_lt (Nat.lt_of_lt_of_le U1 G4)) nin0)
  have f22 := f21.keep K8 (ninS (Nat.ne_of_lt (Nat.lt_of_lt_of_le U1 G4)) nin0)
  have f23 := f22.keep K10 (ninS (Nat.ne_of_lt (Nat.lt_of_lt_of_le U1 G4)) nin0)
  have hp24 : ∀ c ∈ ([x0, x1, x2] : List Int32), ¬ c < 0 ∧ ¬ (255 : Int32) < c := (own_lS ⟨q0, q1⟩ (own_lS ⟨q2, q3⟩ (own_lS ⟨q4, q5⟩ own_l0)))
  refine own_specB X10 81 (a := b1) (argsL := [(.ref b4)]) (rest := [(.ref b1)]) d1_78 rfl (fun vm0 hZ => StrChars.Road.backV (W := 1) hZ (own_wV hw) (kI := 4) (ow hw 5 rfl) (cs := [x0, x1, x2]) (n := 3) (own_svb X10 (om 1 rfl)).1 (own_n0 X10) f15 f19 f23 f11 (hWd.2.1.1.ext X10.old.2) hWd.2.1.2 rfl rfl (by decide) (by decide) hp24 rfl (by decide) (by decide)) (fun v h' L q => ⟨q.2.1, q.2.2.1⟩) (ow hw 8 rfl) (ow hw 9 rfl) (ow hw 10 rfl) (by decide) (lenOf pd__28_5bC_29V rfl) rfl rfl rfl (W := 1) rfl (by decide) (by decide) (allS (om 1 rfl) all0) rfl ?_
  intro T24 h24 v24 L24 X24 K24 hQ24
  obtain ⟨rfl, -, -, E24, C24, t24, k24, -, gt24, nt24, V24, A24⟩ := hQ24
  have f25 := own_mkStr E24 C24 V24 A24 rfl hp24 rfl rfl (Nat.le_of_ble_eq_true rfl)
  show OGo _ _ _ _ T24 (mkF m 81 #[.val (.int 3), .val (.int x0), .val (.int x1), .val (.int x2)] [(.ref b1)])
  refine own_retA X24 d1_81 hret rfl rfl (by decide) (by decide) ?_
  exact ⟨b1, rfl, G1, f25.top⟩
theorem rm0 (a0 : Array Value) (hw : OHw a0 Z) (hWd : OWorld Z a0) (O0 : Old Z n0 h0) (pt : Int32) (pp : Int32)  :
    OMet l Z own_EL n0 x (Jvm.Cond.code x code maxLocals ret :: wc) room_1 #[(.int pt), (.int pp)] h0 [] (fun vq hq => vq = some (.int 1)) := by
  refine own_enter #[.val (.int pt), .val (.int pp), .unset, .unset, .unset, .unset, .unset, .unset, .unset, .unset] pn_com_example_ratable_ratable_core_FieldsMorePinLaw_law__II_Z (fun _ => rfl) hWd.1 O0 all0 ?_
  intro p e s m below meth c T0 X0 hnm hret
  refine og_iloadN X0 1 at_0 rfl rfl ?_
  refine og_iconst X0 2 (3 : Int32) at_1 rfl rfl ?_
  refine og_iushr X0 3 at_2 rfl ?_
  refine og_iconst X0 4 (3 : Int32) at_3 rfl rfl ?_
  refine og_iand X0 5 at_4 rfl ?_
  refine og_istoreN X0 6 #[.val (.int pt), .val (.int pp), .val (.int ((XT.ushr pt (3 : Int32)) &&& (3 : Int32))), .unset, .unset, .unset, .unset, .unset, .unset, .unset] at_5 rfl rfl ?_
  refine own_cut X0 24 (fun (u0 : Int32) => #[.val (.int pt), .val (.int pp), .val (.int ((XT.ushr pt (3 : Int32)) &&& (3 : Int32))), .val (.int u0), .unset, .unset, .unset, .unset, .unset, .unset]) (fun _ => []) (fun u0 => ¬ u0 < 0 ∧ ¬ (255 : Int32) < u0) ?_ ?_
  · -- the common way on
    intro T1 h1 X1 K1 u0 ok1
    show OGo _ _ _ _ T1 (mkF m 24 #[.val (.int pt), .val (.int pp), .val (.int ((XT.ushr pt (3 : Int32)) &&& (3 : Int32))), .val (.int u0), .unset, .unset, .unset, .unset, .unset, .unset] [])
    refine own_cut X1 46 (fun (u1 : Int32) => #[.val (.int pt), .val (.int pp), .val (.int ((XT.ushr pt (3 : Int32)) &&& (3 : Int32))), .val (.int u0), .val (.int u1), .unset, .unset, .unset, .unset, .unset]) (fun _ => []) (fun u1 => ¬ u1 < 0 ∧ ¬ (255 : Int32) < u1) ?_ ?_
    · -- the common way on
      intro T2 h2 X2 K2 u1 ok2
      show OGo _ _ _ _ T2 (mkF m 46 #[.val (.int pt), .val (.int pp), .val (.int ((XT.ushr pt (3 : Int32)) &&& (3 : Int32))), .val (.int u0), .val (.int u1), .unset, .unset, .unset, .unset, .unset] [])
      refine own_cut X2 68 (fun (u2 : Int32) => #[.val (.int pt), .val (.int pp), .val (.int ((XT.ushr pt (3 : Int32)) &&& (3 : Int32))), .val (.int u0), .val (.int u1), .val (.int u2), .unset, .unset, .unset, .unset]) (fun _ => []) (fun u2 => ¬ u2 < 0 ∧ ¬ (255 : Int32) < u2) ?_ ?_
      · -- the common way on
        intro T3 h3 X3 K3 u2 ok3
        show OGo _ _ _ _ T3 (mkF m 68 #[.val (.int pt), .val (.int pp), .val (.int ((XT.ushr pt (3 : Int32)) &&& (3 : Int32))), .val (.int u0), .val (.int u1), .val (.int u2), .unset, .unset, .unset, .unset] [])
        rcases own_and3 (XT.ushr pt (3 : Int32)) with eQ | eQ | eQ | eQ
        · -- n is 0
          rw [eQ]
          refine og_iloadN X3 69 at_68 rfl rfl ?_
          refine og_iloadN X3 70 at_69 rfl rfl ?_
          refine og_iload X3 72 at_70 rfl rfl ?_
          refine og_iload X3 74 at_72 rfl rfl ?_
          refine own_stat X3 77 (argsL := [(.int 0), (.int u0), (.int u1), (.int u2)]) (rest := []) at_74 (rm_ln0 l Z n0 h3 [] a0 hw hWd X3.old u0 u1 u2  ) (ow hw 0 rfl) (ow hw 1 rfl) (ow hw 2 rfl) (ow hw 3 rfl) (by decide) (lenOf pd__28ICCC_29Ljava_2flang_2fString_3b rfl) rfl rfl rfl (W := 0) rfl (by decide) (by decide) (by decide) (by decide) all0 rfl ?_
          intro T4 h4 v4 X4 K4 hQ4
          obtain ⟨r4, rfl, ge_r4, f5⟩ := hQ4
          show OGo _ _ _ _ T4 (mkF m 77 #[.val (.int pt), .val (.int pp), .val (.int 0), .val (.int u0), .val (.int u1), .val (.int u2), .unset, .unset, .unset, .unset] [(.ref r4)])
          refine og_astore X4 79 #[.val (.int pt), .val (.int pp), .val (.int 0), .val (.int u0), .val (.int u1), .val (.int u2), .val (.ref r4), .unset, .unset, .unset] at_77 rfl rfl rfl ?_
          refine og_iconst X4 80 (1 : Int32) at_79 rfl rfl ?_
          refine og_iloadN X4 81 at_80 rfl rfl ?_
          refine og_ifY X4 88 at_81 (XT.i0_le_t (by decide)) (by decide) (by decide) ?_
          refine og_iconst X4 89 (0 : Int32) at_88 rfl rfl ?_
          refine og_iloadN X4 90 at_89 rfl rfl ?_
          refine own_stat X4 93 (argsL := [(.int 0), (.int u0)]) (rest := [(.int 1)]) at_90 (rm_tab0 l Z n0 h4 [] a0 hw hWd X4.old u0  ) (ow hw 26 rfl) (ow hw 27 rfl) (ow hw 2 rfl) (ow hw 28 rfl) (by decide) (lenOf pd__28ZC_29I rfl) rfl rfl rfl (W := 1) rfl (by decide) (by decide) (by decide) (by decide) all0 rfl ?_
          intro T6 h6 v6 X6 K6 hQ6
          obtain rfl := hQ6
          show OGo _ _ _ _ T6 (mkF m 93 #[.val (.int pt), .val (.int pp), .val (.int 0), .val (.int u0), .val (.int u1), .val (.int u2), .val (.ref r4), .unset, .unset, .unset] [(.int 0), (.int 1)])
          refine og_iadd X6 94 at_93 rfl ?_
          show OGo _ _ _ _ T6 (mkF m 94 #[.val (.int pt), .val (.int pp), .val (.int 0), .val (.int u0), .val (.int u1), .val (.int u2), .val (.ref r4), .unset, .unset, .unset] [(.int 1)])
          refine og_iloadN X6 95 at_94 rfl rfl ?_
          refine og_iconst X6 96 (1 : Int32) at_95 rfl rfl ?_
          refine og_icmpY X6 103 at_96 (XT.ii_le_t (by decide)) (by decide) (by decide) ?_
          refine og_iconst X6 104 (0 : Int32) at_103 rfl rfl ?_
          refine og_iload X6 106 at_104 rfl rfl ?_
          refine own_stat X6 109 (argsL := [(.int 0), (.int u1)]) (rest := [(.int 1)]) at_106 (rm_tab0 l Z n0 h6 [] a0 hw hWd X6.old u1  ) (ow hw 26 rfl) (ow hw 27 rfl) (ow hw 2 rfl) (ow hw 28 rfl) (by decide) (lenOf pd__28ZC_29I rfl) rfl rfl rfl (W := 1) rfl (by decide) (by decide) (by decide) (by decide) all0 rfl ?_
          intro T7 h7 v7 X7 K7 hQ7
          obtain rfl := hQ7
          show OGo _ _ _ _ T7 (mkF m 109 #[.val (.int pt), .val (.int pp), .val (.int 0), .val (.int u0), .val (.int u1), .val (.int u2), .val (.ref r4), .unset, .unset, .unset] [(.int 0), (.int 1)])
          refine og_iadd X7 110 at_109 rfl ?_
          show OGo _ _ _ _ T7 (mkF m 110 #[.val (.int pt), .val (.int pp), .val (.int 0), .val (.int u0), .val (.int u1), .val (.int u2), .val (.ref r4), .unset, .unset, .unset] [(.int 1)])
          refine og_iloadN X7 111 at_110 rfl rfl ?_
          refine og_iconst X7 112 (2 : Int32) at_111 rfl rfl ?_
          refine og_icmpY X7 119 at_112 (XT.ii_le_t (by decide)) (by decide) (by decide) ?_
          refine og_iconst X7 120 (0 : Int32) at_119 rfl rfl ?_
          refine og_iload X7 122 at_120 rfl rfl ?_
          refine own_stat X7 125 (argsL := [(.int 0), (.int u2)]) (rest := [(.int 1)]) at_122 (rm_tab0 l Z n0 h7 [] a0 hw hWd X7.old u2  ) (ow hw 26 rfl) (ow hw 27 rfl) (ow hw 2 rfl) (ow hw 28 rfl) (by decide) (lenOf pd__28ZC_29I rfl) rfl rfl rfl (W := 1) rfl (by decide) (by decide) (by decide) (by decide) all0 rfl ?_
          intro T8 h8 v8 X8 K8 hQ8
          obtain rfl := hQ8
          show OGo _ _ _ _ T8 (mkF m 125 #[.val (.int pt), .val (.int pp), .val (.int 0), .val (.int u0), .val (.int u1), .val (.int u2), .val (.ref r4), .unset, .unset, .unset] [(.int 0), (.int 1)])
          refine og_iadd X8 126 at_125 rfl ?_
          show OGo _ _ _ _ T8 (mkF m 126 #[.val (.int pt), .val (.int pp), .val (.int 0), .val (.int u0), .val (.int u1), .val (.int u2), .val (.ref r4), .unset, .unset, .unset] [(.int 1)])
          refine og_istore X8 128 #[.val (.int pt), .val (.int pp), .val (.int 0), .val (.int u0), .val (.int u1), .val (.int u2), .val (.ref r4), .val (.int 1), .unset, .unset] at_126 rfl rfl ?_
          refine own_new X8 131 at_128 (ow hw 29 rfl) (ow hw 30 rfl) (ow hw 31 rfl) (by decide) (by decide) rfl ?_
          intro T9 h9 b9 X9 K9 G9 U9 E9 D9
          have f10 : Fld Z h9 b9 "com/example/ratable/ratable/core/JournalSums$Fields" "line" "Ljava/lang/String;" .null := D9 (Or.inr (ow hw 37 rfl)) (ty := (.object "java/lang/String")) (by decide)
          have f11 : Fld Z h9 b9 "com/example/ratable/ratable/core/JournalSums$Fields" "next" "I" (.int 0) := D9 (Or.inl (ow hw 44 rfl)) (ty := .int) (by decide)
          refine og_dup X9 132 at_131 rfl rfl ?_
          refine og_aload X9 134 at_132 rfl rfl rfl ?_
          refine own_spec X9 137 (a := b9) (argsL := [(.ref r4)]) (rest := [(.ref b9)]) at_134 rfl (rm6 l Z n0 h9 [] a0 hw hWd X9.old b9 r4 E9 f10 f11 (own_svb X9 (om 0 rfl))) (ow hw 32 rfl) (ow hw 33 rfl) (ow hw 31 rfl) (ow hw 34 rfl) (by decide) (lenOf pd__28Ljava_2flang_2fString_3b_29V rfl) rfl rfl rfl (W := 1) rfl (by decide) (by decide) (by decide) (by decide) (allS (om 0 rfl) all0) rfl ?_
          intro T12 h12 v12 X12 K12 hQ12
          obtain ⟨rfl, f13, f14⟩ := hQ12
          show OGo _ _ _ _ T12 (mkF m 137 #[.val (.int pt), .val (.int pp), .val (.int 0), .val (.int u0), .val (.int u1), .val (.int u2), .val (.ref r4), .val (.int 1), .unset, .unset] [(.ref b9)])
          refine og_astore X12 139 #[.val (.int pt), .val (.int pp), .val (.int 0), .val (.int u0), .val (.int u1), .val (.int u2), .val (.ref r4), .val (.int 1), .val (.ref b9), .unset] at_137 rfl rfl rfl ?_
          refine og_aload X12 141 at_139 rfl rfl rfl ?_
          have f15 := E9.keep K12
          have f16 := f5.keep K6 all0
          have f17 := f16.keep K7 all0
          have f18 := f17.keep K8 all0
          have f19 := f18.keep K9 all0
          have f20 := f19.keep K12 (allS (Or.inl (Nat.le_trans (Nat.le_trans (Nat.le_trans K6.1 K7.1) K8.1) G9)) all0)
          refine own_virt X12 144 (a := b9) (argsL := []) (rest := []) at_141 f15 (fun _ hZ => notFace_of_selects (args := #[]) (mvT hZ (ow hw 41 rfl))) (rm_more1 l Z n0 h12 [] a0 hw hWd X12.old b9 r4 [] (0 : Int32) f13 f14 f20.top (show ¬ (0 : Int32) < (0 : Int32) by decide) ) (ow hw 38 rfl) (ow hw 39 rfl) (ow hw 41 rfl) (ow hw 40 rfl) (ow hw 31 rfl) (ow hw 42 rfl) (by decide) (lenOf pd__28_29Z rfl) rfl rfl rfl (W := 0) rfl (by decide) (by decide) (by decide) (by decide) all0 rfl ?_
          intro T21 h21 v21 X21 K21 hQ21
          obtain rfl := hQ21
          show OGo _ _ _ _ T21 (mkF m 144 #[.val (.int pt), .val (.int pp), .val (.int 0), .val (.int u0), .val (.int u1), .val (.int u2), .val (.ref r4), .val (.int 1), .val (.ref b9), .unset] [(.int 1)])
          refine og_istore X21 146 #[.val (.int pt), .val (.int pp), .val (.int 0), .val (.int u0), .val (.int u1), .val (.int u2), .val (.ref r4), .val (.int 1), .val (.ref b9), .val (.int 1)] at_144 rfl rfl ?_
          refine og_iload X21 148 at_146 rfl rfl ?_
          refine og_ifN X21 151 at_148 (XT.i0_eq_f (by decide)) rfl ?_
          refine og_aload X21 153 at_151 rfl rfl rfl ?_
          have f22 := f15.keep K21
          have f23 := f13.keep K21 nin0
          have f24 := f14.keep K21 nin0
          have f25 := f20.keep K21 all0
          refine own_virt X21 156 (a := b9) (argsL := []) (rest := []) at_153 f22 (fun _ hZ => notFace_of_selects (args := #[]) (mvT hZ (ow hw 59 rfl))) (rf_txt000 l Z n0 h21 [] a0 hw hWd X21.old b9 r4 f22 f23 f24 f25.top own_l0 (own_svb X21 (om 0 rfl))) (ow hw 56 rfl) (ow hw 57 rfl) (ow hw 59 rfl) (ow hw 58 rfl) (ow hw 31 rfl) (ow hw 60 rfl) (by decide) (lenOf pd__28_29Ljava_2flang_2fString_3b rfl) rfl rfl rfl (W := 0) rfl (by decide) (by decide) (by decide) (by decide) (allS (om 0 rfl) all0) rfl ?_
          intro T26 h26 v26 X26 K26 hQ26
          obtain ⟨r26, rfl, f27, f28⟩ := hQ26
          show OGo _ _ _ _ T26 (mkF m 156 #[.val (.int pt), .val (.int pp), .val (.int 0), .val (.int u0), .val (.int u1), .val (.int u2), .val (.ref r4), .val (.int 1), .val (.ref b9), .val (.int 1)] [(.ref r26)])
          refine og_pop X26 157 at_156 rfl rfl ?_
          refine og_aload X26 159 at_157 rfl rfl rfl ?_
          have f29 := f22.keep K26
          have f30 := f25.keep K26 (allS (Or.inl (Nat.le_trans (Nat.le_trans (Nat.le_trans K6.1 K7.1) K8.1) G9)) all0)
          refine own_virt X26 162 (a := b9) (argsL := []) (rest := []) at_159 f29 (fun _ hZ => notFace_of_selects (args := #[]) (mvT hZ (ow hw 41 rfl))) (rm_more0 l Z n0 h26 [] a0 hw hWd X26.old b9 r4 [] (1 : Int32) f27 f28 f30.top (show (0 : Int32) < (1 : Int32) by decide) ) (ow hw 38 rfl) (ow hw 39 rfl) (ow hw 41 rfl) (ow hw 40 rfl) (ow hw 31 rfl) (ow hw 42 rfl) (by decide) (lenOf pd__28_29Z rfl) rfl rfl rfl (W := 0) rfl (by decide) (by decide) (by decide) (by decide) all0 rfl ?_
          intro T31 h31 v31 X31 K31 hQ31
          obtain rfl := hQ31
          show OGo _ _ _ _ T31 (mkF m 162 #[.val (.int pt), .val (.int pp), .val (.int 0), .val (.int u0), .val (.int u1), .val (.int u2), .val (.ref r4), .val (.int 1), .val (.ref b9), .val (.int 1)] [(.int 0)])
          refine og_iload X31 164 at_162 rfl rfl ?_
          refine og_iconst X31 165 (2 : Int32) at_164 rfl rfl ?_
          refine og_icmpY X31 172 at_165 (XT.ii_lt_t (by decide)) (by decide) (by decide) ?_
          refine og_iconst X31 173 (0 : Int32) at_172 rfl rfl ?_
          refine og_icmpN X31 176 at_173 (XT.ii_ne_f (by decide)) rfl ?_
          refine og_iconst X31 177 (1 : Int32) at_176 rfl rfl ?_
          refine og_goto X31 181 at_177 (by decide) (by decide) ?_
          refine og_istore X31 183 #[.val (.int pt), .val (.int pp), .val (.int 0), .val (.int u0), .val (.int u1), .val (.int u2), .val (.ref r4), .val (.int 1), .val (.ref b9), .val (.int 1)] at_181 rfl rfl ?_
          refine og_iload X31 185 at_183 rfl rfl ?_
          refine og_ifN X31 188 at_185 (XT.i0_eq_f (by decide)) rfl ?_
          refine og_iload X31 190 at_188 rfl rfl ?_
          refine og_iconst X31 191 (2 : Int32) at_190 rfl rfl ?_
          refine og_icmpY X31 226 at_191 (XT.ii_lt_t (by decide)) (by decide) (by decide) ?_
          refine og_iload X31 228 at_226 rfl rfl ?_
          refine og_ifN X31 231 at_228 (XT.i0_eq_f (by decide)) rfl ?_
          refine og_iload X31 233 at_231 rfl rfl ?_
          refine og_iconst X31 234 (3 : Int32) at_233 rfl rfl ?_
          refine og_icmpY X31 269 at_234 (XT.ii_lt_t (by decide)) (by decide) (by decide) ?_
          refine og_iload X31 271 at_269 rfl rfl ?_
          refine og_ifN X31 274 at_271 (XT.i0_eq_f (by decide)) rfl ?_
          refine og_iload X31 276 at_274 rfl rfl ?_
          refine og_iconst X31 277 (4 : Int32) at_276 rfl rfl ?_
          refine og_icmpY X31 301 at_277 (XT.ii_lt_t (by decide)) (by decide) (by decide) ?_
          refine og_iload X31 303 at_301 rfl rfl ?_
          refine own_retZ X31 at_303 hret rfl (by decide) (by decide) ?_
          exact rfl
        · -- n is 1
          rw [eQ]
          refine og_iloadN X3 69 at_68 rfl rfl ?_
          refine og_iloadN X3 70 at_69 rfl rfl ?_
          refine og_iload X3 72 at_70 rfl rfl ?_
          refine og_iload X3 74 at_72 rfl rfl ?_
          refine own_stat X3 77 (argsL := [(.int 1), (.int u0), (.int u1), (.int u2)]) (rest := []) at_74 (rm_ln1 l Z n0 h3 [] a0 hw hWd X3.old u0 u1 u2 ok1.1 ok1.2 ) (ow hw 0 rfl) (ow hw 1 rfl) (ow hw 2 rfl) (ow hw 3 rfl) (by decide) (lenOf pd__28ICCC_29Ljava_2flang_2fString_3b rfl) rfl rfl rfl (W := 0) rfl (by decide) (by decide) (by decide) (by decide) all0 rfl ?_
          intro T32 h32 v32 X32 K32 hQ32
          obtain ⟨r32, rfl, ge_r32, f33⟩ := hQ32
          show OGo _ _ _ _ T32 (mkF m 77 #[.val (.int pt), .val (.int pp), .val (.int 1), .val (.int u0), .val (.int u1), .val (.int u2), .unset, .unset, .unset, .unset] [(.ref r32)])
          refine og_astore X32 79 #[.val (.int pt), .val (.int pp), .val (.int 1), .val (.int u0), .val (.int u1), .val (.int u2), .val (.ref r32), .unset, .unset, .unset] at_77 rfl rfl rfl ?_
          by_cases hc34 : u0 = (9 : Int32)
          · -- u0 = (9 : Int32)
            refine og_iconst X32 80 (1 : Int32) at_79 rfl rfl ?_
            refine og_iloadN X32 81 at_80 rfl rfl ?_
            refine og_ifN X32 84 at_81 (XT.i0_le_f (by decide)) rfl ?_
            refine og_iconst X32 85 (1 : Int32) at_84 rfl rfl ?_
            refine og_goto X32 89 at_85 (by decide) (by decide) ?_
            refine og_iloadN X32 90 at_89 rfl rfl ?_
            refine own_stat X32 93 (argsL := [(.int 1), (.int u0)]) (rest := [(.int 1)]) at_90 (rm_tab1 l Z n0 h32 [] a0 hw hWd X32.old u0 hc34 ) (ow hw 26 rfl) (ow hw 27 rfl) (ow hw 2 rfl) (ow hw 28 rfl) (by decide) (lenOf pd__28ZC_29I rfl) rfl rfl rfl (W := 1) rfl (by decide) (by decide) (by decide) (by decide) all0 rfl ?_
            intro T35 h35 v35 X35 K35 hQ35
            obtain rfl := hQ35
            show OGo _ _ _ _ T35 (mkF m 93 #[.val (.int pt), .val (.int pp), .val (.int 1), .val (.int u0), .val (.int u1), .val (.int u2), .val (.ref r32), .unset, .unset, .unset] [(.int 1), (.int 1)])
            refine og_iadd X35 94 at_93 rfl ?_
            show OGo _ _ _ _ T35 (mkF m 94 #[.val (.int pt), .val (.int pp), .val (.int 1), .val (.int u0), .val (.int u1), .val (.int u2), .val (.ref r32), .unset, .unset, .unset] [(.int 2)])
            refine og_iloadN X35 95 at_94 rfl rfl ?_
            refine og_iconst X35 96 (1 : Int32) at_95 rfl rfl ?_
            refine og_icmpY X35 103 at_96 (XT.ii_le_t (by decide)) (by decide) (by decide) ?_
            refine og_iconst X35 104 (0 : Int32) at_103 rfl rfl ?_
            refine og_iload X35 106 at_104 rfl rfl ?_
            refine own_stat X35 109 (argsL := [(.int 0), (.int u1)]) (rest := [(.int 2)]) at_106 (rm_tab0 l Z n0 h35 [] a0 hw hWd X35.old u1  ) (ow hw 26 rfl) (ow hw 27 rfl) (ow hw 2 rfl) (ow hw 28 rfl) (by decide) (lenOf pd__28ZC_29I rfl) rfl rfl rfl (W := 1) rfl (by decide) (by decide) (by decide) (by decide) all0 rfl ?_
            intro T36 h36 v36 X36 K36 hQ36
            obtain rfl := hQ36
            show OGo _ _ _ _ T36 (mkF m 109 #[.val (.int pt), .val (.int pp), .val (.int 1), .val (.int u0), .val (.int u1), .val (.int u2), .val (.ref r32), .unset, .unset, .unset] [(.int 0), (.int 2)])
            refine og_iadd X36 110 at_109 rfl ?_
            show OGo _ _ _ _ T36 (mkF m 110 #[.val (.int pt), .val (.int pp), .val (.int 1), .val (.int u0), .val (.int u1), .val (.int u2), .val (.ref r32), .unset, .unset, .unset] [(.int 2)])
            refine og_iloadN X36 111 at_110 rfl rfl ?_
            refine og_iconst X36 112 (2 : Int32) at_111 rfl rfl ?_
            refine og_icmpY X36 119 at_112 (XT.ii_le_t (by decide)) (by decide) (by decide) ?_
            refine og_iconst X36 120 (0 : Int32) at_119 rfl rfl ?_
            refine og_iload X36 122 at_120 rfl rfl ?_
            refine own_stat X36 125 (argsL := [(.int 0), (.int u2)]) (rest := [(.int 2)]) at_122 (rm_tab0 l Z n0 h36 [] a0 hw hWd X36.old u2  ) (ow hw 26 rfl) (ow hw 27 rfl) (ow hw 2 rfl) (ow hw 28 rfl) (by decide) (lenOf pd__28ZC_29I rfl) rfl rfl rfl (W := 1) rfl (by decide) (by decide) (by decide) (by decide) all0 rfl ?_
            intro T37 h37 v37 X37 K37 hQ37
            obtain rfl := hQ37
            show OGo _ _ _ _ T37 (mkF m 125 #[.val (.int pt), .val (.int pp), .val (.int 1), .val (.int u0), .val (.int u1), .val (.int u2), .val (.ref r32), .unset, .unset, .unset] [(.int 0), (.int 2)])
            refine og_iadd X37 126 at_125 rfl ?_
            show OGo _ _ _ _ T37 (mkF m 126 #[.val (.int pt), .val (.int pp), .val (.int 1), .val (.int u0), .val (.int u1), .val (.int u2), .val (.ref r32), .unset, .unset, .unset] [(.int 2)])
            refine og_istore X37 128 #[.val (.int pt), .val (.int pp), .val (.int 1), .val (.int u0), .val (.int u1), .val (.int u2), .val (.ref r32), .val (.int 2), .unset, .unset] at_126 rfl rfl ?_
            refine own_new X37 131 at_128 (ow hw 29 rfl) (ow hw 30 rfl) (ow hw 31 rfl) (by decide) (by decide) rfl ?_
            intro T38 h38 b38 X38 K38 G38 U38 E38 D38
            have f39 : Fld Z h38 b38 "com/example/ratable/ratable/core/JournalSums$Fields" "line" "Ljava/lang/String;" .null := D38 (Or.inr (ow hw 37 rfl)) (ty := (.object "java/lang/String")) (by decide)
            have f40 : Fld Z h38 b38 "com/example/ratable/ratable/core/JournalSums$Fields" "next" "I" (.int 0) := D38 (Or.inl (ow hw 44 rfl)) (ty := .int) (by decide)
            refine og_dup X38 132 at_131 rfl rfl ?_
            refine og_aload X38 134 at_132 rfl rfl rfl ?_
            refine own_spec X38 137 (a := b38) (argsL := [(.ref r32)]) (rest := [(.ref b38)]) at_134 rfl (rm6 l Z n0 h38 [] a0 hw hWd X38.old b38 r32 E38 f39 f40 (own_svb X38 (om 0 rfl))) (ow hw 32 rfl) (ow hw 33 rfl) (ow hw 31 rfl) (ow hw 34 rfl) (by decide) (lenOf pd__28Ljava_2flang_2fString_3b_29V rfl) rfl rfl rfl (W := 1) rfl (by decide) (by decide) (by decide) (by decide) (allS (om 0 rfl) all0) rfl ?_
            intro T41 h41 v41 X41 K41 hQ41
            obtain ⟨rfl, f42, f43⟩ := hQ41
            show OGo _ _ _ _ T41 (mkF m 137 #[.val (.int pt), .val (.int pp), .val (.int 1), .val (.int u0), .val (.int u1), .val (.int u2), .val (.ref r32), .val (.int 2), .unset, .unset] [(.ref b38)])
            refine og_astore X41 139 #[.val (.int pt), .val (.int pp), .val (.int 1), .val (.int u0), .val (.int u1), .val (.int u2), .val (.ref r32), .val (.int 2), .val (.ref b38), .unset] at_137 rfl rfl rfl ?_
            refine og_aload X41 141 at_139 rfl rfl rfl ?_
            have f44 := E38.keep K41
            have f45 := f33.keep K35 all0
            have f46 := f45.keep K36 all0
            have f47 := f46.keep K37 all0
            have f48 := f47.keep K38 all0
            have f49 := f48.keep K41 (allS (Or.inl (Nat.le_trans (Nat.le_trans (Nat.le_trans K35.1 K36.1) K37.1) G38)) all0)
            refine own_virt X41 144 (a := b38) (argsL := []) (rest := []) at_141 f44 (fun _ hZ => notFace_of_selects (args := #[]) (mvT hZ (ow hw 41 rfl))) (rm_more1 l Z n0 h41 [] a0 hw hWd X41.old b38 r32 [u0] (0 : Int32) f42 f43 f49.top (show ¬ (1 : Int32) < (0 : Int32) by decide) ) (ow hw 38 rfl) (ow hw 39 rfl) (ow hw 41 rfl) (ow hw 40 rfl) (ow hw 31 rfl) (ow hw 42 rfl) (by decide) (lenOf pd__28_29Z rfl) rfl rfl rfl (W := 0) rfl (by decide) (by decide) (by decide) (by decide) all0 rfl ?_
            intro T50 h50 v50 X50 K50 hQ50
            obtain rfl := hQ50
            show OGo _ _ _ _ T50 (mkF m 144 #[.val (.int pt), .val (.int pp), .val (.int 1), .val (.int u0), .val (.int u1), .val (.int u2), .val (.ref r32), .val (.int 2), .val (.ref b38), .unset] [(.int 1)])
            refine og_istore X50 146 #[.val (.int pt), .val (.int pp), .val (.int 1), .val (.int u0), .val (.int u1), .val (.int u2), .val (.ref r32), .val (.int 2), .val (.ref b38), .val (.int 1)] at_144 rfl rfl ?_
            refine og_iload X50 148 at_146 rfl rfl ?_
            refine og_ifN X50 151 at_148 (XT.i0_eq_f (by decide)) rfl ?_
            refine og_aload X50 153 at_151 rfl rfl rfl ?_
            have f51 := f44.keep K50
            have f52 := f42.keep K50 nin0
            have f53 := f43.keep K50 nin0
            have f54 := f49.keep K50 all0
            refine own_virt X50 156 (a := b38) (argsL := []) (rest := []) at_153 f51 (fun _ hZ => notFace_of_selects (args := #[]) (mvT hZ (ow hw 59 rfl))) (rf_txt100 l Z n0 h50 [] a0 hw hWd X50.old b38 r32 u0 f51 f52 f53 f54.top (own_lS ⟨ok1.1, ok1.2⟩ own_l0) hc34 (own_svb X50 (om 0 rfl))) (ow hw 56 rfl) (ow hw 57 rfl) (ow hw 59 rfl) (ow hw 58 rfl) (ow hw 31 rfl) (ow hw 60 rfl) (by decide) (lenOf pd__28_29Ljava_2flang_2fString_3b rfl) rfl rfl rfl (W := 0) rfl (by decide) (by decide) (by decide) (by decide) (allS (om 0 rfl) all0) rfl ?_
            intro T55 h55 v55 X55 K55 hQ55
            obtain ⟨r55, rfl, f56, f57⟩ := hQ55
            show OGo _ _ _ _ T55 (mkF m 156 #[.val (.int pt), .val (.int pp), .val (.int 1), .val (.int u0), .val (.int u1), .val (.int u2), .val (.ref r32), .val (.int 2), .val (.ref b38), .val (.int 1)] [(.ref r55)])
            refine og_pop X55 157 at_156 rfl rfl ?_
            refine og_aload X55 159 at_157 rfl rfl rfl ?_
            have f58 := f51.keep K55
            have f59 := f54.keep K55 (allS (Or.inl (Nat.le_trans (Nat.le_trans (Nat.le_trans K35.1 K36.1) K37.1) G38)) all0)
            refine own_virt X55 162 (a := b38) (argsL := []) (rest := []) at_159 f58 (fun _ hZ => notFace_of_selects (args := #[]) (mvT hZ (ow hw 41 rfl))) (rm_more1 l Z n0 h55 [] a0 hw hWd X55.old b38 r32 [u0] (1 : Int32) f56 f57 f59.top (show ¬ (1 : Int32) < (1 : Int32) by decide) ) (ow hw 38 rfl) (ow hw 39 rfl) (ow hw 41 rfl) (ow hw 40 rfl) (ow hw 31 rfl) (ow hw 42 rfl) (by decide) (lenOf pd__28_29Z rfl) rfl rfl rfl (W := 0) rfl (by decide) (by decide) (by decide) (by decide) all0 rfl ?_
            intro T60 h60 v60 X60 K60 hQ60
            obtain rfl := hQ60
            show OGo _ _ _ _ T60 (mkF m 162 #[.val (.int pt), .val (.int pp), .val (.int 1), .val (.int u0), .val (.int u1), .val (.int u2), .val (.ref r32), .val (.int 2), .val (.ref b38), .val (.int 1)] [(.int 1)])
            refine og_iload X60 164 at_162 rfl rfl ?_
            refine og_iconst X60 165 (2 : Int32) at_164 rfl rfl ?_
            refine og_icmpN X60 168 at_165 (XT.ii_lt_f (by decide)) rfl ?_
            refine og_iconst X60 169 (1 : Int32) at_168 rfl rfl ?_
            refine og_goto X60 173 at_169 (by decide) (by decide) ?_
            refine og_icmpN X60 176 at_173 (XT.ii_ne_f (by decide)) rfl ?_
            refine og_iconst X60 177 (1 : Int32) at_176 rfl rfl ?_
            refine og_goto X60 181 at_177 (by decide) (by decide) ?_
            refine og_istore X60 183 #[.val (.int pt), .val (.int pp), .val (.int 1), .val (.int u0), .val (.int u1), .val (.int u2), .val (.ref r32), .val (.int 2), .val (.ref b38), .val (.int 1)] at_181 rfl rfl ?_
            refine og_iload X60 185 at_183 rfl rfl ?_
            refine og_ifN X60 188 at_185 (XT.i0_eq_f (by decide)) rfl ?_
            refine og_iload X60 190 at_188 rfl rfl ?_
            refine og_iconst X60 191 (2 : Int32) at_190 rfl rfl ?_
            refine og_icmpN X60 194 at_191 (XT.ii_lt_f (by decide)) rfl ?_
            refine og_aload X60 196 at_194 rfl rfl rfl ?_
            have f61 := f58.keep K60
            have f62 := f56.keep K60 nin0
            have f63 := f57.keep K60 nin0
            have f64 := f59.keep K60 all0
            refine own_virt X60 199 (a := b38) (argsL := []) (rest := []) at_196 f61 (fun _ hZ => notFace_of_selects (args := #[]) (mvT hZ (ow hw 59 rfl))) (rf_txt111 l Z n0 h60 [] a0 hw hWd X60.old b38 r32 u0 f61 f62 f63 f64.top (own_lS ⟨ok1.1, ok1.2⟩ own_l0) (own_svb X60 (om 0 rfl))) (ow hw 56 rfl) (ow hw 57 rfl) (ow hw 59 rfl) (ow hw 58 rfl) (ow hw 31 rfl) (ow hw 60 rfl) (by decide) (lenOf pd__28_29Ljava_2flang_2fString_3b rfl) rfl rfl rfl (W := 0) rfl (by decide) (by decide) (by decide) (by decide) (allS (om 0 rfl) all0) rfl ?_
            intro T65 h65 v65 X65 K65 hQ65
            obtain ⟨r65, rfl, f66, f67⟩ := hQ65
            show OGo _ _ _ _ T65 (mkF m 199 #[.val (.int pt), .val (.int pp), .val (.int 1), .val (.int u0), .val (.int u1), .val (.int u2), .val (.ref r32), .val (.int 2), .val (.ref b38), .val (.int 1)] [(.ref r65)])
            refine og_pop X65 200 at_199 rfl rfl ?_
            refine og_aload X65 202 at_200 rfl rfl rfl ?_
            have f68 := f61.keep K65
            have f69 := f64.keep K65 (allS (Or.inl (Nat.le_trans (Nat.le_trans (Nat.le_trans K35.1 K36.1) K37.1) G38)) all0)
            refine own_virt X65 205 (a := b38) (argsL := []) (rest := []) at_202 f68 (fun _ hZ => notFace_of_selects (args := #[]) (mvT hZ (ow hw 41 rfl))) (rm_more0 l Z n0 h65 [] a0 hw hWd X65.old b38 r32 [u0] (2 : Int32) f66 f67 f69.top (show (1 : Int32) < (2 : Int32) by decide) ) (ow hw 38 rfl) (ow hw 39 rfl) (ow hw 41 rfl) (ow hw 40 rfl) (ow hw 31 rfl) (ow hw 42 rfl) (by decide) (lenOf pd__28_29Z rfl) rfl rfl rfl (W := 0) rfl (by decide) (by decide) (by decide) (by decide) all0 rfl ?_
            intro T70 h70 v70 X70 K70 hQ70
            obtain rfl := hQ70
            show OGo _ _ _ _ T70 (mkF m 205 #[.val (.int pt), .val (.int pp), .val (.int 1), .val (.int u0), .val (.int u1), .val (.int u2), .val (.ref r32), .val (.int 2), .val (.ref b38), .val (.int 1)] [(.int 0)])
            refine og_iload X70 207 at_205 rfl rfl ?_
            refine og_iconst X70 208 (3 : Int32) at_207 rfl rfl ?_
            refine og_icmpY X70 215 at_208 (XT.ii_lt_t (by decide)) (by decide) (by decide) ?_
            refine og_iconst X70 216 (0 : Int32) at_215 rfl rfl ?_
            refine og_icmpN X70 219 at_216 (XT.ii_ne_f (by decide)) rfl ?_
            refine og_iconst X70 220 (1 : Int32) at_219 rfl rfl ?_
            refine og_goto X70 224 at_220 (by decide) (by decide) ?_
            refine og_istore X70 226 #[.val (.int pt), .val (.int pp), .val (.int 1), .val (.int u0), .val (.int u1), .val (.int u2), .val (.ref r32), .val (.int 2), .val (.ref b38), .val (.int 1)] at_224 rfl rfl ?_
            refine og_iload X70 228 at_226 rfl rfl ?_
            refine og_ifN X70 231 at_228 (XT.i0_eq_f (by decide)) rfl ?_
            refine og_iload X70 233 at_231 rfl rfl ?_
            refine og_iconst X70 234 (3 : Int32) at_233 rfl rfl ?_
            refine og_icmpY X70 269 at_234 (XT.ii_lt_t (by decide)) (by decide) (by decide) ?_
            refine og_iload X70 271 at_269 rfl rfl ?_
            refine og_ifN X70 274 at_271 (XT.i0_eq_f (by decide)) rfl ?_
            refine og_iload X70 276 at_274 rfl rfl ?_
            refine og_iconst X70 277 (4 : Int32) at_276 rfl rfl ?_
            refine og_icmpY X70 301 at_277 (XT.ii_lt_t (by decide)) (by decide) (by decide) ?_
            refine og_iload X70 303 at_301 rfl rfl ?_
            refine own_retZ X70 at_303 hret rfl (by decide) (by decide) ?_
            exact rfl
          · -- not
            refine og_iconst X32 80 (1 : Int32) at_79 rfl rfl ?_
            refine og_iloadN X32 81 at_80 rfl rfl ?_
            refine og_ifN X32 84 at_81 (XT.i0_le_f (by decide)) rfl ?_
            refine og_iconst X32 85 (1 : Int32) at_84 rfl rfl ?_
            refine og_goto X32 89 at_85 (by decide) (by decide) ?_
            refine og_iloadN X32 90 at_89 rfl rfl ?_
            refine own_stat X32 93 (argsL := [(.int 1), (.int u0)]) (rest := [(.int 1)]) at_90 (rm_tab2 l Z n0 h32 [] a0 hw hWd X32.old u0 hc34 ) (ow hw 26 rfl) (ow hw 27 rfl) (ow hw 2 rfl) (ow hw 28 rfl) (by decide) (lenOf pd__28ZC_29I rfl) rfl rfl rfl (W := 1) rfl (by decide) (by decide) (by decide) (by decide) all0 rfl ?_
            intro T71 h71 v71 X71 K71 hQ71
            obtain rfl := hQ71
            show OGo _ _ _ _ T71 (mkF m 93 #[.val (.int pt), .val (.int pp), .val (.int 1), .val (.int u0), .val (.int u1), .val (.int u2), .val (.ref r32), .unset, .unset, .unset] [(.int 0), (.int 1)])
            refine og_iadd X71 94 at_93 rfl ?_
            show OGo _ _ _ _ T71 (mkF m 94 #[.val (.int pt), .val (.int pp), .val (.int 1), .val (.int u0), .val (.int u1), .val (.int u2), .val (.ref r32), .unset, .unset, .unset] [(.int 1)])
            refine og_iloadN X71 95 at_94 rfl rfl ?_
            refine og_iconst X71 96 (1 : Int32) at_95 rfl rfl ?_
            refine og_icmpY X71 103 at_96 (XT.ii_le_t (by decide)) (by decide) (by decide) ?_
            refine og_iconst X71 104 (0 : Int32) at_103 rfl rfl ?_
            refine og_iload X71 106 at_104 rfl rfl ?_
            refine own_stat X71 109 (argsL := [(.int 0), (.int u1)]) (rest := [(.int 1)]) at_106 (rm_tab0 l Z n0 h71 [] a0 hw hWd X71.old u1  ) (ow hw 26 rfl) (ow hw 27 rfl) (ow hw 2 rfl) (ow hw 28 rfl) (by decide) (lenOf pd__28ZC_29I rfl) rfl rfl rfl (W := 1) rfl (by decide) (by decide) (by decide) (by decide) all0 rfl ?_
            intro T72 h72 v72 X72 K72 hQ72
            obtain rfl := hQ72
            show OGo _ _ _ _ T72 (mkF m 109 #[.val (.int pt), .val (.int pp), .val (.int 1), .val (.int u0), .val (.int u1), .val (.int u2), .val (.ref r32), .unset, .unset, .unset] [(.int 0), (.int 1)])
            refine og_iadd X72 110 at_109 rfl ?_
            show OGo _ _ _ _ T72 (mkF m 110 #[.val (.int pt), .val (.int pp), .val (.int 1), .val (.int u0), .val (.int u1), .val (.int u2), .val (.ref r32), .unset, .unset, .unset] [(.int 1)])
            refine og_iloadN X72 111 at_110 rfl rfl ?_
            refine og_iconst X72 112 (2 : Int32) at_111 rfl rfl ?_
            refine og_icmpY X72 119 at_112 (XT.ii_le_t (by decide)) (by decide) (by decide) ?_
            refine og_iconst X72 120 (0 : Int32) at_119 rfl rfl ?_
            refine og_iload X72 122 at_120 rfl rfl ?_
            refine own_stat X72 125 (argsL := [(.int 0), (.int u2)]) (rest := [(.int 1)]) at_122 (rm_tab0 l Z n0 h72 [] a0 hw hWd X72.old u2  ) (ow hw 26 rfl) (ow hw 27 rfl) (ow hw 2 rfl) (ow hw 28 rfl) (by decide) (lenOf pd__28ZC_29I rfl) rfl rfl rfl (W := 1) rfl (by decide) (by decide) (by decide) (by decide) all0 rfl ?_
            intro T73 h73 v73 X73 K73 hQ73
            obtain rfl := hQ73
            show OGo _ _ _ _ T73 (mkF m 125 #[.val (.int pt), .val (.int pp), .val (.int 1), .val (.int u0), .val (.int u1), .val (.int u2), .val (.ref r32), .unset, .unset, .unset] [(.int 0), (.int 1)])
            refine og_iadd X73 126 at_125 rfl ?_
            show OGo _ _ _ _ T73 (mkF m 126 #[.val (.int pt), .val (.int pp), .val (.int 1), .val (.int u0), .val (.int u1), .val (.int u2), .val (.ref r32), .unset, .unset, .unset] [(.int 1)])
            refine og_istore X73 128 #[.val (.int pt), .val (.int pp), .val (.int 1), .val (.int u0), .val (.int u1), .val (.int u2), .val (.ref r32), .val (.int 1), .unset, .unset] at_126 rfl rfl ?_
            refine own_new X73 131 at_128 (ow hw 29 rfl) (ow hw 30 rfl) (ow hw 31 rfl) (by decide) (by decide) rfl ?_
            intro T74 h74 b74 X74 K74 G74 U74 E74 D74
            have f75 : Fld Z h74 b74 "com/example/ratable/ratable/core/JournalSums$Fields" "line" "Ljava/lang/String;" .null := D74 (Or.inr (ow hw 37 rfl)) (ty := (.object "java/lang/String")) (by decide)
            have f76 : Fld Z h74 b74 "com/example/ratable/ratable/core/JournalSums$Fields" "next" "I" (.int 0) := D74 (Or.inl (ow hw 44 rfl)) (ty := .int) (by decide)
            refine og_dup X74 132 at_131 rfl rfl ?_
            refine og_aload X74 134 at_132 rfl rfl rfl ?_
            refine own_spec X74 137 (a := b74) (argsL := [(.ref r32)]) (rest := [(.ref b74)]) at_134 rfl (rm6 l Z n0 h74 [] a0 hw hWd X74.old b74 r32 E74 f75 f76 (own_svb X74 (om 0 rfl))) (ow hw 32 rfl) (ow hw 33 rfl) (ow hw 31 rfl) (ow hw 34 rfl) (by decide) (lenOf pd__28Ljava_2flang_2fString_3b_29V rfl) rfl rfl rfl (W := 1) rfl (by decide) (by decide) (by decide) (by decide) (allS (om 0 rfl) all0) rfl ?_
            intro T77 h77 v77 X77 K77 hQ77
            obtain ⟨rfl, f78, f79⟩ := hQ77
            show OGo _ _ _ _ T77 (mkF m 137 #[.val (.int pt), .val (.int pp), .val (.int 1), .val (.int u0), .val (.int u1), .val (.int u2), .val (.ref r32), .val (.int 1), .unset, .unset] [(.ref b74)])
            refine og_astore X77 139 #[.val (.int pt), .val (.int pp), .val (.int 1), .val (.int u0), .val (.int u1), .val (.int u2), .val (.ref r32), .val (.int 1), .val (.ref b74), .unset] at_137 rfl rfl rfl ?_
            refine og_aload X77 141 at_139 rfl rfl rfl ?_
            have f80 := E74.keep K77
            have f81 := f33.keep K71 all0
            have f82 := f81.keep K72 all0
            have f83 := f82.keep K73 all0
            have f84 := f83.keep K74 all0
            have f85 := f84.keep K77 (allS (Or.inl (Nat.le_trans (Nat.le_trans (Nat.le_trans K71.1 K72.1) K73.1) G74)) all0)
            refine own_virt X77 144 (a := b74) (argsL := []) (rest := []) at_141 f80 (fun _ hZ => notFace_of_selects (args := #[]) (mvT hZ (ow hw 41 rfl))) (rm_more1 l Z n0 h77 [] a0 hw hWd X77.old b74 r32 [u0] (0 : Int32) f78 f79 f85.top (show ¬ (1 : Int32) < (0 : Int32) by decide) ) (ow hw 38 rfl) (ow hw 39 rfl) (ow hw 41 rfl) (ow hw 40 rfl) (ow hw 31 rfl) (ow hw 42 rfl) (by decide) (lenOf pd__28_29Z rfl) rfl rfl rfl (W := 0) rfl (by decide) (by decide) (by decide) (by decide) all0 rfl ?_
            intro T86 h86 v86 X86 K86 hQ86
            obtain rfl := hQ86
            show OGo _ _ _ _ T86 (mkF m 144 #[.val (.int pt), .val (.int pp), .val (.int 1), .val (.int u0), .val (.int u1), .val (.int u2), .val (.ref r32), .val (.int 1), .val (.ref b74), .unset] [(.int 1)])
            refine og_istore X86 146 #[.val (.int pt), .val (.int pp), .val (.int 1), .val (.int u0), .val (.int u1), .val (.int u2), .val (.ref r32), .val (.int 1), .val (.ref b74), .val (.int 1)] at_144 rfl rfl ?_
            refine og_iload X86 148 at_146 rfl rfl ?_
            refine og_ifN X86 151 at_148 (XT.i0_eq_f (by decide)) rfl ?_
            refine og_aload X86 153 at_151 rfl rfl rfl ?_
            have f87 := f80.keep K86
            have f88 := f78.keep K86 nin0
            have f89 := f79.keep K86 nin0
            have f90 := f85.keep K86 all0
            refine own_virt X86 156 (a := b74) (argsL := []) (rest := []) at_153 f87 (fun _ hZ => notFace_of_selects (args := #[]) (mvT hZ (ow hw 59 rfl))) (rf_txt101 l Z n0 h86 [] a0 hw hWd X86.old b74 r32 u0 f87 f88 f89 f90.top (own_lS ⟨ok1.1, ok1.2⟩ own_l0) hc34 (own_svb X86 (om 0 rfl))) (ow hw 56 rfl) (ow hw 57 rfl) (ow hw 59 rfl) (ow hw 58 rfl) (ow hw 31 rfl) (ow hw 60 rfl) (by decide) (lenOf pd__28_29Ljava_2flang_2fString_3b rfl) rfl rfl rfl (W := 0) rfl (by decide) (by decide) (by decide) (by decide) (allS (om 0 rfl) all0) rfl ?_
            intro T91 h91 v91 X91 K91 hQ91
            obtain ⟨r91, rfl, f92, f93⟩ := hQ91
            show OGo _ _ _ _ T91 (mkF m 156 #[.val (.int pt), .val (.int pp), .val (.int 1), .val (.int u0), .val (.int u1), .val (.int u2), .val (.ref r32), .val (.int 1), .val (.ref b74), .val (.int 1)] [(.ref r91)])
            refine og_pop X91 157 at_156 rfl rfl ?_
            refine og_aload X91 159 at_157 rfl rfl rfl ?_
            have f94 := f87.keep K91
            have f95 := f90.keep K91 (allS (Or.inl (Nat.le_trans (Nat.le_trans (Nat.le_trans K71.1 K72.1) K73.1) G74)) all0)
            refine own_virt X91 162 (a := b74) (argsL := []) (rest := []) at_159 f94 (fun _ hZ => notFace_of_selects (args := #[]) (mvT hZ (ow hw 41 rfl))) (rm_more0 l Z n0 h91 [] a0 hw hWd X91.old b74 r32 [u0] (2 : Int32) f92 f93 f95.top (show (1 : Int32) < (2 : Int32) by decide) ) (ow hw 38 rfl) (ow hw 39 rfl) (ow hw 41 rfl) (ow hw 40 rfl) (ow hw 31 rfl) (ow hw 42 rfl) (by decide) (lenOf pd__28_29Z rfl) rfl rfl rfl (W := 0) rfl (by decide) (by decide) (by decide) (by decide) all0 rfl ?_
            intro T96 h96 v96 X96 K96 hQ96
            obtain rfl := hQ96
            show OGo _ _ _ _ T96 (mkF m 162 #[.val (.int pt), .val (.int pp), .val (.int 1), .val (.int u0), .val (.int u1), .val (.int u2), .val (.ref r32), .val (.int 1), .val (.ref b74), .val (.int 1)] [(.int 0)])
            refine og_iload X96 164 at_162 rfl rfl ?_
            refine og_iconst X96 165 (2 : Int32) at_164 rfl rfl ?_
            refine og_icmpY X96 172 at_165 (XT.ii_lt_t (by decide)) (by decide) (by decide) ?_
            refine og_iconst X96 173 (0 : Int32) at_172 rfl rfl ?_
            refine og_icmpN X96 176 at_173 (XT.ii_ne_f (by decide)) rfl ?_
            refine og_iconst X96 177 (1 : Int32) at_176 rfl rfl ?_
            refine og_goto X96 181 at_177 (by decide) (by decide) ?_
            refine og_istore X96 183 #[.val (.int pt), .val (.int pp), .val (.int 1), .val (.int u0), .val (.int u1), .val (.int u2), .val (.ref r32), .val (.int 1), .val (.ref b74), .val (.int 1)] at_181 rfl rfl ?_
            refine og_iload X96 185 at_183 rfl rfl ?_
            refine og_ifN X96 188 at_185 (XT.i0_eq_f (by decide)) rfl ?_
            refine og_iload X96 190 at_188 rfl rfl ?_
            refine og_iconst X96 191 (2 : Int32) at_190 rfl rfl ?_
            refine og_icmpY X96 226 at_191 (XT.ii_lt_t (by decide)) (by decide) (by decide) ?_
            refine og_iload X96 228 at_226 rfl rfl ?_
            refine og_ifN X96 231 at_228 (XT.i0_eq_f (by decide)) rfl ?_
            refine og_iload X96 233 at_231 rfl rfl ?_
            refine og_iconst X96 234 (3 : Int32) at_233 rfl rfl ?_
            refine og_icmpY X96 269 at_234 (XT.ii_lt_t (by decide)) (by decide) (by decide) ?_
            refine og_iload X96 271 at_269 rfl rfl ?_
            refine og_ifN X96 274 at_271 (XT.i0_eq_f (by decide)) rfl ?_
            refine og_iload X96 276 at_274 rfl rfl ?_
            refine og_iconst X96 277 (4 : Int32) at_276 rfl rfl ?_
            refine og_icmpY X96 301 at_277 (XT.ii_lt_t (by decide)) (by decide) (by decide) ?_
            refine og_iload X96 303 at_301 rfl rfl ?_
            refine own_retZ X96 at_303 hret rfl (by decide) (by decide) ?_
            exact rfl
        · -- n is 2
          rw [eQ]
          refine og_iloadN X3 69 at_68 rfl rfl ?_
          refine og_iloadN X3 70 at_69 rfl rfl ?_
          refine og_iload X3 72 at_70 rfl rfl ?_
          refine og_iload X3 74 at_72 rfl rfl ?_
          refine own_stat X3 77 (argsL := [(.int 2), (.int u0), (.int u1), (.int u2)]) (rest := []) at_74 (rm_ln2 l Z n0 h3 [] a0 hw hWd X3.old u0 u1 u2 ok1.1 ok1.2 ok2.1 ok2.2 ) (ow hw 0 rfl) (ow hw 1 rfl) (ow hw 2 rfl) (ow hw 3 rfl) (by decide) (lenOf pd__28ICCC_29Ljava_2flang_2fString_3b rfl) rfl rfl rfl (W := 0) rfl (by decide) (by decide) (by decide) (by decide) all0 rfl ?_
          intro T97 h97 v97 X97 K97 hQ97
          obtain ⟨r97, rfl, ge_r97, f98⟩ := hQ97
          show OGo _ _ _ _ T97 (mkF m 77 #[.val (.int pt), .val (.int pp), .val (.int 2), .val (.int u0), .val (.int u1), .val (.int u2), .unset, .unset, .unset, .unset] [(.ref r97)])
          refine og_astore X97 79 #[.val (.int pt), .val (.int pp), .val (.int 2), .val (.int u0), .val (.int u1), .val (.int u2), .val (.ref r97), .unset, .unset, .unset] at_77 rfl rfl rfl ?_
          by_cases hc99 : u0 = (9 : Int32)
          · -- u0 = (9 : Int32)
            by_cases hc100 : u1 = (9 : Int32)
            · -- u1 = (9 : Int32)
              refine og_iconst X97 80 (1 : Int32) at_79 rfl rfl ?_
              refine og_iloadN X97 81 at_80 rfl rfl ?_
              refine og_ifN X97 84 at_81 (XT.i0_le_f (by decide)) rfl ?_
              refine og_iconst X97 85 (1 : Int32) at_84 rfl rfl ?_
              refine og_goto X97 89 at_85 (by decide) (by decide) ?_
              refine og_iloadN X97 90 at_89 rfl rfl ?_
              refine own_stat X97 93 (argsL := [(.int 1), (.int u0)]) (rest := [(.int 1)]) at_90 (rm_tab1 l Z n0 h97 [] a0 hw hWd X97.old u0 hc99 ) (ow hw 26 rfl) (ow hw 27 rfl) (ow hw 2 rfl) (ow hw 28 rfl) (by decide) (lenOf pd__28ZC_29I rfl) rfl rfl rfl (W := 1) rfl (by decide) (by decide) (by decide) (by decide) all0 rfl ?_
              intro T101 h101 v101 X101 K101 hQ101
              obtain rfl := hQ101
              show OGo _ _ _ _ T101 (mkF m 93 #[.val (.int pt), .val (.int pp), .val (.int 2), .val (.int u0), .val (.int u1), .val (.int u2), .val (.ref r97), .unset, .unset, .unset] [(.int 1), (.int 1)])
              refine og_iadd X101 94 at_93 rfl ?_
              show OGo _ _ _ _ T101 (mkF m 94 #[.val (.int pt), .val (.int pp), .val (.int 2), .val (.int u0), .val (.int u1), .val (.int u2), .val (.ref r97), .unset, .unset, .unset] [(.int 2)])
              refine og_iloadN X101 95 at_94 rfl rfl ?_
              refine og_iconst X101 96 (1 : Int32) at_95 rfl rfl ?_
              refine og_icmpN X101 99 at_96 (XT.ii_le_f (by decide)) rfl ?_
              refine og_iconst X101 100 (1 : Int32) at_99 rfl rfl ?_
              refine og_goto X101 104 at_100 (by decide) (by decide) ?_
              refine og_iload X101 106 at_104 rfl rfl ?_
              refine own_stat X101 109 (argsL := [(.int 1), (.int u1)]) (rest := [(.int 2)]) at_106 (rm_tab1 l Z n0 h101 [] a0 hw hWd X101.old u1 hc100 ) (ow hw 26 rfl) (ow hw 27 rfl) (ow hw 2 rfl) (ow hw 28 rfl) (by decide) (lenOf pd__28ZC_29I rfl) rfl rfl rfl (W := 1) rfl (by decide) (by decide) (by decide) (by decide) all0 rfl ?_
              intro T102 h102 v102 X102 K102 hQ102
              obtain rfl := hQ102
              show OGo _ _ _ _ T102 (mkF m 109 #[.val (.int pt), .val (.int pp), .val (.int 2), .val (.int u0), .val (.int u1), .val (.int u2), .val (.ref r97), .unset, .unset, .unset] [(.int 1), (.int 2)])
              refine og_iadd X102 110 at_109 rfl ?_
              show OGo _ _ _ _ T102 (mkF m 110 #[.val (.int pt), .val (.int pp), .val (.int 2), .val (.int u0), .val (.int u1), .val (.int u2), .val (.ref r97), .unset, .unset, .unset] [(.int 3)])
              refine og_iloadN X102 111 at_110 rfl rfl ?_
              refine og_iconst X102 112 (2 : Int32) at_111 rfl rfl ?_
              refine og_icmpY X102 119 at_112 (XT.ii_le_t (by decide)) (by decide) (by decide) ?_
              refine og_iconst X102 120 (0 : Int32) at_119 rfl rfl ?_
              refine og_iload X102 122 at_120 rfl rfl ?_
              refine own_stat X102 125 (argsL := [(.int 0), (.int u2)]) (rest := [(.int 3)]) at_122 (rm_tab0 l Z n0 h102 [] a0 hw hWd X102.old u2  ) (ow hw 26 rfl) (ow hw 27 rfl) (ow hw 2 rfl) (ow hw 28 rfl) (by decide) (lenOf pd__28ZC_29I rfl) rfl rfl rfl (W := 1) rfl (by decide) (by decide) (by decide) (by decide) all0 rfl ?_
              intro T103 h103 v103 X103 K103 hQ103
              obtain rfl := hQ103
              show OGo _ _ _ _ T103 (mkF m 125 #[.val (.int pt), .val (.int pp), .val (.int 2), .val (.int u0), .val (.int u1), .val (.int u2), .val (.ref r97), .unset, .unset, .unset] [(.int 0), (.int 3)])
              refine og_iadd X103 126 at_125 rfl ?_
              show OGo _ _ _ _ T103 (mkF m 126 #[.val (.int pt), .val (.int pp), .val (.int 2), .val (.int u0), .val (.int u1), .val (.int u2), .val (.ref r97), .unset, .unset, .unset] [(.int 3)])
              refine og_istore X103 128 #[.val (.int pt), .val (.int pp), .val (.int 2), .val (.int u0), .val (.int u1), .val (.int u2), .val (.ref r97), .val (.int 3), .unset, .unset] at_126 rfl rfl ?_
              refine own_new X103 131 at_128 (ow hw 29 rfl) (ow hw 30 rfl) (ow hw 31 rfl) (by decide) (by decide) rfl ?_
              intro T104 h104 b104 X104 K104 G104 U104 E104 D104
              have f105 : Fld Z h104 b104 "com/example/ratable/ratable/core/JournalSums$Fields" "line" "Ljava/lang/String;" .null := D104 (Or.inr (ow hw 37 rfl)) (ty := (.object "java/lang/String")) (by decide)
              have f106 : Fld Z h104 b104 "com/example/ratable/ratable/core/JournalSums$Fields" "next" "I" (.int 0) := D104 (Or.inl (ow hw 44 rfl)) (ty := .int) (by decide)
              refine og_dup X104 132 at_131 rfl rfl ?_
              refine og_aload X104 134 at_132 rfl rfl rfl ?_
              refine own_spec X104 137 (a := b104) (argsL := [(.ref r97)]) (rest := [(.ref b104)]) at_134 rfl (rm6 l Z n0 h104 [] a0 hw hWd X104.old b104 r97 E104 f105 f106 (own_svb X104 (om 0 rfl))) (ow hw 32 rfl) (ow hw 33 rfl) (ow hw 31 rfl) (ow hw 34 rfl) (by decide) (lenOf pd__28Ljava_2flang_2fString_3b_29V rfl) rfl rfl rfl (W := 1) rfl (by decide) (by decide) (by decide) (by decide) (allS (om 0 rfl) all0) rfl ?_
              intro T107 h107 v107 X107 K107 hQ107
              obtain ⟨rfl, f108, f109⟩ := hQ107
              show OGo _ _ _ _ T107 (mkF m 137 #[.val (.int pt), .val (.int pp), .val (.int 2), .val (.int u0), .val (.int u1), .val (.int u2), .val (.ref r97), .val (.int 3), .unset, .unset] [(.ref b104)])
              refine og_astore X107 139 #[.val (.int pt), .val (.int pp), .val (.int 2), .val (.int u0), .val (.int u1), .val (.int u2), .val (.ref r97), .val (.int 3), .val (.ref b104), .unset] at_137 rfl rfl rfl ?_
              refine og_aload X107 141 at_139 rfl rfl rfl ?_
              have f110 := E104.keep K107
              have f111 := f98.keep K101 all0
              have f112 := f111.keep K102 all0
              have f113 := f112.keep K103 all0
              have f114 := f113.keep K104 all0
              have f115 := f114.keep K107 (allS (Or.inl (Nat.le_trans (Nat.le_trans (Nat.le_trans K101.1 K102.1) K103.1) G104)) all0)
              refine own_virt X107 144 (a := b104) (argsL := []) (rest := []) at_141 f110 (fun _ hZ => notFace_of_selects (args := #[]) (mvT hZ (ow hw 41 rfl))) (rm_more1 l Z n0 h107 [] a0 hw hWd X107.old b104 r97 [u0, u1] (0 : Int32) f108 f109 f115.top (show ¬ (2 : Int32) < (0 : Int32) by decide) ) (ow hw 38 rfl) (ow hw 39 rfl) (ow hw 41 rfl) (ow hw 40 rfl) (ow hw 31 rfl) (ow hw 42 rfl) (by decide) (lenOf pd__28_29Z rfl) rfl rfl rfl (W := 0) rfl (by decide) (by decide) (by decide) (by decide) all0 rfl ?_
              intro T116 h116 v116 X116 K116 hQ116
              obtain rfl := hQ116
              show OGo _ _ _ _ T116 (mkF m 144 #[.val (.int pt), .val (.int pp), .val (.int 2), .val (.int u0), .val (.int u1), .val (.int u2), .val (.ref r97), .val (.int 3), .val (.ref b104), .unset] [(.int 1)])
              refine og_istore X116 146 #[.val (.int pt), .val (.int pp), .val (.int 2), .val (.int u0), .val (.int u1), .val (.int u2), .val (.ref r97), .val (.int 3), .val (.ref b104), .val (.int 1)] at_144 rfl rfl ?_
              refine og_iload X116 148 at_146 rfl rfl ?_
              refine og_ifN X116 151 at_148 (XT.i0_eq_f (by decide)) rfl ?_
              refine og_aload X116 153 at_151 rfl rfl rfl ?_
              have f117 := f110.keep K116
              have f118 := f108.keep K116 nin0
              have f119 := f109.keep K116 nin0
              have f120 := f115.keep K116 all0
              refine own_virt X116 156 (a := b104) (argsL := []) (rest := []) at_153 f117 (fun _ hZ => notFace_of_selects (args := #[]) (mvT hZ (ow hw 59 rfl))) (rf_txt200 l Z n0 h116 [] a0 hw hWd X116.old b104 r97 u0 u1 f117 f118 f119 f120.top (own_lS ⟨ok1.1, ok1.2⟩ (own_lS ⟨ok2.1, ok2.2⟩ own_l0)) hc99 (own_svb X116 (om 0 rfl))) (ow hw 56 rfl) (ow hw 57 rfl) (ow hw 59 rfl) (ow hw 58 rfl) (ow hw 31 rfl) (ow hw 60 rfl) (by decide) (lenOf pd__28_29Ljava_2flang_2fString_3b rfl) rfl rfl rfl (W := 0) rfl (by decide) (by decide) (by decide) (by decide) (allS (om 0 rfl) all0) rfl ?_
              intro T121 h121 v121 X121 K121 hQ121
              obtain ⟨r121, rfl, f122, f123⟩ := hQ121
              show OGo _ _ _ _ T121 (mkF m 156 #[.val (.int pt), .val (.int pp), .val (.int 2), .val (.int u0), .val (.int u1), .val (.int u2), .val (.ref r97), .val (.int 3), .val (.ref b104), .val (.int 1)] [(.ref r121)])
              refine og_pop X121 157 at_156 rfl rfl ?_
              refine og_aload X121 159 at_157 rfl rfl rfl ?_
              have f124 := f117.keep K121
              have f125 := f120.keep K121 (allS (Or.inl (Nat.le_trans (Nat.le_trans (Nat.le_trans K101.1 K102.1) K103.1) G104)) all0)
              refine own_virt X121 162 (a := b104) (argsL := []) (rest := []) at_159 f124 (fun _ hZ => notFace_of_selects (args := #[]) (mvT hZ (ow hw 41 rfl))) (rm_more1 l Z n0 h121 [] a0 hw hWd X121.old b104 r97 [u0, u1] (1 : Int32) f122 f123 f125.top (show ¬ (2 : Int32) < (1 : Int32) by decide) ) (ow hw 38 rfl) (ow hw 39 rfl) (ow hw 41 rfl) (ow hw 40 rfl) (ow hw 31 rfl) (ow hw 42 rfl) (by decide) (lenOf pd__28_29Z rfl) rfl rfl rfl (W := 0) rfl (by decide) (by decide) (by decide) (by decide) all0 rfl ?_
              intro T126 h126 v126 X126 K126 hQ126
              obtain rfl := hQ126
              show OGo _ _ _ _ T126 (mkF m 162 #[.val (.int pt), .val (.int pp), .val (.int 2), .val (.int u0), .val (.int u1), .val (.int u2), .val (.ref r97), .val (.int 3), .val (.ref b104), .val (.int 1)] [(.int 1)])
              refine og_iload X126 164 at_162 rfl rfl ?_
              refine og_iconst X126 165 (2 : Int32) at_164 rfl rfl ?_
              refine og_icmpN X126 168 at_165 (XT.ii_lt_f (by decide)) rfl ?_
              refine og_iconst X126 169 (1 : Int32) at_168 rfl rfl ?_
              refine og_goto X126 173 at_169 (by decide) (by decide) ?_
              refine og_icmpN X126 176 at_173 (XT.ii_ne_f (by decide)) rfl ?_
              refine og_iconst X126 177 (1 : Int32) at_176 rfl rfl ?_
              refine og_goto X126 181 at_177 (by decide) (by decide) ?_
              refine og_istore X126 183 #[.val (.int pt), .val (.int pp), .val (.int 2), .val (.int u0), .val (.int u1), .val (.int u2), .val (.ref r97), .val (.int 3), .val (.ref b104), .val (.int 1)] at_181 rfl rfl ?_
              refine og_iload X126 185 at_183 rfl rfl ?_
              refine og_ifN X126 188 at_185 (XT.i0_eq_f (by decide)) rfl ?_
              refine og_iload X126 190 at_188 rfl rfl ?_
              refine og_iconst X126 191 (2 : Int32) at_190 rfl rfl ?_
              refine og_icmpN X126 194 at_191 (XT.ii_lt_f (by decide)) rfl ?_
              refine og_aload X126 196 at_194 rfl rfl rfl ?_
              have f127 := f124.keep K126
              have f128 := f122.keep K126 nin0
              have f129 := f123.keep K126 nin0
              have f130 := f125.keep K126 all0
              refine own_virt X126 199 (a := b104) (argsL := []) (rest := []) at_196 f127 (fun _ hZ => notFace_of_selects (args := #[]) (mvT hZ (ow hw 59 rfl))) (rf_txt211 l Z n0 h126 [] a0 hw hWd X126.old b104 r97 u0 u1 f127 f128 f129 f130.top (own_lS ⟨ok1.1, ok1.2⟩ (own_lS ⟨ok2.1, ok2.2⟩ own_l0)) hc100 (own_svb X126 (om 0 rfl))) (ow hw 56 rfl) (ow hw 57 rfl) (ow hw 59 rfl) (ow hw 58 rfl) (ow hw 31 rfl) (ow hw 60 rfl) (by decide) (lenOf pd__28_29Ljava_2flang_2fString_3b rfl) rfl rfl rfl (W := 0) rfl (by decide) (by decide) (by decide) (by decide) (allS (om 0 rfl) all0) rfl ?_
              intro T131 h131 v131 X131 K131 hQ131
              obtain ⟨r131, rfl, f132, f133⟩ := hQ131
              show OGo _ _ _ _ T131 (mkF m 199 #[.val (.int pt), .val (.int pp), .val (.int 2), .val (.int u0), .val (.int u1), .val (.int u2), .val (.ref r97), .val (.int 3), .val (.ref b104), .val (.int 1)] [(.ref r131)])
              refine og_pop X131 200 at_199 rfl rfl ?_
              refine og_aload X131 202 at_200 rfl rfl rfl ?_
              have f134 := f127.keep K131
              have f135 := f130.keep K131 (allS (Or.inl (Nat.le_trans (Nat.le_trans (Nat.le_trans K101.1 K102.1) K103.1) G104)) all0)
              refine own_virt X131 205 (a := b104) (argsL := []) (rest := []) at_202 f134 (fun _ hZ => notFace_of_selects (args := #[]) (mvT hZ (ow hw 41 rfl))) (rm_more1 l Z n0 h131 [] a0 hw hWd X131.old b104 r97 [u0, u1] (2 : Int32) f132 f133 f135.top (show ¬ (2 : Int32) < (2 : Int32) by decide) ) (ow hw 38 rfl) (ow hw 39 rfl) (ow hw 41 rfl) (ow hw 40 rfl) (ow hw 31 rfl) (ow hw 42 rfl) (by decide) (lenOf pd__28_29Z rfl) rfl rfl rfl (W := 0) rfl (by decide) (by decide) (by decide) (by decide) all0 rfl ?_
              intro T136 h136 v136 X136 K136 hQ136
              obtain rfl := hQ136
              show OGo _ _ _ _ T136 (mkF m 205 #[.val (.int pt), .val (.int pp), .val (.int 2), .val (.int u0), .val (.int u1), .val (.int u2), .val (.ref r97), .val (.int 3), .val (.ref b104), .val (.int 1)] [(.int 1)])
              refine og_iload X136 207 at_205 rfl rfl ?_
              refine og_iconst X136 208 (3 : Int32) at_207 rfl rfl ?_
              refine og_icmpN X136 211 at_208 (XT.ii_lt_f (by decide)) rfl ?_
              refine og_iconst X136 212 (1 : Int32) at_211 rfl rfl ?_
              refine og_goto X136 216 at_212 (by decide) (by decide) ?_
              refine og_icmpN X136 219 at_216 (XT.ii_ne_f (by decide)) rfl ?_
              refine og_iconst X136 220 (1 : Int32) at_219 rfl rfl ?_
              refine og_goto X136 224 at_220 (by decide) (by decide) ?_
              refine og_istore X136 226 #[.val (.int pt), .val (.int pp), .val (.int 2), .val (.int u0), .val (.int u1), .val (.int u2), .val (.ref r97), .val (.int 3), .val (.ref b104), .val (.int 1)] at_224 rfl rfl ?_
              refine og_iload X136 228 at_226 rfl rfl ?_
              refine og_ifN X136 231 at_228 (XT.i0_eq_f (by decide)) rfl ?_
              refine og_iload X136 233 at_231 rfl rfl ?_
              refine og_iconst X136 234 (3 : Int32) at_233 rfl rfl ?_
              refine og_icmpN X136 237 at_234 (XT.ii_lt_f (by decide)) rfl ?_
              refine og_aload X136 239 at_237 rfl rfl rfl ?_
              have f137 := f134.keep K136
              have f138 := f132.keep K136 nin0
              have f139 := f133.keep K136 nin0
              have f140 := f135.keep K136 all0
              refine own_virt X136 242 (a := b104) (argsL := []) (rest := []) at_239 f137 (fun _ hZ => notFace_of_selects (args := #[]) (mvT hZ (ow hw 59 rfl))) (rf_txt222 l Z n0 h136 [] a0 hw hWd X136.old b104 r97 u0 u1 f137 f138 f139 f140.top (own_lS ⟨ok1.1, ok1.2⟩ (own_lS ⟨ok2.1, ok2.2⟩ own_l0)) (own_svb X136 (om 0 rfl))) (ow hw 56 rfl) (ow hw 57 rfl) (ow hw 59 rfl) (ow hw 58 rfl) (ow hw 31 rfl) (ow hw 60 rfl) (by decide) (lenOf pd__28_29Ljava_2flang_2fString_3b rfl) rfl rfl rfl (W := 0) rfl (by decide) (by decide) (by decide) (by decide) (allS (om 0 rfl) all0) rfl ?_
              intro T141 h141 v141 X141 K141 hQ141
              obtain ⟨r141, rfl, f142, f143⟩ := hQ141
              show OGo _ _ _ _ T141 (mkF m 242 #[.val (.int pt), .val (.int pp), .val (.int 2), .val (.int u0), .val (.int u1), .val (.int u2), .val (.ref r97), .val (.int 3), .val (.ref b104), .val (.int 1)] [(.ref r141)])
              refine og_pop X141 243 at_242 rfl rfl ?_
              refine og_aload X141 245 at_243 rfl rfl rfl ?_
              have f144 := f137.keep K141
              have f145 := f140.keep K141 (allS (Or.inl (Nat.le_trans (Nat.le_trans (Nat.le_trans K101.1 K102.1) K103.1) G104)) all0)
              refine own_virt X141 248 (a := b104) (argsL := []) (rest := []) at_245 f144 (fun _ hZ => notFace_of_selects (args := #[]) (mvT hZ (ow hw 41 rfl))) (rm_more0 l Z n0 h141 [] a0 hw hWd X141.old b104 r97 [u0, u1] (3 : Int32) f142 f143 f145.top (show (2 : Int32) < (3 : Int32) by decide) ) (ow hw 38 rfl) (ow hw 39 rfl) (ow hw 41 rfl) (ow hw 40 rfl) (ow hw 31 rfl) (ow hw 42 rfl) (by decide) (lenOf pd__28_29Z rfl) rfl rfl rfl (W := 0) rfl (by decide) (by decide) (by decide) (by decide) all0 rfl ?_
              intro T146 h146 v146 X146 K146 hQ146
              obtain rfl := hQ146
              show OGo _ _ _ _ T146 (mkF m 248 #[.val (.int pt), .val (.int pp), .val (.int 2), .val (.int u0), .val (.int u1), .val (.int u2), .val (.ref r97), .val (.int 3), .val (.ref b104), .val (.int 1)] [(.int 0)])
              refine og_iload X146 250 at_248 rfl rfl ?_
              refine og_iconst X146 251 (4 : Int32) at_250 rfl rfl ?_
              refine og_icmpY X146 258 at_251 (XT.ii_lt_t (by decide)) (by decide) (by decide) ?_
              refine og_iconst X146 259 (0 : Int32) at_258 rfl rfl ?_
              refine og_icmpN X146 262 at_259 (XT.ii_ne_f (by decide)) rfl ?_
              refine og_iconst X146 263 (1 : Int32) at_262 rfl rfl ?_
              refine og_goto X146 267 at_263 (by decide) (by decide) ?_
              refine og_istore X146 269 #[.val (.int pt), .val (.int pp), .val (.int 2), .val (.int u0), .val (.int u1), .val (.int u2), .val (.ref r97), .val (.int 3), .val (.ref b104), .val (.int 1)] at_267 rfl rfl ?_
              refine og_iload X146 271 at_269 rfl rfl ?_
              refine og_ifN X146 274 at_271 (XT.i0_eq_f (by decide)) rfl ?_
              refine og_iload X146 276 at_274 rfl rfl ?_
              refine og_iconst X146 277 (4 : Int32) at_276 rfl rfl ?_
              refine og_icmpY X146 301 at_277 (XT.ii_lt_t (by decide)) (by decide) (by decide) ?_
              refine og_iload X146 303 at_301 rfl rfl ?_
              refine own_retZ X146 at_303 hret rfl (by decide) (by decide) ?_
              exact rfl
            · -- not
              refine og_iconst X97 80 (1 : Int32) at_79 rfl rfl ?_
              refine og_iloadN X97 81 at_80 rfl rfl ?_
              refine og_ifN X97 84 at_81 (XT.i0_le_f (by decide)) rfl ?_
              refine og_iconst X97 85 (1 : Int32) at_84 rfl rfl ?_
              refine og_goto X97 89 at_85 (by decide) (by decide) ?_
              refine og_iloadN X97 90 at_89 rfl rfl ?_
              refine own_stat X97 93 (argsL := [(.int 1), (.int u0)]) (rest := [(.int 1)]) at_90 (rm_tab1 l Z n0 h97 [] a0 hw hWd X97.old u0 hc99 ) (ow hw 26 rfl) (ow hw 27 rfl) (ow hw 2 rfl) (ow hw 28 rfl) (by decide) (lenOf pd__28ZC_29I rfl) rfl rfl rfl (W := 1) rfl (by decide) (by decide) (by decide) (by decide) all0 rfl ?_
              intro T147 h147 v147 X147 K147 hQ147
              obtain rfl := hQ147
              show OGo _ _ _ _ T147 (mkF m 93 #[.val (.int pt), .val (.int pp), .val (.int 2), .val (.int u0), .val (.int u1), .val (.int u2), .val (.ref r97), .unset, .unset, .unset] [(.int 1), (.int 1)])
              refine og_iadd X147 94 at_93 rfl ?_
              show OGo _ _ _ _ T147 (mkF m 94 #[.val (.int pt), .val (.int pp), .val (.int 2), .val (.int u0), .val (.int u1), .val (.int u2), .val (.ref r97), .unset, .unset, .unset] [(.int 2)])
              refine og_iloadN X147 95 at_94 rfl rfl ?_
              refine og_iconst X147 96 (1 : Int32) at_95 rfl rfl ?_
              refine og_icmpN X147 99 at_96 (XT.ii_le_f (by decide)) rfl ?_
              refine og_iconst X147 100 (1 : Int32) at_99 rfl rfl ?_
              refine og_goto X147 104 at_100 (by decide) (by decide) ?_
              refine og_iload X147 106 at_104 rfl rfl ?_
              refine own_stat X147 109 (argsL := [(.int 1), (.int u1)]) (rest := [(.int 2)]) at_106 (rm_tab2 l Z n0 h147 [] a0 hw hWd X147.old u1 hc100 ) (ow hw 26 rfl) (ow hw 27 rfl) (ow hw 2 rfl) (ow hw 28 rfl) (by decide) (lenOf pd__28ZC_29I rfl) rfl rfl rfl (W := 1) rfl (by decide) (by decide) (by decide) (by decide) all0 rfl ?_
              intro T148 h148 v148 X148 K148 hQ148
              obtain rfl := hQ148
              show OGo _ _ _ _ T148 (mkF m 109 #[.val (.int pt), .val (.int pp), .val (.int 2), .val (.int u0), .val (.int u1), .val (.int u2), .val (.ref r97), .unset, .unset, .unset] [(.int 0), (.int 2)])
              refine og_iadd X148 110 at_109 rfl ?_
              show OGo _ _ _ _ T148 (mkF m 110 #[.val (.int pt), .val (.int pp), .val (.int 2), .val (.int u0), .val (.int u1), .val (.int u2), .val (.ref r97), .unset, .unset, .unset] [(.int 2)])
              refine og_iloadN X148 111 at_110 rfl rfl ?_
              refine og_iconst X148 112 (2 : Int32) at_111 rfl rfl ?_
              refine og_icmpY X148 119 at_112 (XT.ii_le_t (by decide)) (by decide) (by decide) ?_
              refine og_iconst X148 120 (0 : Int32) at_119 rfl rfl ?_
              refine og_iload X148 122 at_120 rfl rfl ?_
              refine own_stat X148 125 (argsL := [(.int 0), (.int u2)]) (rest := [(.int 2)]) at_122 (rm_tab0 l Z n0 h148 [] a0 hw hWd X148.old u2  ) (ow hw 26 rfl) (ow hw 27 rfl) (ow hw 2 rfl) (ow hw 28 rfl) (by decide) (lenOf pd__28ZC_29I rfl) rfl rfl rfl (W := 1) rfl (by decide) (by decide) (by decide) (by decide) all0 rfl ?_
              intro T149 h149 v149 X149 K149 hQ149
              obtain rfl := hQ149
              show OGo _ _ _ _ T149 (mkF m 125 #[.val (.int pt), .val (.int pp), .val (.int 2), .val (.int u0), .val (.int u1), .val (.int u2), .val (.ref r97), .unset, .unset, .unset] [(.int 0), (.int 2)])
              refine og_iadd X149 126 at_125 rfl ?_
              show OGo _ _ _ _ T149 (mkF m 126 #[.val (.int pt), .val (.int pp), .val (.int 2), .val (.int u0), .val (.int u1), .val (.int u2), .val (.ref r97), .unset, .unset, .unset] [(.int 2)])
              refine og_istore X149 128 #[.val (.int pt), .val (.int pp), .val (.int 2), .val (.int u0), .val (.int u1), .val (.int u2), .val (.ref r97), .val (.int 2), .unset, .unset] at_126 rfl rfl ?_
              refine own_new X149 131 at_128 (ow hw 29 rfl) (ow hw 30 rfl) (ow hw 31 rfl) (by decide) (by decide) rfl ?_
              intro T150 h150 b150 X150 K150 G150 U150 E150 D150
              have f151 : Fld Z h150 b150 "com/example/ratable/ratable/core/JournalSums$Fields" "line" "Ljava/lang/String;" .null := D150 (Or.inr (ow hw 37 rfl)) (ty := (.object "java/lang/String")) (by decide)
              have f152 : Fld Z h150 b150 "com/example/ratable/ratable/core/JournalSums$Fields" "next" "I" (.int 0) := D150 (Or.inl (ow hw 44 rfl)) (ty := .int) (by decide)
              refine og_dup X150 132 at_131 rfl rfl ?_
              refine og_aload X150 134 at_132 rfl rfl rfl ?_
              refine own_spec X150 137 (a := b150) (argsL := [(.ref r97)]) (rest := [(.ref b150)]) at_134 rfl (rm6 l Z n0 h150 [] a0 hw hWd X150.old b150 r97 E150 f151 f152 (own_svb X150 (om 0 rfl))) (ow hw 32 rfl) (ow hw 33 rfl) (ow hw 31 rfl) (ow hw 34 rfl) (by decide) (lenOf pd__28Ljava_2flang_2fString_3b_29V rfl) rfl rfl rfl (W := 1) rfl (by decide) (by decide) (by decide) (by decide) (allS (om 0 rfl) all0) rfl ?_
              intro T153 h153 v153 X153 K153 hQ153
              obtain ⟨rfl, f154, f155⟩ := hQ153
              show OGo _ _ _ _ T153 (mkF m 137 #[.val (.int pt), .val (.int pp), .val (.int 2), .val (.int u0), .val (.int u1), .val (.int u2), .val (.ref r97), .val (.int 2), .unset, .unset] [(.ref b150)])
              refine og_astore X153 139 #[.val (.int pt), .val (.int pp), .val (.int 2), .val (.int u0), .val (.int u1), .val (.int u2), .val (.ref r97), .val (.int 2), .val (.ref b150), .unset] at_137 rfl rfl rfl ?_
              refine og_aload X153 141 at_139 rfl rfl rfl ?_
              have f156 := E150.keep K153
              have f157 := f98.keep K147 all0
              have f158 := f157.keep K148 all0
              have f159 := f158.keep K149 all0
              have f160 := f159.keep K150 all0
              have f161 := f160.keep K153 (allS (Or.inl (Nat.le_trans (Nat.le_trans (Nat.le_trans K147.1 K148.1) K149.1) G150)) all0)
              refine own_virt X153 144 (a := b150) (argsL := []) (rest := []) at_141 f156 (fun _ hZ => notFace_of_selects (args := #[]) (mvT hZ (ow hw 41 rfl))) (rm_more1 l Z n0 h153 [] a0 hw hWd X153.old b150 r97 [u0, u1] (0 : Int32) f154 f155 f161.top (show ¬ (2 : Int32) < (0 : Int32) by decide) ) (ow hw 38 rfl) (ow hw 39 rfl) (ow hw 41 rfl) (ow hw 40 rfl) (ow hw 31 rfl) (ow hw 42 rfl) (by decide) (lenOf pd__28_29Z rfl) rfl rfl rfl (W := 0) rfl (by decide) (by decide) (by decide) (by decide) all0 rfl ?_
              intro T162 h162 v162 X162 K162 hQ162
              obtain rfl := hQ162
              show OGo _ _ _ _ T162 (mkF m 144 #[.val (.int pt), .val (.int pp), .val (.int 2), .val (.int u0), .val (.int u1), .val (.int u2), .val (.ref r97), .val (.int 2), .val (.ref b150), .unset] [(.int 1)])
              refine og_istore X162 146 #[.val (.int pt), .val (.int pp), .val (.int 2), .val (.int u0), .val (.int u1), .val (.int u2), .val (.ref r97), .val (.int 2), .val (.ref b150), .val (.int 1)] at_144 rfl rfl ?_
              refine og_iload X162 148 at_146 rfl rfl ?_
              refine og_ifN X162 151 at_148 (XT.i0_eq_f (by decide)) rfl ?_
              refine og_aload X162 153 at_151 rfl rfl rfl ?_
              have f163 := f156.keep K162
              have f164 := f154.keep K162 nin0
              have f165 := f155.keep K162 nin0
              have f166 := f161.keep K162 all0
              refine own_virt X162 156 (a := b150) (argsL := []) (rest := []) at_153 f163 (fun _ hZ => notFace_of_selects (args := #[]) (mvT hZ (ow hw 59 rfl))) (rf_txt200 l Z n0 h162 [] a0 hw hWd X162.old b150 r97 u0 u1 f163 f164 f165 f166.top (own_lS ⟨ok1.1, ok1.2⟩ (own_lS ⟨ok2.1, ok2.2⟩ own_l0)) hc99 (own_svb X162 (om 0 rfl))) (ow hw 56 rfl) (ow hw 57 rfl) (ow hw 59 rfl) (ow hw 58 rfl) (ow hw 31 rfl) (ow hw 60 rfl) (by decide) (lenOf pd__28_29Ljava_2flang_2fString_3b rfl) rfl rfl rfl (W := 0) rfl (by decide) (by decide) (by decide) (by decide) (allS (om 0 rfl) all0) rfl ?_
              intro T167 h167 v167 X167 K167 hQ167
              obtain ⟨r167, rfl, f168, f169⟩ := hQ167
              show OGo _ _ _ _ T167 (mkF m 156 #[.val (.int pt), .val (.int pp), .val (.int 2), .val (.int u0), .val (.int u1), .val (.int u2), .val (.ref r97), .val (.int 2), .val (.ref b150), .val (.int 1)] [(.ref r167)])
              refine og_pop X167 157 at_156 rfl rfl ?_
              refine og_aload X167 159 at_157 rfl rfl rfl ?_
              have f170 := f163.keep K167
              have f171 := f166.keep K167 (allS (Or.inl (Nat.le_trans (Nat.le_trans (Nat.le_trans K147.1 K148.1) K149.1) G150)) all0)
              refine own_virt X167 162 (a := b150) (argsL := []) (rest := []) at_159 f170 (fun _ hZ => notFace_of_selects (args := #[]) (mvT hZ (ow hw 41 rfl))) (rm_more1 l Z n0 h167 [] a0 hw hWd X167.old b150 r97 [u0, u1] (1 : Int32) f168 f169 f171.top (show ¬ (2 : Int32) < (1 : Int32) by decide) ) (ow hw 38 rfl) (ow hw 39 rfl) (ow hw 41 rfl) (ow hw 40 rfl) (ow hw 31 rfl) (ow hw 42 rfl) (by decide) (lenOf pd__28_29Z rfl) rfl rfl rfl (W := 0) rfl (by decide) (by decide) (by decide) (by decide) all0 rfl ?_
              intro T172 h172 v172 X172 K172 hQ172
              obtain rfl := hQ172
              show OGo _ _ _ _ T172 (mkF m 162 #[.val (.int pt), .val (.int pp), .val (.int 2), .val (.int u0), .val (.int u1), .val (.int u2), .val (.ref r97), .val (.int 2), .val (.ref b150), .val (.int 1)] [(.int 1)])
              refine og_iload X172 164 at_162 rfl rfl ?_
              refine og_iconst X172 165 (2 : Int32) at_164 rfl rfl ?_
              refine og_icmpN X172 168 at_165 (XT.ii_lt_f (by decide)) rfl ?_
              refine og_iconst X172 169 (1 : Int32) at_168 rfl rfl ?_
              refine og_goto X172 173 at_169 (by decide) (by decide) ?_
              refine og_icmpN X172 176 at_173 (XT.ii_ne_f (by decide)) rfl ?_
              refine og_iconst X172 177 (1 : Int32) at_176 rfl rfl ?_
              refine og_goto X172 181 at_177 (by decide) (by decide) ?_
              refine og_istore X172 183 #[.val (.int pt), .val (.int pp), .val (.int 2), .val (.int u0), .val (.int u1), .val (.int u2), .val (.ref r97), .val (.int 2), .val (.ref b150), .val (.int 1)] at_181 rfl rfl ?_
              refine og_iload X172 185 at_183 rfl rfl ?_
              refine og_ifN X172 188 at_185 (XT.i0_eq_f (by decide)) rfl ?_
              refine og_iload X172 190 at_188 rfl rfl ?_
              refine og_iconst X172 191 (2 : Int32) at_190 rfl rfl ?_
              refine og_icmpN X172 194 at_191 (XT.ii_lt_f (by decide)) rfl ?_
              refine og_aload X172 196 at_194 rfl rfl rfl ?_
              have f173 := f170.keep K172
              have f174 := f168.keep K172 nin0
              have f175 := f169.keep K172 nin0
              have f176 := f171.keep K172 all0
              refine own_virt X172 199 (a := b150) (argsL := []) (rest := []) at_196 f173 (fun _ hZ => notFace_of_selects (args := #[]) (mvT hZ (ow hw 59 rfl))) (rf_txt212 l Z n0 h172 [] a0 hw hWd X172.old b150 r97 u0 u1 f173 f174 f175 f176.top (own_lS ⟨ok1.1, ok1.2⟩ (own_lS ⟨ok2.1, ok2.2⟩ own_l0)) hc100 (own_svb X172 (om 0 rfl))) (ow hw 56 rfl) (ow hw 57 rfl) (ow hw 59 rfl) (ow hw 58 rfl) (ow hw 31 rfl) (ow hw 60 rfl) (by decide) (lenOf pd__28_29Ljava_2flang_2fString_3b rfl) rfl rfl rfl (W := 0) rfl (by decide) (by decide) (by decide) (by decide) (allS (om 0 rfl) all0) rfl ?_
              intro T177 h177 v177 X177 K177 hQ177
              obtain ⟨r177, rfl, f178, f179⟩ := hQ177
              show OGo _ _ _ _ T177 (mkF m 199 #[.val (.int pt), .val (.int pp), .val (.int 2), .val (.int u0), .val (.int u1), .val (.int u2), .val (.ref r97), .val (.int 2), .val (.ref b150), .val (.int 1)] [(.ref r177)])
              refine og_pop X177 200 at_199 rfl rfl ?_
              refine og_aload X177 202 at_200 rfl rfl rfl ?_
              have f180 := f173.keep K177
              have f181 := f176.keep K177 (allS (Or.inl (Nat.le_trans (Nat.le_trans (Nat.le_trans K147.1 K148.1) K149.1) G150)) all0)
              refine own_virt X177 205 (a := b150) (argsL := []) (rest := []) at_202 f180 (fun _ hZ => notFace_of_selects (args := #[]) (mvT hZ (ow hw 41 rfl))) (rm_more0 l Z n0 h177 [] a0 hw hWd X177.old b150 r97 [u0, u1] (3 : Int32) f178 f179 f181.top (show (2 : Int32) < (3 : Int32) by decide) ) (ow hw 38 rfl) (ow hw 39 rfl) (ow hw 41 rfl) (ow hw 40 rfl) (ow hw 31 rfl) (ow hw 42 rfl) (by decide) (lenOf pd__28_29Z rfl) rfl rfl rfl (W := 0) rfl (by decide) (by decide) (by decide) (by decide) all0 rfl ?_
              intro T182 h182 v182 X182 K182 hQ182
              obtain rfl := hQ182
              show OGo _ _ _ _ T182 (mkF m 205 #[.val (.int pt), .val (.int pp), .val (.int 2), .val (.int u0), .val (.int u1), .val (.int u2), .val (.ref r97), .val (.int 2), .val (.ref b150), .val (.int 1)] [(.int 0)])
              refine og_iload X182 207 at_205 rfl rfl ?_
              refine og_iconst X182 208 (3 : Int32) at_207 rfl rfl ?_
              refine og_icmpY X182 215 at_208 (XT.ii_lt_t (by decide)) (by decide) (by decide) ?_
              refine og_iconst X182 216 (0 : Int32) at_215 rfl rfl ?_
              refine og_icmpN X182 219 at_216 (XT.ii_ne_f (by decide)) rfl ?_
              refine og_iconst X182 220 (1 : Int32) at_219 rfl rfl ?_
              refine og_goto X182 224 at_220 (by decide) (by decide) ?_
              refine og_istore X182 226 #[.val (.int pt), .val (.int pp), .val (.int 2), .val (.int u0), .val (.int u1), .val (.int u2), .val (.ref r97), .val (.int 2), .val (.ref b150), .val (.int 1)] at_224 rfl rfl ?_
              refine og_iload X182 228 at_226 rfl rfl ?_
              refine og_ifN X182 231 at_228 (XT.i0_eq_f (by decide)) rfl ?_
              refine og_iload X182 233 at_231 rfl rfl ?_
              refine og_iconst X182 234 (3 : Int32) at_233 rfl rfl ?_
              refine og_icmpY X182 269 at_234 (XT.ii_lt_t (by decide)) (by decide) (by decide) ?_
              refine og_iload X182 271 at_269 rfl rfl ?_
              refine og_ifN X182 274 at_271 (XT.i0_eq_f (by decide)) rfl ?_
              refine og_iload X182 276 at_274 rfl rfl ?_
              refine og_iconst X182 277 (4 : Int32) at_276 rfl rfl ?_
              refine og_icmpY X182 301 at_277 (XT.ii_lt_t (by decide)) (by decide) (by decide) ?_
              refine og_iload X182 303 at_301 rfl rfl ?_
              refine own_retZ X182 at_303 hret rfl (by decide) (by decide) ?_
              exact rfl
          · -- not
            by_cases hc183 : u1 = (9 : Int32)
            · -- u1 = (9 : Int32)
              refine og_iconst X97 80 (1 : Int32) at_79 rfl rfl ?_
              refine og_iloadN X97 81 at_80 rfl rfl ?_
              refine og_ifN X97 84 at_81 (XT.i0_le_f (by decide)) rfl ?_
              refine og_iconst X97 85 (1 : Int32) at_84 rfl rfl ?_
              refine og_goto X97 89 at_85 (by decide) (by decide) ?_
              refine og_iloadN X97 90 at_89 rfl rfl ?_
              refine own_stat X97 93 (argsL := [(.int 1), (.int u0)]) (rest := [(.int 1)]) at_90 (rm_tab2 l Z n0 h97 [] a0 hw hWd X97.old u0 hc99 ) (ow hw 26 rfl) (ow hw 27 rfl) (ow hw 2 rfl) (ow hw 28 rfl) (by decide) (lenOf pd__28ZC_29I rfl) rfl rfl rfl (W := 1) rfl (by decide) (by decide) (by decide) (by decide) all0 rfl ?_
              intro T184 h184 v184 X184 K184 hQ184
              obtain rfl := hQ184
              show OGo _ _ _ _ T184 (mkF m 93 #[.val (.int pt), .val (.int pp), .val (.int 2), .val (.int u0), .val (.int u1), .val (.int u2), .val (.ref r97), .unset, .unset, .unset] [(.int 0), (.int 1)])
              refine og_iadd X184 94 at_93 rfl ?_
              show OGo _ _ _ _ T184 (mkF m 94 #[.val (.int pt), .val (.int pp), .val (.int 2), .val (.int u0), .val (.int u1), .val (.int u2), .val (.ref r97), .unset, .unset, .unset] [(.int 1)])
              refine og_iloadN X184 95 at_94 rfl rfl ?_
              refine og_iconst X184 96 (1 : Int32) at_95 rfl rfl ?_
              refine og_icmpN X184 99 at_96 (XT.ii_le_f (by decide)) rfl ?_
              refine og_iconst X184 100 (1 : Int32) at_99 rfl rfl ?_
              refine og_goto X184 104 at_100 (by decide) (by decide) ?_
              refine og_iload X184 106 at_104 rfl rfl ?_
              refine own_stat X184 109 (argsL := [(.int 1), (.int u1)]) (rest := [(.int 1)]) at_106 (rm_tab1 l Z n0 h184 [] a0 hw hWd X184.old u1 hc183 ) (ow hw 26 rfl) (ow hw 27 rfl) (ow hw 2 rfl) (ow hw 28 rfl) (by decide) (lenOf pd__28ZC_29I rfl) rfl rfl rfl (W := 1) rfl (by decide) (by decide) (by decide) (by decide) all0 rfl ?_
              intro T185 h185 v185 X185 K185 hQ185
              obtain rfl := hQ185
              show OGo _ _ _ _ T185 (mkF m 109 #[.val (.int pt), .val (.int pp), .val (.int 2), .val (.int u0), .val (.int u1), .val (.int u2), .val (.ref r97), .unset, .unset, .unset] [(.int 1), (.int 1)])
              refine og_iadd X185 110 at_109 rfl ?_
              show OGo _ _ _ _ T185 (mkF m 110 #[.val (.int pt), .val (.int pp), .val (.int 2), .val (.int u0), .val (.int u1), .val (.int u2), .val (.ref r97), .unset, .unset, .unset] [(.int 2)])
              refine og_iloadN X185 111 at_110 rfl rfl ?_
              refine og_iconst X185 112 (2 : Int32) at_111 rfl rfl ?_
              refine og_icmpY X185 119 at_112 (XT.ii_le_t (by decide)) (by decide) (by decide) ?_
              refine og_iconst X185 120 (0 : Int32) at_119 rfl rfl ?_
              refine og_iload X185 122 at_120 rfl rfl ?_
              refine own_stat X185 125 (argsL := [(.int 0), (.int u2)]) (rest := [(.int 2)]) at_122 (rm_tab0 l Z n0 h185 [] a0 hw hWd X185.old u2  ) (ow hw 26 rfl) (ow hw 27 rfl) (ow hw 2 rfl) (ow hw 28 rfl) (by decide) (lenOf pd__28ZC_29I rfl) rfl rfl rfl (W := 1) rfl (by decide) (by decide) (by decide) (by decide) all0 rfl ?_
              intro T186 h186 v186 X186 K186 hQ186
              obtain rfl := hQ186
              show OGo _ _ _ _ T186 (mkF m 125 #[.val (.int pt), .val (.int pp), .val (.int 2), .val (.int u0), .val (.int u1), .val (.int u2), .val (.ref r97), .unset, .unset, .unset] [(.int 0), (.int 2)])
              refine og_iadd X186 126 at_125 rfl ?_
              show OGo _ _ _ _ T186 (mkF m 126 #[.val (.int pt), .val (.int pp), .val (.int 2), .val (.int u0), .val (.int u1), .val (.int u2), .val (.ref r97), .unset, .unset, .unset] [(.int 2)])
              refine og_istore X186 128 #[.val (.int pt), .val (.int pp), .val (.int 2), .val (.int u0), .val (.int u1), .val (.int u2), .val (.ref r97), .val (.int 2), .unset, .unset] at_126 rfl rfl ?_
              refine own_new X186 131 at_128 (ow hw 29 rfl) (ow hw 30 rfl) (ow hw 31 rfl) (by decide) (by decide) rfl ?_
              intro T187 h187 b187 X187 K187 G187 U187 E187 D187
              have f188 : Fld Z h187 b187 "com/example/ratable/ratable/core/JournalSums$Fields" "line" "Ljava/lang/String;" .null := D187 (Or.inr (ow hw 37 rfl)) (ty := (.object "java/lang/String")) (by decide)
              have f189 : Fld Z h187 b187 "com/example/ratable/ratable/core/JournalSums$Fields" "next" "I" (.int 0) := D187 (Or.inl (ow hw 44 rfl)) (ty := .int) (by decide)
              refine og_dup X187 132 at_131 rfl rfl ?_
              refine og_aload X187 134 at_132 rfl rfl rfl ?_
              refine own_spec X187 137 (a := b187) (argsL := [(.ref r97)]) (rest := [(.ref b187)]) at_134 rfl (rm6 l Z n0 h187 [] a0 hw hWd X187.old b187 r97 E187 f188 f189 (own_svb X187 (om 0 rfl))) (ow hw 32 rfl) (ow hw 33 rfl) (ow hw 31 rfl) (ow hw 34 rfl) (by decide) (lenOf pd__28Ljava_2flang_2fString_3b_29V rfl) rfl rfl rfl (W := 1) rfl (by decide) (by decide) (by decide) (by decide) (allS (om 0 rfl) all0) rfl ?_
              intro T190 h190 v190 X190 K190 hQ190
              obtain ⟨rfl, f191, f192⟩ := hQ190
              show OGo _ _ _ _ T190 (mkF m 137 #[.val (.int pt), .val (.int pp), .val (.int 2), .val (.int u0), .val (.int u1), .val (.int u2), .val (.ref r97), .val (.int 2), .unset, .unset] [(.ref b187)])
              refine og_astore X190 139 #[.val (.int pt), .val (.int pp), .val (.int 2), .val (.int u0), .val (.int u1), .val (.int u2), .val (.ref r97), .val (.int 2), .val (.ref b187), .unset] at_137 rfl rfl rfl ?_
              refine og_aload X190 141 at_139 rfl rfl rfl ?_
              have f193 := E187.keep K190
              have f194 := f98.keep K184 all0
              have f195 := f194.keep K185 all0
              have f196 := f195.keep K186 all0
              have f197 := f196.keep K187 all0
              have f198 := f197.keep K190 (allS (Or.inl (Nat.le_trans (Nat.le_trans (Nat.le_trans K184.1 K185.1) K186.1) G187)) all0)
              refine own_virt X190 144 (a := b187) (argsL := []) (rest := []) at_141 f193 (fun _ hZ => notFace_of_selects (args := #[]) (mvT hZ (ow hw 41 rfl))) (rm_more1 l Z n0 h190 [] a0 hw hWd X190.old b187 r97 [u0, u1] (0 : Int32) f191 f192 f198.top (show ¬ (2 : Int32) < (0 : Int32) by decide) ) (ow hw 38 rfl) (ow hw 39 rfl) (ow hw 41 rfl) (ow hw 40 rfl) (ow hw 31 rfl) (ow hw 42 rfl) (by decide) (lenOf pd__28_29Z rfl) rfl rfl rfl (W := 0) rfl (by decide) (by decide) (by decide) (by decide) all0 rfl ?_
              intro T199 h199 v199 X199 K199 hQ199
              obtain rfl := hQ199
              show OGo _ _ _ _ T199 (mkF m 144 #[.val (.int pt), .val (.int pp), .val (.int 2), .val (.int u0), .val (.int u1), .val (.int u2), .val (.ref r97), .val (.int 2), .val (.ref b187), .unset] [(.int 1)])
              refine og_istore X199 146 #[.val (.int pt), .val (.int pp), .val (.int 2), .val (.int u0), .val (.int u1), .val (.int u2), .val (.ref r97), .val (.int 2), .val (.ref b187), .val (.int 1)] at_144 rfl rfl ?_
              refine og_iload X199 148 at_146 rfl rfl ?_
              refine og_ifN X199 151 at_148 (XT.i0_eq_f (by decide)) rfl ?_
              refine og_aload X199 153 at_151 rfl rfl rfl ?_
              have f200 := f193.keep K199
              have f201 := f191.keep K199 nin0
              have f202 := f192.keep K199 nin0
              have f203 := f198.keep K199 all0
              refine own_virt X199 156 (a := b187) (argsL := []) (rest := []) at_153 f200 (fun _ hZ => notFace_of_selects (args := #[]) (mvT hZ (ow hw 59 rfl))) (rf_txt201 l Z n0 h199 [] a0 hw hWd X199.old b187 r97 u0 u1 f200 f201 f202 f203.top (own_lS ⟨ok1.1, ok1.2⟩ (own_lS ⟨ok2.1, ok2.2⟩ own_l0)) hc99 hc183 (own_svb X199 (om 0 rfl))) (ow hw 56 rfl) (ow hw 57 rfl) (ow hw 59 rfl) (ow hw 58 rfl) (ow hw 31 rfl) (ow hw 60 rfl) (by decide) (lenOf pd__28_29Ljava_2flang_2fString_3b rfl) rfl rfl rfl (W := 0) rfl (by decide) (by decide) (by decide) (by decide) (allS (om 0 rfl) all0) rfl ?_
              intro T204 h204 v204 X204 K204 hQ204
              obtain ⟨r204, rfl, f205, f206⟩ := hQ204
              show OGo _ _ _ _ T204 (mkF m 156 #[.val (.int pt), .val (.int pp), .val (.int 2), .val (.int u0), .val (.int u1), .val (.int u2), .val (.ref r97), .val (.int 2), .val (.ref b187), .val (.int 1)] [(.ref r204)])
              refine og_pop X204 157 at_156 rfl rfl ?_
              refine og_aload X204 159 at_157 rfl rfl rfl ?_
              have f207 := f200.keep K204
              have f208 := f203.keep K204 (allS (Or.inl (Nat.le_trans (Nat.le_trans (Nat.le_trans K184.1 K185.1) K186.1) G187)) all0)
              refine own_virt X204 162 (a := b187) (argsL := []) (rest := []) at_159 f207 (fun _ hZ => notFace_of_selects (args := #[]) (mvT hZ (ow hw 41 rfl))) (rm_more1 l Z n0 h204 [] a0 hw hWd X204.old b187 r97 [u0, u1] (2 : Int32) f205 f206 f208.top (show ¬ (2 : Int32) < (2 : Int32) by decide) ) (ow hw 38 rfl) (ow hw 39 rfl) (ow hw 41 rfl) (ow hw 40 rfl) (ow hw 31 rfl) (ow hw 42 rfl) (by decide) (lenOf pd__28_29Z rfl) rfl rfl rfl (W := 0) rfl (by decide) (by decide) (by decide) (by decide) all0 rfl ?_
              intro T209 h209 v209 X209 K209 hQ209
              obtain rfl := hQ209
              show OGo _ _ _ _ T209 (mkF m 162 #[.val (.int pt), .val (.int pp), .val (.int 2), .val (.int u0), .val (.int u1), .val (.int u2), .val (.ref r97), .val (.int 2), .val (.ref b187), .val (.int 1)] [(.int 1)])
              refine og_iload X209 164 at_162 rfl rfl ?_
              refine og_iconst X209 165 (2 : Int32) at_164 rfl rfl ?_
              refine og_icmpN X209 168 at_165 (XT.ii_lt_f (by decide)) rfl ?_
              refine og_iconst X209 169 (1 : Int32) at_168 rfl rfl ?_
              refine og_goto X209 173 at_169 (by decide) (by decide) ?_
              refine og_icmpN X209 176 at_173 (XT.ii_ne_f (by decide)) rfl ?_
              refine og_iconst X209 177 (1 : Int32) at_176 rfl rfl ?_
              refine og_goto X209 181 at_177 (by decide) (by decide) ?_
              refine og_istore X209 183 #[.val (.int pt), .val (.int pp), .val (.int 2), .val (.int u0), .val (.int u1), .val (.int u2), .val (.ref r97), .val (.int 2), .val (.ref b187), .val (.int 1)] at_181 rfl rfl ?_
              refine og_iload X209 185 at_183 rfl rfl ?_
              refine og_ifN X209 188 at_185 (XT.i0_eq_f (by decide)) rfl ?_
              refine og_iload X209 190 at_188 rfl rfl ?_
              refine og_iconst X209 191 (2 : Int32) at_190 rfl rfl ?_
              refine og_icmpN X209 194 at_191 (XT.ii_lt_f (by decide)) rfl ?_
              refine og_aload X209 196 at_194 rfl rfl rfl ?_
              have f210 := f207.keep K209
              have f211 := f205.keep K209 nin0
              have f212 := f206.keep K209 nin0
              have f213 := f208.keep K209 all0
              refine own_virt X209 199 (a := b187) (argsL := []) (rest := []) at_196 f210 (fun _ hZ => notFace_of_selects (args := #[]) (mvT hZ (ow hw 59 rfl))) (rf_txt222 l Z n0 h209 [] a0 hw hWd X209.old b187 r97 u0 u1 f210 f211 f212 f213.top (own_lS ⟨ok1.1, ok1.2⟩ (own_lS ⟨ok2.1, ok2.2⟩ own_l0)) (own_svb X209 (om 0 rfl))) (ow hw 56 rfl) (ow hw 57 rfl) (ow hw 59 rfl) (ow hw 58 rfl) (ow hw 31 rfl) (ow hw 60 rfl) (by decide) (lenOf pd__28_29Ljava_2flang_2fString_3b rfl) rfl rfl rfl (W := 0) rfl (by decide) (by decide) (by decide) (by decide) (allS (om 0 rfl) all0) rfl ?_
              intro T214 h214 v214 X214 K214 hQ214
              obtain ⟨r214, rfl, f215, f216⟩ := hQ214
              show OGo _ _ _ _ T214 (mkF m 199 #[.val (.int pt), .val (.int pp), .val (.int 2), .val (.int u0), .val (.int u1), .val (.int u2), .val (.ref r97), .val (.int 2), .val (.ref b187), .val (.int 1)] [(.ref r214)])
              refine og_pop X214 200 at_199 rfl rfl ?_
              refine og_aload X214 202 at_200 rfl rfl rfl ?_
              have f217 := f210.keep K214
              have f218 := f213.keep K214 (allS (Or.inl (Nat.le_trans (Nat.le_trans (Nat.le_trans K184.1 K185.1) K186.1) G187)) all0)
              refine own_virt X214 205 (a := b187) (argsL := []) (rest := []) at_202 f217 (fun _ hZ => notFace_of_selects (args := #[]) (mvT hZ (ow hw 41 rfl))) (rm_more0 l Z n0 h214 [] a0 hw hWd X214.old b187 r97 [u0, u1] (3 : Int32) f215 f216 f218.top (show (2 : Int32) < (3 : Int32) by decide) ) (ow hw 38 rfl) (ow hw 39 rfl) (ow hw 41 rfl) (ow hw 40 rfl) (ow hw 31 rfl) (ow hw 42 rfl) (by decide) (lenOf pd__28_29Z rfl) rfl rfl rfl (W := 0) rfl (by decide) (by decide) (by decide) (by decide) all0 rfl ?_
              intro T219 h219 v219 X219 K219 hQ219
              obtain rfl := hQ219
              show OGo _ _ _ _ T219 (mkF m 205 #[.val (.int pt), .val (.int pp), .val (.int 2), .val (.int u0), .val (.int u1), .val (.int u2), .val (.ref r97), .val (.int 2), .val (.ref b187), .val (.int 1)] [(.int 0)])
              refine og_iload X219 207 at_205 rfl rfl ?_
              refine og_iconst X219 208 (3 : Int32) at_207 rfl rfl ?_
              refine og_icmpY X219 215 at_208 (XT.ii_lt_t (by decide)) (by decide) (by decide) ?_
              refine og_iconst X219 216 (0 : Int32) at_215 rfl rfl ?_
              refine og_icmpN X219 219 at_216 (XT.ii_ne_f (by decide)) rfl ?_
              refine og_iconst X219 220 (1 : Int32) at_219 rfl rfl ?_
              refine og_goto X219 224 at_220 (by decide) (by decide) ?_
              refine og_istore X219 226 #[.val (.int pt), .val (.int pp), .val (.int 2), .val (.int u0), .val (.int u1), .val (.int u2), .val (.ref r97), .val (.int 2), .val (.ref b187), .val (.int 1)] at_224 rfl rfl ?_
              refine og_iload X219 228 at_226 rfl rfl ?_
              refine og_ifN X219 231 at_228 (XT.i0_eq_f (by decide)) rfl ?_
              refine og_iload X219 233 at_231 rfl rfl ?_
              refine og_iconst X219 234 (3 : Int32) at_233 rfl rfl ?_
              refine og_icmpY X219 269 at_234 (XT.ii_lt_t (by decide)) (by decide) (by decide) ?_
              refine og_iload X219 271 at_269 rfl rfl ?_
              refine og_ifN X219 274 at_271 (XT.i0_eq_f (by decide)) rfl ?_
              refine og_iload X219 276 at_274 rfl rfl ?_
              refine og_iconst X219 277 (4 : Int32) at_276 rfl rfl ?_
              refine og_icmpY X219 301 at_277 (XT.ii_lt_t (by decide)) (by decide) (by decide) ?_
              refine og_iload X219 303 at_301 rfl rfl ?_
              refine own_retZ X219 at_303 hret rfl (by decide) (by decide) ?_
              exact rfl
            · -- not
              refine og_iconst X97 80 (1 : Int32) at_79 rfl rfl ?_
              refine og_iloadN X97 81 at_80 rfl rfl ?_
              refine og_ifN X97 84 at_81 (XT.i0_le_f (by decide)) rfl ?_
              refine og_iconst X97 85 (1 : Int32) at_84 rfl rfl ?_
              refine og_goto X97 89 at_85 (by decide) (by decide) ?_
              refine og_iloadN X97 90 at_89 rfl rfl ?_
              refine own_stat X97 93 (argsL := [(.int 1), (.int u0)]) (rest := [(.int 1)]) at_90 (rm_tab2 l Z n0 h97 [] a0 hw hWd X97.old u0 hc99 ) (ow hw 26 rfl) (ow hw 27 rfl) (ow hw 2 rfl) (ow hw 28 rfl) (by decide) (lenOf pd__28ZC_29I rfl) rfl rfl rfl (W := 1) rfl (by decide) (by decide) (by decide) (by decide) all0 rfl ?_
              intro T220 h220 v220 X220 K220 hQ220
              obtain rfl := hQ220
              show OGo _ _ _ _ T220 (mkF m 93 #[.val (.int pt), .val (.int pp), .val (.int 2), .val (.int u0), .val (.int u1), .val (.int u2), .val (.ref r97), .unset, .unset, .unset] [(.int 0), (.int 1)])
              refine og_iadd X220 94 at_93 rfl ?_
              show OGo _ _ _ _ T220 (mkF m 94 #[.val (.int pt), .val (.int pp), .val (.int 2), .val (.int u0), .val (.int u1), .val (.int u2), .val (.ref r97), .unset, .unset, .unset] [(.int 1)])
              refine og_iloadN X220 95 at_94 rfl rfl ?_
              refine og_iconst X220 96 (1 : Int32) at_95 rfl rfl ?_
              refine og_icmpN X220 99 at_96 (XT.ii_le_f (by decide)) rfl ?_
              refine og_iconst X220 100 (1 : Int32) at_99 rfl rfl ?_
              refine og_goto X220 104 at_100 (by decide) (by decide) ?_
              refine og_iload X220 106 at_104 rfl rfl ?_
              refine own_stat X220 109 (argsL := [(.int 1), (.int u1)]) (rest := [(.int 1)]) at_106 (rm_tab2 l Z n0 h220 [] a0 hw hWd X220.old u1 hc183 ) (ow hw 26 rfl) (ow hw 27 rfl) (ow hw 2 rfl) (ow hw 28 rfl) (by decide) (lenOf pd__28ZC_29I rfl) rfl rfl rfl (W := 1) rfl (by decide) (by decide) (by decide) (by decide) all0 rfl ?_
              intro T221 h221 v221 X221 K221 hQ221
              obtain rfl := hQ221
              show OGo _ _ _ _ T221 (mkF m 109 #[.val (.int pt), .val (.int pp), .val (.int 2), .val (.int u0), .val (.int u1), .val (.int u2), .val (.ref r97), .unset, .unset, .unset] [(.int 0), (.int 1)])
              refine og_iadd X221 110 at_109 rfl ?_
              show OGo _ _ _ _ T221 (mkF m 110 #[.val (.int pt), .val (.int pp), .val (.int 2), .val (.int u0), .val (.int u1), .val (.int u2), .val (.ref r97), .unset, .unset, .unset] [(.int 1)])
              refine og_iloadN X221 111 at_110 rfl rfl ?_
              refine og_iconst X221 112 (2 : Int32) at_111 rfl rfl ?_
              refine og_icmpY X221 119 at_112 (XT.ii_le_t (by decide)) (by decide) (by decide) ?_
              refine og_iconst X221 120 (0 : Int32) at_119 rfl rfl ?_
              refine og_iload X221 122 at_120 rfl rfl ?_
              refine own_stat X221 125 (argsL := [(.int 0), (.int u2)]) (rest := [(.int 1)]) at_122 (rm_tab0 l Z n0 h221 [] a0 hw hWd X221.old u2  ) (ow hw 26 rfl) (ow hw 27 rfl) (ow hw 2 rfl) (ow hw 28 rfl) (by decide) (lenOf pd__28ZC_29I rfl) rfl rfl rfl (W := 1) rfl (by decide) (by decide) (by decide) (by decide) all0 rfl ?_
              intro T222 h222 v222 X222 K222 hQ222
              obtain rfl := hQ222
              show OGo _ _ _ _ T222 (mkF m 125 #[.val (.int pt), .val (.int pp), .val (.int 2), .val (.int u0), .val (.int u1), .val (.int u2), .val (.ref r97), .unset, .unset, .unset] [(.int 0), (.int 1)])
              refine og_iadd X222 126 at_125 rfl ?_
              show OGo _ _ _ _ T222 (mkF m 126 #[.val (.int pt), .val (.int pp), .val (.int 2), .val (.int u0), .val (.int u1), .val (.int u2), .val (.ref r97), .unset, .unset, .unset] [(.int 1)])
              refine og_istore X222 128 #[.val (.int pt), .val (.int pp), .val (.int 2), .val (.int u0), .val (.int u1), .val (.int u2), .val (.ref r97), .val (.int 1), .unset, .unset] at_126 rfl rfl ?_
              refine own_new X222 131 at_128 (ow hw 29 rfl) (ow hw 30 rfl) (ow hw 31 rfl) (by decide) (by decide) rfl ?_
              intro T223 h223 b223 X223 K223 G223 U223 E223 D223
              have f224 : Fld Z h223 b223 "com/example/ratable/ratable/core/JournalSums$Fields" "line" "Ljava/lang/String;" .null := D223 (Or.inr (ow hw 37 rfl)) (ty := (.object "java/lang/String")) (by decide)
              have f225 : Fld Z h223 b223 "com/example/ratable/ratable/core/JournalSums$Fields" "next" "I" (.int 0) := D223 (Or.inl (ow hw 44 rfl)) (ty := .int) (by decide)
              refine og_dup X223 132 at_131 rfl rfl ?_
              refine og_aload X223 134 at_132 rfl rfl rfl ?_
              refine own_spec X223 137 (a := b223) (argsL := [(.ref r97)]) (rest := [(.ref b223)]) at_134 rfl (rm6 l Z n0 h223 [] a0 hw hWd X223.old b223 r97 E223 f224 f225 (own_svb X223 (om 0 rfl))) (ow hw 32 rfl) (ow hw 33 rfl) (ow hw 31 rfl) (ow hw 34 rfl) (by decide) (lenOf pd__28Ljava_2flang_2fString_3b_29V rfl) rfl rfl rfl (W := 1) rfl (by decide) (by decide) (by decide) (by decide) (allS (om 0 rfl) all0) rfl ?_
              intro T226 h226 v226 X226 K226 hQ226
              obtain ⟨rfl, f227, f228⟩ := hQ226
              show OGo _ _ _ _ T226 (mkF m 137 #[.val (.int pt), .val (.int pp), .val (.int 2), .val (.int u0), .val (.int u1), .val (.int u2), .val (.ref r97), .val (.int 1), .unset, .unset] [(.ref b223)])
              refine og_astore X226 139 #[.val (.int pt), .val (.int pp), .val (.int 2), .val (.int u0), .val (.int u1), .val (.int u2), .val (.ref r97), .val (.int 1), .val (.ref b223), .unset] at_137 rfl rfl rfl ?_
              refine og_aload X226 141 at_139 rfl rfl rfl ?_
              have f229 := E223.keep K226
              have f230 := f98.keep K220 all0
              have f231 := f230.keep K221 all0
              have f232 := f231.keep K222 all0
              have f233 := f232.keep K223 all0
              have f234 := f233.keep K226 (allS (Or.inl (Nat.le_trans (Nat.le_trans (Nat.le_trans K220.1 K221.1) K222.1) G223)) all0)
              refine own_virt X226 144 (a := b223) (argsL := []) (rest := []) at_141 f229 (fun _ hZ => notFace_of_selects (args := #[]) (mvT hZ (ow hw 41 rfl))) (rm_more1 l Z n0 h226 [] a0 hw hWd X226.old b223 r97 [u0, u1] (0 : Int32) f227 f228 f234.top (show ¬ (2 : Int32) < (0 : Int32) by decide) ) (ow hw 38 rfl) (ow hw 39 rfl) (ow hw 41 rfl) (ow hw 40 rfl) (ow hw 31 rfl) (ow hw 42 rfl) (by decide) (lenOf pd__28_29Z rfl) rfl rfl rfl (W := 0) rfl (by decide) (by decide) (by decide) (by decide) all0 rfl ?_
              intro T235 h235 v235 X235 K235 hQ235
              obtain rfl := hQ235
              show OGo _ _ _ _ T235 (mkF m 144 #[.val (.int pt), .val (.int pp), .val (.int 2), .val (.int u0), .val (.int u1), .val (.int u2), .val (.ref r97), .val (.int 1), .val (.ref b223), .unset] [(.int 1)])
              refine og_istore X235 146 #[.val (.int pt), .val (.int pp), .val (.int 2), .val (.int u0), .val (.int u1), .val (.int u2), .val (.ref r97), .val (.int 1), .val (.ref b223), .val (.int 1)] at_144 rfl rfl ?_
              refine og_iload X235 148 at_146 rfl rfl ?_
              refine og_ifN X235 151 at_148 (XT.i0_eq_f (by decide)) rfl ?_
              refine og_aload X235 153 at_151 rfl rfl rfl ?_
              have f236 := f229.keep K235
              have f237 := f227.keep K235 nin0
              have f238 := f228.keep K235 nin0
              have f239 := f234.keep K235 all0
              refine own_virt X235 156 (a := b223) (argsL := []) (rest := []) at_153 f236 (fun _ hZ => notFace_of_selects (args := #[]) (mvT hZ (ow hw 59 rfl))) (rf_txt202 l Z n0 h235 [] a0 hw hWd X235.old b223 r97 u0 u1 f236 f237 f238 f239.top (own_lS ⟨ok1.1, ok1.2⟩ (own_lS ⟨ok2.1, ok2.2⟩ own_l0)) hc99 hc183 (own_svb X235 (om 0 rfl))) (ow hw 56 rfl) (ow hw 57 rfl) (ow hw 59 rfl) (ow hw 58 rfl) (ow hw 31 rfl) (ow hw 60 rfl) (by decide) (lenOf pd__28_29Ljava_2flang_2fString_3b rfl) rfl rfl rfl (W := 0) rfl (by decide) (by decide) (by decide) (by decide) (allS (om 0 rfl) all0) rfl ?_
              intro T240 h240 v240 X240 K240 hQ240
              obtain ⟨r240, rfl, f241, f242⟩ := hQ240
              show OGo _ _ _ _ T240 (mkF m 156 #[.val (.int pt), .val (.int pp), .val (.int 2), .val (.int u0), .val (.int u1), .val (.int u2), .val (.ref r97), .val (.int 1), .val (.ref b223), .val (.int 1)] [(.ref r240)])
              refine og_pop X240 157 at_156 rfl rfl ?_
              refine og_aload X240 159 at_157 rfl rfl rfl ?_
              have f243 := f236.keep K240
              have f244 := f239.keep K240 (allS (Or.inl (Nat.le_trans (Nat.le_trans (Nat.le_trans K220.1 K221.1) K222.1) G223)) all0)
              refine own_virt X240 162 (a := b223) (argsL := []) (rest := []) at_159 f243 (fun _ hZ => notFace_of_selects (args := #[]) (mvT hZ (ow hw 41 rfl))) (rm_more0 l Z n0 h240 [] a0 hw hWd X240.old b223 r97 [u0, u1] (3 : Int32) f241 f242 f244.top (show (2 : Int32) < (3 : Int32) by decide) ) (ow hw 38 rfl) (ow hw 39 rfl) (ow hw 41 rfl) (ow hw 40 rfl) (ow hw 31 rfl) (ow hw 42 rfl) (by decide) (lenOf pd__28_29Z rfl) rfl rfl rfl (W := 0) rfl (by decide) (by decide) (by decide) (by decide) all0 rfl ?_
              intro T245 h245 v245 X245 K245 hQ245
              obtain rfl := hQ245
              show OGo _ _ _ _ T245 (mkF m 162 #[.val (.int pt), .val (.int pp), .val (.int 2), .val (.int u0), .val (.int u1), .val (.int u2), .val (.ref r97), .val (.int 1), .val (.ref b223), .val (.int 1)] [(.int 0)])
              refine og_iload X245 164 at_162 rfl rfl ?_
              refine og_iconst X245 165 (2 : Int32) at_164 rfl rfl ?_
              refine og_icmpY X245 172 at_165 (XT.ii_lt_t (by decide)) (by decide) (by decide) ?_
              refine og_iconst X245 173 (0 : Int32) at_172 rfl rfl ?_
              refine og_icmpN X245 176 at_173 (XT.ii_ne_f (by decide)) rfl ?_
              refine og_iconst X245 177 (1 : Int32) at_176 rfl rfl ?_
              refine og_goto X245 181 at_177 (by decide) (by decide) ?_
              refine og_istore X245 183 #[.val (.int pt), .val (.int pp), .val (.int 2), .val (.int u0), .val (.int u1), .val (.int u2), .val (.ref r97), .val (.int 1), .val (.ref b223), .val (.int 1)] at_181 rfl rfl ?_
              refine og_iload X245 185 at_183 rfl rfl ?_
              refine og_ifN X245 188 at_185 (XT.i0_eq_f (by decide)) rfl ?_
              refine og_iload X245 190 at_188 rfl rfl ?_
              refine og_iconst X245 191 (2 : Int32) at_190 rfl rfl ?_
              refine og_icmpY X245 226 at_191 (XT.ii_lt_t (by decide)) (by decide) (by decide) ?_
              refine og_iload X245 228 at_226 rfl rfl ?_
              refine og_ifN X245 231 at_228 (XT.i0_eq_f (by decide)) rfl ?_
              refine og_iload X245 233 at_231 rfl rfl ?_
              refine og_iconst X245 234 (3 : Int32) at_233 rfl rfl ?_
              refine og_icmpY X245 269 at_234 (XT.ii_lt_t (by decide)) (by decide) (by decide) ?_
              refine og_iload X245 271 at_269 rfl rfl ?_
              refine og_ifN X245 274 at_271 (XT.i0_eq_f (by decide)) rfl ?_
              refine og_iload X245 276 at_274 rfl rfl ?_
              refine og_iconst X245 277 (4 : Int32) at_276 rfl rfl ?_
              refine og_icmpY X245 301 at_277 (XT.ii_lt_t (by decide)) (by decide) (by decide) ?_
              refine og_iload X245 303 at_301 rfl rfl ?_
              refine own_retZ X245 at_303 hret rfl (by decide) (by decide) ?_
              exact rfl
        · -- n is 3
          rw [eQ]
          refine og_iloadN X3 69 at_68 rfl rfl ?_
          refine og_iloadN X3 70 at_69 rfl rfl ?_
          refine og_iload X3 72 at_70 rfl rfl ?_
          refine og_iload X3 74 at_72 rfl rfl ?_
          refine own_stat X3 77 (argsL := [(.int 3), (.int u0), (.int u1), (.int u2)]) (rest := []) at_74 (rm_ln3 l Z n0 h3 [] a0 hw hWd X3.old u0 u1 u2 ok1.1 ok1.2 ok2.1 ok2.2 ok3.1 ok3.2 ) (ow hw 0 rfl) (ow hw 1 rfl) (ow hw 2 rfl) (ow hw 3 rfl) (by decide) (lenOf pd__28ICCC_29Ljava_2flang_2fString_3b rfl) rfl rfl rfl (W := 0) rfl (by decide) (by decide) (by decide) (by decide) all0 rfl ?_
          intro T246 h246 v246 X246 K246 hQ246
          obtain ⟨r246, rfl, ge_r246, f247⟩ := hQ246
          show OGo _ _ _ _ T246 (mkF m 77 #[.val (.int pt), .val (.int pp), .val (.int 3), .val (.int u0), .val (.int u1), .val (.int u2), .unset, .unset, .unset, .unset] [(.ref r246)])
          refine og_astore X246 79 #[.val (.int pt), .val (.int pp), .val (.int 3), .val (.int u0), .val (.int u1), .val (.int u2), .val (.ref r246), .unset, .unset, .unset] at_77 rfl rfl rfl ?_
          by_cases hc248 : u0 = (9 : Int32)
          · -- u0 = (9 : Int32)
            by_cases hc249 : u1 = (9 : Int32)
            · -- u1 = (9 : Int32)
              by_cases hc250 : u2 = (9 : Int32)
              · -- u2 = (9 : Int32)
                refine og_iconst X246 80 (1 : Int32) at_79 rfl rfl ?_
                refine og_iloadN X246 81 at_80 rfl rfl ?_
                refine og_ifN X246 84 at_81 (XT.i0_le_f (by decide)) rfl ?_
                refine og_iconst X246 85 (1 : Int32) at_84 rfl rfl ?_
                refine og_goto X246 89 at_85 (by decide) (by decide) ?_
                refine og_iloadN X246 90 at_89 rfl rfl ?_
                refine own_stat X246 93 (argsL := [(.int 1), (.int u0)]) (rest := [(.int 1)]) at_90 (rm_tab1 l Z n0 h246 [] a0 hw hWd X246.old u0 hc248 ) (ow hw 26 rfl) (ow hw 27 rfl) (ow hw 2 rfl) (ow hw 28 rfl) (by decide) (lenOf pd__28ZC_29I rfl) rfl rfl rfl (W := 1) rfl (by decide) (by decide) (by decide) (by decide) all0 rfl ?_
                intro T251 h251 v251 X251 K251 hQ251
                obtain rfl := hQ251
                show OGo _ _ _ _ T251 (mkF m 93 #[.val (.int pt), .val (.int pp), .val (.int 3), .val (.int u0), .val (.int u1), .val (.int u2), .val (.ref r246), .unset, .unset, .unset] [(.int 1), (.int 1)])
                refine og_iadd X251 94 at_93 rfl ?_
                show OGo _ _ _ _ T251 (mkF m 94 #[.val (.int pt), .val (.int pp), .val (.int 3), .val (.int u0), .val (.int u1), .val (.int u2), .val (.ref r246), .unset, .unset, .unset] [(.int 2)])
                refine og_iloadN X251 95 at_94 rfl rfl ?_
                refine og_iconst X251 96 (1 : Int32) at_95 rfl rfl ?_
                refine og_icmpN X251 99 at_96 (XT.ii_le_f (by decide)) rfl ?_
                refine og_iconst X251 100 (1 : Int32) at_99 rfl rfl ?_
                refine og_goto X251 104 at_100 (by decide) (by decide) ?_
                refine og_iload X251 106 at_104 rfl rfl ?_
                refine own_stat X251 109 (argsL := [(.int 1), (.int u1)]) (rest := [(.int 2)]) at_106 (rm_tab1 l Z n0 h251 [] a0 hw hWd X251.old u1 hc249 ) (ow hw 26 rfl) (ow hw 27 rfl) (ow hw 2 rfl) (ow hw 28 rfl) (by decide) (lenOf pd__28ZC_29I rfl) rfl rfl rfl (W := 1) rfl (by decide) (by decide) (by decide) (by decide) all0 rfl ?_
                intro T252 h252 v252 X252 K252 hQ252
                obtain rfl := hQ252
                show OGo _ _ _ _ T252 (mkF m 109 #[.val (.int pt), .val (.int pp), .val (.int 3), .val (.int u0), .val (.int u1), .val (.int u2), .val (.ref r246), .unset, .unset, .unset] [(.int 1), (.int 2)])
                refine og_iadd X252 110 at_109 rfl ?_
                show OGo _ _ _ _ T252 (mkF m 110 #[.val (.int pt), .val (.int pp), .val (.int 3), .val (.int u0), .val (.int u1), .val (.int u2), .val (.ref r246), .unset, .unset, .unset] [(.int 3)])
                refine og_iloadN X252 111 at_110 rfl rfl ?_
                refine og_iconst X252 112 (2 : Int32) at_111 rfl rfl ?_
                refine og_icmpN X252 115 at_112 (XT.ii_le_f (by decide)) rfl ?_
                refine og_iconst X252 116 (1 : Int32) at_115 rfl rfl ?_
                refine og_goto X252 120 at_116 (by decide) (by decide) ?_
                refine og_iload X252 122 at_120 rfl rfl ?_
                refine own_stat X252 125 (argsL := [(.int 1), (.int u2)]) (rest := [(.int 3)]) at_122 (rm_tab1 l Z n0 h252 [] a0 hw hWd X252.old u2 hc250 ) (ow hw 26 rfl) (ow hw 27 rfl) (ow hw 2 rfl) (ow hw 28 rfl) (by decide) (lenOf pd__28ZC_29I rfl) rfl rfl rfl (W := 1) rfl (by decide) (by decide) (by decide) (by decide) all0 rfl ?_
                intro T253 h253 v253 X253 K253 hQ253
                obtain rfl := hQ253
                show OGo _ _ _ _ T253 (mkF m 125 #[.val (.int pt), .val (.int pp), .val (.int 3), .val (.int u0), .val (.int u1), .val (.int u2), .val (.ref r246), .unset, .unset, .unset] [(.int 1), (.int 3)])
                refine og_iadd X253 126 at_125 rfl ?_
                show OGo _ _ _ _ T253 (mkF m 126 #[.val (.int pt), .val (.int pp), .val (.int 3), .val (.int u0), .val (.int u1), .val (.int u2), .val (.ref r246), .unset, .unset, .unset] [(.int 4)])
                refine og_istore X253 128 #[.val (.int pt), .val (.int pp), .val (.int 3), .val (.int u0), .val (.int u1), .val (.int u2), .val (.ref r246), .val (.int 4), .unset, .unset] at_126 rfl rfl ?_
                refine own_new X253 131 at_128 (ow hw 29 rfl) (ow hw 30 rfl) (ow hw 31 rfl) (by decide) (by decide) rfl ?_
                intro T254 h254 b254 X254 K254 G254 U254 E254 D254
                have f255 : Fld Z h254 b254 "com/example/ratable/ratable/core/JournalSums$Fields" "line" "Ljava/lang/String;" .null := D254 (Or.inr (ow hw 37 rfl)) (ty := (.object "java/lang/String")) (by decide)
                have f256 : Fld Z h254 b254 "com/example/ratable/ratable/core/JournalSums$Fields" "next" "I" (.int 0) := D254 (Or.inl (ow hw 44 rfl)) (ty := .int) (by decide)
                refine og_dup X254 132 at_131 rfl rfl ?_
                refine og_aload X254 134 at_132 rfl rfl rfl ?_
                refine own_spec X254 137 (a := b254) (argsL := [(.ref r246)]) (rest := [(.ref b254)]) at_134 rfl (rm6 l Z n0 h254 [] a0 hw hWd X254.old b254 r246 E254 f255 f256 (own_svb X254 (om 0 rfl))) (ow hw 32 rfl) (ow hw 33 rfl) (ow hw 31 rfl) (ow hw 34 rfl) (by decide) (lenOf pd__28Ljava_2flang_2fString_3b_29V rfl) rfl rfl rfl (W := 1) rfl (by decide) (by decide) (by decide) (by decide) (allS (om 0 rfl) all0) rfl ?_
                intro T257 h257 v257 X257 K257 hQ257
                obtain ⟨rfl, f258, f259⟩ := hQ257
                show OGo _ _ _ _ T257 (mkF m 137 #[.val (.int pt), .val (.int pp), .val (.int 3), .val (.int u0), .val (.int u1), .val (.int u2), .val (.ref r246), .val (.int 4), .unset, .unset] [(.ref b254)])
                refine og_astore X257 139 #[.val (.int pt), .val (.int pp), .val (.int 3), .val (.int u0), .val (.int u1), .val (.int u2), .val (.ref r246), .val (.int 4), .val (.ref b254), .unset] at_137 rfl rfl rfl ?_
                refine og_aload X257 141 at_139 rfl rfl rfl ?_
                have f260 := E254.keep K257
                have f261 := f247.keep K251 all0
                have f262 := f261.keep K252 all0
                have f263 := f262.keep K253 all0
                have f264 := f263.keep K254 all0
                have f265 := f264.keep K257 (allS (Or.inl (Nat.le_trans (Nat.le_trans (Nat.le_trans K251.1 K252.1) K253.1) G254)) all0)
                refine own_virt X257 144 (a := b254) (argsL := []) (rest := []) at_141 f260 (fun _ hZ => notFace_of_selects (args := #[]) (mvT hZ (ow hw 41 rfl))) (rm_more1 l Z n0 h257 [] a0 hw hWd X257.old b254 r246 [u0, u1, u2] (0 : Int32) f258 f259 f265.top (show ¬ (3 : Int32) < (0 : Int32) by decide) ) (ow hw 38 rfl) (ow hw 39 rfl) (ow hw 41 rfl) (ow hw 40 rfl) (ow hw 31 rfl) (ow hw 42 rfl) (by decide) (lenOf pd__28_29Z rfl) rfl rfl rfl (W := 0) rfl (by decide) (by decide) (by decide) (by decide) all0 rfl ?_
                intro T266 h266 v266 X266 K266 hQ266
                obtain rfl := hQ266
                show OGo _ _ _ _ T266 (mkF m 144 #[.val (.int pt), .val (.int pp), .val (.int 3), .val (.int u0), .val (.int u1), .val (.int u2), .val (.ref r246), .val (.int 4), .val (.ref b254), .unset] [(.int 1)])
                refine og_istore X266 146 #[.val (.int pt), .val (.int pp), .val (.int 3), .val (.int u0), .val (.int u1), .val (.int u2), .val (.ref r246), .val (.int 4), .val (.ref b254), .val (.int 1)] at_144 rfl rfl ?_
                refine og_iload X266 148 at_146 rfl rfl ?_
                refine og_ifN X266 151 at_148 (XT.i0_eq_f (by decide)) rfl ?_
                refine og_aload X266 153 at_151 rfl rfl rfl ?_
                have f267 := f260.keep K266
                have f268 := f258.keep K266 nin0
                have f269 := f259.keep K266 nin0
                have f270 := f265.keep K266 all0
                refine own_virt X266 156 (a := b254) (argsL := []) (rest := []) at_153 f267 (fun _ hZ => notFace_of_selects (args := #[]) (mvT hZ (ow hw 59 rfl))) (rf_txt300 l Z n0 h266 [] a0 hw hWd X266.old b254 r246 u0 u1 u2 f267 f268 f269 f270.top (own_lS ⟨ok1.1, ok1.2⟩ (own_lS ⟨ok2.1, ok2.2⟩ (own_lS ⟨ok3.1, ok3.2⟩ own_l0))) hc248 (own_svb X266 (om 0 rfl))) (ow hw 56 rfl) (ow hw 57 rfl) (ow hw 59 rfl) (ow hw 58 rfl) (ow hw 31 rfl) (ow hw 60 rfl) (by decide) (lenOf pd__28_29Ljava_2flang_2fString_3b rfl) rfl rfl rfl (W := 0) rfl (by decide) (by decide) (by decide) (by decide) (allS (om 0 rfl) all0) rfl ?_
                intro T271 h271 v271 X271 K271 hQ271
                obtain ⟨r271, rfl, f272, f273⟩ := hQ271
                show OGo _ _ _ _ T271 (mkF m 156 #[.val (.int pt), .val (.int pp), .val (.int 3), .val (.int u0), .val (.int u1), .val (.int u2), .val (.ref r246), .val (.int 4), .val (.ref b254), .val (.int 1)] [(.ref r271)])
                refine og_pop X271 157 at_156 rfl rfl ?_
                refine og_aload X271 159 at_157 rfl rfl rfl ?_
                have f274 := f267.keep K271
                have f275 := f270.keep K271 (allS (Or.inl (Nat.le_trans (Nat.le_trans (Nat.le_trans K251.1 K252.1) K253.1) G254)) all0)
                refine own_virt X271 162 (a := b254) (argsL := []) (rest := []) at_159 f274 (fun _ hZ => notFace_of_selects (args := #[]) (mvT hZ (ow hw 41 rfl))) (rm_more1 l Z n0 h271 [] a0 hw hWd X271.old b254 r246 [u0, u1, u2] (1 : Int32) f272 f273 f275.top (show ¬ (3 : Int32) < (1 : Int32) by decide) ) (ow hw 38 rfl) (ow hw 39 rfl) (ow hw 41 rfl) (ow hw 40 rfl) (ow hw 31 rfl) (ow hw 42 rfl) (by decide) (lenOf pd__28_29Z rfl) rfl rfl rfl (W := 0) rfl (by decide) (by decide) (by decide) (by decide) all0 rfl ?_
                intro T276 h276 v276 X276 K276 hQ276
                obtain rfl := hQ276
                show OGo _ _ _ _ T276 (mkF m 162 #[.val (.int pt), .val (.int pp), .val (.int 3), .val (.int u0), .val (.int u1), .val (.int u2), .val (.ref r246), .val (.int 4), .val (.ref b254), .val (.int 1)] [(.int 1)])
                refine og_iload X276 164 at_162 rfl rfl ?_
                refine og_iconst X276 165 (2 : Int32) at_164 rfl rfl ?_
                refine og_icmpN X276 168 at_165 (XT.ii_lt_f (by decide)) rfl ?_
                refine og_iconst X276 169 (1 : Int32) at_168 rfl rfl ?_
                refine og_goto X276 173 at_169 (by decide) (by decide) ?_
                refine og_icmpN X276 176 at_173 (XT.ii_ne_f (by decide)) rfl ?_
                refine og_iconst X276 177 (1 : Int32) at_176 rfl rfl ?_
                refine og_goto X276 181 at_177 (by decide) (by decide) ?_
                refine og_istore X276 183 #[.val (.int pt), .val (.int pp), .val (.int 3), .val (.int u0), .val (.int u1), .val (.int u2), .val (.ref r246), .val (.int 4), .val (.ref b254), .val (.int 1)] at_181 rfl rfl ?_
                refine og_iload X276 185 at_183 rfl rfl ?_
                refine og_ifN X276 188 at_185 (XT.i0_eq_f (by decide)) rfl ?_
                refine og_iload X276 190 at_188 rfl rfl ?_
                refine og_iconst X276 191 (2 : Int32) at_190 rfl rfl ?_
                refine og_icmpN X276 194 at_191 (XT.ii_lt_f (by decide)) rfl ?_
                refine og_aload X276 196 at_194 rfl rfl rfl ?_
                have f277 := f274.keep K276
                have f278 := f272.keep K276 nin0
                have f279 := f273.keep K276 nin0
                have f280 := f275.keep K276 all0
                refine own_virt X276 199 (a := b254) (argsL := []) (rest := []) at_196 f277 (fun _ hZ => notFace_of_selects (args := #[]) (mvT hZ (ow hw 59 rfl))) (rf_txt311 l Z n0 h276 [] a0 hw hWd X276.old b254 r246 u0 u1 u2 f277 f278 f279 f280.top (own_lS ⟨ok1.1, ok1.2⟩ (own_lS ⟨ok2.1, ok2.2⟩ (own_lS ⟨ok3.1, ok3.2⟩ own_l0))) hc249 (own_svb X276 (om 0 rfl))) (ow hw 56 rfl) (ow hw 57 rfl) (ow hw 59 rfl) (ow hw 58 rfl) (ow hw 31 rfl) (ow hw 60 rfl) (by decide) (lenOf pd__28_29Ljava_2flang_2fString_3b rfl) rfl rfl rfl (W := 0) rfl (by decide) (by decide) (by decide) (by decide) (allS (om 0 rfl) all0) rfl ?_
                intro T281 h281 v281 X281 K281 hQ281
                obtain ⟨r281, rfl, f282, f283⟩ := hQ281
                show OGo _ _ _ _ T281 (mkF m 199 #[.val (.int pt), .val (.int pp), .val (.int 3), .val (.int u0), .val (.int u1), .val (.int u2), .val (.ref r246), .val (.int 4), .val (.ref b254), .val (.int 1)] [(.ref r281)])
                refine og_pop X281 200 at_199 rfl rfl ?_
                refine og_aload X281 202 at_200 rfl rfl rfl ?_
                have f284 := f277.keep K281
                have f285 := f280.keep K281 (allS (Or.inl (Nat.le_trans (Nat.le_trans (Nat.le_trans K251.1 K252.1) K253.1) G254)) all0)
                refine own_virt X281 205 (a := b254) (argsL := []) (rest := []) at_202 f284 (fun _ hZ => notFace_of_selects (args := #[]) (mvT hZ (ow hw 41 rfl))) (rm_more1 l Z n0 h281 [] a0 hw hWd X281.old b254 r246 [u0, u1, u2] (2 : Int32) f282 f283 f285.top (show ¬ (3 : Int32) < (2 : Int32) by decide) ) (ow hw 38 rfl) (ow hw 39 rfl) (ow hw 41 rfl) (ow hw 40 rfl) (ow hw 31 rfl) (ow hw 42 rfl) (by decide) (lenOf pd__28_29Z rfl) rfl rfl rfl (W := 0) rfl (by decide) (by decide) (by decide) (by decide) all0 rfl ?_
                intro T286 h286 v286 X286 K286 hQ286
                obtain rfl := hQ286
                show OGo _ _ _ _ T286 (mkF m 205 #[.val (.int pt), .val (.int pp), .val (.int 3), .val (.int u0), .val (.int u1), .val (.int u2), .val (.ref r246), .val (.int 4), .val (.ref b254), .val (.int 1)] [(.int 1)])
                refine og_iload X286 207 at_205 rfl rfl ?_
                refine og_iconst X286 208 (3 : Int32) at_207 rfl rfl ?_
                refine og_icmpN X286 211 at_208 (XT.ii_lt_f (by decide)) rfl ?_
                refine og_iconst X286 212 (1 : Int32) at_211 rfl rfl ?_
                refine og_goto X286 216 at_212 (by decide) (by decide) ?_
                refine og_icmpN X286 219 at_216 (XT.ii_ne_f (by decide)) rfl ?_
                refine og_iconst X286 220 (1 : Int32) at_219 rfl rfl ?_
                refine og_goto X286 224 at_220 (by decide) (by decide) ?_
                refine og_istore X286 226 #[.val (.int pt), .val (.int pp), .val (.int 3), .val (.int u0), .val (.int u1), .val (.int u2), .val (.ref r246), .val (.int 4), .val (.ref b254), .val (.int 1)] at_224 rfl rfl ?_
                refine og_iload X286 228 at_226 rfl rfl ?_
                refine og_ifN X286 231 at_228 (XT.i0_eq_f (by decide)) rfl ?_
                refine og_iload X286 233 at_231 rfl rfl ?_
                refine og_iconst X286 234 (3 : Int32) at_233 rfl rfl ?_
                refine og_icmpN X286 237 at_234 (XT.ii_lt_f (by decide)) rfl ?_
                refine og_aload X286 239 at_237 rfl rfl rfl ?_
                have f287 := f284.keep K286
                have f288 := f282.keep K286 nin0
                have f289 := f283.keep K286 nin0
                have f290 := f285.keep K286 all0
                refine own_virt X286 242 (a := b254) (argsL := []) (rest := []) at_239 f287 (fun _ hZ => notFace_of_selects (args := #[]) (mvT hZ (ow hw 59 rfl))) (rf_txt322 l Z n0 h286 [] a0 hw hWd X286.old b254 r246 u0 u1 u2 f287 f288 f289 f290.top (own_lS ⟨ok1.1, ok1.2⟩ (own_lS ⟨ok2.1, ok2.2⟩ (own_lS ⟨ok3.1, ok3.2⟩ own_l0))) hc250 (own_svb X286 (om 0 rfl))) (ow hw 56 rfl) (ow hw 57 rfl) (ow hw 59 rfl) (ow hw 58 rfl) (ow hw 31 rfl) (ow hw 60 rfl) (by decide) (lenOf pd__28_29Ljava_2flang_2fString_3b rfl) rfl rfl rfl (W := 0) rfl (by decide) (by decide) (by decide) (by decide) (allS (om 0 rfl) all0) rfl ?_
                intro T291 h291 v291 X291 K291 hQ291
                obtain ⟨r291, rfl, f292, f293⟩ := hQ291
                show OGo _ _ _ _ T291 (mkF m 242 #[.val (.int pt), .val (.int pp), .val (.int 3), .val (.int u0), .val (.int u1), .val (.int u2), .val (.ref r246), .val (.int 4), .val (.ref b254), .val (.int 1)] [(.ref r291)])
                refine og_pop X291 243 at_242 rfl rfl ?_
                refine og_aload X291 245 at_243 rfl rfl rfl ?_
                have f294 := f287.keep K291
                have f295 := f290.keep K291 (allS (Or.inl (Nat.le_trans (Nat.le_trans (Nat.le_trans K251.1 K252.1) K253.1) G254)) all0)
                refine own_virt X291 248 (a := b254) (argsL := []) (rest := []) at_245 f294 (fun _ hZ => notFace_of_selects (args := #[]) (mvT hZ (ow hw 41 rfl))) (rm_more1 l Z n0 h291 [] a0 hw hWd X291.old b254 r246 [u0, u1, u2] (3 : Int32) f292 f293 f295.top (show ¬ (3 : Int32) < (3 : Int32) by decide) ) (ow hw 38 rfl) (ow hw 39 rfl) (ow hw 41 rfl) (ow hw 40 rfl) (ow hw 31 rfl) (ow hw 42 rfl) (by decide) (lenOf pd__28_29Z rfl) rfl rfl rfl (W := 0) rfl (by decide) (by decide) (by decide) (by decide) all0 rfl ?_
                intro T296 h296 v296 X296 K296 hQ296
                obtain rfl := hQ296
                show OGo _ _ _ _ T296 (mkF m 248 #[.val (.int pt), .val (.int pp), .val (.int 3), .val (.int u0), .val (.int u1), .val (.int u2), .val (.ref r246), .val (.int 4), .val (.ref b254), .val (.int 1)] [(.int 1)])
                refine og_iload X296 250 at_248 rfl rfl ?_
                refine og_iconst X296 251 (4 : Int32) at_250 rfl rfl ?_
                refine og_icmpN X296 254 at_251 (XT.ii_lt_f (by decide)) rfl ?_
                refine og_iconst X296 255 (1 : Int32) at_254 rfl rfl ?_
                refine og_goto X296 259 at_255 (by decide) (by decide) ?_
                refine og_icmpN X296 262 at_259 (XT.ii_ne_f (by decide)) rfl ?_
                refine og_iconst X296 263 (1 : Int32) at_262 rfl rfl ?_
                refine og_goto X296 267 at_263 (by decide) (by decide) ?_
                refine og_istore X296 269 #[.val (.int pt), .val (.int pp), .val (.int 3), .val (.int u0), .val (.int u1), .val (.int u2), .val (.ref r246), .val (.int 4), .val (.ref b254), .val (.int 1)] at_267 rfl rfl ?_
                refine og_iload X296 271 at_269 rfl rfl ?_
                refine og_ifN X296 274 at_271 (XT.i0_eq_f (by decide)) rfl ?_
                refine og_iload X296 276 at_274 rfl rfl ?_
                refine og_iconst X296 277 (4 : Int32) at_276 rfl rfl ?_
                refine og_icmpN X296 280 at_277 (XT.ii_lt_f (by decide)) rfl ?_
                refine og_aload X296 282 at_280 rfl rfl rfl ?_
                have f297 := f294.keep K296
                have f298 := f292.keep K296 nin0
                have f299 := f293.keep K296 nin0
                have f300 := f295.keep K296 all0
                refine own_virt X296 285 (a := b254) (argsL := []) (rest := []) at_282 f297 (fun _ hZ => notFace_of_selects (args := #[]) (mvT hZ (ow hw 59 rfl))) (rf_txt333 l Z n0 h296 [] a0 hw hWd X296.old b254 r246 u0 u1 u2 f297 f298 f299 f300.top (own_lS ⟨ok1.1, ok1.2⟩ (own_lS ⟨ok2.1, ok2.2⟩ (own_lS ⟨ok3.1, ok3.2⟩ own_l0))) (own_svb X296 (om 0 rfl))) (ow hw 56 rfl) (ow hw 57 rfl) (ow hw 59 rfl) (ow hw 58 rfl) (ow hw 31 rfl) (ow hw 60 rfl) (by decide) (lenOf pd__28_29Ljava_2flang_2fString_3b rfl) rfl rfl rfl (W := 0) rfl (by decide) (by decide) (by decide) (by decide) (allS (om 0 rfl) all0) rfl ?_
                intro T301 h301 v301 X301 K301 hQ301
                obtain ⟨r301, rfl, f302, f303⟩ := hQ301
                show OGo _ _ _ _ T301 (mkF m 285 #[.val (.int pt), .val (.int pp), .val (.int 3), .val (.int u0), .val (.int u1), .val (.int u2), .val (.ref r246), .val (.int 4), .val (.ref b254), .val (.int 1)] [(.ref r301)])
                refine og_pop X301 286 at_285 rfl rfl ?_
                refine og_aload X301 288 at_286 rfl rfl rfl ?_
                have f304 := f297.keep K301
                have f305 := f300.keep K301 (allS (Or.inl (Nat.le_trans (Nat.le_trans (Nat.le_trans K251.1 K252.1) K253.1) G254)) all0)
                refine own_virt X301 291 (a := b254) (argsL := []) (rest := []) at_288 f304 (fun _ hZ => notFace_of_selects (args := #[]) (mvT hZ (ow hw 41 rfl))) (rm_more0 l Z n0 h301 [] a0 hw hWd X301.old b254 r246 [u0, u1, u2] (4 : Int32) f302 f303 f305.top (show (3 : Int32) < (4 : Int32) by decide) ) (ow hw 38 rfl) (ow hw 39 rfl) (ow hw 41 rfl) (ow hw 40 rfl) (ow hw 31 rfl) (ow hw 42 rfl) (by decide) (lenOf pd__28_29Z rfl) rfl rfl rfl (W := 0) rfl (by decide) (by decide) (by decide) (by decide) all0 rfl ?_
                intro T306 h306 v306 X306 K306 hQ306
                obtain rfl := hQ306
                show OGo _ _ _ _ T306 (mkF m 291 #[.val (.int pt), .val (.int pp), .val (.int 3), .val (.int u0), .val (.int u1), .val (.int u2), .val (.ref r246), .val (.int 4), .val (.ref b254), .val (.int 1)] [(.int 0)])
                refine og_ifN X306 294 at_291 (XT.i0_ne_f (by decide)) rfl ?_
                refine og_iconst X306 295 (1 : Int32) at_294 rfl rfl ?_
                refine og_goto X306 299 at_295 (by decide) (by decide) ?_
                refine og_istore X306 301 #[.val (.int pt), .val (.int pp), .val (.int 3), .val (.int u0), .val (.int u1), .val (.int u2), .val (.ref r246), .val (.int 4), .val (.ref b254), .val (.int 1)] at_299 rfl rfl ?_
                refine og_iload X306 303 at_301 rfl rfl ?_
                refine own_retZ X306 at_303 hret rfl (by decide) (by decide) ?_
                exact rfl
              · -- not
                refine og_iconst X246 80 (1 : Int32) at_79 rfl rfl ?_
                refine og_iloadN X246 81 at_80 rfl rfl ?_
                refine og_ifN X246 84 at_81 (XT.i0_le_f (by decide)) rfl ?_
                refine og_iconst X246 85 (1 : Int32) at_84 rfl rfl ?_
                refine og_goto X246 89 at_85 (by decide) (by decide) ?_
                refine og_iloadN X246 90 at_89 rfl rfl ?_
                refine own_stat X246 93 (argsL := [(.int 1), (.int u0)]) (rest := [(.int 1)]) at_90 (rm_tab1 l Z n0 h246 [] a0 hw hWd X246.old u0 hc248 ) (ow hw 26 rfl) (ow hw 27 rfl) (ow hw 2 rfl) (ow hw 28 rfl) (by decide) (lenOf pd__28ZC_29I rfl) rfl rfl rfl (W := 1) rfl (by decide) (by decide) (by decide) (by decide) all0 rfl ?_
                intro T307 h307 v307 X307 K307 hQ307
                obtain rfl := hQ307
                show OGo _ _ _ _ T307 (mkF m 93 #[.val (.int pt), .val (.int pp), .val (.int 3), .val (.int u0), .val (.int u1), .val (.int u2), .val (.ref r246), .unset, .unset, .unset] [(.int 1), (.int 1)])
                refine og_iadd X307 94 at_93 rfl ?_
                show OGo _ _ _ _ T307 (mkF m 94 #[.val (.int pt), .val (.int pp), .val (.int 3), .val (.int u0), .val (.int u1), .val (.int u2), .val (.ref r246), .unset, .unset, .unset] [(.int 2)])
                refine og_iloadN X307 95 at_94 rfl rfl ?_
                refine og_iconst X307 96 (1 : Int32) at_95 rfl rfl ?_
                refine og_icmpN X307 99 at_96 (XT.ii_le_f (by decide)) rfl ?_
                refine og_iconst X307 100 (1 : Int32) at_99 rfl rfl ?_
                refine og_goto X307 104 at_100 (by decide) (by decide) ?_
                refine og_iload X307 106 at_104 rfl rfl ?_
                refine own_stat X307 109 (argsL := [(.int 1), (.int u1)]) (rest := [(.int 2)]) at_106 (rm_tab1 l Z n0 h307 [] a0 hw hWd X307.old u1 hc249 ) (ow hw 26 rfl) (ow hw 27 rfl) (ow hw 2 rfl) (ow hw 28 rfl) (by decide) (lenOf pd__28ZC_29I rfl) rfl rfl rfl (W := 1) rfl (by decide) (by decide) (by decide) (by decide) all0 rfl ?_
                intro T308 h308 v308 X308 K308 hQ308
                obtain rfl := hQ308
                show OGo _ _ _ _ T308 (mkF m 109 #[.val (.int pt), .val (.int pp), .val (.int 3), .val (.int u0), .val (.int u1), .val (.int u2), .val (.ref r246), .unset, .unset, .unset] [(.int 1), (.int 2)])
                refine og_iadd X308 110 at_109 rfl ?_
                show OGo _ _ _ _ T308 (mkF m 110 #[.val (.int pt), .val (.int pp), .val (.int 3), .val (.int u0), .val (.int u1), .val (.int u2), .val (.ref r246), .unset, .unset, .unset] [(.int 3)])
                refine og_iloadN X308 111 at_110 rfl rfl ?_
                refine og_iconst X308 112 (2 : Int32) at_111 rfl rfl ?_
                refine og_icmpN X308 115 at_112 (XT.ii_le_f (by decide)) rfl ?_
                refine og_iconst X308 116 (1 : Int32) at_115 rfl rfl ?_
                refine og_goto X308 120 at_116 (by decide) (by decide) ?_
                refine og_iload X308 122 at_120 rfl rfl ?_
                refine own_stat X308 125 (argsL := [(.int 1), (.int u2)]) (rest := [(.int 3)]) at_122 (rm_tab2 l Z n0 h308 [] a0 hw hWd X308.old u2 hc250 ) (ow hw 26 rfl) (ow hw 27 rfl) (ow hw 2 rfl) (ow hw 28 rfl) (by decide) (lenOf pd__28ZC_29I rfl) rfl rfl rfl (W := 1) rfl (by decide) (by decide) (by decide) (by decide) all0 rfl ?_
                intro T309 h309 v309 X309 K309 hQ309
                obtain rfl := hQ309
                show OGo _ _ _ _ T309 (mkF m 125 #[.val (.int pt), .val (.int pp), .val (.int 3), .val (.int u0), .val (.int u1), .val (.int u2), .val (.ref r246), .unset, .unset, .unset] [(.int 0), (.int 3)])
                refine og_iadd X309 126 at_125 rfl ?_
                show OGo _ _ _ _ T309 (mkF m 126 #[.val (.int pt), .val (.int pp), .val (.int 3), .val (.int u0), .val (.int u1), .val (.int u2), .val (.ref r246), .unset, .unset, .unset] [(.int 3)])
                refine og_istore X309 128 #[.val (.int pt), .val (.int pp), .val (.int 3), .val (.int u0), .val (.int u1), .val (.int u2), .val (.ref r246), .val (.int 3), .unset, .unset] at_126 rfl rfl ?_
                refine own_new X309 131 at_128 (ow hw 29 rfl) (ow hw 30 rfl) (ow hw 31 rfl) (by decide) (by decide) rfl ?_
                intro T310 h310 b310 X310 K310 G310 U310 E310 D310
                have f311 : Fld Z h310 b310 "com/example/ratable/ratable/core/JournalSums$Fields" "line" "Ljava/lang/String;" .null := D310 (Or.inr (ow hw 37 rfl)) (ty := (.object "java/lang/String")) (by decide)
                have f312 : Fld Z h310 b310 "com/example/ratable/ratable/core/JournalSums$Fields" "next" "I" (.int 0) := D310 (Or.inl (ow hw 44 rfl)) (ty := .int) (by decide)
                refine og_dup X310 132 at_131 rfl rfl ?_
                refine og_aload X310 134 at_132 rfl rfl rfl ?_
                refine own_spec X310 137 (a := b310) (argsL := [(.ref r246)]) (rest := [(.ref b310)]) at_134 rfl (rm6 l Z n0 h310 [] a0 hw hWd X310.old b310 r246 E310 f311 f312 (own_svb X310 (om 0 rfl))) (ow hw 32 rfl) (ow hw 33 rfl) (ow hw 31 rfl) (ow hw 34 rfl) (by decide) (lenOf pd__28Ljava_2flang_2fString_3b_29V rfl) rfl rfl rfl (W := 1) rfl (by decide) (by decide) (by decide) (by decide) (allS (om 0 rfl) all0) rfl ?_
                intro T313 h313 v313 X313 K313 hQ313
                obtain ⟨rfl, f314, f315⟩ := hQ313
                show OGo _ _ _ _ T313 (mkF m 137 #[.val (.int pt), .val (.int pp), .val (.int 3), .val (.int u0), .val (.int u1), .val (.int u2), .val (.ref r246), .val (.int 3), .unset, .unset] [(.ref b310)])
                refine og_astore X313 139 #[.val (.int pt), .val (.int pp), .val (.int 3), .val (.int u0), .val (.int u1), .val (.int u2), .val (.ref r246), .val (.int 3), .val (.ref b310), .unset] at_137 rfl rfl rfl ?_
                refine og_aload X313 141 at_139 rfl rfl rfl ?_
                have f316 := E310.keep K313
                have f317 := f247.keep K307 all0
                have f318 := f317.keep K308 all0
                have f319 := f318.keep K309 all0
                have f320 := f319.keep K310 all0
                have f321 := f320.keep K313 (allS (Or.inl (Nat.le_trans (Nat.le_trans (Nat.le_trans K307.1 K308.1) K309.1) G310)) all0)
                refine own_virt X313 144 (a := b310) (argsL := []) (rest := []) at_141 f316 (fun _ hZ => notFace_of_selects (args := #[]) (mvT hZ (ow hw 41 rfl))) (rm_more1 l Z n0 h313 [] a0 hw hWd X313.old b310 r246 [u0, u1, u2] (0 : Int32) f314 f315 f321.top (show ¬ (3 : Int32) < (0 : Int32) by decide) ) (ow hw 38 rfl) (ow hw 39 rfl) (ow hw 41 rfl) (ow hw 40 rfl) (ow hw 31 rfl) (ow hw 42 rfl) (by decide) (lenOf pd__28_29Z rfl) rfl rfl rfl (W := 0) rfl (by decide) (by decide) (by decide) (by decide) all0 rfl ?_
                intro T322 h322 v322 X322 K322 hQ322
                obtain rfl := hQ322
                show OGo _ _ _ _ T322 (mkF m 144 #[.val (.int pt), .val (.int pp), .val (.int 3), .val (.int u0), .val (.int u1), .val (.int u2), .val (.ref r246), .val (.int 3), .val (.ref b310), .unset] [(.int 1)])
                refine og_istore X322 146 #[.val (.int pt), .val (.int pp), .val (.int 3), .val (.int u0), .val (.int u1), .val (.int u2), .val (.ref r246), .val (.int 3), .val (.ref b310), .val (.int 1)] at_144 rfl rfl ?_
                refine og_iload X322 148 at_146 rfl rfl ?_
                refine og_ifN X322 151 at_148 (XT.i0_eq_f (by decide)) rfl ?_
                refine og_aload X322 153 at_151 rfl rfl rfl ?_
                have f323 := f316.keep K322
                have f324 := f314.keep K322 nin0
                have f325 := f315.keep K322 nin0
                have f326 := f321.keep K322 all0
                refine own_virt X322 156 (a := b310) (argsL := []) (rest := []) at_153 f323 (fun _ hZ => notFace_of_selects (args := #[]) (mvT hZ (ow hw 59 rfl))) (rf_txt300 l Z n0 h322 [] a0 hw hWd X322.old b310 r246 u0 u1 u2 f323 f324 f325 f326.top (own_lS ⟨ok1.1, ok1.2⟩ (own_lS ⟨ok2.1, ok2.2⟩ (own_lS ⟨ok3.1, ok3.2⟩ own_l0))) hc248 (own_svb X322 (om 0 rfl))) (ow hw 56 rfl) (ow hw 57 rfl) (ow hw 59 rfl) (ow hw 58 rfl) (ow hw 31 rfl) (ow hw 60 rfl) (by decide) (lenOf pd__28_29Ljava_2flang_2fString_3b rfl) rfl rfl rfl (W := 0) rfl (by decide) (by decide) (by decide) (by decide) (allS (om 0 rfl) all0) rfl ?_
                intro T327 h327 v327 X327 K327 hQ327
                obtain ⟨r327, rfl, f328, f329⟩ := hQ327
                show OGo _ _ _ _ T327 (mkF m 156 #[.val (.int pt), .val (.int pp), .val (.int 3), .val (.int u0), .val (.int u1), .val (.int u2), .val (.ref r246), .val (.int 3), .val (.ref b310), .val (.int 1)] [(.ref r327)])
                refine og_pop X327 157 at_156 rfl rfl ?_
                refine og_aload X327 159 at_157 rfl rfl rfl ?_
                have f330 := f323.keep K327
                have f331 := f326.keep K327 (allS (Or.inl (Nat.le_trans (Nat.le_trans (Nat.le_trans K307.1 K308.1) K309.1) G310)) all0)
                refine own_virt X327 162 (a := b310) (argsL := []) (rest := []) at_159 f330 (fun _ hZ => notFace_of_selects (args := #[]) (mvT hZ (ow hw 41 rfl))) (rm_more1 l Z n0 h327 [] a0 hw hWd X327.old b310 r246 [u0, u1, u2] (1 : Int32) f328 f329 f331.top (show ¬ (3 : Int32) < (1 : Int32) by decide) ) (ow hw 38 rfl) (ow hw 39 rfl) (ow hw 41 rfl) (ow hw 40 rfl) (ow hw 31 rfl) (ow hw 42 rfl) (by decide) (lenOf pd__28_29Z rfl) rfl rfl rfl (W := 0) rfl (by decide) (by decide) (by decide) (by decide) all0 rfl ?_
                intro T332 h332 v332 X332 K332 hQ332
                obtain rfl := hQ332
                show OGo _ _ _ _ T332 (mkF m 162 #[.val (.int pt), .val (.int pp), .val (.int 3), .val (.int u0), .val (.int u1), .val (.int u2), .val (.ref r246), .val (.int 3), .val (.ref b310), .val (.int 1)] [(.int 1)])
                refine og_iload X332 164 at_162 rfl rfl ?_
                refine og_iconst X332 165 (2 : Int32) at_164 rfl rfl ?_
                refine og_icmpN X332 168 at_165 (XT.ii_lt_f (by decide)) rfl ?_
                refine og_iconst X332 169 (1 : Int32) at_168 rfl rfl ?_
                refine og_goto X332 173 at_169 (by decide) (by decide) ?_
                refine og_icmpN X332 176 at_173 (XT.ii_ne_f (by decide)) rfl ?_
                refine og_iconst X332 177 (1 : Int32) at_176 rfl rfl ?_
                refine og_goto X332 181 at_177 (by decide) (by decide) ?_
                refine og_istore X332 183 #[.val (.int pt), .val (.int pp), .val (.int 3), .val (.int u0), .val (.int u1), .val (.int u2), .val (.ref r246), .val (.int 3), .val (.ref b310), .val (.int 1)] at_181 rfl rfl ?_
                refine og_iload X332 185 at_183 rfl rfl ?_
                refine og_ifN X332 188 at_185 (XT.i0_eq_f (by decide)) rfl ?_
                refine og_iload X332 190 at_188 rfl rfl ?_
                refine og_iconst X332 191 (2 : Int32) at_190 rfl rfl ?_
                refine og_icmpN X332 194 at_191 (XT.ii_lt_f (by decide)) rfl ?_
                refine og_aload X332 196 at_194 rfl rfl rfl ?_
                have f333 := f330.keep K332
                have f334 := f328.keep K332 nin0
                have f335 := f329.keep K332 nin0
                have f336 := f331.keep K332 all0
                refine own_virt X332 199 (a := b310) (argsL := []) (rest := []) at_196 f333 (fun _ hZ => notFace_of_selects (args := #[]) (mvT hZ (ow hw 59 rfl))) (rf_txt311 l Z n0 h332 [] a0 hw hWd X332.old b310 r246 u0 u1 u2 f333 f334 f335 f336.top (own_lS ⟨ok1.1, ok1.2⟩ (own_lS ⟨ok2.1, ok2.2⟩ (own_lS ⟨ok3.1, ok3.2⟩ own_l0))) hc249 (own_svb X332 (om 0 rfl))) (ow hw 56 rfl) (ow hw 57 rfl) (ow hw 59 rfl) (ow hw 58 rfl) (ow hw 31 rfl) (ow hw 60 rfl) (by decide) (lenOf pd__28_29Ljava_2flang_2fString_3b rfl) rfl rfl rfl (W := 0) rfl (by decide) (by decide) (by decide) (by decide) (allS (om 0 rfl) all0) rfl ?_
                intro T337 h337 v337 X337 K337 hQ337
                obtain ⟨r337, rfl, f338, f339⟩ := hQ337
                show OGo _ _ _ _ T337 (mkF m 199 #[.val (.int pt), .val (.int pp), .val (.int 3), .val (.int u0), .val (.int u1), .val (.int u2), .val (.ref r246), .val (.int 3), .val (.ref b310), .val (.int 1)] [(.ref r337)])
                refine og_pop X337 200 at_199 rfl rfl ?_
                refine og_aload X337 202 at_200 rfl rfl rfl ?_
                have f340 := f333.keep K337
                have f341 := f336.keep K337 (allS (Or.inl (Nat.le_trans (Nat.le_trans (Nat.le_trans K307.1 K308.1) K309.1) G310)) all0)
                refine own_virt X337 205 (a := b310) (argsL := []) (rest := []) at_202 f340 (fun _ hZ => notFace_of_selects (args := #[]) (mvT hZ (ow hw 41 rfl))) (rm_more1 l Z n0 h337 [] a0 hw hWd X337.old b310 r246 [u0, u1, u2] (2 : Int32) f338 f339 f341.top (show ¬ (3 : Int32) < (2 : Int32) by decide) ) (ow hw 38 rfl) (ow hw 39 rfl) (ow hw 41 rfl) (ow hw 40 rfl) (ow hw 31 rfl) (ow hw 42 rfl) (by decide) (lenOf pd__28_29Z rfl) rfl rfl rfl (W := 0) rfl (by decide) (by decide) (by decide) (by decide) all0 rfl ?_
                intro T342 h342 v342 X342 K342 hQ342
                obtain rfl := hQ342
                show OGo _ _ _ _ T342 (mkF m 205 #[.val (.int pt), .val (.int pp), .val (.int 3), .val (.int u0), .val (.int u1), .val (.int u2), .val (.ref r246), .val (.int 3), .val (.ref b310), .val (.int 1)] [(.int 1)])
                refine og_iload X342 207 at_205 rfl rfl ?_
                refine og_iconst X342 208 (3 : Int32) at_207 rfl rfl ?_
                refine og_icmpN X342 211 at_208 (XT.ii_lt_f (by decide)) rfl ?_
                refine og_iconst X342 212 (1 : Int32) at_211 rfl rfl ?_
                refine og_goto X342 216 at_212 (by decide) (by decide) ?_
                refine og_icmpN X342 219 at_216 (XT.ii_ne_f (by decide)) rfl ?_
                refine og_iconst X342 220 (1 : Int32) at_219 rfl rfl ?_
                refine og_goto X342 224 at_220 (by decide) (by decide) ?_
                refine og_istore X342 226 #[.val (.int pt), .val (.int pp), .val (.int 3), .val (.int u0), .val (.int u1), .val (.int u2), .val (.ref r246), .val (.int 3), .val (.ref b310), .val (.int 1)] at_224 rfl rfl ?_
                refine og_iload X342 228 at_226 rfl rfl ?_
                refine og_ifN X342 231 at_228 (XT.i0_eq_f (by decide)) rfl ?_
                refine og_iload X342 233 at_231 rfl rfl ?_
                refine og_iconst X342 234 (3 : Int32) at_233 rfl rfl ?_
                refine og_icmpN X342 237 at_234 (XT.ii_lt_f (by decide)) rfl ?_
                refine og_aload X342 239 at_237 rfl rfl rfl ?_
                have f343 := f340.keep K342
                have f344 := f338.keep K342 nin0
                have f345 := f339.keep K342 nin0
                have f346 := f341.keep K342 all0
                refine own_virt X342 242 (a := b310) (argsL := []) (rest := []) at_239 f343 (fun _ hZ => notFace_of_selects (args := #[]) (mvT hZ (ow hw 59 rfl))) (rf_txt323 l Z n0 h342 [] a0 hw hWd X342.old b310 r246 u0 u1 u2 f343 f344 f345 f346.top (own_lS ⟨ok1.1, ok1.2⟩ (own_lS ⟨ok2.1, ok2.2⟩ (own_lS ⟨ok3.1, ok3.2⟩ own_l0))) hc250 (own_svb X342 (om 0 rfl))) (ow hw 56 rfl) (ow hw 57 rfl) (ow hw 59 rfl) (ow hw 58 rfl) (ow hw 31 rfl) (ow hw 60 rfl) (by decide) (lenOf pd__28_29Ljava_2flang_2fString_3b rfl) rfl rfl rfl (W := 0) rfl (by decide) (by decide) (by decide) (by decide) (allS (om 0 rfl) all0) rfl ?_
                intro T347 h347 v347 X347 K347 hQ347
                obtain ⟨r347, rfl, f348, f349⟩ := hQ347
                show OGo _ _ _ _ T347 (mkF m 242 #[.val (.int pt), .val (.int pp), .val (.int 3), .val (.int u0), .val (.int u1), .val (.int u2), .val (.ref r246), .val (.int 3), .val (.ref b310), .val (.int 1)] [(.ref r347)])
                refine og_pop X347 243 at_242 rfl rfl ?_
                refine og_aload X347 245 at_243 rfl rfl rfl ?_
                have f350 := f343.keep K347
                have f351 := f346.keep K347 (allS (Or.inl (Nat.le_trans (Nat.le_trans (Nat.le_trans K307.1 K308.1) K309.1) G310)) all0)
                refine own_virt X347 248 (a := b310) (argsL := []) (rest := []) at_245 f350 (fun _ hZ => notFace_of_selects (args := #[]) (mvT hZ (ow hw 41 rfl))) (rm_more0 l Z n0 h347 [] a0 hw hWd X347.old b310 r246 [u0, u1, u2] (4 : Int32) f348 f349 f351.top (show (3 : Int32) < (4 : Int32) by decide) ) (ow hw 38 rfl) (ow hw 39 rfl) (ow hw 41 rfl) (ow hw 40 rfl) (ow hw 31 rfl) (ow hw 42 rfl) (by decide) (lenOf pd__28_29Z rfl) rfl rfl rfl (W := 0) rfl (by decide) (by decide) (by decide) (by decide) all0 rfl ?_
                intro T352 h352 v352 X352 K352 hQ352
                obtain rfl := hQ352
                show OGo _ _ _ _ T352 (mkF m 248 #[.val (.int pt), .val (.int pp), .val (.int 3), .val (.int u0), .val (.int u1), .val (.int u2), .val (.ref r246), .val (.int 3), .val (.ref b310), .val (.int 1)] [(.int 0)])
                refine og_iload X352 250 at_248 rfl rfl ?_
                refine og_iconst X352 251 (4 : Int32) at_250 rfl rfl ?_
                refine og_icmpY X352 258 at_251 (XT.ii_lt_t (by decide)) (by decide) (by decide) ?_
                refine og_iconst X352 259 (0 : Int32) at_258 rfl rfl ?_
                refine og_icmpN X352 262 at_259 (XT.ii_ne_f (by decide)) rfl ?_
                refine og_iconst X352 263 (1 : Int32) at_262 rfl rfl ?_
                refine og_goto X352 267 at_263 (by decide) (by decide) ?_
                refine og_istore X352 269 #[.val (.int pt), .val (.int pp), .val (.int 3), .val (.int u0), .val (.int u1), .val (.int u2), .val (.ref r246), .val (.int 3), .val (.ref b310), .val (.int 1)] at_267 rfl rfl ?_
                refine og_iload X352 271 at_269 rfl rfl ?_
                refine og_ifN X352 274 at_271 (XT.i0_eq_f (by decide)) rfl ?_
                refine og_iload X352 276 at_274 rfl rfl ?_
                refine og_iconst X352 277 (4 : Int32) at_276 rfl rfl ?_
                refine og_icmpY X352 301 at_277 (XT.ii_lt_t (by decide)) (by decide) (by decide) ?_
                refine og_iload X352 303 at_301 rfl rfl ?_
                refine own_retZ X352 at_303 hret rfl (by decide) (by decide) ?_
                exact rfl
            · -- not
              by_cases hc353 : u2 = (9 : Int32)
              · -- u2 = (9 : Int32)
                refine og_iconst X246 80 (1 : Int32) at_79 rfl rfl ?_
                refine og_iloadN X246 81 at_80 rfl rfl ?_
                refine og_ifN X246 84 at_81 (XT.i0_le_f (by decide)) rfl ?_
                refine og_iconst X246 85 (1 : Int32) at_84 rfl rfl ?_
                refine og_goto X246 89 at_85 (by decide) (by decide) ?_
                refine og_iloadN X246 90 at_89 rfl rfl ?_
                refine own_stat X246 93 (argsL := [(.int 1), (.int u0)]) (rest := [(.int 1)]) at_90 (rm_tab1 l Z n0 h246 [] a0 hw hWd X246.old u0 hc248 ) (ow hw 26 rfl) (ow hw 27 rfl) (ow hw 2 rfl) (ow hw 28 rfl) (by decide) (lenOf pd__28ZC_29I rfl) rfl rfl rfl (W := 1) rfl (by decide) (by decide) (by decide) (by decide) all0 rfl ?_
                intro T354 h354 v354 X354 K354 hQ354
                obtain rfl := hQ354
                show OGo _ _ _ _ T354 (mkF m 93 #[.val (.int pt), .val (.int pp), .val (.int 3), .val (.int u0), .val (.int u1), .val (.int u2), .val (.ref r246), .unset, .unset, .unset] [(.int 1), (.int 1)])
                refine og_iadd X354 94 at_93 rfl ?_
                show OGo _ _ _ _ T354 (mkF m 94 #[.val (.int pt), .val (.int pp), .val (.int 3), .val (.int u0), .val (.int u1), .val (.int u2), .val (.ref r246), .unset, .unset, .unset] [(.int 2)])
                refine og_iloadN X354 95 at_94 rfl rfl ?_
                refine og_iconst X354 96 (1 : Int32) at_95 rfl rfl ?_
                refine og_icmpN X354 99 at_96 (XT.ii_le_f (by decide)) rfl ?_
                refine og_iconst X354 100 (1 : Int32) at_99 rfl rfl ?_
                refine og_goto X354 104 at_100 (by decide) (by decide) ?_
                refine og_iload X354 106 at_104 rfl rfl ?_
                refine own_stat X354 109 (argsL := [(.int 1), (.int u1)]) (rest := [(.int 2)]) at_106 (rm_tab2 l Z n0 h354 [] a0 hw hWd X354.old u1 hc249 ) (ow hw 26 rfl) (ow hw 27 rfl) (ow hw 2 rfl) (ow hw 28 rfl) (by decide) (lenOf pd__28ZC_29I rfl) rfl rfl rfl (W := 1) rfl (by decide) (by decide) (by decide) (by decide) all0 rfl ?_
                intro T355 h355 v355 X355 K355 hQ355
                obtain rfl := hQ355
                show OGo _ _ _ _ T355 (mkF m 109 #[.val (.int pt), .val (.int pp), .val (.int 3), .val (.int u0), .val (.int u1), .val (.int u2), .val (.ref r246), .unset, .unset, .unset] [(.int 0), (.int 2)])
                refine og_iadd X355 110 at_109 rfl ?_
                show OGo _ _ _ _ T355 (mkF m 110 #[.val (.int pt), .val (.int pp), .val (.int 3), .val (.int u0), .val (.int u1), .val (.int u2), .val (.ref r246), .unset, .unset, .unset] [(.int 2)])
                refine og_iloadN X355 111 at_110 rfl rfl ?_
                refine og_iconst X355 112 (2 : Int32) at_111 rfl rfl ?_
                refine og_icmpN X355 115 at_112 (XT.ii_le_f (by decide)) rfl ?_
                refine og_iconst X355 116 (1 : Int32) at_115 rfl rfl ?_
                refine og_goto X355 120 at_116 (by decide) (by decide) ?_
                refine og_iload X355 122 at_120 rfl rfl ?_
                refine own_stat X355 125 (argsL := [(.int 1), (.int u2)]) (rest := [(.int 2)]) at_122 (rm_tab1 l Z n0 h355 [] a0 hw hWd X355.old u2 hc353 ) (ow hw 26 rfl) (ow hw 27 rfl) (ow hw 2 rfl) (ow hw 28 rfl) (by decide) (lenOf pd__28ZC_29I rfl) rfl rfl rfl (W := 1) rfl (by decide) (by decide) (by decide) (by decide) all0 rfl ?_
                intro T356 h356 v356 X356 K356 hQ356
                obtain rfl := hQ356
                show OGo _ _ _ _ T356 (mkF m 125 #[.val (.int pt), .val (.int pp), .val (.int 3), .val (.int u0), .val (.int u1), .val (.int u2), .val (.ref r246), .unset, .unset, .unset] [(.int 1), (.int 2)])
                refine og_iadd X356 126 at_125 rfl ?_
                show OGo _ _ _ _ T356 (mkF m 126 #[.val (.int pt), .val (.int pp), .val (.int 3), .val (.int u0), .val (.int u1), .val (.int u2), .val (.ref r246), .unset, .unset, .unset] [(.int 3)])
                refine og_istore X356 128 #[.val (.int pt), .val (.int pp), .val (.int 3), .val (.int u0), .val (.int u1), .val (.int u2), .val (.ref r246), .val (.int 3), .unset, .unset] at_126 rfl rfl ?_
                refine own_new X356 131 at_128 (ow hw 29 rfl) (ow hw 30 rfl) (ow hw 31 rfl) (by decide) (by decide) rfl ?_
                intro T357 h357 b357 X357 K357 G357 U357 E357 D357
                have f358 : Fld Z h357 b357 "com/example/ratable/ratable/core/JournalSums$Fields" "line" "Ljava/lang/String;" .null := D357 (Or.inr (ow hw 37 rfl)) (ty := (.object "java/lang/String")) (by decide)
                have f359 : Fld Z h357 b357 "com/example/ratable/ratable/core/JournalSums$Fields" "next" "I" (.int 0) := D357 (Or.inl (ow hw 44 rfl)) (ty := .int) (by decide)
                refine og_dup X357 132 at_131 rfl rfl ?_
                refine og_aload X357 134 at_132 rfl rfl rfl ?_
                refine own_spec X357 137 (a := b357) (argsL := [(.ref r246)]) (rest := [(.ref b357)]) at_134 rfl (rm6 l Z n0 h357 [] a0 hw hWd X357.old b357 r246 E357 f358 f359 (own_svb X357 (om 0 rfl))) (ow hw 32 rfl) (ow hw 33 rfl) (ow hw 31 rfl) (ow hw 34 rfl) (by decide) (lenOf pd__28Ljava_2flang_2fString_3b_29V rfl) rfl rfl rfl (W := 1) rfl (by decide) (by decide) (by decide) (by decide) (allS (om 0 rfl) all0) rfl ?_
                intro T360 h360 v360 X360 K360 hQ360
                obtain ⟨rfl, f361, f362⟩ := hQ360
                show OGo _ _ _ _ T360 (mkF m 137 #[.val (.int pt), .val (.int pp), .val (.int 3), .val (.int u0), .val (.int u1), .val (.int u2), .val (.ref r246), .val (.int 3), .unset, .unset] [(.ref b357)])
                refine og_astore X360 139 #[.val (.int pt), .val (.int pp), .val (.int 3), .val (.int u0), .val (.int u1), .val (.int u2), .val (.ref r246), .val (.int 3), .val (.ref b357), .unset] at_137 rfl rfl rfl ?_
                refine og_aload X360 141 at_139 rfl rfl rfl ?_
                have f363 := E357.keep K360
                have f364 := f247.keep K354 all0
                have f365 := f364.keep K355 all0
                have f366 := f365.keep K356 all0
                have f367 := f366.keep K357 all0
                have f368 := f367.keep K360 (allS (Or.inl (Nat.le_trans (Nat.le_trans (Nat.le_trans K354.1 K355.1) K356.1) G357)) all0)
                refine own_virt X360 144 (a := b357) (argsL := []) (rest := []) at_141 f363 (fun _ hZ => notFace_of_selects (args := #[]) (mvT hZ (ow hw 41 rfl))) (rm_more1 l Z n0 h360 [] a0 hw hWd X360.old b357 r246 [u0, u1, u2] (0 : Int32) f361 f362 f368.top (show ¬ (3 : Int32) < (0 : Int32) by decide) ) (ow hw 38 rfl) (ow hw 39 rfl) (ow hw 41 rfl) (ow hw 40 rfl) (ow hw 31 rfl) (ow hw 42 rfl) (by decide) (lenOf pd__28_29Z rfl) rfl rfl rfl (W := 0) rfl (by decide) (by decide) (by decide) (by decide) all0 rfl ?_
                intro T369 h369 v369 X369 K369 hQ369
                obtain rfl := hQ369
                show OGo _ _ _ _ T369 (mkF m 144 #[.val (.int pt), .val (.int pp), .val (.int 3), .val (.int u0), .val (.int u1), .val (.int u2), .val (.ref r246), .val (.int 3), .val (.ref b357), .unset] [(.int 1)])
                refine og_istore X369 146 #[.val (.int pt), .val (.int pp), .val (.int 3), .val (.int u0), .val (.int u1), .val (.int u2), .val (.ref r246), .val (.int 3), .val (.ref b357), .val (.int 1)] at_144 rfl rfl ?_
                refine og_iload X369 148 at_146 rfl rfl ?_
                refine og_ifN X369 151 at_148 (XT.i0_eq_f (by decide)) rfl ?_
                refine og_aload X369 153 at_151 rfl rfl rfl ?_
                have f370 := f363.keep K369
                have f371 := f361.keep K369 nin0
                have f372 := f362.keep K369 nin0
                have f373 := f368.keep K369 all0
                refine own_virt X369 156 (a := b357) (argsL := []) (rest := []) at_153 f370 (fun _ hZ => notFace_of_selects (args := #[]) (mvT hZ (ow hw 59 rfl))) (rf_txt300 l Z n0 h369 [] a0 hw hWd X369.old b357 r246 u0 u1 u2 f370 f371 f372 f373.top (own_lS ⟨ok1.1, ok1.2⟩ (own_lS ⟨ok2.1, ok2.2⟩ (own_lS ⟨ok3.1, ok3.2⟩ own_l0))) hc248 (own_svb X369 (om 0 rfl))) (ow hw 56 rfl) (ow hw 57 rfl) (ow hw 59 rfl) (ow hw 58 rfl) (ow hw 31 rfl) (ow hw 60 rfl) (by decide) (lenOf pd__28_29Ljava_2flang_2fString_3b rfl) rfl rfl rfl (W := 0) rfl (by decide) (by decide) (by decide) (by decide) (allS (om 0 rfl) all0) rfl ?_
                intro T374 h374 v374 X374 K374 hQ374
                obtain ⟨r374, rfl, f375, f376⟩ := hQ374
                show OGo _ _ _ _ T374 (mkF m 156 #[.val (.int pt), .val (.int pp), .val (.int 3), .val (.int u0), .val (.int u1), .val (.int u2), .val (.ref r246), .val (.int 3), .val (.ref b357), .val (.int 1)] [(.ref r374)])
                refine og_pop X374 157 at_156 rfl rfl ?_
                refine og_aload X374 159 at_157 rfl rfl rfl ?_
                have f377 := f370.keep K374
                have f378 := f373.keep K374 (allS (Or.inl (Nat.le_trans (Nat.le_trans (Nat.le_trans K354.1 K355.1) K356.1) G357)) all0)
                refine own_virt X374 162 (a := b357) (argsL := []) (rest := []) at_159 f377 (fun _ hZ => notFace_of_selects (args := #[]) (mvT hZ (ow hw 41 rfl))) (rm_more1 l Z n0 h374 [] a0 hw hWd X374.old b357 r246 [u0, u1, u2] (1 : Int32) f375 f376 f378.top (show ¬ (3 : Int32) < (1 : Int32) by decide) ) (ow hw 38 rfl) (ow hw 39 rfl) (ow hw 41 rfl) (ow hw 40 rfl) (ow hw 31 rfl) (ow hw 42 rfl) (by decide) (lenOf pd__28_29Z rfl) rfl rfl rfl (W := 0) rfl (by decide) (by decide) (by decide) (by decide) all0 rfl ?_
                intro T379 h379 v379 X379 K379 hQ379
                obtain rfl := hQ379
                show OGo _ _ _ _ T379 (mkF m 162 #[.val (.int pt), .val (.int pp), .val (.int 3), .val (.int u0), .val (.int u1), .val (.int u2), .val (.ref r246), .val (.int 3), .val (.ref b357), .val (.int 1)] [(.int 1)])
                refine og_iload X379 164 at_162 rfl rfl ?_
                refine og_iconst X379 165 (2 : Int32) at_164 rfl rfl ?_
                refine og_icmpN X379 168 at_165 (XT.ii_lt_f (by decide)) rfl ?_
                refine og_iconst X379 169 (1 : Int32) at_168 rfl rfl ?_
                refine og_goto X379 173 at_169 (by decide) (by decide) ?_
                refine og_icmpN X379 176 at_173 (XT.ii_ne_f (by decide)) rfl ?_
                refine og_iconst X379 177 (1 : Int32) at_176 rfl rfl ?_
                refine og_goto X379 181 at_177 (by decide) (by decide) ?_
                refine og_istore X379 183 #[.val (.int pt), .val (.int pp), .val (.int 3), .val (.int u0), .val (.int u1), .val (.int u2), .val (.ref r246), .val (.int 3), .val (.ref b357), .val (.int 1)] at_181 rfl rfl ?_
                refine og_iload X379 185 at_183 rfl rfl ?_
                refine og_ifN X379 188 at_185 (XT.i0_eq_f (by decide)) rfl ?_
                refine og_iload X379 190 at_188 rfl rfl ?_
                refine og_iconst X379 191 (2 : Int32) at_190 rfl rfl ?_
                refine og_icmpN X379 194 at_191 (XT.ii_lt_f (by decide)) rfl ?_
                refine og_aload X379 196 at_194 rfl rfl rfl ?_
                have f380 := f377.keep K379
                have f381 := f375.keep K379 nin0
                have f382 := f376.keep K379 nin0
                have f383 := f378.keep K379 all0
                refine own_virt X379 199 (a := b357) (argsL := []) (rest := []) at_196 f380 (fun _ hZ => notFace_of_selects (args := #[]) (mvT hZ (ow hw 59 rfl))) (rf_txt312 l Z n0 h379 [] a0 hw hWd X379.old b357 r246 u0 u1 u2 f380 f381 f382 f383.top (own_lS ⟨ok1.1, ok1.2⟩ (own_lS ⟨ok2.1, ok2.2⟩ (own_lS ⟨ok3.1, ok3.2⟩ own_l0))) hc249 hc353 (own_svb X379 (om 0 rfl))) (ow hw 56 rfl) (ow hw 57 rfl) (ow hw 59 rfl) (ow hw 58 rfl) (ow hw 31 rfl) (ow hw 60 rfl) (by decide) (lenOf pd__28_29Ljava_2flang_2fString_3b rfl) rfl rfl rfl (W := 0) rfl (by decide) (by decide) (by decide) (by decide) (allS (om 0 rfl) all0) rfl ?_
                intro T384 h384 v384 X384 K384 hQ384
                obtain ⟨r384, rfl, f385, f386⟩ := hQ384
                show OGo _ _ _ _ T384 (mkF m 199 #[.val (.int pt), .val (.int pp), .val (.int 3), .val (.int u0), .val (.int u1), .val (.int u2), .val (.ref r246), .val (.int 3), .val (.ref b357), .val (.int 1)] [(.ref r384)])
                refine og_pop X384 200 at_199 rfl rfl ?_
                refine og_aload X384 202 at_200 rfl rfl rfl ?_
                have f387 := f380.keep K384
                have f388 := f383.keep K384 (allS (Or.inl (Nat.le_trans (Nat.le_trans (Nat.le_trans K354.1 K355.1) K356.1) G357)) all0)
                refine own_virt X384 205 (a := b357) (argsL := []) (rest := []) at_202 f387 (fun _ hZ => notFace_of_selects (args := #[]) (mvT hZ (ow hw 41 rfl))) (rm_more1 l Z n0 h384 [] a0 hw hWd X384.old b357 r246 [u0, u1, u2] (3 : Int32) f385 f386 f388.top (show ¬ (3 : Int32) < (3 : Int32) by decide) ) (ow hw 38 rfl) (ow hw 39 rfl) (ow hw 41 rfl) (ow hw 40 rfl) (ow hw 31 rfl) (ow hw 42 rfl) (by decide) (lenOf pd__28_29Z rfl) rfl rfl rfl (W := 0) rfl (by decide) (by decide) (by decide) (by decide) all0 rfl ?_
                intro T389 h389 v389 X389 K389 hQ389
                obtain rfl := hQ389
                show OGo _ _ _ _ T389 (mkF m 205 #[.val (.int pt), .val (.int pp), .val (.int 3), .val (.int u0), .val (.int u1), .val (.int u2), .val (.ref r246), .val (.int 3), .val (.ref b357), .val (.int 1)] [(.int 1)])
                refine og_iload X389 207 at_205 rfl rfl ?_
                refine og_iconst X389 208 (3 : Int32) at_207 rfl rfl ?_
                refine og_icmpN X389 211 at_208 (XT.ii_lt_f (by decide)) rfl ?_
                refine og_iconst X389 212 (1 : Int32) at_211 rfl rfl ?_
                refine og_goto X389 216 at_212 (by decide) (by decide) ?_
                refine og_icmpN X389 219 at_216 (XT.ii_ne_f (by decide)) rfl ?_
                refine og_iconst X389 220 (1 : Int32) at_219 rfl rfl ?_
                refine og_goto X389 224 at_220 (by decide) (by decide) ?_
                refine og_istore X389 226 #[.val (.int pt), .val (.int pp), .val (.int 3), .val (.int u0), .val (.int u1), .val (.int u2), .val (.ref r246), .val (.int 3), .val (.ref b357), .val (.int 1)] at_224 rfl rfl ?_
                refine og_iload X389 228 at_226 rfl rfl ?_
                refine og_ifN X389 231 at_228 (XT.i0_eq_f (by decide)) rfl ?_
                refine og_iload X389 233 at_231 rfl rfl ?_
                refine og_iconst X389 234 (3 : Int32) at_233 rfl rfl ?_
                refine og_icmpN X389 237 at_234 (XT.ii_lt_f (by decide)) rfl ?_
                refine og_aload X389 239 at_237 rfl rfl rfl ?_
                have f390 := f387.keep K389
                have f391 := f385.keep K389 nin0
                have f392 := f386.keep K389 nin0
                have f393 := f388.keep K389 all0
                refine own_virt X389 242 (a := b357) (argsL := []) (rest := []) at_239 f390 (fun _ hZ => notFace_of_selects (args := #[]) (mvT hZ (ow hw 59 rfl))) (rf_txt333 l Z n0 h389 [] a0 hw hWd X389.old b357 r246 u0 u1 u2 f390 f391 f392 f393.top (own_lS ⟨ok1.1, ok1.2⟩ (own_lS ⟨ok2.1, ok2.2⟩ (own_lS ⟨ok3.1, ok3.2⟩ own_l0))) (own_svb X389 (om 0 rfl))) (ow hw 56 rfl) (ow hw 57 rfl) (ow hw 59 rfl) (ow hw 58 rfl) (ow hw 31 rfl) (ow hw 60 rfl) (by decide) (lenOf pd__28_29Ljava_2flang_2fString_3b rfl) rfl rfl rfl (W := 0) rfl (by decide) (by decide) (by decide) (by decide) (allS (om 0 rfl) all0) rfl ?_
                intro T394 h394 v394 X394 K394 hQ394
                obtain ⟨r394, rfl, f395, f396⟩ := hQ394
                show OGo _ _ _ _ T394 (mkF m 242 #[.val (.int pt), .val (.int pp), .val (.int 3), .val (.int u0), .val (.int u1), .val (.int u2), .val (.ref r246), .val (.int 3), .val (.ref b357), .val (.int 1)] [(.ref r394)])
                refine og_pop X394 243 at_242 rfl rfl ?_
                refine og_aload X394 245 at_243 rfl rfl rfl ?_
                have f397 := f390.keep K394
                have f398 := f393.keep K394 (allS (Or.inl (Nat.le_trans (Nat.le_trans (Nat.le_trans K354.1 K355.1) K356.1) G357)) all0)
                refine own_virt X394 248 (a := b357) (argsL := []) (rest := []) at_245 f397 (fun _ hZ => notFace_of_selects (args := #[]) (mvT hZ (ow hw 41 rfl))) (rm_more0 l Z n0 h394 [] a0 hw hWd X394.old b357 r246 [u0, u1, u2] (4 : Int32) f395 f396 f398.top (show (3 : Int32) < (4 : Int32) by decide) ) (ow hw 38 rfl) (ow hw 39 rfl) (ow hw 41 rfl) (ow hw 40 rfl) (ow hw 31 rfl) (ow hw 42 rfl) (by decide) (lenOf pd__28_29Z rfl) rfl rfl rfl (W := 0) rfl (by decide) (by decide) (by decide) (by decide) all0 rfl ?_
                intro T399 h399 v399 X399 K399 hQ399
                obtain rfl := hQ399
                show OGo _ _ _ _ T399 (mkF m 248 #[.val (.int pt), .val (.int pp), .val (.int 3), .val (.int u0), .val (.int u1), .val (.int u2), .val (.ref r246), .val (.int 3), .val (.ref b357), .val (.int 1)] [(.int 0)])
                refine og_iload X399 250 at_248 rfl rfl ?_
                refine og_iconst X399 251 (4 : Int32) at_250 rfl rfl ?_
                refine og_icmpY X399 258 at_251 (XT.ii_lt_t (by decide)) (by decide) (by decide) ?_
                refine og_iconst X399 259 (0 : Int32) at_258 rfl rfl ?_
                refine og_icmpN X399 262 at_259 (XT.ii_ne_f (by decide)) rfl ?_
                refine og_iconst X399 263 (1 : Int32) at_262 rfl rfl ?_
                refine og_goto X399 267 at_263 (by decide) (by decide) ?_
                refine og_istore X399 269 #[.val (.int pt), .val (.int pp), .val (.int 3), .val (.int u0), .val (.int u1), .val (.int u2), .val (.ref r246), .val (.int 3), .val (.ref b357), .val (.int 1)] at_267 rfl rfl ?_
                refine og_iload X399 271 at_269 rfl rfl ?_
                refine og_ifN X399 274 at_271 (XT.i0_eq_f (by decide)) rfl ?_
                refine og_iload X399 276 at_274 rfl rfl ?_
                refine og_iconst X399 277 (4 : Int32) at_276 rfl rfl ?_
                refine og_icmpY X399 301 at_277 (XT.ii_lt_t (by decide)) (by decide) (by decide) ?_
                refine og_iload X399 303 at_301 rfl rfl ?_
                refine own_retZ X399 at_303 hret rfl (by decide) (by decide) ?_
                exact rfl
              · -- not
                refine og_iconst X246 80 (1 : Int32) at_79 rfl rfl ?_
                refine og_iloadN X246 81 at_80 rfl rfl ?_
                refine og_ifN X246 84 at_81 (XT.i0_le_f (by decide)) rfl ?_
                refine og_iconst X246 85 (1 : Int32) at_84 rfl rfl ?_
                refine og_goto X246 89 at_85 (by decide) (by decide) ?_
                refine og_iloadN X246 90 at_89 rfl rfl ?_
                refine own_stat X246 93 (argsL := [(.int 1), (.int u0)]) (rest := [(.int 1)]) at_90 (rm_tab1 l Z n0 h246 [] a0 hw hWd X246.old u0 hc248 ) (ow hw 26 rfl) (ow hw 27 rfl) (ow hw 2 rfl) (ow hw 28 rfl) (by decide) (lenOf pd__28ZC_29I rfl) rfl rfl rfl (W := 1) rfl (by decide) (by decide) (by decide) (by decide) all0 rfl ?_
                intro T400 h400 v400 X400 K400 hQ400
                obtain rfl := hQ400
                show OGo _ _ _ _ T400 (mkF m 93 #[.val (.int pt), .val (.int pp), .val (.int 3), .val (.int u0), .val (.int u1), .val (.int u2), .val (.ref r246), .unset, .unset, .unset] [(.int 1), (.int 1)])
                refine og_iadd X400 94 at_93 rfl ?_
                show OGo _ _ _ _ T400 (mkF m 94 #[.val (.int pt), .val (.int pp), .val (.int 3), .val (.int u0), .val (.int u1), .val (.int u2), .val (.ref r246), .unset, .unset, .unset] [(.int 2)])
                refine og_iloadN X400 95 at_94 rfl rfl ?_
                refine og_iconst X400 96 (1 : Int32) at_95 rfl rfl ?_
                refine og_icmpN X400 99 at_96 (XT.ii_le_f (by decide)) rfl ?_
                refine og_iconst X400 100 (1 : Int32) at_99 rfl rfl ?_
                refine og_goto X400 104 at_100 (by decide) (by decide) ?_
                refine og_iload X400 106 at_104 rfl rfl ?_
                refine own_stat X400 109 (argsL := [(.int 1), (.int u1)]) (rest := [(.int 2)]) at_106 (rm_tab2 l Z n0 h400 [] a0 hw hWd X400.old u1 hc249 ) (ow hw 26 rfl) (ow hw 27 rfl) (ow hw 2 rfl) (ow hw 28 rfl) (by decide) (lenOf pd__28ZC_29I rfl) rfl rfl rfl (W := 1) rfl (by decide) (by decide) (by decide) (by decide) all0 rfl ?_
                intro T401 h401 v401 X401 K401 hQ401
                obtain rfl := hQ401
                show OGo _ _ _ _ T401 (mkF m 109 #[.val (.int pt), .val (.int pp), .val (.int 3), .val (.int u0), .val (.int u1), .val (.int u2), .val (.ref r246), .unset, .unset, .unset] [(.int 0), (.int 2)])
                refine og_iadd X401 110 at_109 rfl ?_
                show OGo _ _ _ _ T401 (mkF m 110 #[.val (.int pt), .val (.int pp), .val (.int 3), .val (.int u0), .val (.int u1), .val (.int u2), .val (.ref r246), .unset, .unset, .unset] [(.int 2)])
                refine og_iloadN X401 111 at_110 rfl rfl ?_
                refine og_iconst X401 112 (2 : Int32) at_111 rfl rfl ?_
                refine og_icmpN X401 115 at_112 (XT.ii_le_f (by decide)) rfl ?_
                refine og_iconst X401 116 (1 : Int32) at_115 rfl rfl ?_
                refine og_goto X401 120 at_116 (by decide) (by decide) ?_
                refine og_iload X401 122 at_120 rfl rfl ?_
                refine own_stat X401 125 (argsL := [(.int 1), (.int u2)]) (rest := [(.int 2)]) at_122 (rm_tab2 l Z n0 h401 [] a0 hw hWd X401.old u2 hc353 ) (ow hw 26 rfl) (ow hw 27 rfl) (ow hw 2 rfl) (ow hw 28 rfl) (by decide) (lenOf pd__28ZC_29I rfl) rfl rfl rfl (W := 1) rfl (by decide) (by decide) (by decide) (by decide) all0 rfl ?_
                intro T402 h402 v402 X402 K402 hQ402
                obtain rfl := hQ402
                show OGo _ _ _ _ T402 (mkF m 125 #[.val (.int pt), .val (.int pp), .val (.int 3), .val (.int u0), .val (.int u1), .val (.int u2), .val (.ref r246), .unset, .unset, .unset] [(.int 0), (.int 2)])
                refine og_iadd X402 126 at_125 rfl ?_
                show OGo _ _ _ _ T402 (mkF m 126 #[.val (.int pt), .val (.int pp), .val (.int 3), .val (.int u0), .val (.int u1), .val (.int u2), .val (.ref r246), .unset, .unset, .unset] [(.int 2)])
                refine og_istore X402 128 #[.val (.int pt), .val (.int pp), .val (.int 3), .val (.int u0), .val (.int u1), .val (.int u2), .val (.ref r246), .val (.int 2), .unset, .unset] at_126 rfl rfl ?_
                refine own_new X402 131 at_128 (ow hw 29 rfl) (ow hw 30 rfl) (ow hw 31 rfl) (by decide) (by decide) rfl ?_
                intro T403 h403 b403 X403 K403 G403 U403 E403 D403
                have f404 : Fld Z h403 b403 "com/example/ratable/ratable/core/JournalSums$Fields" "line" "Ljava/lang/String;" .null := D403 (Or.inr (ow hw 37 rfl)) (ty := (.object "java/lang/String")) (by decide)
                have f405 : Fld Z h403 b403 "com/example/ratable/ratable/core/JournalSums$Fields" "next" "I" (.int 0) := D403 (Or.inl (ow hw 44 rfl)) (ty := .int) (by decide)
                refine og_dup X403 132 at_131 rfl rfl ?_
                refine og_aload X403 134 at_132 rfl rfl rfl ?_
                refine own_spec X403 137 (a := b403) (argsL := [(.ref r246)]) (rest := [(.ref b403)]) at_134 rfl (rm6 l Z n0 h403 [] a0 hw hWd X403.old b403 r246 E403 f404 f405 (own_svb X403 (om 0 rfl))) (ow hw 32 rfl) (ow hw 33 rfl) (ow hw 31 rfl) (ow hw 34 rfl) (by decide) (lenOf pd__28Ljava_2flang_2fString_3b_29V rfl) rfl rfl rfl (W := 1) rfl (by decide) (by decide) (by decide) (by decide) (allS (om 0 rfl) all0) rfl ?_
                intro T406 h406 v406 X406 K406 hQ406
                obtain ⟨rfl, f407, f408⟩ := hQ406
                show OGo _ _ _ _ T406 (mkF m 137 #[.val (.int pt), .val (.int pp), .val (.int 3), .val (.int u0), .val (.int u1), .val (.int u2), .val (.ref r246), .val (.int 2), .unset, .unset] [(.ref b403)])
                refine og_astore X406 139 #[.val (.int pt), .val (.int pp), .val (.int 3), .val (.int u0), .val (.int u1), .val (.int u2), .val (.ref r246), .val (.int 2), .val (.ref b403), .unset] at_137 rfl rfl rfl ?_
                refine og_aload X406 141 at_139 rfl rfl rfl ?_
                have f409 := E403.keep K406
                have f410 := f247.keep K400 all0
                have f411 := f410.keep K401 all0
                have f412 := f411.keep K402 all0
                have f413 := f412.keep K403 all0
                have f414 := f413.keep K406 (allS (Or.inl (Nat.le_trans (Nat.le_trans (Nat.le_trans K400.1 K401.1) K402.1) G403)) all0)
                refine own_virt X406 144 (a := b403) (argsL := []) (rest := []) at_141 f409 (fun _ hZ => notFace_of_selects (args := #[]) (mvT hZ (ow hw 41 rfl))) (rm_more1 l Z n0 h406 [] a0 hw hWd X406.old b403 r246 [u0, u1, u2] (0 : Int32) f407 f408 f414.top (show ¬ (3 : Int32) < (0 : Int32) by decide) ) (ow hw 38 rfl) (ow hw 39 rfl) (ow hw 41 rfl) (ow hw 40 rfl) (ow hw 31 rfl) (ow hw 42 rfl) (by decide) (lenOf pd__28_29Z rfl) rfl rfl rfl (W := 0) rfl (by decide) (by decide) (by decide) (by decide) all0 rfl ?_
                intro T415 h415 v415 X415 K415 hQ415
                obtain rfl := hQ415
                show OGo _ _ _ _ T415 (mkF m 144 #[.val (.int pt), .val (.int pp), .val (.int 3), .val (.int u0), .val (.int u1), .val (.int u2), .val (.ref r246), .val (.int 2), .val (.ref b403), .unset] [(.int 1)])
                refine og_istore X415 146 #[.val (.int pt), .val (.int pp), .val (.int 3), .val (.int u0), .val (.int u1), .val (.int u2), .val (.ref r246), .val (.int 2), .val (.ref b403), .val (.int 1)] at_144 rfl rfl ?_
                refine og_iload X415 148 at_146 rfl rfl ?_
                refine og_ifN X415 151 at_148 (XT.i0_eq_f (by decide)) rfl ?_
                refine og_aload X415 153 at_151 rfl rfl rfl ?_
                have f416 := f409.keep K415
                have f417 := f407.keep K415 nin0
                have f418 := f408.keep K415 nin0
                have f419 := f414.keep K415 all0
                refine own_virt X415 156 (a := b403) (argsL := []) (rest := []) at_153 f416 (fun _ hZ => notFace_of_selects (args := #[]) (mvT hZ (ow hw 59 rfl))) (rf_txt300 l Z n0 h415 [] a0 hw hWd X415.old b403 r246 u0 u1 u2 f416 f417 f418 f419.top (own_lS ⟨ok1.1, ok1.2⟩ (own_lS ⟨ok2.1, ok2.2⟩ (own_lS ⟨ok3.1, ok3.2⟩ own_l0))) hc248 (own_svb X415 (om 0 rfl))) (ow hw 56 rfl) (ow hw 57 rfl) (ow hw 59 rfl) (ow hw 58 rfl) (ow hw 31 rfl) (ow hw 60 rfl) (by decide) (lenOf pd__28_29Ljava_2flang_2fString_3b rfl) rfl rfl rfl (W := 0) rfl (by decide) (by decide) (by decide) (by decide) (allS (om 0 rfl) all0) rfl ?_
                intro T420 h420 v420 X420 K420 hQ420
                obtain ⟨r420, rfl, f421, f422⟩ := hQ420
                show OGo _ _ _ _ T420 (mkF m 156 #[.val (.int pt), .val (.int pp), .val (.int 3), .val (.int u0), .val (.int u1), .val (.int u2), .val (.ref r246), .val (.int 2), .val (.ref b403), .val (.int 1)] [(.ref r420)])
                refine og_pop X420 157 at_156 rfl rfl ?_
                refine og_aload X420 159 at_157 rfl rfl rfl ?_
                have f423 := f416.keep K420
                have f424 := f419.keep K420 (allS (Or.inl (Nat.le_trans (Nat.le_trans (Nat.le_trans K400.1 K401.1) K402.1) G403)) all0)
                refine own_virt X420 162 (a := b403) (argsL := []) (rest := []) at_159 f423 (fun _ hZ => notFace_of_selects (args := #[]) (mvT hZ (ow hw 41 rfl))) (rm_more1 l Z n0 h420 [] a0 hw hWd X420.old b403 r246 [u0, u1, u2] (1 : Int32) f421 f422 f424.top (show ¬ (3 : Int32) < (1 : Int32) by decide) ) (ow hw 38 rfl) (ow hw 39 rfl) (ow hw 41 rfl) (ow hw 40 rfl) (ow hw 31 rfl) (ow hw 42 rfl) (by decide) (lenOf pd__28_29Z rfl) rfl rfl rfl (W := 0) rfl (by decide) (by decide) (by decide) (by decide) all0 rfl ?_
                intro T425 h425 v425 X425 K425 hQ425
                obtain rfl := hQ425
                show OGo _ _ _ _ T425 (mkF m 162 #[.val (.int pt), .val (.int pp), .val (.int 3), .val (.int u0), .val (.int u1), .val (.int u2), .val (.ref r246), .val (.int 2), .val (.ref b403), .val (.int 1)] [(.int 1)])
                refine og_iload X425 164 at_162 rfl rfl ?_
                refine og_iconst X425 165 (2 : Int32) at_164 rfl rfl ?_
                refine og_icmpN X425 168 at_165 (XT.ii_lt_f (by decide)) rfl ?_
                refine og_iconst X425 169 (1 : Int32) at_168 rfl rfl ?_
                refine og_goto X425 173 at_169 (by decide) (by decide) ?_
                refine og_icmpN X425 176 at_173 (XT.ii_ne_f (by decide)) rfl ?_
                refine og_iconst X425 177 (1 : Int32) at_176 rfl rfl ?_
                refine og_goto X425 181 at_177 (by decide) (by decide) ?_
                refine og_istore X425 183 #[.val (.int pt), .val (.int pp), .val (.int 3), .val (.int u0), .val (.int u1), .val (.int u2), .val (.ref r246), .val (.int 2), .val (.ref b403), .val (.int 1)] at_181 rfl rfl ?_
                refine og_iload X425 185 at_183 rfl rfl ?_
                refine og_ifN X425 188 at_185 (XT.i0_eq_f (by decide)) rfl ?_
                refine og_iload X425 190 at_188 rfl rfl ?_
                refine og_iconst X425 191 (2 : Int32) at_190 rfl rfl ?_
                refine og_icmpN X425 194 at_191 (XT.ii_lt_f (by decide)) rfl ?_
                refine og_aload X425 196 at_194 rfl rfl rfl ?_
                have f426 := f423.keep K425
                have f427 := f421.keep K425 nin0
                have f428 := f422.keep K425 nin0
                have f429 := f424.keep K425 all0
                refine own_virt X425 199 (a := b403) (argsL := []) (rest := []) at_196 f426 (fun _ hZ => notFace_of_selects (args := #[]) (mvT hZ (ow hw 59 rfl))) (rf_txt313 l Z n0 h425 [] a0 hw hWd X425.old b403 r246 u0 u1 u2 f426 f427 f428 f429.top (own_lS ⟨ok1.1, ok1.2⟩ (own_lS ⟨ok2.1, ok2.2⟩ (own_lS ⟨ok3.1, ok3.2⟩ own_l0))) hc249 hc353 (own_svb X425 (om 0 rfl))) (ow hw 56 rfl) (ow hw 57 rfl) (ow hw 59 rfl) (ow hw 58 rfl) (ow hw 31 rfl) (ow hw 60 rfl) (by decide) (lenOf pd__28_29Ljava_2flang_2fString_3b rfl) rfl rfl rfl (W := 0) rfl (by decide) (by decide) (by decide) (by decide) (allS (om 0 rfl) all0) rfl ?_
                intro T430 h430 v430 X430 K430 hQ430
                obtain ⟨r430, rfl, f431, f432⟩ := hQ430
                show OGo _ _ _ _ T430 (mkF m 199 #[.val (.int pt), .val (.int pp), .val (.int 3), .val (.int u0), .val (.int u1), .val (.int u2), .val (.ref r246), .val (.int 2), .val (.ref b403), .val (.int 1)] [(.ref r430)])
                refine og_pop X430 200 at_199 rfl rfl ?_
                refine og_aload X430 202 at_200 rfl rfl rfl ?_
                have f433 := f426.keep K430
                have f434 := f429.keep K430 (allS (Or.inl (Nat.le_trans (Nat.le_trans (Nat.le_trans K400.1 K401.1) K402.1) G403)) all0)
                refine own_virt X430 205 (a := b403) (argsL := []) (rest := []) at_202 f433 (fun _ hZ => notFace_of_selects (args := #[]) (mvT hZ (ow hw 41 rfl))) (rm_more0 l Z n0 h430 [] a0 hw hWd X430.old b403 r246 [u0, u1, u2] (4 : Int32) f431 f432 f434.top (show (3 : Int32) < (4 : Int32) by decide) ) (ow hw 38 rfl) (ow hw 39 rfl) (ow hw 41 rfl) (ow hw 40 rfl) (ow hw 31 rfl) (ow hw 42 rfl) (by decide) (lenOf pd__28_29Z rfl) rfl rfl rfl (W := 0) rfl (by decide) (by decide) (by decide) (by decide) all0 rfl ?_
                intro T435 h435 v435 X435 K435 hQ435
                obtain rfl := hQ435
                show OGo _ _ _ _ T435 (mkF m 205 #[.val (.int pt), .val (.int pp), .val (.int 3), .val (.int u0), .val (.int u1), .val (.int u2), .val (.ref r246), .val (.int 2), .val (.ref b403), .val (.int 1)] [(.int 0)])
                refine og_iload X435 207 at_205 rfl rfl ?_
                refine og_iconst X435 208 (3 : Int32) at_207 rfl rfl ?_
                refine og_icmpY X435 215 at_208 (XT.ii_lt_t (by decide)) (by decide) (by decide) ?_
                refine og_iconst X435 216 (0 : Int32) at_215 rfl rfl ?_
                refine og_icmpN X435 219 at_216 (XT.ii_ne_f (by decide)) rfl ?_
                refine og_iconst X435 220 (1 : Int32) at_219 rfl rfl ?_
                refine og_goto X435 224 at_220 (by decide) (by decide) ?_
                refine og_istore X435 226 #[.val (.int pt), .val (.int pp), .val (.int 3), .val (.int u0), .val (.int u1), .val (.int u2), .val (.ref r246), .val (.int 2), .val (.ref b403), .val (.int 1)] at_224 rfl rfl ?_
                refine og_iload X435 228 at_226 rfl rfl ?_
                refine og_ifN X435 231 at_228 (XT.i0_eq_f (by decide)) rfl ?_
                refine og_iload X435 233 at_231 rfl rfl ?_
                refine og_iconst X435 234 (3 : Int32) at_233 rfl rfl ?_
                refine og_icmpY X435 269 at_234 (XT.ii_lt_t (by decide)) (by decide) (by decide) ?_
                refine og_iload X435 271 at_269 rfl rfl ?_
                refine og_ifN X435 274 at_271 (XT.i0_eq_f (by decide)) rfl ?_
                refine og_iload X435 276 at_274 rfl rfl ?_
                refine og_iconst X435 277 (4 : Int32) at_276 rfl rfl ?_
                refine og_icmpY X435 301 at_277 (XT.ii_lt_t (by decide)) (by decide) (by decide) ?_
                refine og_iload X435 303 at_301 rfl rfl ?_
                refine own_retZ X435 at_303 hret rfl (by decide) (by decide) ?_
                exact rfl
          · -- not
            by_cases hc436 : u1 = (9 : Int32)
            · -- u1 = (9 : Int32)
              by_cases hc437 : u2 = (9 : Int32)
              · -- u2 = (9 : Int32)
                refine og_iconst X246 80 (1 : Int32) at_79 rfl rfl ?_
                refine og_iloadN X246 81 at_80 rfl rfl ?_
                refine og_ifN X246 84 at_81 (XT.i0_le_f (by decide)) rfl ?_
                refine og_iconst X246 85 (1 : Int32) at_84 rfl rfl ?_
                refine og_goto X246 89 at_85 (by decide) (by decide) ?_
                refine og_iloadN X246 90 at_89 rfl rfl ?_
                refine own_stat X246 93 (argsL := [(.int 1), (.int u0)]) (rest := [(.int 1)]) at_90 (rm_tab2 l Z n0 h246 [] a0 hw hWd X246.old u0 hc248 ) (ow hw 26 rfl) (ow hw 27 rfl) (ow hw 2 rfl) (ow hw 28 rfl) (by decide) (lenOf pd__28ZC_29I rfl) rfl rfl rfl (W := 1) rfl (by decide) (by decide) (by decide) (by decide) all0 rfl ?_
                intro T438 h438 v438 X438 K438 hQ438
                obtain rfl := hQ438
                show OGo _ _ _ _ T438 (mkF m 93 #[.val (.int pt), .val (.int pp), .val (.int 3), .val (.int u0), .val (.int u1), .val (.int u2), .val (.ref r246), .unset, .unset, .unset] [(.int 0), (.int 1)])
                refine og_iadd X438 94 at_93 rfl ?_
                show OGo _ _ _ _ T438 (mkF m 94 #[.val (.int pt), .val (.int pp), .val (.int 3), .val (.int u0), .val (.int u1), .val (.int u2), .val (.ref r246), .unset, .unset, .unset] [(.int 1)])
                refine og_iloadN X438 95 at_94 rfl rfl ?_
                refine og_iconst X438 96 (1 : Int32) at_95 rfl rfl ?_
                refine og_icmpN X438 99 at_96 (XT.ii_le_f (by decide)) rfl ?_
                refine og_iconst X438 100 (1 : Int32) at_99 rfl rfl ?_
                refine og_goto X438 104 at_100 (by decide) (by decide) ?_
                refine og_iload X438 106 at_104 rfl rfl ?_
                refine own_stat X438 109 (argsL := [(.int 1), (.int u1)]) (rest := [(.int 1)]) at_106 (rm_tab1 l Z n0 h438 [] a0 hw hWd X438.old u1 hc436 ) (ow hw 26 rfl) (ow hw 27 rfl) (ow hw 2 rfl) (ow hw 28 rfl) (by decide) (lenOf pd__28ZC_29I rfl) rfl rfl rfl (W := 1) rfl (by decide) (by decide) (by decide) (by decide) all0 rfl ?_
                intro T439 h439 v439 X439 K439 hQ439
                obtain rfl := hQ439
                show OGo _ _ _ _ T439 (mkF m 109 #[.val (.int pt), .val (.int pp), .val (.int 3), .val (.int u0), .val (.int u1), .val (.int u2), .val (.ref r246), .unset, .unset, .unset] [(.int 1), (.int 1)])
                refine og_iadd X439 110 at_109 rfl ?_
                show OGo _ _ _ _ T439 (mkF m 110 #[.val (.int pt), .val (.int pp), .val (.int 3), .val (.int u0), .val (.int u1), .val (.int u2), .val (.ref r246), .unset, .unset, .unset] [(.int 2)])
                refine og_iloadN X439 111 at_110 rfl rfl ?_
                refine og_iconst X439 112 (2 : Int32) at_111 rfl rfl ?_
                refine og_icmpN X439 115 at_112 (XT.ii_le_f (by decide)) rfl ?_
                refine og_iconst X439 116 (1 : Int32) at_115 rfl rfl ?_
                refine og_goto X439 120 at_116 (by decide) (by decide) ?_
                refine og_iload X439 122 at_120 rfl rfl ?_
                refine own_stat X439 125 (argsL := [(.int 1), (.int u2)]) (rest := [(.int 2)]) at_122 (rm_tab1 l Z n0 h439 [] a0 hw hWd X439.old u2 hc437 ) (ow hw 26 rfl) (ow hw 27 rfl) (ow hw 2 rfl) (ow hw 28 rfl) (by decide) (lenOf pd__28ZC_29I rfl) rfl rfl rfl (W := 1) rfl (by decide) (by decide) (by decide) (by decide) all0 rfl ?_
                intro T440 h440 v440 X440 K440 hQ440
                obtain rfl := hQ440
                show OGo _ _ _ _ T440 (mkF m 125 #[.val (.int pt), .val (.int pp), .val (.int 3), .val (.int u0), .val (.int u1), .val (.int u2), .val (.ref r246), .unset, .unset, .unset] [(.int 1), (.int 2)])
                refine og_iadd X440 126 at_125 rfl ?_
                show OGo _ _ _ _ T440 (mkF m 126 #[.val (.int pt), .val (.int pp), .val (.int 3), .val (.int u0), .val (.int u1), .val (.int u2), .val (.ref r246), .unset, .unset, .unset] [(.int 3)])
                refine og_istore X440 128 #[.val (.int pt), .val (.int pp), .val (.int 3), .val (.int u0), .val (.int u1), .val (.int u2), .val (.ref r246), .val (.int 3), .unset, .unset] at_126 rfl rfl ?_
                refine own_new X440 131 at_128 (ow hw 29 rfl) (ow hw 30 rfl) (ow hw 31 rfl) (by decide) (by decide) rfl ?_
                intro T441 h441 b441 X441 K441 G441 U441 E441 D441
                have f442 : Fld Z h441 b441 "com/example/ratable/ratable/core/JournalSums$Fields" "line" "Ljava/lang/String;" .null := D441 (Or.inr (ow hw 37 rfl)) (ty := (.object "java/lang/String")) (by decide)
                have f443 : Fld Z h441 b441 "com/example/ratable/ratable/core/JournalSums$Fields" "next" "I" (.int 0) := D441 (Or.inl (ow hw 44 rfl)) (ty := .int) (by decide)
                refine og_dup X441 132 at_131 rfl rfl ?_
                refine og_aload X441 134 at_132 rfl rfl rfl ?_
                refine own_spec X441 137 (a := b441) (argsL := [(.ref r246)]) (rest := [(.ref b441)]) at_134 rfl (rm6 l Z n0 h441 [] a0 hw hWd X441.old b441 r246 E441 f442 f443 (own_svb X441 (om 0 rfl))) (ow hw 32 rfl) (ow hw 33 rfl) (ow hw 31 rfl) (ow hw 34 rfl) (by decide) (lenOf pd__28Ljava_2flang_2fString_3b_29V rfl) rfl rfl rfl (W := 1) rfl (by decide) (by decide) (by decide) (by decide) (allS (om 0 rfl) all0) rfl ?_
                intro T444 h444 v444 X444 K444 hQ444
                obtain ⟨rfl, f445, f446⟩ := hQ444
                show OGo _ _ _ _ T444 (mkF m 137 #[.val (.int pt), .val (.int pp), .val (.int 3), .val (.int u0), .val (.int u1), .val (.int u2), .val (.ref r246), .val (.int 3), .unset, .unset] [(.ref b441)])
                refine og_astore X444 139 #[.val (.int pt), .val (.int pp), .val (.int 3), .val (.int u0), .val (.int u1), .val (.int u2), .val (.ref r246), .val (.int 3), .val (.ref b441), .unset] at_137 rfl rfl rfl ?_
                refine og_aload X444 141 at_139 rfl rfl rfl ?_
                have f447 := E441.keep K444
                have f448 := f247.keep K438 all0
                have f449 := f448.keep K439 all0
                have f450 := f449.keep K440 all0
                have f451 := f450.keep K441 all0
                have f452 := f451.keep K444 (allS (Or.inl (Nat.le_trans (Nat.le_trans (Nat.le_trans K438.1 K439.1) K440.1) G441)) all0)
                refine own_virt X444 144 (a := b441) (argsL := []) (rest := []) at_141 f447 (fun _ hZ => notFace_of_selects (args := #[]) (mvT hZ (ow hw 41 rfl))) (rm_more1 l Z n0 h444 [] a0 hw hWd X444.old b441 r246 [u0, u1, u2] (0 : Int32) f445 f446 f452.top (show ¬ (3 : Int32) < (0 : Int32) by decide) ) (ow hw 38 rfl) (ow hw 39 rfl) (ow hw 41 rfl) (ow hw 40 rfl) (ow hw 31 rfl) (ow hw 42 rfl) (by decide) (lenOf pd__28_29Z rfl) rfl rfl rfl (W := 0) rfl (by decide) (by decide) (by decide) (by decide) all0 rfl ?_
                intro T453 h453 v453 X453 K453 hQ453
                obtain rfl := hQ453
                show OGo _ _ _ _ T453 (mkF m 144 #[.val (.int pt), .val (.int pp), .val (.int 3), .val (.int u0), .val (.int u1), .val (.int u2), .val (.ref r246), .val (.int 3), .val (.ref b441), .unset] [(.int 1)])
                refine og_istore X453 146 #[.val (.int pt), .val (.int pp), .val (.int 3), .val (.int u0), .val (.int u1), .val (.int u2), .val (.ref r246), .val (.int 3), .val (.ref b441), .val (.int 1)] at_144 rfl rfl ?_
                refine og_iload X453 148 at_146 rfl rfl ?_
                refine og_ifN X453 151 at_148 (XT.i0_eq_f (by decide)) rfl ?_
                refine og_aload X453 153 at_151 rfl rfl rfl ?_
                have f454 := f447.keep K453
                have f455 := f445.keep K453 nin0
                have f456 := f446.keep K453 nin0
                have f457 := f452.keep K453 all0
                refine own_virt X453 156 (a := b441) (argsL := []) (rest := []) at_153 f454 (fun _ hZ => notFace_of_selects (args := #[]) (mvT hZ (ow hw 59 rfl))) (rf_txt301 l Z n0 h453 [] a0 hw hWd X453.old b441 r246 u0 u1 u2 f454 f455 f456 f457.top (own_lS ⟨ok1.1, ok1.2⟩ (own_lS ⟨ok2.1, ok2.2⟩ (own_lS ⟨ok3.1, ok3.2⟩ own_l0))) hc248 hc436 (own_svb X453 (om 0 rfl))) (ow hw 56 rfl) (ow hw 57 rfl) (ow hw 59 rfl) (ow hw 58 rfl) (ow hw 31 rfl) (ow hw 60 rfl) (by decide) (lenOf pd__28_29Ljava_2flang_2fString_3b rfl) rfl rfl rfl (W := 0) rfl (by decide) (by decide) (by decide) (by decide) (allS (om 0 rfl) all0) rfl ?_
                intro T458 h458 v458 X458 K458 hQ458
                obtain ⟨r458, rfl, f459, f460⟩ := hQ458
                show OGo _ _ _ _ T458 (mkF m 156 #[.val (.int pt), .val (.int pp), .val (.int 3), .val (.int u0), .val (.int u1), .val (.int u2), .val (.ref r246), .val (.int 3), .val (.ref b441), .val (.int 1)] [(.ref r458)])
                refine og_pop X458 157 at_156 rfl rfl ?_
                refine og_aload X458 159 at_157 rfl rfl rfl ?_
                have f461 := f454.keep K458
                have f462 := f457.keep K458 (allS (Or.inl (Nat.le_trans (Nat.le_trans (Nat.le_trans K438.1 K439.1) K440.1) G441)) all0)
                refine own_virt X458 162 (a := b441) (argsL := []) (rest := []) at_159 f461 (fun _ hZ => notFace_of_selects (args := #[]) (mvT hZ (ow hw 41 rfl))) (rm_more1 l Z n0 h458 [] a0 hw hWd X458.old b441 r246 [u0, u1, u2] (2 : Int32) f459 f460 f462.top (show ¬ (3 : Int32) < (2 : Int32) by decide) ) (ow hw 38 rfl) (ow hw 39 rfl) (ow hw 41 rfl) (ow hw 40 rfl) (ow hw 31 rfl) (ow hw 42 rfl) (by decide) (lenOf pd__28_29Z rfl) rfl rfl rfl (W := 0) rfl (by decide) (by decide) (by decide) (by decide) all0 rfl ?_
                intro T463 h463 v463 X463 K463 hQ463
                obtain rfl := hQ463
                show OGo _ _ _ _ T463 (mkF m 162 #[.val (.int pt), .val (.int pp), .val (.int 3), .val (.int u0), .val (.int u1), .val (.int u2), .val (.ref r246), .val (.int 3), .val (.ref b441), .val (.int 1)] [(.int 1)])
                refine og_iload X463 164 at_162 rfl rfl ?_
                refine og_iconst X463 165 (2 : Int32) at_164 rfl rfl ?_
                refine og_icmpN X463 168 at_165 (XT.ii_lt_f (by decide)) rfl ?_
                refine og_iconst X463 169 (1 : Int32) at_168 rfl rfl ?_
                refine og_goto X463 173 at_169 (by decide) (by decide) ?_
                refine og_icmpN X463 176 at_173 (XT.ii_ne_f (by decide)) rfl ?_
                refine og_iconst X463 177 (1 : Int32) at_176 rfl rfl ?_
                refine og_goto X463 181 at_177 (by decide) (by decide) ?_
                refine og_istore X463 183 #[.val (.int pt), .val (.int pp), .val (.int 3), .val (.int u0), .val (.int u1), .val (.int u2), .val (.ref r246), .val (.int 3), .val (.ref b441), .val (.int 1)] at_181 rfl rfl ?_
                refine og_iload X463 185 at_183 rfl rfl ?_
                refine og_ifN X463 188 at_185 (XT.i0_eq_f (by decide)) rfl ?_
                refine og_iload X463 190 at_188 rfl rfl ?_
                refine og_iconst X463 191 (2 : Int32) at_190 rfl rfl ?_
                refine og_icmpN X463 194 at_191 (XT.ii_lt_f (by decide)) rfl ?_
                refine og_aload X463 196 at_194 rfl rfl rfl ?_
                have f464 := f461.keep K463
                have f465 := f459.keep K463 nin0
                have f466 := f460.keep K463 nin0
                have f467 := f462.keep K463 all0
                refine own_virt X463 199 (a := b441) (argsL := []) (rest := []) at_196 f464 (fun _ hZ => notFace_of_selects (args := #[]) (mvT hZ (ow hw 59 rfl))) (rf_txt322 l Z n0 h463 [] a0 hw hWd X463.old b441 r246 u0 u1 u2 f464 f465 f466 f467.top (own_lS ⟨ok1.1, ok1.2⟩ (own_lS ⟨ok2.1, ok2.2⟩ (own_lS ⟨ok3.1, ok3.2⟩ own_l0))) hc437 (own_svb X463 (om 0 rfl))) (ow hw 56 rfl) (ow hw 57 rfl) (ow hw 59 rfl) (ow hw 58 rfl) (ow hw 31 rfl) (ow hw 60 rfl) (by decide) (lenOf pd__28_29Ljava_2flang_2fString_3b rfl) rfl rfl rfl (W := 0) rfl (by decide) (by decide) (by decide) (by decide) (allS (om 0 rfl) all0) rfl ?_
                intro T468 h468 v468 X468 K468 hQ468
                obtain ⟨r468, rfl, f469, f470⟩ := hQ468
                show OGo _ _ _ _ T468 (mkF m 199 #[.val (.int pt), .val (.int pp), .val (.int 3), .val (.int u0), .val (.int u1), .val (.int u2), .val (.ref r246), .val (.int 3), .val (.ref b441), .val (.int 1)] [(.ref r468)])
                refine og_pop X468 200 at_199 rfl rfl ?_
                refine og_aload X468 202 at_200 rfl rfl rfl ?_
                have f471 := f464.keep K468
                have f472 := f467.keep K468 (allS (Or.inl (Nat.le_trans (Nat.le_trans (Nat.le_trans K438.1 K439.1) K440.1) G441)) all0)
                refine own_virt X468 205 (a := b441) (argsL := []) (rest := []) at_202 f471 (fun _ hZ => notFace_of_selects (args := #[]) (mvT hZ (ow hw 41 rfl))) (rm_more1 l Z n0 h468 [] a0 hw hWd X468.old b441 r246 [u0, u1, u2] (3 : Int32) f469 f470 f472.top (show ¬ (3 : Int32) < (3 : Int32) by decide) ) (ow hw 38 rfl) (ow hw 39 rfl) (ow hw 41 rfl) (ow hw 40 rfl) (ow hw 31 rfl) (ow hw 42 rfl) (by decide) (lenOf pd__28_29Z rfl) rfl rfl rfl (W := 0) rfl (by decide) (by decide) (by decide) (by decide) all0 rfl ?_
                intro T473 h473 v473 X473 K473 hQ473
                obtain rfl := hQ473
                show OGo _ _ _ _ T473 (mkF m 205 #[.val (.int pt), .val (.int pp), .val (.int 3), .val (.int u0), .val (.int u1), .val (.int u2), .val (.ref r246), .val (.int 3), .val (.ref b441), .val (.int 1)] [(.int 1)])
                refine og_iload X473 207 at_205 rfl rfl ?_
                refine og_iconst X473 208 (3 : Int32) at_207 rfl rfl ?_
                refine og_icmpN X473 211 at_208 (XT.ii_lt_f (by decide)) rfl ?_
                refine og_iconst X473 212 (1 : Int32) at_211 rfl rfl ?_
                refine og_goto X473 216 at_212 (by decide) (by decide) ?_
                refine og_icmpN X473 219 at_216 (XT.ii_ne_f (by decide)) rfl ?_
                refine og_iconst X473 220 (1 : Int32) at_219 rfl rfl ?_
                refine og_goto X473 224 at_220 (by decide) (by decide) ?_
                refine og_istore X473 226 #[.val (.int pt), .val (.int pp), .val (.int 3), .val (.int u0), .val (.int u1), .val (.int u2), .val (.ref r246), .val (.int 3), .val (.ref b441), .val (.int 1)] at_224 rfl rfl ?_
                refine og_iload X473 228 at_226 rfl rfl ?_
                refine og_ifN X473 231 at_228 (XT.i0_eq_f (by decide)) rfl ?_
                refine og_iload X473 233 at_231 rfl rfl ?_
                refine og_iconst X473 234 (3 : Int32) at_233 rfl rfl ?_
                refine og_icmpN X473 237 at_234 (XT.ii_lt_f (by decide)) rfl ?_
                refine og_aload X473 239 at_237 rfl rfl rfl ?_
                have f474 := f471.keep K473
                have f475 := f469.keep K473 nin0
                have f476 := f470.keep K473 nin0
                have f477 := f472.keep K473 all0
                refine own_virt X473 242 (a := b441) (argsL := []) (rest := []) at_239 f474 (fun _ hZ => notFace_of_selects (args := #[]) (mvT hZ (ow hw 59 rfl))) (rf_txt333 l Z n0 h473 [] a0 hw hWd X473.old b441 r246 u0 u1 u2 f474 f475 f476 f477.top (own_lS ⟨ok1.1, ok1.2⟩ (own_lS ⟨ok2.1, ok2.2⟩ (own_lS ⟨ok3.1, ok3.2⟩ own_l0))) (own_svb X473 (om 0 rfl))) (ow hw 56 rfl) (ow hw 57 rfl) (ow hw 59 rfl) (ow hw 58 rfl) (ow hw 31 rfl) (ow hw 60 rfl) (by decide) (lenOf pd__28_29Ljava_2flang_2fString_3b rfl) rfl rfl rfl (W := 0) rfl (by decide) (by decide) (by decide) (by decide) (allS (om 0 rfl) all0) rfl ?_
                intro T478 h478 v478 X478 K478 hQ478
                obtain ⟨r478, rfl, f479, f480⟩ := hQ478
                show OGo _ _ _ _ T478 (mkF m 242 #[.val (.int pt), .val (.int pp), .val (.int 3), .val (.int u0), .val (.int u1), .val (.int u2), .val (.ref r246), .val (.int 3), .val (.ref b441), .val (.int 1)] [(.ref r478)])
                refine og_pop X478 243 at_242 rfl rfl ?_
                refine og_aload X478 245 at_243 rfl rfl rfl ?_
                have f481 := f474.keep K478
                have f482 := f477.keep K478 (allS (Or.inl (Nat.le_trans (Nat.le_trans (Nat.le_trans K438.1 K439.1) K440.1) G441)) all0)
                refine own_virt X478 248 (a := b441) (argsL := []) (rest := []) at_245 f481 (fun _ hZ => notFace_of_selects (args := #[]) (mvT hZ (ow hw 41 rfl))) (rm_more0 l Z n0 h478 [] a0 hw hWd X478.old b441 r246 [u0, u1, u2] (4 : Int32) f479 f480 f482.top (show (3 : Int32) < (4 : Int32) by decide) ) (ow hw 38 rfl) (ow hw 39 rfl) (ow hw 41 rfl) (ow hw 40 rfl) (ow hw 31 rfl) (ow hw 42 rfl) (by decide) (lenOf pd__28_29Z rfl) rfl rfl rfl (W := 0) rfl (by decide) (by decide) (by decide) (by decide) all0 rfl ?_
                intro T483 h483 v483 X483 K483 hQ483
                obtain rfl := hQ483
                show OGo _ _ _ _ T483 (mkF m 248 #[.val (.int pt), .val (.int pp), .val (.int 3), .val (.int u0), .val (.int u1), .val (.int u2), .val (.ref r246), .val (.int 3), .val (.ref b441), .val (.int 1)] [(.int 0)])
                refine og_iload X483 250 at_248 rfl rfl ?_
                refine og_iconst X483 251 (4 : Int32) at_250 rfl rfl ?_
                refine og_icmpY X483 258 at_251 (XT.ii_lt_t (by decide)) (by decide) (by decide) ?_
                refine og_iconst X483 259 (0 : Int32) at_258 rfl rfl ?_
                refine og_icmpN X483 262 at_259 (XT.ii_ne_f (by decide)) rfl ?_
                refine og_iconst X483 263 (1 : Int32) at_262 rfl rfl ?_
                refine og_goto X483 267 at_263 (by decide) (by decide) ?_
                refine og_istore X483 269 #[.val (.int pt), .val (.int pp), .val (.int 3), .val (.int u0), .val (.int u1), .val (.int u2), .val (.ref r246), .val (.int 3), .val (.ref b441), .val (.int 1)] at_267 rfl rfl ?_
                refine og_iload X483 271 at_269 rfl rfl ?_
                refine og_ifN X483 274 at_271 (XT.i0_eq_f (by decide)) rfl ?_
                refine og_iload X483 276 at_274 rfl rfl ?_
                refine og_iconst X483 277 (4 : Int32) at_276 rfl rfl ?_
                refine og_icmpY X483 301 at_277 (XT.ii_lt_t (by decide)) (by decide) (by decide) ?_
                refine og_iload X483 303 at_301 rfl rfl ?_
                refine own_retZ X483 at_303 hret rfl (by decide) (by decide) ?_
                exact rfl
              · -- not
                refine og_iconst X246 80 (1 : Int32) at_79 rfl rfl ?_
                refine og_iloadN X246 81 at_80 rfl rfl ?_
                refine og_ifN X246 84 at_81 (XT.i0_le_f (by decide)) rfl ?_
                refine og_iconst X246 85 (1 : Int32) at_84 rfl rfl ?_
                refine og_goto X246 89 at_85 (by decide) (by decide) ?_
                refine og_iloadN X246 90 at_89 rfl rfl ?_
                refine own_stat X246 93 (argsL := [(.int 1), (.int u0)]) (rest := [(.int 1)]) at_90 (rm_tab2 l Z n0 h246 [] a0 hw hWd X246.old u0 hc248 ) (ow hw 26 rfl) (ow hw 27 rfl) (ow hw 2 rfl) (ow hw 28 rfl) (by decide) (lenOf pd__28ZC_29I rfl) rfl rfl rfl (W := 1) rfl (by decide) (by decide) (by decide) (by decide) all0 rfl ?_
                intro T484 h484 v484 X484 K484 hQ484
                obtain rfl := hQ484
                show OGo _ _ _ _ T484 (mkF m 93 #[.val (.int pt), .val (.int pp), .val (.int 3), .val (.int u0), .val (.int u1), .val (.int u2), .val (.ref r246), .unset, .unset, .unset] [(.int 0), (.int 1)])
                refine og_iadd X484 94 at_93 rfl ?_
                show OGo _ _ _ _ T484 (mkF m 94 #[.val (.int pt), .val (.int pp), .val (.int 3), .val (.int u0), .val (.int u1), .val (.int u2), .val (.ref r246), .unset, .unset, .unset] [(.int 1)])
                refine og_iloadN X484 95 at_94 rfl rfl ?_
                refine og_iconst X484 96 (1 : Int32) at_95 rfl rfl ?_
                refine og_icmpN X484 99 at_96 (XT.ii_le_f (by decide)) rfl ?_
                refine og_iconst X484 100 (1 : Int32) at_99 rfl rfl ?_
                refine og_goto X484 104 at_100 (by decide) (by decide) ?_
                refine og_iload X484 106 at_104 rfl rfl ?_
                refine own_stat X484 109 (argsL := [(.int 1), (.int u1)]) (rest := [(.int 1)]) at_106 (rm_tab1 l Z n0 h484 [] a0 hw hWd X484.old u1 hc436 ) (ow hw 26 rfl) (ow hw 27 rfl) (ow hw 2 rfl) (ow hw 28 rfl) (by decide) (lenOf pd__28ZC_29I rfl) rfl rfl rfl (W := 1) rfl (by decide) (by decide) (by decide) (by decide) all0 rfl ?_
                intro T485 h485 v485 X485 K485 hQ485
                obtain rfl := hQ485
                show OGo _ _ _ _ T485 (mkF m 109 #[.val (.int pt), .val (.int pp), .val (.int 3), .val (.int u0), .val (.int u1), .val (.int u2), .val (.ref r246), .unset, .unset, .unset] [(.int 1), (.int 1)])
                refine og_iadd X485 110 at_109 rfl ?_
                show OGo _ _ _ _ T485 (mkF m 110 #[.val (.int pt), .val (.int pp), .val (.int 3), .val (.int u0), .val (.int u1), .val (.int u2), .val (.ref r246), .unset, .unset, .unset] [(.int 2)])
                refine og_iloadN X485 111 at_110 rfl rfl ?_
                refine og_iconst X485 112 (2 : Int32) at_111 rfl rfl ?_
                refine og_icmpN X485 115 at_112 (XT.ii_le_f (by decide)) rfl ?_
                refine og_iconst X485 116 (1 : Int32) at_115 rfl rfl ?_
                refine og_goto X485 120 at_116 (by decide) (by decide) ?_
                refine og_iload X485 122 at_120 rfl rfl ?_
                refine own_stat X485 125 (argsL := [(.int 1), (.int u2)]) (rest := [(.int 2)]) at_122 (rm_tab2 l Z n0 h485 [] a0 hw hWd X485.old u2 hc437 ) (ow hw 26 rfl) (ow hw 27 rfl) (ow hw 2 rfl) (ow hw 28 rfl) (by decide) (lenOf pd__28ZC_29I rfl) rfl rfl rfl (W := 1) rfl (by decide) (by decide) (by decide) (by decide) all0 rfl ?_
                intro T486 h486 v486 X486 K486 hQ486
                obtain rfl := hQ486
                show OGo _ _ _ _ T486 (mkF m 125 #[.val (.int pt), .val (.int pp), .val (.int 3), .val (.int u0), .val (.int u1), .val (.int u2), .val (.ref r246), .unset, .unset, .unset] [(.int 0), (.int 2)])
                refine og_iadd X486 126 at_125 rfl ?_
                show OGo _ _ _ _ T486 (mkF m 126 #[.val (.int pt), .val (.int pp), .val (.int 3), .val (.int u0), .val (.int u1), .val (.int u2), .val (.ref r246), .unset, .unset, .unset] [(.int 2)])
                refine og_istore X486 128 #[.val (.int pt), .val (.int pp), .val (.int 3), .val (.int u0), .val (.int u1), .val (.int u2), .val (.ref r246), .val (.int 2), .unset, .unset] at_126 rfl rfl ?_
                refine own_new X486 131 at_128 (ow hw 29 rfl) (ow hw 30 rfl) (ow hw 31 rfl) (by decide) (by decide) rfl ?_
                intro T487 h487 b487 X487 K487 G487 U487 E487 D487
                have f488 : Fld Z h487 b487 "com/example/ratable/ratable/core/JournalSums$Fields" "line" "Ljava/lang/String;" .null := D487 (Or.inr (ow hw 37 rfl)) (ty := (.object "java/lang/String")) (by decide)
                have f489 : Fld Z h487 b487 "com/example/ratable/ratable/core/JournalSums$Fields" "next" "I" (.int 0) := D487 (Or.inl (ow hw 44 rfl)) (ty := .int) (by decide)
                refine og_dup X487 132 at_131 rfl rfl ?_
                refine og_aload X487 134 at_132 rfl rfl rfl ?_
                refine own_spec X487 137 (a := b487) (argsL := [(.ref r246)]) (rest := [(.ref b487)]) at_134 rfl (rm6 l Z n0 h487 [] a0 hw hWd X487.old b487 r246 E487 f488 f489 (own_svb X487 (om 0 rfl))) (ow hw 32 rfl) (ow hw 33 rfl) (ow hw 31 rfl) (ow hw 34 rfl) (by decide) (lenOf pd__28Ljava_2flang_2fString_3b_29V rfl) rfl rfl rfl (W := 1) rfl (by decide) (by decide) (by decide) (by decide) (allS (om 0 rfl) all0) rfl ?_
                intro T490 h490 v490 X490 K490 hQ490
                obtain ⟨rfl, f491, f492⟩ := hQ490
                show OGo _ _ _ _ T490 (mkF m 137 #[.val (.int pt), .val (.int pp), .val (.int 3), .val (.int u0), .val (.int u1), .val (.int u2), .val (.ref r246), .val (.int 2), .unset, .unset] [(.ref b487)])
                refine og_astore X490 139 #[.val (.int pt), .val (.int pp), .val (.int 3), .val (.int u0), .val (.int u1), .val (.int u2), .val (.ref r246), .val (.int 2), .val (.ref b487), .unset] at_137 rfl rfl rfl ?_
                refine og_aload X490 141 at_139 rfl rfl rfl ?_
                have f493 := E487.keep K490
                have f494 := f247.keep K484 all0
                have f495 := f494.keep K485 all0
                have f496 := f495.keep K486 all0
                have f497 := f496.keep K487 all0
                have f498 := f497.keep K490 (allS (Or.inl (Nat.le_trans (Nat.le_trans (Nat.le_trans K484.1 K485.1) K486.1) G487)) all0)
                refine own_virt X490 144 (a := b487) (argsL := []) (rest := []) at_141 f493 (fun _ hZ => notFace_of_selects (args := #[]) (mvT hZ (ow hw 41 rfl))) (rm_more1 l Z n0 h490 [] a0 hw hWd X490.old b487 r246 [u0, u1, u2] (0 : Int32) f491 f492 f498.top (show ¬ (3 : Int32) < (0 : Int32) by decide) ) (ow hw 38 rfl) (ow hw 39 rfl) (ow hw 41 rfl) (ow hw 40 rfl) (ow hw 31 rfl) (ow hw 42 rfl) (by decide) (lenOf pd__28_29Z rfl) rfl rfl rfl (W := 0) rfl (by decide) (by decide) (by decide) (by decide) all0 rfl ?_
                intro T499 h499 v499 X499 K499 hQ499
                obtain rfl := hQ499
                show OGo _ _ _ _ T499 (mkF m 144 #[.val (.int pt), .val (.int pp), .val (.int 3), .val (.int u0), .val (.int u1), .val (.int u2), .val (.ref r246), .val (.int 2), .val (.ref b487), .unset] [(.int 1)])
                refine og_istore X499 146 #[.val (.int pt), .val (.int pp), .val (.int 3), .val (.int u0), .val (.int u1), .val (.int u2), .val (.ref r246), .val (.int 2), .val (.ref b487), .val (.int 1)] at_144 rfl rfl ?_
                refine og_iload X499 148 at_146 rfl rfl ?_
                refine og_ifN X499 151 at_148 (XT.i0_eq_f (by decide)) rfl ?_
                refine og_aload X499 153 at_151 rfl rfl rfl ?_
                have f500 := f493.keep K499
                have f501 := f491.keep K499 nin0
                have f502 := f492.keep K499 nin0
                have f503 := f498.keep K499 all0
                refine own_virt X499 156 (a := b487) (argsL := []) (rest := []) at_153 f500 (fun _ hZ => notFace_of_selects (args := #[]) (mvT hZ (ow hw 59 rfl))) (rf_txt301 l Z n0 h499 [] a0 hw hWd X499.old b487 r246 u0 u1 u2 f500 f501 f502 f503.top (own_lS ⟨ok1.1, ok1.2⟩ (own_lS ⟨ok2.1, ok2.2⟩ (own_lS ⟨ok3.1, ok3.2⟩ own_l0))) hc248 hc436 (own_svb X499 (om 0 rfl))) (ow hw 56 rfl) (ow hw 57 rfl) (ow hw 59 rfl) (ow hw 58 rfl) (ow hw 31 rfl) (ow hw 60 rfl) (by decide) (lenOf pd__28_29Ljava_2flang_2fString_3b rfl) rfl rfl rfl (W := 0) rfl (by decide) (by decide) (by decide) (by decide) (allS (om 0 rfl) all0) rfl ?_
                intro T504 h504 v504 X504 K504 hQ504
                obtain ⟨r504, rfl, f505, f506⟩ := hQ504
                show OGo _ _ _ _ T504 (mkF m 156 #[.val (.int pt), .val (.int pp), .val (.int 3), .val (.int u0), .val (.int u1), .val (.int u2), .val (.ref r246), .val (.int 2), .val (.ref b487), .val (.int 1)] [(.ref r504)])
                refine og_pop X504 157 at_156 rfl rfl ?_
                refine og_aload X504 159 at_157 rfl rfl rfl ?_
                have f507 := f500.keep K504
                have f508 := f503.keep K504 (allS (Or.inl (Nat.le_trans (Nat.le_trans (Nat.le_trans K484.1 K485.1) K486.1) G487)) all0)
                refine own_virt X504 162 (a := b487) (argsL := []) (rest := []) at_159 f507 (fun _ hZ => notFace_of_selects (args := #[]) (mvT hZ (ow hw 41 rfl))) (rm_more1 l Z n0 h504 [] a0 hw hWd X504.old b487 r246 [u0, u1, u2] (2 : Int32) f505 f506 f508.top (show ¬ (3 : Int32) < (2 : Int32) by decide) ) (ow hw 38 rfl) (ow hw 39 rfl) (ow hw 41 rfl) (ow hw 40 rfl) (ow hw 31 rfl) (ow hw 42 rfl) (by decide) (lenOf pd__28_29Z rfl) rfl rfl rfl (W := 0) rfl (by decide) (by decide) (by decide) (by decide) all0 rfl ?_
                intro T509 h509 v509 X509 K509 hQ509
                obtain rfl := hQ509
                show OGo _ _ _ _ T509 (mkF m 162 #[.val (.int pt), .val (.int pp), .val (.int 3), .val (.int u0), .val (.int u1), .val (.int u2), .val (.ref r246), .val (.int 2), .val (.ref b487), .val (.int 1)] [(.int 1)])
                refine og_iload X509 164 at_162 rfl rfl ?_
                refine og_iconst X509 165 (2 : Int32) at_164 rfl rfl ?_
                refine og_icmpN X509 168 at_165 (XT.ii_lt_f (by decide)) rfl ?_
                refine og_iconst X509 169 (1 : Int32) at_168 rfl rfl ?_
                refine og_goto X509 173 at_169 (by decide) (by decide) ?_
                refine og_icmpN X509 176 at_173 (XT.ii_ne_f (by decide)) rfl ?_
                refine og_iconst X509 177 (1 : Int32) at_176 rfl rfl ?_
                refine og_goto X509 181 at_177 (by decide) (by decide) ?_
                refine og_istore X509 183 #[.val (.int pt), .val (.int pp), .val (.int 3), .val (.int u0), .val (.int u1), .val (.int u2), .val (.ref r246), .val (.int 2), .val (.ref b487), .val (.int 1)] at_181 rfl rfl ?_
                refine og_iload X509 185 at_183 rfl rfl ?_
                refine og_ifN X509 188 at_185 (XT.i0_eq_f (by decide)) rfl ?_
                refine og_iload X509 190 at_188 rfl rfl ?_
                refine og_iconst X509 191 (2 : Int32) at_190 rfl rfl ?_
                refine og_icmpN X509 194 at_191 (XT.ii_lt_f (by decide)) rfl ?_
                refine og_aload X509 196 at_194 rfl rfl rfl ?_
                have f510 := f507.keep K509
                have f511 := f505.keep K509 nin0
                have f512 := f506.keep K509 nin0
                have f513 := f508.keep K509 all0
                refine own_virt X509 199 (a := b487) (argsL := []) (rest := []) at_196 f510 (fun _ hZ => notFace_of_selects (args := #[]) (mvT hZ (ow hw 59 rfl))) (rf_txt323 l Z n0 h509 [] a0 hw hWd X509.old b487 r246 u0 u1 u2 f510 f511 f512 f513.top (own_lS ⟨ok1.1, ok1.2⟩ (own_lS ⟨ok2.1, ok2.2⟩ (own_lS ⟨ok3.1, ok3.2⟩ own_l0))) hc437 (own_svb X509 (om 0 rfl))) (ow hw 56 rfl) (ow hw 57 rfl) (ow hw 59 rfl) (ow hw 58 rfl) (ow hw 31 rfl) (ow hw 60 rfl) (by decide) (lenOf pd__28_29Ljava_2flang_2fString_3b rfl) rfl rfl rfl (W := 0) rfl (by decide) (by decide) (by decide) (by decide) (allS (om 0 rfl) all0) rfl ?_
                intro T514 h514 v514 X514 K514 hQ514
                obtain ⟨r514, rfl, f515, f516⟩ := hQ514
                show OGo _ _ _ _ T514 (mkF m 199 #[.val (.int pt), .val (.int pp), .val (.int 3), .val (.int u0), .val (.int u1), .val (.int u2), .val (.ref r246), .val (.int 2), .val (.ref b487), .val (.int 1)] [(.ref r514)])
                refine og_pop X514 200 at_199 rfl rfl ?_
                refine og_aload X514 202 at_200 rfl rfl rfl ?_
                have f517 := f510.keep K514
                have f518 := f513.keep K514 (allS (Or.inl (Nat.le_trans (Nat.le_trans (Nat.le_trans K484.1 K485.1) K486.1) G487)) all0)
                refine own_virt X514 205 (a := b487) (argsL := []) (rest := []) at_202 f517 (fun _ hZ => notFace_of_selects (args := #[]) (mvT hZ (ow hw 41 rfl))) (rm_more0 l Z n0 h514 [] a0 hw hWd X514.old b487 r246 [u0, u1, u2] (4 : Int32) f515 f516 f518.top (show (3 : Int32) < (4 : Int32) by decide) ) (ow hw 38 rfl) (ow hw 39 rfl) (ow hw 41 rfl) (ow hw 40 rfl) (ow hw 31 rfl) (ow hw 42 rfl) (by decide) (lenOf pd__28_29Z rfl) rfl rfl rfl (W := 0) rfl (by decide) (by decide) (by decide) (by decide) all0 rfl ?_
                intro T519 h519 v519 X519 K519 hQ519
                obtain rfl := hQ519
                show OGo _ _ _ _ T519 (mkF m 205 #[.val (.int pt), .val (.int pp), .val (.int 3), .val (.int u0), .val (.int u1), .val (.int u2), .val (.ref r246), .val (.int 2), .val (.ref b487), .val (.int 1)] [(.int 0)])
                refine og_iload X519 207 at_205 rfl rfl ?_
                refine og_iconst X519 208 (3 : Int32) at_207 rfl rfl ?_
                refine og_icmpY X519 215 at_208 (XT.ii_lt_t (by decide)) (by decide) (by decide) ?_
                refine og_iconst X519 216 (0 : Int32) at_215 rfl rfl ?_
                refine og_icmpN X519 219 at_216 (XT.ii_ne_f (by decide)) rfl ?_
                refine og_iconst X519 220 (1 : Int32) at_219 rfl rfl ?_
                refine og_goto X519 224 at_220 (by decide) (by decide) ?_
                refine og_istore X519 226 #[.val (.int pt), .val (.int pp), .val (.int 3), .val (.int u0), .val (.int u1), .val (.int u2), .val (.ref r246), .val (.int 2), .val (.ref b487), .val (.int 1)] at_224 rfl rfl ?_
                refine og_iload X519 228 at_226 rfl rfl ?_
                refine og_ifN X519 231 at_228 (XT.i0_eq_f (by decide)) rfl ?_
                refine og_iload X519 233 at_231 rfl rfl ?_
                refine og_iconst X519 234 (3 : Int32) at_233 rfl rfl ?_
                refine og_icmpY X519 269 at_234 (XT.ii_lt_t (by decide)) (by decide) (by decide) ?_
                refine og_iload X519 271 at_269 rfl rfl ?_
                refine og_ifN X519 274 at_271 (XT.i0_eq_f (by decide)) rfl ?_
                refine og_iload X519 276 at_274 rfl rfl ?_
                refine og_iconst X519 277 (4 : Int32) at_276 rfl rfl ?_
                refine og_icmpY X519 301 at_277 (XT.ii_lt_t (by decide)) (by decide) (by decide) ?_
                refine og_iload X519 303 at_301 rfl rfl ?_
                refine own_retZ X519 at_303 hret rfl (by decide) (by decide) ?_
                exact rfl
            · -- not
              by_cases hc520 : u2 = (9 : Int32)
              · -- u2 = (9 : Int32)
                refine og_iconst X246 80 (1 : Int32) at_79 rfl rfl ?_
                refine og_iloadN X246 81 at_80 rfl rfl ?_
                refine og_ifN X246 84 at_81 (XT.i0_le_f (by decide)) rfl ?_
                refine og_iconst X246 85 (1 : Int32) at_84 rfl rfl ?_
                refine og_goto X246 89 at_85 (by decide) (by decide) ?_
                refine og_iloadN X246 90 at_89 rfl rfl ?_
                refine own_stat X246 93 (argsL := [(.int 1), (.int u0)]) (rest := [(.int 1)]) at_90 (rm_tab2 l Z n0 h246 [] a0 hw hWd X246.old u0 hc248 ) (ow hw 26 rfl) (ow hw 27 rfl) (ow hw 2 rfl) (ow hw 28 rfl) (by decide) (lenOf pd__28ZC_29I rfl) rfl rfl rfl (W := 1) rfl (by decide) (by decide) (by decide) (by decide) all0 rfl ?_
                intro T521 h521 v521 X521 K521 hQ521
                obtain rfl := hQ521
                show OGo _ _ _ _ T521 (mkF m 93 #[.val (.int pt), .val (.int pp), .val (.int 3), .val (.int u0), .val (.int u1), .val (.int u2), .val (.ref r246), .unset, .unset, .unset] [(.int 0), (.int 1)])
                refine og_iadd X521 94 at_93 rfl ?_
                show OGo _ _ _ _ T521 (mkF m 94 #[.val (.int pt), .val (.int pp), .val (.int 3), .val (.int u0), .val (.int u1), .val (.int u2), .val (.ref r246), .unset, .unset, .unset] [(.int 1)])
                refine og_iloadN X521 95 at_94 rfl rfl ?_
                refine og_iconst X521 96 (1 : Int32) at_95 rfl rfl ?_
                refine og_icmpN X521 99 at_96 (XT.ii_le_f (by decide)) rfl ?_
                refine og_iconst X521 100 (1 : Int32) at_99 rfl rfl ?_
                refine og_goto X521 104 at_100 (by decide) (by decide) ?_
                refine og_iload X521 106 at_104 rfl rfl ?_
                refine own_stat X521 109 (argsL := [(.int 1), (.int u1)]) (rest := [(.int 1)]) at_106 (rm_tab2 l Z n0 h521 [] a0 hw hWd X521.old u1 hc436 ) (ow hw 26 rfl) (ow hw 27 rfl) (ow hw 2 rfl) (ow hw 28 rfl) (by decide) (lenOf pd__28ZC_29I rfl) rfl rfl rfl (W := 1) rfl (by decide) (by decide) (by decide) (by decide) all0 rfl ?_
                intro T522 h522 v522 X522 K522 hQ522
                obtain rfl := hQ522
                show OGo _ _ _ _ T522 (mkF m 109 #[.val (.int pt), .val (.int pp), .val (.int 3), .val (.int u0), .val (.int u1), .val (.int u2), .val (.ref r246), .unset, .unset, .unset] [(.int 0), (.int 1)])
                refine og_iadd X522 110 at_109 rfl ?_
                show OGo _ _ _ _ T522 (mkF m 110 #[.val (.int pt), .val (.int pp), .val (.int 3), .val (.int u0), .val (.int u1), .val (.int u2), .val (.ref r246), .unset, .unset, .unset] [(.int 1)])
                refine og_iloadN X522 111 at_110 rfl rfl ?_
                refine og_iconst X522 112 (2 : Int32) at_111 rfl rfl ?_
                refine og_icmpN X522 115 at_112 (XT.ii_le_f (by decide)) rfl ?_
                refine og_iconst X522 116 (1 : Int32) at_115 rfl rfl ?_
                refine og_goto X522 120 at_116 (by decide) (by decide) ?_
                refine og_iload X522 122 at_120 rfl rfl ?_
                refine own_stat X522 125 (argsL := [(.int 1), (.int u2)]) (rest := [(.int 1)]) at_122 (rm_tab1 l Z n0 h522 [] a0 hw hWd X522.old u2 hc520 ) (ow hw 26 rfl) (ow hw 27 rfl) (ow hw 2 rfl) (ow hw 28 rfl) (by decide) (lenOf pd__28ZC_29I rfl) rfl rfl rfl (W := 1) rfl (by decide) (by decide) (by decide) (by decide) all0 rfl ?_
                intro T523 h523 v523 X523 K523 hQ523
                obtain rfl := hQ523
                show OGo _ _ _ _ T523 (mkF m 125 #[.val (.int pt), .val (.int pp), .val (.int 3), .val (.int u0), .val (.int u1), .val (.int u2), .val (.ref r246), .unset, .unset, .unset] [(.int 1), (.int 1)])
                refine og_iadd X523 126 at_125 rfl ?_
                show OGo _ _ _ _ T523 (mkF m 126 #[.val (.int pt), .val (.int pp), .val (.int 3), .val (.int u0), .val (.int u1), .val (.int u2), .val (.ref r246), .unset, .unset, .unset] [(.int 2)])
                refine og_istore X523 128 #[.val (.int pt), .val (.int pp), .val (.int 3), .val (.int u0), .val (.int u1), .val (.int u2), .val (.ref r246), .val (.int 2), .unset, .unset] at_126 rfl rfl ?_
                refine own_new X523 131 at_128 (ow hw 29 rfl) (ow hw 30 rfl) (ow hw 31 rfl) (by decide) (by decide) rfl ?_
                intro T524 h524 b524 X524 K524 G524 U524 E524 D524
                have f525 : Fld Z h524 b524 "com/example/ratable/ratable/core/JournalSums$Fields" "line" "Ljava/lang/String;" .null := D524 (Or.inr (ow hw 37 rfl)) (ty := (.object "java/lang/String")) (by decide)
                have f526 : Fld Z h524 b524 "com/example/ratable/ratable/core/JournalSums$Fields" "next" "I" (.int 0) := D524 (Or.inl (ow hw 44 rfl)) (ty := .int) (by decide)
                refine og_dup X524 132 at_131 rfl rfl ?_
                refine og_aload X524 134 at_132 rfl rfl rfl ?_
                refine own_spec X524 137 (a := b524) (argsL := [(.ref r246)]) (rest := [(.ref b524)]) at_134 rfl (rm6 l Z n0 h524 [] a0 hw hWd X524.old b524 r246 E524 f525 f526 (own_svb X524 (om 0 rfl))) (ow hw 32 rfl) (ow hw 33 rfl) (ow hw 31 rfl) (ow hw 34 rfl) (by decide) (lenOf pd__28Ljava_2flang_2fString_3b_29V rfl) rfl rfl rfl (W := 1) rfl (by decide) (by decide) (by decide) (by decide) (allS (om 0 rfl) all0) rfl ?_
                intro T527 h527 v527 X527 K527 hQ527
                obtain ⟨rfl, f528, f529⟩ := hQ527
                show OGo _ _ _ _ T527 (mkF m 137 #[.val (.int pt), .val (.int pp), .val (.int 3), .val (.int u0), .val (.int u1), .val (.int u2), .val (.ref r246), .val (.int 2), .unset, .unset] [(.ref b524)])
                refine og_astore X527 139 #[.val (.int pt), .val (.int pp), .val (.int 3), .val (.int u0), .val (.int u1), .val (.int u2), .val (.ref r246), .val (.int 2), .val (.ref b524), .unset] at_137 rfl rfl rfl ?_
                refine og_aload X527 141 at_139 rfl rfl rfl ?_
                have f530 := E524.keep K527
                have f531 := f247.keep K521 all0
                have f532 := f531.keep K522 all0
                have f533 := f532.keep K523 all0
                have f534 := f533.keep K524 all0
                have f535 := f534.keep K527 (allS (Or.inl (Nat.le_trans (Nat.le_trans (Nat.le_trans K521.1 K522.1) K523.1) G524)) all0)
                refine own_virt X527 144 (a := b524) (argsL := []) (rest := []) at_141 f530 (fun _ hZ => notFace_of_selects (args := #[]) (mvT hZ (ow hw 41 rfl))) (rm_more1 l Z n0 h527 [] a0 hw hWd X527.old b524 r246 [u0, u1, u2] (0 : Int32) f528 f529 f535.top (show ¬ (3 : Int32) < (0 : Int32) by decide) ) (ow hw 38 rfl) (ow hw 39 rfl) (ow hw 41 rfl) (ow hw 40 rfl) (ow hw 31 rfl) (ow hw 42 rfl) (by decide) (lenOf pd__28_29Z rfl) rfl rfl rfl (W := 0) rfl (by decide) (by decide) (by decide) (by decide) all0 rfl ?_
                intro T536 h536 v536 X536 K536 hQ536
                obtain rfl := hQ536
                show OGo _ _ _ _ T536 (mkF m 144 #[.val (.int pt), .val (.int pp), .val (.int 3), .val (.int u0), .val (.int u1), .val (.int u2), .val (.ref r246), .val (.int 2), .val (.ref b524), .unset] [(.int 1)])
                refine og_istore X536 146 #[.val (.int pt), .val (.int pp), .val (.int 3), .val (.int u0), .val (.int u1), .val (.int u2), .val (.ref r246), .val (.int 2), .val (.ref b524), .val (.int 1)] at_144 rfl rfl ?_
                refine og_iload X536 148 at_146 rfl rfl ?_
                refine og_ifN X536 151 at_148 (XT.i0_eq_f (by decide)) rfl ?_
                refine og_aload X536 153 at_151 rfl rfl rfl ?_
                have f537 := f530.keep K536
                have f538 := f528.keep K536 nin0
                have f539 := f529.keep K536 nin0
                have f540 := f535.keep K536 all0
                refine own_virt X536 156 (a := b524) (argsL := []) (rest := []) at_153 f537 (fun _ hZ => notFace_of_selects (args := #[]) (mvT hZ (ow hw 59 rfl))) (rf_txt302 l Z n0 h536 [] a0 hw hWd X536.old b524 r246 u0 u1 u2 f537 f538 f539 f540.top (own_lS ⟨ok1.1, ok1.2⟩ (own_lS ⟨ok2.1, ok2.2⟩ (own_lS ⟨ok3.1, ok3.2⟩ own_l0))) hc248 hc436 hc520 (own_svb X536 (om 0 rfl))) (ow hw 56 rfl) (ow hw 57 rfl) (ow hw 59 rfl) (ow hw 58 rfl) (ow hw 31 rfl) (ow hw 60 rfl) (by decide) (lenOf pd__28_29Ljava_2flang_2fString_3b rfl) rfl rfl rfl (W := 0) rfl (by decide) (by decide) (by decide) (by decide) (allS (om 0 rfl) all0) rfl ?_
                intro T541 h541 v541 X541 K541 hQ541
                obtain ⟨r541, rfl, f542, f543⟩ := hQ541
                show OGo _ _ _ _ T541 (mkF m 156 #[.val (.int pt), .val (.int pp), .val (.int 3), .val (.int u0), .val (.int u1), .val (.int u2), .val (.ref r246), .val (.int 2), .val (.ref b524), .val (.int 1)] [(.ref r541)])
                refine og_pop X541 157 at_156 rfl rfl ?_
                refine og_aload X541 159 at_157 rfl rfl rfl ?_
                have f544 := f537.keep K541
                have f545 := f540.keep K541 (allS (Or.inl (Nat.le_trans (Nat.le_trans (Nat.le_trans K521.1 K522.1) K523.1) G524)) all0)
                refine own_virt X541 162 (a := b524) (argsL := []) (rest := []) at_159 f544 (fun _ hZ => notFace_of_selects (args := #[]) (mvT hZ (ow hw 41 rfl))) (rm_more1 l Z n0 h541 [] a0 hw hWd X541.old b524 r246 [u0, u1, u2] (3 : Int32) f542 f543 f545.top (show ¬ (3 : Int32) < (3 : Int32) by decide) ) (ow hw 38 rfl) (ow hw 39 rfl) (ow hw 41 rfl) (ow hw 40 rfl) (ow hw 31 rfl) (ow hw 42 rfl) (by decide) (lenOf pd__28_29Z rfl) rfl rfl rfl (W := 0) rfl (by decide) (by decide) (by decide) (by decide) all0 rfl ?_
                intro T546 h546 v546 X546 K546 hQ546
                obtain rfl := hQ546
                show OGo _ _ _ _ T546 (mkF m 162 #[.val (.int pt), .val (.int pp), .val (.int 3), .val (.int u0), .val (.int u1), .val (.int u2), .val (.ref r246), .val (.int 2), .val (.ref b524), .val (.int 1)] [(.int 1)])
                refine og_iload X546 164 at_162 rfl rfl ?_
                refine og_iconst X546 165 (2 : Int32) at_164 rfl rfl ?_
                refine og_icmpN X546 168 at_165 (XT.ii_lt_f (by decide)) rfl ?_
                refine og_iconst X546 169 (1 : Int32) at_168 rfl rfl ?_
                refine og_goto X546 173 at_169 (by decide) (by decide) ?_
                refine og_icmpN X546 176 at_173 (XT.ii_ne_f (by decide)) rfl ?_
                refine og_iconst X546 177 (1 : Int32) at_176 rfl rfl ?_
                refine og_goto X546 181 at_177 (by decide) (by decide) ?_
                refine og_istore X546 183 #[.val (.int pt), .val (.int pp), .val (.int 3), .val (.int u0), .val (.int u1), .val (.int u2), .val (.ref r246), .val (.int 2), .val (.ref b524), .val (.int 1)] at_181 rfl rfl ?_
                refine og_iload X546 185 at_183 rfl rfl ?_
                refine og_ifN X546 188 at_185 (XT.i0_eq_f (by decide)) rfl ?_
                refine og_iload X546 190 at_188 rfl rfl ?_
                refine og_iconst X546 191 (2 : Int32) at_190 rfl rfl ?_
                refine og_icmpN X546 194 at_191 (XT.ii_lt_f (by decide)) rfl ?_
                refine og_aload X546 196 at_194 rfl rfl rfl ?_
                have f547 := f544.keep K546
                have f548 := f542.keep K546 nin0
                have f549 := f543.keep K546 nin0
                have f550 := f545.keep K546 all0
                refine own_virt X546 199 (a := b524) (argsL := []) (rest := []) at_196 f547 (fun _ hZ => notFace_of_selects (args := #[]) (mvT hZ (ow hw 59 rfl))) (rf_txt333 l Z n0 h546 [] a0 hw hWd X546.old b524 r246 u0 u1 u2 f547 f548 f549 f550.top (own_lS ⟨ok1.1, ok1.2⟩ (own_lS ⟨ok2.1, ok2.2⟩ (own_lS ⟨ok3.1, ok3.2⟩ own_l0))) (own_svb X546 (om 0 rfl))) (ow hw 56 rfl) (ow hw 57 rfl) (ow hw 59 rfl) (ow hw 58 rfl) (ow hw 31 rfl) (ow hw 60 rfl) (by decide) (lenOf pd__28_29Ljava_2flang_2fString_3b rfl) rfl rfl rfl (W := 0) rfl (by decide) (by decide) (by decide) (by decide) (allS (om 0 rfl) all0) rfl ?_
                intro T551 h551 v551 X551 K551 hQ551
                obtain ⟨r551, rfl, f552, f553⟩ := hQ551
                show OGo _ _ _ _ T551 (mkF m 199 #[.val (.int pt), .val (.int pp), .val (.int 3), .val (.int u0), .val (.int u1), .val (.int u2), .val (.ref r246), .val (.int 2), .val (.ref b524), .val (.int 1)] [(.ref r551)])
                refine og_pop X551 200 at_199 rfl rfl ?_
                refine og_aload X551 202 at_200 rfl rfl rfl ?_
                have f554 := f547.keep K551
                have f555 := f550.keep K551 (allS (Or.inl (Nat.le_trans (Nat.le_trans (Nat.le_trans K521.1 K522.1) K523.1) G524)) all0)
                refine own_virt X551 205 (a := b524) (argsL := []) (rest := []) at_202 f554 (fun _ hZ => notFace_of_selects (args := #[]) (mvT hZ (ow hw 41 rfl))) (rm_more0 l Z n0 h551 [] a0 hw hWd X551.old b524 r246 [u0, u1, u2] (4 : Int32) f552 f553 f555.top (show (3 : Int32) < (4 : Int32) by decide) ) (ow hw 38 rfl) (ow hw 39 rfl) (ow hw 41 rfl) (ow hw 40 rfl) (ow hw 31 rfl) (ow hw 42 rfl) (by decide) (lenOf pd__28_29Z rfl) rfl rfl rfl (W := 0) rfl (by decide) (by decide) (by decide) (by decide) all0 rfl ?_
                intro T556 h556 v556 X556 K556 hQ556
                obtain rfl := hQ556
                show OGo _ _ _ _ T556 (mkF m 205 #[.val (.int pt), .val (.int pp), .val (.int 3), .val (.int u0), .val (.int u1), .val (.int u2), .val (.ref r246), .val (.int 2), .val (.ref b524), .val (.int 1)] [(.int 0)])
                refine og_iload X556 207 at_205 rfl rfl ?_
                refine og_iconst X556 208 (3 : Int32) at_207 rfl rfl ?_
                refine og_icmpY X556 215 at_208 (XT.ii_lt_t (by decide)) (by decide) (by decide) ?_
                refine og_iconst X556 216 (0 : Int32) at_215 rfl rfl ?_
                refine og_icmpN X556 219 at_216 (XT.ii_ne_f (by decide)) rfl ?_
                refine og_iconst X556 220 (1 : Int32) at_219 rfl rfl ?_
                refine og_goto X556 224 at_220 (by decide) (by decide) ?_
                refine og_istore X556 226 #[.val (.int pt), .val (.int pp), .val (.int 3), .val (.int u0), .val (.int u1), .val (.int u2), .val (.ref r246), .val (.int 2), .val (.ref b524), .val (.int 1)] at_224 rfl rfl ?_
                refine og_iload X556 228 at_226 rfl rfl ?_
                refine og_ifN X556 231 at_228 (XT.i0_eq_f (by decide)) rfl ?_
                refine og_iload X556 233 at_231 rfl rfl ?_
                refine og_iconst X556 234 (3 : Int32) at_233 rfl rfl ?_
                refine og_icmpY X556 269 at_234 (XT.ii_lt_t (by decide)) (by decide) (by decide) ?_
                refine og_iload X556 271 at_269 rfl rfl ?_
                refine og_ifN X556 274 at_271 (XT.i0_eq_f (by decide)) rfl ?_
                refine og_iload X556 276 at_274 rfl rfl ?_
                refine og_iconst X556 277 (4 : Int32) at_276 rfl rfl ?_
                refine og_icmpY X556 301 at_277 (XT.ii_lt_t (by decide)) (by decide) (by decide) ?_
                refine og_iload X556 303 at_301 rfl rfl ?_
                refine own_retZ X556 at_303 hret rfl (by decide) (by decide) ?_
                exact rfl
              · -- not
                refine og_iconst X246 80 (1 : Int32) at_79 rfl rfl ?_
                refine og_iloadN X246 81 at_80 rfl rfl ?_
                refine og_ifN X246 84 at_81 (XT.i0_le_f (by decide)) rfl ?_
                refine og_iconst X246 85 (1 : Int32) at_84 rfl rfl ?_
                refine og_goto X246 89 at_85 (by decide) (by decide) ?_
                refine og_iloadN X246 90 at_89 rfl rfl ?_
                refine own_stat X246 93 (argsL := [(.int 1), (.int u0)]) (rest := [(.int 1)]) at_90 (rm_tab2 l Z n0 h246 [] a0 hw hWd X246.old u0 hc248 ) (ow hw 26 rfl) (ow hw 27 rfl) (ow hw 2 rfl) (ow hw 28 rfl) (by decide) (lenOf pd__28ZC_29I rfl) rfl rfl rfl (W := 1) rfl (by decide) (by decide) (by decide) (by decide) all0 rfl ?_
                intro T557 h557 v557 X557 K557 hQ557
                obtain rfl := hQ557
                show OGo _ _ _ _ T557 (mkF m 93 #[.val (.int pt), .val (.int pp), .val (.int 3), .val (.int u0), .val (.int u1), .val (.int u2), .val (.ref r246), .unset, .unset, .unset] [(.int 0), (.int 1)])
                refine og_iadd X557 94 at_93 rfl ?_
                show OGo _ _ _ _ T557 (mkF m 94 #[.val (.int pt), .val (.int pp), .val (.int 3), .val (.int u0), .val (.int u1), .val (.int u2), .val (.ref r246), .unset, .unset, .unset] [(.int 1)])
                refine og_iloadN X557 95 at_94 rfl rfl ?_
                refine og_iconst X557 96 (1 : Int32) at_95 rfl rfl ?_
                refine og_icmpN X557 99 at_96 (XT.ii_le_f (by decide)) rfl ?_
                refine og_iconst X557 100 (1 : Int32) at_99 rfl rfl ?_
                refine og_goto X557 104 at_100 (by decide) (by decide) ?_
                refine og_iload X557 106 at_104 rfl rfl ?_
                refine own_stat X557 109 (argsL := [(.int 1), (.int u1)]) (rest := [(.int 1)]) at_106 (rm_tab2 l Z n0 h557 [] a0 hw hWd X557.old u1 hc436 ) (ow hw 26 rfl) (ow hw 27 rfl) (ow hw 2 rfl) (ow hw 28 rfl) (by decide) (lenOf pd__28ZC_29I rfl) rfl rfl rfl (W := 1) rfl (by decide) (by decide) (by decide) (by decide) all0 rfl ?_
                intro T558 h558 v558 X558 K558 hQ558
                obtain rfl := hQ558
                show OGo _ _ _ _ T558 (mkF m 109 #[.val (.int pt), .val (.int pp), .val (.int 3), .val (.int u0), .val (.int u1), .val (.int u2), .val (.ref r246), .unset, .unset, .unset] [(.int 0), (.int 1)])
                refine og_iadd X558 110 at_109 rfl ?_
                show OGo _ _ _ _ T558 (mkF m 110 #[.val (.int pt), .val (.int pp), .val (.int 3), .val (.int u0), .val (.int u1), .val (.int u2), .val (.ref r246), .unset, .unset, .unset] [(.int 1)])
                refine og_iloadN X558 111 at_110 rfl rfl ?_
                refine og_iconst X558 112 (2 : Int32) at_111 rfl rfl ?_
                refine og_icmpN X558 115 at_112 (XT.ii_le_f (by decide)) rfl ?_
                refine og_iconst X558 116 (1 : Int32) at_115 rfl rfl ?_
                refine og_goto X558 120 at_116 (by decide) (by decide) ?_
                refine og_iload X558 122 at_120 rfl rfl ?_
                refine own_stat X558 125 (argsL := [(.int 1), (.int u2)]) (rest := [(.int 1)]) at_122 (rm_tab2 l Z n0 h558 [] a0 hw hWd X558.old u2 hc520 ) (ow hw 26 rfl) (ow hw 27 rfl) (ow hw 2 rfl) (ow hw 28 rfl) (by decide) (lenOf pd__28ZC_29I rfl) rfl rfl rfl (W := 1) rfl (by decide) (by decide) (by decide) (by decide) all0 rfl ?_
                intro T559 h559 v559 X559 K559 hQ559
                obtain rfl := hQ559
                show OGo _ _ _ _ T559 (mkF m 125 #[.val (.int pt), .val (.int pp), .val (.int 3), .val (.int u0), .val (.int u1), .val (.int u2), .val (.ref r246), .unset, .unset, .unset] [(.int 0), (.int 1)])
                refine og_iadd X559 126 at_125 rfl ?_
                show OGo _ _ _ _ T559 (mkF m 126 #[.val (.int pt), .val (.int pp), .val (.int 3), .val (.int u0), .val (.int u1), .val (.int u2), .val (.ref r246), .unset, .unset, .unset] [(.int 1)])
                refine og_istore X559 128 #[.val (.int pt), .val (.int pp), .val (.int 3), .val (.int u0), .val (.int u1), .val (.int u2), .val (.ref r246), .val (.int 1), .unset, .unset] at_126 rfl rfl ?_
                refine own_new X559 131 at_128 (ow hw 29 rfl) (ow hw 30 rfl) (ow hw 31 rfl) (by decide) (by decide) rfl ?_
                intro T560 h560 b560 X560 K560 G560 U560 E560 D560
                have f561 : Fld Z h560 b560 "com/example/ratable/ratable/core/JournalSums$Fields" "line" "Ljava/lang/String;" .null := D560 (Or.inr (ow hw 37 rfl)) (ty := (.object "java/lang/String")) (by decide)
                have f562 : Fld Z h560 b560 "com/example/ratable/ratable/core/JournalSums$Fields" "next" "I" (.int 0) := D560 (Or.inl (ow hw 44 rfl)) (ty := .int) (by decide)
                refine og_dup X560 132 at_131 rfl rfl ?_
                refine og_aload X560 134 at_132 rfl rfl rfl ?_
                refine own_spec X560 137 (a := b560) (argsL := [(.ref r246)]) (rest := [(.ref b560)]) at_134 rfl (rm6 l Z n0 h560 [] a0 hw hWd X560.old b560 r246 E560 f561 f562 (own_svb X560 (om 0 rfl))) (ow hw 32 rfl) (ow hw 33 rfl) (ow hw 31 rfl) (ow hw 34 rfl) (by decide) (lenOf pd__28Ljava_2flang_2fString_3b_29V rfl) rfl rfl rfl (W := 1) rfl (by decide) (by decide) (by decide) (by decide) (allS (om 0 rfl) all0) rfl ?_
                intro T563 h563 v563 X563 K563 hQ563
                obtain ⟨rfl, f564, f565⟩ := hQ563
                show OGo _ _ _ _ T563 (mkF m 137 #[.val (.int pt), .val (.int pp), .val (.int 3), .val (.int u0), .val (.int u1), .val (.int u2), .val (.ref r246), .val (.int 1), .unset, .unset] [(.ref b560)])
                refine og_astore X563 139 #[.val (.int pt), .val (.int pp), .val (.int 3), .val (.int u0), .val (.int u1), .val (.int u2), .val (.ref r246), .val (.int 1), .val (.ref b560), .unset] at_137 rfl rfl rfl ?_
                refine og_aload X563 141 at_139 rfl rfl rfl ?_
                have f566 := E560.keep K563
                have f567 := f247.keep K557 all0
                have f568 := f567.keep K558 all0
                have f569 := f568.keep K559 all0
                have f570 := f569.keep K560 all0
                have f571 := f570.keep K563 (allS (Or.inl (Nat.le_trans (Nat.le_trans (Nat.le_trans K557.1 K558.1) K559.1) G560)) all0)
                refine own_virt X563 144 (a := b560) (argsL := []) (rest := []) at_141 f566 (fun _ hZ => notFace_of_selects (args := #[]) (mvT hZ (ow hw 41 rfl))) (rm_more1 l Z n0 h563 [] a0 hw hWd X563.old b560 r246 [u0, u1, u2] (0 : Int32) f564 f565 f571.top (show ¬ (3 : Int32) < (0 : Int32) by decide) ) (ow hw 38 rfl) (ow hw 39 rfl) (ow hw 41 rfl) (ow hw 40 rfl) (ow hw 31 rfl) (ow hw 42 rfl) (by decide) (lenOf pd__28_29Z rfl) rfl rfl rfl (W := 0) rfl (by decide) (by decide) (by decide) (by decide) all0 rfl ?_
                intro T572 h572 v572 X572 K572 hQ572
                obtain rfl := hQ572
                show OGo _ _ _ _ T572 (mkF m 144 #[.val (.int pt), .val (.int pp), .val (.int 3), .val (.int u0), .val (.int u1), .val (.int u2), .val (.ref r246), .val (.int 1), .val (.ref b560), .unset] [(.int 1)])
                refine og_istore X572 146 #[.val (.int pt), .val (.int pp), .val (.int 3), .val (.int u0), .val (.int u1), .val (.int u2), .val (.ref r246), .val (.int 1), .val (.ref b560), .val (.int 1)] at_144 rfl rfl ?_
                refine og_iload X572 148 at_146 rfl rfl ?_
                refine og_ifN X572 151 at_148 (XT.i0_eq_f (by decide)) rfl ?_
                refine og_aload X572 153 at_151 rfl rfl rfl ?_
                have f573 := f566.keep K572
                have f574 := f564.keep K572 nin0
                have f575 := f565.keep K572 nin0
                have f576 := f571.keep K572 all0
                refine own_virt X572 156 (a := b560) (argsL := []) (rest := []) at_153 f573 (fun _ hZ => notFace_of_selects (args := #[]) (mvT hZ (ow hw 59 rfl))) (rf_txt303 l Z n0 h572 [] a0 hw hWd X572.old b560 r246 u0 u1 u2 f573 f574 f575 f576.top (own_lS ⟨ok1.1, ok1.2⟩ (own_lS ⟨ok2.1, ok2.2⟩ (own_lS ⟨ok3.1, ok3.2⟩ own_l0))) hc248 hc436 hc520 (own_svb X572 (om 0 rfl))) (ow hw 56 rfl) (ow hw 57 rfl) (ow hw 59 rfl) (ow hw 58 rfl) (ow hw 31 rfl) (ow hw 60 rfl) (by decide) (lenOf pd__28_29Ljava_2flang_2fString_3b rfl) rfl rfl rfl (W := 0) rfl (by decide) (by decide) (by decide) (by decide) (allS (om 0 rfl) all0) rfl ?_
                intro T577 h577 v577 X577 K577 hQ577
                obtain ⟨r577, rfl, f578, f579⟩ := hQ577
                show OGo _ _ _ _ T577 (mkF m 156 #[.val (.int pt), .val (.int pp), .val (.int 3), .val (.int u0), .val (.int u1), .val (.int u2), .val (.ref r246), .val (.int 1), .val (.ref b560), .val (.int 1)] [(.ref r577)])
                refine og_pop X577 157 at_156 rfl rfl ?_
                refine og_aload X577 159 at_157 rfl rfl rfl ?_
                have f580 := f573.keep K577
                have f581 := f576.keep K577 (allS (Or.inl (Nat.le_trans (Nat.le_trans (Nat.le_trans K557.1 K558.1) K559.1) G560)) all0)
                refine own_virt X577 162 (a := b560) (argsL := []) (rest := []) at_159 f580 (fun _ hZ => notFace_of_selects (args := #[]) (mvT hZ (ow hw 41 rfl))) (rm_more0 l Z n0 h577 [] a0 hw hWd X577.old b560 r246 [u0, u1, u2] (4 : Int32) f578 f579 f581.top (show (3 : Int32) < (4 : Int32) by decide) ) (ow hw 38 rfl) (ow hw 39 rfl) (ow hw 41 rfl) (ow hw 40 rfl) (ow hw 31 rfl) (ow hw 42 rfl) (by decide) (lenOf pd__28_29Z rfl) rfl rfl rfl (W := 0) rfl (by decide) (by decide) (by decide) (by decide) all0 rfl ?_
                intro T582 h582 v582 X582 K582 hQ582
                obtain rfl := hQ582
                show OGo _ _ _ _ T582 (mkF m 162 #[.val (.int pt), .val (.int pp), .val (.int 3), .val (.int u0), .val (.int u1), .val (.int u2), .val (.ref r246), .val (.int 1), .val (.ref b560), .val (.int 1)] [(.int 0)])
                refine og_iload X582 164 at_162 rfl rfl ?_
                refine og_iconst X582 165 (2 : Int32) at_164 rfl rfl ?_
                refine og_icmpY X582 172 at_165 (XT.ii_lt_t (by decide)) (by decide) (by decide) ?_
                refine og_iconst X582 173 (0 : Int32) at_172 rfl rfl ?_
                refine og_icmpN X582 176 at_173 (XT.ii_ne_f (by decide)) rfl ?_
                refine og_iconst X582 177 (1 : Int32) at_176 rfl rfl ?_
                refine og_goto X582 181 at_177 (by decide) (by decide) ?_
                refine og_istore X582 183 #[.val (.int pt), .val (.int pp), .val (.int 3), .val (.int u0), .val (.int u1), .val (.int u2), .val (.ref r246), .val (.int 1), .val (.ref b560), .val (.int 1)] at_181 rfl rfl ?_
                refine og_iload X582 185 at_183 rfl rfl ?_
                refine og_ifN X582 188 at_185 (XT.i0_eq_f (by decide)) rfl ?_
                refine og_iload X582 190 at_188 rfl rfl ?_
                refine og_iconst X582 191 (2 : Int32) at_190 rfl rfl ?_
                refine og_icmpY X582 226 at_191 (XT.ii_lt_t (by decide)) (by decide) (by decide) ?_
                refine og_iload X582 228 at_226 rfl rfl ?_
                refine og_ifN X582 231 at_228 (XT.i0_eq_f (by decide)) rfl ?_
                refine og_iload X582 233 at_231 rfl rfl ?_
                refine og_iconst X582 234 (3 : Int32) at_233 rfl rfl ?_
                refine og_icmpY X582 269 at_234 (XT.ii_lt_t (by decide)) (by decide) (by decide) ?_
                refine og_iload X582 271 at_269 rfl rfl ?_
                refine og_ifN X582 274 at_271 (XT.i0_eq_f (by decide)) rfl ?_
                refine og_iload X582 276 at_274 rfl rfl ?_
                refine og_iconst X582 277 (4 : Int32) at_276 rfl rfl ?_
                refine og_icmpY X582 301 at_277 (XT.ii_lt_t (by decide)) (by decide) (by decide) ?_
                refine og_iload X582 303 at_301 rfl rfl ?_
                refine own_retZ X582 at_303 hret rfl (by decide) (by decide) ?_
                exact rfl
      · -- the ways to it
        intro J3
        refine og_iloadN X2 47 at_46 rfl rfl ?_
        refine og_iconst X2 48 (4 : Int32) at_47 rfl rfl ?_
        refine og_iand X2 49 at_48 rfl ?_
        by_cases hc583 : (pt &&& (4 : Int32)) = 0
        · -- (pt &&& (4 : Int32)) = 0
          refine og_ifY X2 57 at_49 (XT.i0_eq_t hc583) (by decide) (by decide) ?_
          refine og_iloadN X2 58 at_57 rfl rfl ?_
          refine og_bipush X2 60 (16 : Int32) at_58 rfl rfl ?_
          refine og_iushr X2 61 at_60 rfl ?_
          refine og_sipush X2 64 (255 : Int32) at_61 rfl rfl ?_
          refine og_iand X2 65 at_64 rfl ?_
          refine og_i2c8 X2 66 at_65 rfl ?_
          refine og_istore X2 68 #[.val (.int pt), .val (.int pp), .val (.int ((XT.ushr pt (3 : Int32)) &&& (3 : Int32))), .val (.int u0), .val (.int u1), .val (.int ((XT.ushr pp (16 : Int32)) &&& (255 : Int32))), .unset, .unset, .unset, .unset] at_66 rfl rfl ?_
          exact J3 _ _ X2 (Keep.refl _ _) ((XT.ushr pp (16 : Int32)) &&& (255 : Int32)) ⟨(own_lat8 _).1, (own_lat8 _).2⟩
        · -- not
          refine og_ifN X2 52 at_49 (XT.i0_eq_f hc583) rfl ?_
          refine og_bipush X2 54 (9 : Int32) at_52 rfl rfl ?_
          refine og_goto X2 66 at_54 (by decide) (by decide) ?_
          refine og_istore X2 68 #[.val (.int pt), .val (.int pp), .val (.int ((XT.ushr pt (3 : Int32)) &&& (3 : Int32))), .val (.int u0), .val (.int u1), .val (.int 9), .unset, .unset, .unset, .unset] at_66 rfl rfl ?_
          exact J3 _ _ X2 (Keep.refl _ _) (9 : Int32) ⟨(by decide), (by decide)⟩
    · -- the ways to it
      intro J2
      refine og_iloadN X1 25 at_24 rfl rfl ?_
      refine og_iconst X1 26 (2 : Int32) at_25 rfl rfl ?_
      refine og_iand X1 27 at_26 rfl ?_
      by_cases hc584 : (pt &&& (2 : Int32)) = 0
      · -- (pt &&& (2 : Int32)) = 0
        refine og_ifY X1 35 at_27 (XT.i0_eq_t hc584) (by decide) (by decide) ?_
        refine og_iloadN X1 36 at_35 rfl rfl ?_
        refine og_bipush X1 38 (8 : Int32) at_36 rfl rfl ?_
        refine og_iushr X1 39 at_38 rfl ?_
        refine og_sipush X1 42 (255 : Int32) at_39 rfl rfl ?_
        refine og_iand X1 43 at_42 rfl ?_
        refine og_i2c8 X1 44 at_43 rfl ?_
        refine og_istore X1 46 #[.val (.int pt), .val (.int pp), .val (.int ((XT.ushr pt (3 : Int32)) &&& (3 : Int32))), .val (.int u0), .val (.int ((XT.ushr pp (8 : Int32)) &&& (255 : Int32))), .unset, .unset, .unset, .unset, .unset] at_44 rfl rfl ?_
        exact J2 _ _ X1 (Keep.refl _ _) ((XT.ushr pp (8 : Int32)) &&& (255 : Int32)) ⟨(own_lat8 _).1, (own_lat8 _).2⟩
      · -- not
        refine og_ifN X1 30 at_27 (XT.i0_eq_f hc584) rfl ?_
        refine og_bipush X1 32 (9 : Int32) at_30 rfl rfl ?_
        refine og_goto X1 44 at_32 (by decide) (by decide) ?_
        refine og_istore X1 46 #[.val (.int pt), .val (.int pp), .val (.int ((XT.ushr pt (3 : Int32)) &&& (3 : Int32))), .val (.int u0), .val (.int 9), .unset, .unset, .unset, .unset, .unset] at_44 rfl rfl ?_
        exact J2 _ _ X1 (Keep.refl _ _) (9 : Int32) ⟨(by decide), (by decide)⟩
  · -- the ways to it
    intro J1
    refine og_iloadN X0 7 at_6 rfl rfl ?_
    refine og_iconst X0 8 (1 : Int32) at_7 rfl rfl ?_
    refine og_iand X0 9 at_8 rfl ?_
    by_cases hc585 : (pt &&& (1 : Int32)) = 0
    · -- (pt &&& (1 : Int32)) = 0
      refine og_ifY X0 17 at_9 (XT.i0_eq_t hc585) (by decide) (by decide) ?_
      refine og_iloadN X0 18 at_17 rfl rfl ?_
      refine og_sipush X0 21 (255 : Int32) at_18 rfl rfl ?_
      refine og_iand X0 22 at_21 rfl ?_
      refine og_i2c8 X0 23 at_22 rfl ?_
      refine og_istoreN X0 24 #[.val (.int pt), .val (.int pp), .val (.int ((XT.ushr pt (3 : Int32)) &&& (3 : Int32))), .val (.int (pp &&& (255 : Int32))), .unset, .unset, .unset, .unset, .unset, .unset] at_23 rfl rfl ?_
      exact J1 _ _ X0 (Keep.refl _ _) (pp &&& (255 : Int32)) ⟨(own_lat8 _).1, (own_lat8 _).2⟩
    · -- not
      refine og_ifN X0 12 at_9 (XT.i0_eq_f hc585) rfl ?_
      refine og_bipush X0 14 (9 : Int32) at_12 rfl rfl ?_
      refine og_goto X0 23 at_14 (by decide) (by decide) ?_
      refine og_istoreN X0 24 #[.val (.int pt), .val (.int pp), .val (.int ((XT.ushr pt (3 : Int32)) &&& (3 : Int32))), .val (.int 9), .unset, .unset, .unset, .unset, .unset, .unset] at_23 rfl rfl ?_
      exact J1 _ _ X0 (Keep.refl _ _) (9 : Int32) ⟨(by decide), (by decide)⟩
end OwnWalks
theorem own_held {s : State} {own : String} {i : Nat} (h : constHeld s own i) : Jvm.Lit.constHeld s own i := h
set_option maxRecDepth 65536 in
set_option maxHeartbeats 40000000 in
theorem comes_1 {Post : Tables → Env → Array Value → State → Outcome → State → Prop} (hpost : ∀ tb e args s v u, (limb_1_1.after args s (.returned v) u = true ∧ limb_1_2.after args s (.returned v) u = true ∧ True) → Jvm.ReturnedEndW s (.returned v) u (Jvm.fieldLocs frame_1_writes args s ++ Jvm.arrayLocs frame_1_arrays args s ++ Jvm.staticLocs frame_1_statics s) 32 2176 → Post tb e args s (.returned v) u) :
    ArmFor flags0 classFile x code maxLocals ret World_1 tables_1 room_1 Calls_1 rest_1 Pre_1 Post := by
  intro l hfl _ _ p e ha hc hk s m args below hf hA hF happ hP
  obtain ⟨hcalls, hrest, hpre⟩ := hP
  obtain ⟨-, -, -, hnamed, -, -, -, hat⟩ := (Spec.applies_iff hf).mp happ
  obtain ⟨hg, hn⟩ := and_e (Cond.before_iff.mp (show (Jvm.Cond.and given_1 narrow_1).before args s = true from hpre))
  obtain ⟨hcount, g0⟩ := and_e hg
  obtain ⟨i0, g1⟩ := and_e g0
  have i1 := g1
  obtain ⟨w0, w1, rfl⟩ : ∃ w0 w1 : Value, args = #[w0, w1] := by
    have hs : args.size = 2 := by simpa [Cond.value, given_1] using hcount
    obtain ⟨L⟩ := args
    match L, hs with
    | [w0, w1], _ => exact ⟨w0, w1, rfl⟩
  have hw := fun d (hd : d ∈ tables_1) => atoms_spec (ws := Jvm.Cond.code x code maxLocals ret :: tables_1) hat d (List.mem_cons_of_mem _ hd)
  obtain ⟨hsets, hown0⟩ := atoms_of _ (rest_1_c_eq ▸ (show rest_1_c.before _ s = true from hrest))
  obtain ⟨x0, e0⟩ := is_v i0
  obtain rfl : w0 = (.int x0) := Option.some.inj e0
  obtain ⟨x1, e1⟩ := is_v i1
  obtain rfl : w1 = (.int x1) := Option.some.inj e1
  have hEL : EW s #[(.int x0), (.int x1)] own_EL := (EW.cons (ow hw 18 rfl) (by decide) (EW.cons (ow hw 120 rfl) (by decide) EW.nil))
  obtain ⟨r0, f0⟩ := is_v (Cond.before_iff.mp (hsets _ (om 1 rfl)))
  have t0 : own_sti s "java/lang/String" "COMPACT_STRINGS" "Z" = r0 := own_sti_of f0
  have S0 := Sta.start f0 (Or.inl (hsets _ (om 0 rfl)))
  have c0 : ¬ (r0 = (0 : Int32)) := gotF (Cond.eq_ints f0 (Term.int_eval (0))) (not_v (Cond.before_iff.mp (hsets _ (om 2 rfl))))
  obtain ⟨r1, f1, k1⟩ := isR_v (Cond.before_iff.mp (hsets _ (om 8 rfl)))
  have t1 : own_stv s "jdk/internal/util/Preconditions" "SIOOBE_FORMATTER" "Ljava/util/function/BiFunction;" = r1 := own_stv_of f1
  have S1 := Sta.start f1 (Or.inl (hsets _ (om 7 rfl)))
  have hWd : OWorld s #[(.int x0), (.int x1)] := ⟨hEL, ⟨by rw [t0]; exact S0, by rw [t0]; exact c0⟩, ⟨by rw [t1]; exact S1, by rw [t1]; exact k1⟩⟩
  have hCH : CHv s own_EL s.vm s.heap := CHv.start hEL (fun p hp => own_held (hcalls.1 p hp)) (by have := (hsets _ (om 2 rfl)); exact this) (ow hw 19 rfl) (ow hw 5 rfl)
  obtain ⟨n, o, h1, h2, h3, v, L, rfl, ⟨N, -, hQ⟩, -, hqW, hqN⟩ := rm0 l s s.heap.size s.heap tables_1 _ hw hWd (Old.start s) x0 x1 p e ha hc hk s m _ below hf ((Spec.applies_iff_loose hf).mp happ).1 ⟨rfl, State.Warmed39.refl s, rfl, hCH, fun _ q => nomatch q⟩ trivial
  obtain rfl := hQ
  refine ⟨n, _, h1, h2, h3, hpost _ _ _ _ _ _ ⟨Cond.after_iff.mpr rfl, Cond.after_iff.mpr (eq_i res_at (Term.int_eval (1)) rfl), trivial⟩ ⟨hqW.1, hqW.2.1, hqW.2.2.1, (hqW.2.2.2.sift fun y hy => Or.inr (N y hy)).mono (by decide) (by decide)⟩⟩
theorem main_1_1 : Claimed_1_1 := comes_1 fun _ _ _ _ _ _ h hF => ⟨h.1, hF⟩
theorem main_1_2 : Claimed_1_2 := comes_1 fun _ _ _ _ _ _ h hF => ⟨h.2.1, hF⟩
end Jvm.Pilot.@@N@@
namespace Jvm.Pilot.@@N@@
open Jvm Jvm.ClassFile Sem Op Lib Jvm.Free Jvm.Stand Jvm.Pilot.@@N@@.Jvm.D
/-! MADE BY PROGRAM (witnessworld.py) out of the Statement's table words and the real class files: 23 classes; the members and pool entries that the words name. The judged class is class 1, her method 1. -/
namespace start1
open Jvm.ClassFile
def u (s : String) : CpInfo := .utf8 (stringToUtf16 s)
/-- a pool by its gaps: so many unusable entries, then the entry; so many at the end -/
def gap : Nat → List CpInfo → List CpInfo
  | 0, r => r
  | n + 1, r => .unusable :: gap n r
def poolList (es : List (Nat × CpInfo)) (last : Nat) : List CpInfo := es.foldr (fun e r => gap e.1 (e.2 :: r)) (gap last [])
def pool (es : List (Nat × CpInfo)) (last : Nat) : Array CpInfo := ⟨poolList es last⟩
def fileOf (pool : Array CpInfo) (this : Nat) (attrs : Array Attribute := #[]) (ms : Array MethodInfo := #[]) (fl : Nat := 33) (sup : Nat := 0) (ifs : Array Nat := #[]) (fds : Array FieldInfo := #[]) : ClassFile where
  minorVersion := 0
  majorVersion := 65
  constantPool := pool
  accessFlags := fl
  thisClass := this
  superClass := sup
  interfaces := ifs
  fields := fds
  methods := ms
  attributes := attrs
def plain (name : String) (sup : Option ClassId) : Class where
  name := name
  kind := .ordinary
  loader := none
  accessFlags := 33
  super := sup
  interfaces := #[]
  cf := none
  fields := #[]
  methods := #[]
  instanceTypes := #[]
  staticTypes := #[]
  resolved := #[]
  callSites := []
  init := .initialized
  statics := none
  mirror := none

def pool0 : Array CpInfo := pool [(5, u "<init>"), (0, u "()V"), (1, .class_ 10), (1, u "java/lang/Object")] 113

def k0c0 : Code := { maxStack := 0, maxLocals := 1, code := object_method_1_code, exceptionTable := #[], attributes := #[] }
def k0m0 : Method := { name := "<init>", desc := "()V", sig := { parameters := [], returnType := none }, accessFlags := 1, code := some k0c0 }
/-- java/lang/Object -/
def k0 : Class := { plain "java/lang/Object" none with
  accessFlags := 33
  interfaces := #[]
  cf := some (fileOf pool0 8 #[] #[{ accessFlags := 1, nameIndex := 5, descriptorIndex := 6, attributes := #[] }] 33 0 #[] #[])
  fields := #[]
  methods := #[k0m0]
  instanceTypes := #[]
  staticTypes := #[]
  resolved := Array.replicate 124 none
  statics := none }

def pool1 : Array CpInfo := pool [(2, .class_ 4), (1, u "java/lang/Object"), (0, u "<init>"), (0, u "()V"), (0, .methodref 8 9), (0, .class_ 10), (0, .nameAndType 11 12), (0, u "com/example/ratable/ratable/core/FieldsMorePinLaw"), (0, u "line"), (0, u "(ICCC)Ljava/lang/String;"), (0, .methodref 8 14), (0, .nameAndType 15 16), (0, u "tab"), (0, u "(ZC)I"), (0, .class_ 18), (0, u "com/example/ratable/ratable/core/JournalSums$Fields"), (0, .methodref 17 20), (0, .nameAndType 5 21), (0, u "(Ljava/lang/String;)V"), (0, .methodref 17 23), (0, .nameAndType 24 25), (0, u "more"), (0, u "()Z"), (0, .methodref 17 27), (0, .nameAndType 28 29), (0, u "text"), (0, u "()Ljava/lang/String;"), (0, .class_ 31), (0, u "java/lang/String"), (0, .methodref 30 33), (0, .nameAndType 5 34), (0, u "([C)V"), (2, u "law"), (0, u "(II)Z")] 7

def k1m0 : Method := { name := "<init>", desc := "()V", sig := { parameters := [], returnType := none }, accessFlags := 1, code := none }
def k1c1 : Code := { maxStack := 4, maxLocals := 10, code := code, exceptionTable := #[], attributes := #[] }
def k1m1 : Method := { name := "law", desc := "(II)Z", sig := { parameters := [.int, .int], returnType := some .boolean }, accessFlags := 9, code := some k1c1 }
def k1c2 : Code := { maxStack := 2, maxLocals := 2, code := method_3_code, exceptionTable := #[], attributes := #[] }
def k1m2 : Method := { name := "tab", desc := "(ZC)I", sig := { parameters := [.boolean, .char], returnType := some .int }, accessFlags := 10, code := some k1c2 }
def k1c3 : Code := { maxStack := 6, maxLocals := 4, code := method_4_code, exceptionTable := #[], attributes := #[] }
def k1m3 : Method := { name := "line", desc := "(ICCC)Ljava/lang/String;", sig := { parameters := [.int, .char, .char, .char], returnType := some (.object "java/lang/String") }, accessFlags := 10, code := some k1c3 }
/-- com/example/ratable/ratable/core/FieldsMorePinLaw -/
def k1 : Class := { plain "com/example/ratable/ratable/core/FieldsMorePinLaw" (some 0) with
  accessFlags := 49
  interfaces := #[]
  cf := some (fileOf pool1 8 #[] #[{ accessFlags := 1, nameIndex := 5, descriptorIndex := 6, attributes := #[] }, { accessFlags := 9, nameIndex := 37, descriptorIndex := 38, attributes := #[] }, { accessFlags := 10, nameIndex := 15, descriptorIndex := 16, attributes := #[] }, { accessFlags := 10, nameIndex := 11, descriptorIndex := 12, attributes := #[] }] 49 2 #[] #[])
  fields := #[]
  methods := #[k1m0, k1m1, k1m2, k1m3]
  instanceTypes := #[]
  staticTypes := #[]
  resolved := Array.replicate 46 none
  statics := none }

def pool2 : Array CpInfo := pool [(1, .class_ 2), (0, u "java/io/Serializable"), (0, .class_ 4), (0, u "java/lang/Object")] 2

/-- java/io/Serializable -/
def k2 : Class := { plain "java/io/Serializable" (some 0) with
  accessFlags := 1537
  interfaces := #[]
  cf := some (fileOf pool2 1 #[] #[] 1537 3 #[] #[])
  fields := #[]
  methods := #[]
  instanceTypes := #[]
  staticTypes := #[]
  resolved := Array.replicate 7 none
  statics := none }

def pool3 : Array CpInfo := pool [(1, .class_ 2), (0, u "java/lang/Comparable"), (0, .class_ 4), (0, u "java/lang/Object")] 7

/-- java/lang/Comparable -/
def k3 : Class := { plain "java/lang/Comparable" (some 0) with
  accessFlags := 1537
  interfaces := #[]
  cf := some (fileOf pool3 1 #[] #[] 1537 3 #[] #[])
  fields := #[]
  methods := #[]
  instanceTypes := #[]
  staticTypes := #[]
  resolved := Array.replicate 12 none
  statics := none }

def pool4 : Array CpInfo := pool [(2, .class_ 4), (1, u "java/lang/CharSequence"), (42, .class_ 48), (0, u "java/lang/CharSequence$1CodePointIterator"), (10, .class_ 60), (0, u "java/lang/CharSequence$1CharIterator"), (5, .class_ 67), (0, u "java/lang/Object")] 63

/-- java/lang/CharSequence -/
def k4 : Class := { plain "java/lang/CharSequence" (some 0) with
  accessFlags := 1537
  interfaces := #[]
  cf := some (fileOf pool4 2 #[.nestMembers #[47, 59]] #[] 1537 66 #[] #[])
  fields := #[]
  methods := #[]
  instanceTypes := #[]
  staticTypes := #[]
  resolved := Array.replicate 131 none
  statics := none }

def pool5 : Array CpInfo := pool [(1, .class_ 2), (0, u "java/lang/constant/Constable"), (0, .class_ 4), (0, u "java/lang/Object")] 6

/-- java/lang/constant/Constable -/
def k5 : Class := { plain "java/lang/constant/Constable" (some 0) with
  accessFlags := 1537
  interfaces := #[]
  cf := some (fileOf pool5 1 #[] #[] 1537 3 #[] #[])
  fields := #[]
  methods := #[]
  instanceTypes := #[]
  staticTypes := #[]
  resolved := Array.replicate 11 none
  statics := none }

def pool6 : Array CpInfo := pool [(1, .class_ 2), (0, u "java/lang/constant/ConstantDesc"), (0, .class_ 4), (0, u "java/lang/Object")] 32

/-- java/lang/constant/ConstantDesc -/
def k6 : Class := { plain "java/lang/constant/ConstantDesc" (some 0) with
  accessFlags := 1537
  interfaces := #[]
  cf := some (fileOf pool6 1 #[] #[] 1537 3 #[] #[])
  fields := #[]
  methods := #[]
  instanceTypes := #[]
  staticTypes := #[]
  resolved := Array.replicate 37 none
  statics := none }

def pool7 : Array CpInfo := pool [(1, .methodref 2 3), (0, .class_ 4), (0, .nameAndType 5 6), (0, u "java/lang/Object"), (0, u "<init>"), (0, u "()V"), (0, .string 8), (0, u ""), (0, .fieldref 10 11), (0, .class_ 12), (0, .nameAndType 13 14), (0, u "java/lang/String"), (0, u "value"), (0, u "[B"), (0, .fieldref 10 16), (0, .nameAndType 17 18), (0, u "coder"), (0, u "B"), (2, u "hash"), (0, u "I"), (2, u "hashIsZero"), (0, u "Z"), (0, .methodref 10 28), (0, .nameAndType 5 29), (0, u "([CIILjava/lang/Void;)V"), (8, .fieldref 10 39), (0, .nameAndType 40 26), (0, u "COMPACT_STRINGS"), (1, .class_ 44), (1, u "java/lang/StringUTF16"), (0, u "compress"), (1, .methodref 42 48), (0, .nameAndType 49 50), (0, u "coderFromArrayLen"), (0, u "([BI)B"), (56, .class_ 109), (1, u "java/lang/StringLatin1"), (32, u "()Z"), (34, .methodref 42 178), (0, .nameAndType 45 179), (0, u "([CII)[B"), (31, u "([BB)V"), (122, u "()I"), (0, .methodref 10 336), (0, .nameAndType 17 337), (0, u "()B"), (154, .methodref 10 493), (0, .nameAndType 494 142), (0, u "isLatin1"), (10, .methodref 10 506), (0, .nameAndType 507 334), (0, u "length"), (5, u "checkFromToIndex"), (7, .methodref 10 522), (0, .nameAndType 523 524), (0, u "checkBoundsBeginEnd"), (0, u "(III)V"), (50, .class_ 576), (0, u "java/lang/CharSequence"), (22, u "CASE_INSENSITIVE_ORDER"), (0, u "Ljava/util/Comparator;"), (34, u "indexOf"), (0, u "(II)I"), (0, .methodref 107 638), (0, .nameAndType 635 639), (0, u "([BIII)I"), (43, u "substring"), (0, u "(II)Ljava/lang/String;"), (0, .methodref 107 686), (0, .nameAndType 687 688), (0, u "newString"), (0, u "([BII)Ljava/lang/String;"), (321, u "([C)V"), (42, .fieldref 1054 1055), (0, .class_ 1056), (0, .nameAndType 1057 1058), (0, u "jdk/internal/util/Preconditions"), (0, u "SIOOBE_FORMATTER"), (0, u "Ljava/util/function/BiFunction;"), (3, .methodref 1054 1063), (0, .nameAndType 513 1064), (0, u "(IIILjava/util/function/BiFunction;)I"), (36, u "serialPersistentFields"), (0, u "[Ljava/io/ObjectStreamField;"), (0, .class_ 1104), (0, u "java/lang/String$CaseInsensitiveComparator"), (1, .class_ 1107), (0, u "java/io/Serializable"), (0, .class_ 1109), (0, u "java/lang/Comparable"), (0, .class_ 1111), (0, u "java/lang/constant/Constable"), (0, .class_ 1113), (0, u "java/lang/constant/ConstantDesc"), (2, u "serialVersionUID"), (0, u "J"), (3, u "REPL"), (0, u "C"), (2, u "LATIN1"), (1, u "UTF16")] 323

def k7m0 : Method := { name := "<init>", desc := "()V", sig := { parameters := [], returnType := none }, accessFlags := 1, code := none }
def k7c1 : Code := { maxStack := 5, maxLocals := 2, code := jdk_42_method_3_code, exceptionTable := #[], attributes := #[] }
def k7m1 : Method := { name := "<init>", desc := "([C)V", sig := { parameters := [(.array .char)], returnType := none }, accessFlags := 1, code := some k7c1 }
def k7c2 : Code := { maxStack := 2, maxLocals := 1, code := jdk_42_method_54_code, exceptionTable := #[], attributes := #[] }
def k7m2 : Method := { name := "length", desc := "()I", sig := { parameters := [], returnType := some .int }, accessFlags := 1, code := some k7c2 }
def k7c3 : Code := { maxStack := 4, maxLocals := 3, code := jdk_42_method_80_code, exceptionTable := #[], attributes := #[] }
def k7m3 : Method := { name := "indexOf", desc := "(II)I", sig := { parameters := [.int, .int], returnType := some .int }, accessFlags := 1, code := some k7c3 }
def k7c4 : Code := { maxStack := 3, maxLocals := 5, code := jdk_42_method_92_code, exceptionTable := #[], attributes := #[] }
def k7m4 : Method := { name := "substring", desc := "(II)Ljava/lang/String;", sig := { parameters := [.int, .int], returnType := some (.object "java/lang/String") }, accessFlags := 1, code := some k7c4 }
def k7c5 : Code := { maxStack := 4, maxLocals := 6, code := jdk_42_method_149_code, exceptionTable := #[], attributes := #[] }
def k7m5 : Method := { name := "<init>", desc := "([CIILjava/lang/Void;)V", sig := { parameters := [(.array .char), .int, .int, (.object "java/lang/Void")], returnType := none }, accessFlags := 2, code := some k7c5 }
def k7c6 : Code := { maxStack := 2, maxLocals := 3, code := jdk_42_method_151_code, exceptionTable := #[], attributes := #[] }
def k7m6 : Method := { name := "<init>", desc := "([BB)V", sig := { parameters := [(.array .byte), .byte], returnType := none }, accessFlags := 0, code := some k7c6 }
def k7c7 : Code := { maxStack := 1, maxLocals := 1, code := jdk_42_method_152_code, exceptionTable := #[], attributes := #[] }
def k7m7 : Method := { name := "coder", desc := "()B", sig := { parameters := [], returnType := some .byte }, accessFlags := 0, code := some k7c7 }
def k7c8 : Code := { maxStack := 1, maxLocals := 1, code := jdk_42_method_154_code, exceptionTable := #[], attributes := #[] }
def k7m8 : Method := { name := "isLatin1", desc := "()Z", sig := { parameters := [], returnType := some .boolean }, accessFlags := 0, code := some k7c8 }
def k7c9 : Code := { maxStack := 4, maxLocals := 3, code := jdk_42_method_158_code, exceptionTable := #[], attributes := #[] }
def k7m9 : Method := { name := "checkBoundsBeginEnd", desc := "(III)V", sig := { parameters := [.int, .int, .int], returnType := none }, accessFlags := 8, code := some k7c9 }
/-- java/lang/String -/
def k7 : Class := { plain "java/lang/String" (some 0) with
  accessFlags := 49
  interfaces := #[2, 3, 4, 5, 6]
  cf := some (fileOf pool7 10 #[.nestMembers #[1103]] #[{ accessFlags := 1, nameIndex := 5, descriptorIndex := 6, attributes := #[] }, { accessFlags := 1, nameIndex := 5, descriptorIndex := 1010, attributes := #[] }, { accessFlags := 1, nameIndex := 507, descriptorIndex := 334, attributes := #[] }, { accessFlags := 1, nameIndex := 635, descriptorIndex := 636, attributes := #[] }, { accessFlags := 1, nameIndex := 683, descriptorIndex := 684, attributes := #[] }, { accessFlags := 2, nameIndex := 5, descriptorIndex := 29, attributes := #[] }, { accessFlags := 0, nameIndex := 5, descriptorIndex := 211, attributes := #[] }, { accessFlags := 0, nameIndex := 17, descriptorIndex := 337, attributes := #[] }, { accessFlags := 0, nameIndex := 494, descriptorIndex := 142, attributes := #[] }, { accessFlags := 8, nameIndex := 523, descriptorIndex := 524, attributes := #[] }] 49 2 #[1106, 1108, 575, 1110, 1112] #[{ accessFlags := 18, nameIndex := 13, descriptorIndex := 14, attributes := #[] }, { accessFlags := 18, nameIndex := 17, descriptorIndex := 18, attributes := #[] }, { accessFlags := 2, nameIndex := 21, descriptorIndex := 22, attributes := #[] }, { accessFlags := 2, nameIndex := 25, descriptorIndex := 26, attributes := #[] }, { accessFlags := 26, nameIndex := 1116, descriptorIndex := 1117, attributes := #[] }, { accessFlags := 24, nameIndex := 40, descriptorIndex := 26, attributes := #[] }, { accessFlags := 26, nameIndex := 1101, descriptorIndex := 1102, attributes := #[] }, { accessFlags := 26, nameIndex := 1121, descriptorIndex := 1122, attributes := #[] }, { accessFlags := 25, nameIndex := 599, descriptorIndex := 600, attributes := #[] }, { accessFlags := 24, nameIndex := 1125, descriptorIndex := 18, attributes := #[] }, { accessFlags := 24, nameIndex := 1127, descriptorIndex := 18, attributes := #[] }])
  fields := #[{ name := "value", type := (.array .byte), accessFlags := 18, slot := 0, constantValue := 0 }, { name := "coder", type := .byte, accessFlags := 18, slot := 1, constantValue := 0 }, { name := "hash", type := .int, accessFlags := 2, slot := 2, constantValue := 0 }, { name := "hashIsZero", type := .boolean, accessFlags := 2, slot := 3, constantValue := 0 }, { name := "serialVersionUID", type := .long, accessFlags := 26, slot := 0, constantValue := 0 }, { name := "COMPACT_STRINGS", type := .boolean, accessFlags := 24, slot := 1, constantValue := 0 }, { name := "serialPersistentFields", type := (.array (.object "java/io/ObjectStreamField")), accessFlags := 26, slot := 2, constantValue := 0 }, { name := "REPL", type := .char, accessFlags := 26, slot := 3, constantValue := 0 }, { name := "CASE_INSENSITIVE_ORDER", type := (.object "java/util/Comparator"), accessFlags := 25, slot := 4, constantValue := 0 }, { name := "LATIN1", type := .byte, accessFlags := 24, slot := 5, constantValue := 0 }, { name := "UTF16", type := .byte, accessFlags := 24, slot := 6, constantValue := 0 }]
  methods := #[k7m0, k7m1, k7m2, k7m3, k7m4, k7m5, k7m6, k7m7, k7m8, k7m9]
  instanceTypes := #[(.array .byte), .byte, .int, .boolean]
  staticTypes := #[.long, .boolean, (.array (.object "java/io/ObjectStreamField")), .char, (.object "java/util/Comparator"), .byte, .byte]
  resolved := Array.replicate 1451 none
  statics := some 0 }

def pool8 : Array CpInfo := pool [(1, .methodref 2 3), (0, .class_ 4), (0, .nameAndType 5 6), (0, u "java/lang/Object"), (0, u "<init>"), (0, u "()V"), (0, .fieldref 8 9), (0, .class_ 10), (0, .nameAndType 11 12), (0, u "com/example/ratable/ratable/core/JournalSums$Fields"), (0, u "line"), (0, u "Ljava/lang/String;"), (0, .fieldref 8 14), (0, .nameAndType 15 16), (0, u "next"), (0, u "I"), (0, .methodref 18 19), (0, .class_ 20), (0, .nameAndType 21 22), (0, u "java/lang/String"), (0, u "length"), (0, u "()I"), (0, .methodref 8 24), (0, .nameAndType 25 22), (0, u "end"), (0, .methodref 18 27), (0, .nameAndType 28 29), (0, u "substring"), (0, u "(II)Ljava/lang/String;"), (28, u "(Ljava/lang/String;)V"), (8, u "code"), (17, u "currency"), (3, u "Lcom/example/ratable/ratable/core/Currency;"), (0, .methodref 8 91), (0, .nameAndType 92 93), (0, u "more"), (0, u "()Z"), (2, .methodref 18 97), (0, .nameAndType 98 99), (0, u "indexOf"), (0, u "(II)I"), (3, u "text"), (0, u "()Ljava/lang/String;"), (7, .class_ 113), (0, u "com/example/ratable/ratable/core/JournalSums")] 2

def k8c0 : Code := { maxStack := 2, maxLocals := 2, code := prog_51_method_1_code, exceptionTable := #[], attributes := #[] }
def k8m0 : Method := { name := "<init>", desc := "(Ljava/lang/String;)V", sig := { parameters := [(.object "java/lang/String")], returnType := none }, accessFlags := 0, code := some k8c0 }
def k8c1 : Code := { maxStack := 2, maxLocals := 1, code := prog_51_method_2_code, exceptionTable := #[], attributes := #[] }
def k8m1 : Method := { name := "more", desc := "()Z", sig := { parameters := [], returnType := some .boolean }, accessFlags := 0, code := some k8c1 }
def k8c2 : Code := { maxStack := 3, maxLocals := 3, code := prog_51_method_3_code, exceptionTable := #[], attributes := #[] }
def k8m2 : Method := { name := "text", desc := "()Ljava/lang/String;", sig := { parameters := [], returnType := some (.object "java/lang/String") }, accessFlags := 0, code := some k8c2 }
def k8c3 : Code := { maxStack := 8, maxLocals := 2, code := prog_51_method_8_code, exceptionTable := #[], attributes := #[] }
def k8m3 : Method := { name := "end", desc := "()I", sig := { parameters := [], returnType := some .int }, accessFlags := 2, code := some k8c3 }
/-- com/example/ratable/ratable/core/JournalSums$Fields -/
def k8 : Class := { plain "com/example/ratable/ratable/core/JournalSums$Fields" (some 0) with
  accessFlags := 32
  interfaces := #[]
  cf := some (fileOf pool8 8 #[.nestHost 112] #[{ accessFlags := 0, nameIndex := 5, descriptorIndex := 58, attributes := #[] }, { accessFlags := 0, nameIndex := 92, descriptorIndex := 93, attributes := #[] }, { accessFlags := 0, nameIndex := 103, descriptorIndex := 104, attributes := #[] }, { accessFlags := 2, nameIndex := 25, descriptorIndex := 22, attributes := #[] }] 32 2 #[] #[{ accessFlags := 18, nameIndex := 11, descriptorIndex := 12, attributes := #[] }, { accessFlags := 2, nameIndex := 15, descriptorIndex := 16, attributes := #[] }, { accessFlags := 2, nameIndex := 67, descriptorIndex := 12, attributes := #[] }, { accessFlags := 2, nameIndex := 85, descriptorIndex := 89, attributes := #[] }])
  fields := #[{ name := "line", type := (.object "java/lang/String"), accessFlags := 18, slot := 0, constantValue := 0 }, { name := "next", type := .int, accessFlags := 2, slot := 1, constantValue := 0 }, { name := "code", type := (.object "java/lang/String"), accessFlags := 2, slot := 2, constantValue := 0 }, { name := "currency", type := (.object "com/example/ratable/ratable/core/Currency"), accessFlags := 2, slot := 3, constantValue := 0 }]
  methods := #[k8m0, k8m1, k8m2, k8m3]
  instanceTypes := #[(.object "java/lang/String"), .int, (.object "java/lang/String"), (.object "com/example/ratable/ratable/core/Currency")]
  staticTypes := #[]
  resolved := Array.replicate 116 none
  statics := none }

def pool9 : Array CpInfo := pool [(1, .class_ 2), (0, u "java/lang/String"), (1, .class_ 6), (1, u "java/lang/Object"), (0, u "<init>"), (0, u "()V"), (5, .class_ 16), (1, u "java/lang/StringLatin1"), (21, .methodref 39 40), (0, .class_ 41), (0, .nameAndType 42 43), (0, u "java/lang/Math"), (0, u "min"), (0, u "(II)I"), (44, .methodref 14 89), (0, .nameAndType 90 91), (0, u "canEncode"), (0, u "(I)Z"), (0, .methodref 39 93), (0, .nameAndType 94 43), (0, u "max"), (0, .methodref 14 96), (0, .nameAndType 97 98), (0, u "indexOfChar"), (0, u "([BIII)I"), (2, u "indexOf"), (10, .methodref 1 113), (0, .nameAndType 7 114), (0, u "([BB)V"), (6, u "$assertionsDisabled"), (0, u "Z"), (8, .class_ 133), (1, u "java/util/Arrays"), (17, .string 152), (0, u ""), (43, u "newString"), (0, u "([BII)Ljava/lang/String;"), (23, .class_ 223), (1, u "java/lang/StringLatin1$LinesSpliterator"), (8, .methodref 131 233), (0, .nameAndType 234 235), (0, u "copyOfRange"), (0, u "([BII)[B"), (154, .class_ 391), (0, u "java/lang/StringLatin1$CharsSpliterator")] 3

def k9m0 : Method := { name := "<init>", desc := "()V", sig := { parameters := [], returnType := none }, accessFlags := 0, code := none }
def k9c1 : Code := { maxStack := 2, maxLocals := 1, code := jdk_43_method_4_code, exceptionTable := #[], attributes := #[] }
def k9m1 : Method := { name := "canEncode", desc := "(I)Z", sig := { parameters := [.int], returnType := some .boolean }, accessFlags := 9, code := some k9c1 }
def k9c2 : Code := { maxStack := 4, maxLocals := 4, code := jdk_43_method_22_code, exceptionTable := #[], attributes := #[] }
def k9m2 : Method := { name := "indexOf", desc := "([BIII)I", sig := { parameters := [(.array .byte), .int, .int, .int], returnType := some .int }, accessFlags := 9, code := some k9c2 }
def k9c3 : Code := { maxStack := 2, maxLocals := 6, code := jdk_43_method_23_code, exceptionTable := #[], attributes := #[] }
def k9m3 : Method := { name := "indexOfChar", desc := "([BIII)I", sig := { parameters := [(.array .byte), .int, .int, .int], returnType := some .int }, accessFlags := 10, code := some k9c3 }
def k9c4 : Code := { maxStack := 6, maxLocals := 3, code := jdk_43_method_47_code, exceptionTable := #[], attributes := #[] }
def k9m4 : Method := { name := "newString", desc := "([BII)Ljava/lang/String;", sig := { parameters := [(.array .byte), .int, .int], returnType := some (.object "java/lang/String") }, accessFlags := 9, code := some k9c4 }
/-- java/lang/StringLatin1 -/
def k9 : Class := { plain "java/lang/StringLatin1" (some 0) with
  accessFlags := 48
  interfaces := #[]
  cf := some (fileOf pool9 14 #[.nestMembers #[390, 221]] #[{ accessFlags := 0, nameIndex := 7, descriptorIndex := 8, attributes := #[] }, { accessFlags := 9, nameIndex := 90, descriptorIndex := 91, attributes := #[] }, { accessFlags := 9, nameIndex := 101, descriptorIndex := 98, attributes := #[] }, { accessFlags := 10, nameIndex := 97, descriptorIndex := 98, attributes := #[] }, { accessFlags := 9, nameIndex := 196, descriptorIndex := 197, attributes := #[] }] 48 4 #[] #[{ accessFlags := 4120, nameIndex := 121, descriptorIndex := 122, attributes := #[] }])
  fields := #[{ name := "$assertionsDisabled", type := .boolean, accessFlags := 4120, slot := 0, constantValue := 0 }]
  methods := #[k9m0, k9m1, k9m2, k9m3, k9m4]
  instanceTypes := #[]
  staticTypes := #[.boolean]
  resolved := Array.replicate 395 none
  statics := none }

def pool10 : Array CpInfo := pool [(1, .class_ 2), (0, u "java/lang/Math"), (1, .class_ 6), (1, u "java/lang/Object"), (0, u "<init>"), (0, u "()V"), (89, .class_ 100), (1, u "java/lang/Math$RandomNumberGeneratorHolder"), (71, u "negativeZeroFloatBits"), (0, u "J"), (2, u "negativeZeroDoubleBits"), (21, u "max"), (2, u "min"), (43, u "$assertionsDisabled"), (0, u "Z"), (88, u "(II)I"), (2, u "twoToTheDoubleScaleDown"), (0, u "D"), (4, u "twoToTheDoubleScaleUp"), (9, u "E"), (3, u "PI"), (2, u "TAU"), (2, u "DEGREES_TO_RADIANS"), (0, u "RADIANS_TO_DEGREES")] 94

def k10m0 : Method := { name := "<init>", desc := "()V", sig := { parameters := [], returnType := none }, accessFlags := 2, code := none }
def k10c1 : Code := { maxStack := 2, maxLocals := 2, code := jdk_29_method_65_code, exceptionTable := #[], attributes := #[] }
def k10m1 : Method := { name := "max", desc := "(II)I", sig := { parameters := [.int, .int], returnType := some .int }, accessFlags := 9, code := some k10c1 }
def k10c2 : Code := { maxStack := 2, maxLocals := 2, code := jdk_29_method_69_code, exceptionTable := #[], attributes := #[] }
def k10m2 : Method := { name := "min", desc := "(II)I", sig := { parameters := [.int, .int], returnType := some .int }, accessFlags := 9, code := some k10c2 }
/-- java/lang/Math -/
def k10 : Class := { plain "java/lang/Math" (some 0) with
  accessFlags := 49
  interfaces := #[]
  cf := some (fileOf pool10 1 #[.nestMembers #[98]] #[{ accessFlags := 2, nameIndex := 7, descriptorIndex := 8, attributes := #[] }, { accessFlags := 9, nameIndex := 198, descriptorIndex := 335, attributes := #[] }, { accessFlags := 9, nameIndex := 201, descriptorIndex := 335, attributes := #[] }] 49 4 #[] #[{ accessFlags := 25, nameIndex := 354, descriptorIndex := 339, attributes := #[] }, { accessFlags := 25, nameIndex := 358, descriptorIndex := 339, attributes := #[] }, { accessFlags := 25, nameIndex := 361, descriptorIndex := 339, attributes := #[] }, { accessFlags := 26, nameIndex := 364, descriptorIndex := 339, attributes := #[] }, { accessFlags := 26, nameIndex := 365, descriptorIndex := 339, attributes := #[] }, { accessFlags := 26, nameIndex := 172, descriptorIndex := 173, attributes := #[] }, { accessFlags := 26, nameIndex := 176, descriptorIndex := 173, attributes := #[] }, { accessFlags := 8, nameIndex := 344, descriptorIndex := 339, attributes := #[] }, { accessFlags := 8, nameIndex := 338, descriptorIndex := 339, attributes := #[] }, { accessFlags := 4120, nameIndex := 245, descriptorIndex := 246, attributes := #[] }])
  fields := #[{ name := "E", type := .double, accessFlags := 25, slot := 0, constantValue := 0 }, { name := "PI", type := .double, accessFlags := 25, slot := 1, constantValue := 0 }, { name := "TAU", type := .double, accessFlags := 25, slot := 2, constantValue := 0 }, { name := "DEGREES_TO_RADIANS", type := .double, accessFlags := 26, slot := 3, constantValue := 0 }, { name := "RADIANS_TO_DEGREES", type := .double, accessFlags := 26, slot := 4, constantValue := 0 }, { name := "negativeZeroFloatBits", type := .long, accessFlags := 26, slot := 5, constantValue := 0 }, { name := "negativeZeroDoubleBits", type := .long, accessFlags := 26, slot := 6, constantValue := 0 }, { name := "twoToTheDoubleScaleUp", type := .double, accessFlags := 8, slot := 7, constantValue := 0 }, { name := "twoToTheDoubleScaleDown", type := .double, accessFlags := 8, slot := 8, constantValue := 0 }, { name := "$assertionsDisabled", type := .boolean, accessFlags := 4120, slot := 9, constantValue := 0 }]
  methods := #[k10m0, k10m1, k10m2]
  instanceTypes := #[]
  staticTypes := #[.double, .double, .double, .double, .double, .long, .long, .double, .double, .boolean]
  resolved := Array.replicate 460 none
  statics := none }

def pool11 : Array CpInfo := pool [(2, .class_ 4), (1, u "java/lang/Object"), (0, u "<init>"), (0, u "()V"), (17, .class_ 26), (1, u "jdk/internal/util/Preconditions"), (20, u "checkFromToIndex"), (7, .class_ 56), (0, u "jdk/internal/util/Preconditions$4"), (57, .class_ 115), (0, u "jdk/internal/util/Preconditions$1"), (7, u "SIOOBE_FORMATTER"), (0, u "Ljava/util/function/BiFunction;"), (0, .class_ 126), (0, u "jdk/internal/util/Preconditions$2"), (3, u "AIOOBE_FORMATTER"), (0, .class_ 132), (0, u "jdk/internal/util/Preconditions$3"), (3, u "IOOBE_FORMATTER"), (46, u "(IIILjava/util/function/BiFunction;)I")] 10

def k11m0 : Method := { name := "<init>", desc := "()V", sig := { parameters := [], returnType := none }, accessFlags := 1, code := none }
def k11c1 : Code := { maxStack := 4, maxLocals := 4, code := jdk_41_method_12_code, exceptionTable := #[], attributes := #[] }
def k11m1 : Method := { name := "checkFromToIndex", desc := "(IIILjava/util/function/BiFunction;)I", sig := { parameters := [.int, .int, .int, (.object "java/util/function/BiFunction")], returnType := some .int }, accessFlags := 9, code := some k11c1 }
/-- jdk/internal/util/Preconditions -/
def k11 : Class := { plain "jdk/internal/util/Preconditions" (some 0) with
  accessFlags := 33
  interfaces := #[]
  cf := some (fileOf pool11 24 #[.nestMembers #[55, 131, 125, 114]] #[{ accessFlags := 1, nameIndex := 5, descriptorIndex := 6, attributes := #[] }, { accessFlags := 9, nameIndex := 47, descriptorIndex := 183, attributes := #[] }] 33 2 #[] #[{ accessFlags := 25, nameIndex := 123, descriptorIndex := 124, attributes := #[] }, { accessFlags := 25, nameIndex := 130, descriptorIndex := 124, attributes := #[] }, { accessFlags := 25, nameIndex := 136, descriptorIndex := 124, attributes := #[] }])
  fields := #[{ name := "SIOOBE_FORMATTER", type := (.object "java/util/function/BiFunction"), accessFlags := 25, slot := 0, constantValue := 0 }, { name := "AIOOBE_FORMATTER", type := (.object "java/util/function/BiFunction"), accessFlags := 25, slot := 1, constantValue := 0 }, { name := "IOOBE_FORMATTER", type := (.object "java/util/function/BiFunction"), accessFlags := 25, slot := 2, constantValue := 0 }]
  methods := #[k11m0, k11m1]
  instanceTypes := #[]
  staticTypes := #[(.object "java/util/function/BiFunction"), (.object "java/util/function/BiFunction"), (.object "java/util/function/BiFunction")]
  resolved := Array.replicate 194 none
  statics := some 1 }

def pool12 : Array CpInfo := pool [(6, .class_ 8), (1, u "java/lang/Object"), (0, u "<init>"), (0, u "()V"), (1, .class_ 14), (1, u "java/lang/StringUTF16"), (31, u "$assertionsDisabled"), (0, u "Z"), (13, u "HI_BYTE_SHIFT"), (0, u "I"), (2, u "LO_BYTE_SHIFT"), (49, .methodref 12 116), (0, .nameAndType 117 118), (0, u "compress"), (0, u "([CI[BII)I"), (3, u "([CII)[B"), (138, u "coderFromArrayLen"), (0, u "([BI)B"), (106, .class_ 371), (1, u "java/lang/StringUTF16$LinesSpliterator"), (58, u "MAX_LENGTH"), (196, .class_ 628), (0, u "java/lang/StringUTF16$CodePointsSpliterator"), (0, .class_ 630), (0, u "java/lang/StringUTF16$CharsSpliterator")] 4

def k12m0 : Method := { name := "<init>", desc := "()V", sig := { parameters := [], returnType := none }, accessFlags := 0, code := none }
def k12c1 : Code := { maxStack := 2, maxLocals := 2, code := jdk_52_method_15_code, exceptionTable := #[], attributes := #[] }
def k12m1 : Method := { name := "coderFromArrayLen", desc := "([BI)B", sig := { parameters := [(.array .byte), .int], returnType := some .byte }, accessFlags := 8, code := some k12c1 }
def k12c2 : Code := { maxStack := 5, maxLocals := 6, code := jdk_52_method_16_code, exceptionTable := #[], attributes := #[] }
def k12m2 : Method := { name := "compress", desc := "([CII)[B", sig := { parameters := [(.array .char), .int, .int], returnType := some (.array .byte) }, accessFlags := 9, code := some k12c2 }
def k12c3 : Code := { maxStack := 3, maxLocals := 7, code := jdk_52_method_21_code, exceptionTable := #[], attributes := #[] }
def k12m3 : Method := { name := "compress", desc := "([CI[BII)I", sig := { parameters := [(.array .char), .int, (.array .byte), .int, .int], returnType := some .int }, accessFlags := 9, code := some k12c3 }
/-- java/lang/StringUTF16 -/
def k12 : Class := { plain "java/lang/StringUTF16" (some 0) with
  accessFlags := 48
  interfaces := #[]
  cf := some (fileOf pool12 12 #[.nestMembers #[627, 629, 369]] #[{ accessFlags := 0, nameIndex := 9, descriptorIndex := 10, attributes := #[] }, { accessFlags := 8, nameIndex := 261, descriptorIndex := 262, attributes := #[] }, { accessFlags := 9, nameIndex := 117, descriptorIndex := 122, attributes := #[] }, { accessFlags := 9, nameIndex := 117, descriptorIndex := 118, attributes := #[] }] 48 6 #[] #[{ accessFlags := 26, nameIndex := 61, descriptorIndex := 62, attributes := #[] }, { accessFlags := 26, nameIndex := 65, descriptorIndex := 62, attributes := #[] }, { accessFlags := 24, nameIndex := 430, descriptorIndex := 62, attributes := #[] }, { accessFlags := 4120, nameIndex := 46, descriptorIndex := 47, attributes := #[] }])
  fields := #[{ name := "HI_BYTE_SHIFT", type := .int, accessFlags := 26, slot := 0, constantValue := 0 }, { name := "LO_BYTE_SHIFT", type := .int, accessFlags := 26, slot := 1, constantValue := 0 }, { name := "MAX_LENGTH", type := .int, accessFlags := 24, slot := 2, constantValue := 0 }, { name := "$assertionsDisabled", type := .boolean, accessFlags := 4120, slot := 3, constantValue := 0 }]
  methods := #[k12m0, k12m1, k12m2, k12m3]
  instanceTypes := #[]
  staticTypes := #[.int, .int, .int, .boolean]
  resolved := Array.replicate 635 none
  statics := none }

def pool13 : Array CpInfo := pool [(2, .class_ 4), (1, u "java/lang/Object"), (0, u "<init>"), (0, u "()V"), (7, .class_ 16), (1, u "java/util/Arrays"), (57, .class_ 76), (1, u "java/util/Arrays$NaturalOrder"), (36, .class_ 115), (1, u "java/util/Arrays$LegacyMergeSort"), (1, u "Z"), (21, u "copyOfRange"), (10, .methodref 151 152), (0, .class_ 153), (0, .nameAndType 154 155), (0, u "java/lang/System"), (0, u "arraycopy"), (0, u "(Ljava/lang/Object;ILjava/lang/Object;II)V"), (148, .methodref 305 306), (0, .class_ 307), (0, .nameAndType 308 309), (0, u "java/lang/Math"), (0, u "min"), (0, u "(II)I"), (29, .methodref 14 340), (0, .nameAndType 341 342), (0, u "copyOfRangeByte"), (0, u "([BII)[B"), (0, .methodref 14 344), (0, .nameAndType 345 346), (0, u "checkLength"), (0, u "(II)V"), (28, .class_ 376), (0, u "java/util/Arrays$ArrayList"), (68, u "$assertionsDisabled"), (269, u "MIN_ARRAY_SORT_GRAN"), (0, u "I"), (2, u "INSERTIONSORT_THRESHOLD"), (255, .class_ 976), (0, u "java/util/Arrays$ArrayItr")] 52

def k13m0 : Method := { name := "<init>", desc := "()V", sig := { parameters := [], returnType := none }, accessFlags := 2, code := none }
def k13c1 : Code := { maxStack := 4, maxLocals := 2, code := jdk_65_method_131_code, exceptionTable := #[], attributes := #[] }
def k13m1 : Method := { name := "checkLength", desc := "(II)V", sig := { parameters := [.int, .int], returnType := none }, accessFlags := 10, code := some k13c1 }
def k13c2 : Code := { maxStack := 3, maxLocals := 3, code := jdk_65_method_132_code, exceptionTable := #[], attributes := #[] }
def k13m2 : Method := { name := "copyOfRange", desc := "([BII)[B", sig := { parameters := [(.array .byte), .int, .int], returnType := some (.array .byte) }, accessFlags := 9, code := some k13c2 }
def k13c3 : Code := { maxStack := 6, maxLocals := 5, code := jdk_65_method_133_code, exceptionTable := #[], attributes := #[] }
def k13m3 : Method := { name := "copyOfRangeByte", desc := "([BII)[B", sig := { parameters := [(.array .byte), .int, .int], returnType := some (.array .byte) }, accessFlags := 10, code := some k13c3 }
/-- java/util/Arrays -/
def k13 : Class := { plain "java/util/Arrays" (some 0) with
  accessFlags := 49
  interfaces := #[]
  cf := some (fileOf pool13 14 #[.nestMembers #[975, 375, 113, 74]] #[{ accessFlags := 2, nameIndex := 5, descriptorIndex := 6, attributes := #[] }, { accessFlags := 10, nameIndex := 345, descriptorIndex := 346, attributes := #[] }, { accessFlags := 9, nameIndex := 139, descriptorIndex := 342, attributes := #[] }, { accessFlags := 10, nameIndex := 341, descriptorIndex := 342, attributes := #[] }] 49 2 #[] #[{ accessFlags := 26, nameIndex := 715, descriptorIndex := 716, attributes := #[] }, { accessFlags := 26, nameIndex := 719, descriptorIndex := 716, attributes := #[] }, { accessFlags := 4120, nameIndex := 445, descriptorIndex := 117, attributes := #[] }])
  fields := #[{ name := "MIN_ARRAY_SORT_GRAN", type := .int, accessFlags := 26, slot := 0, constantValue := 0 }, { name := "INSERTIONSORT_THRESHOLD", type := .int, accessFlags := 26, slot := 1, constantValue := 0 }, { name := "$assertionsDisabled", type := .boolean, accessFlags := 4120, slot := 2, constantValue := 0 }]
  methods := #[k13m0, k13m1, k13m2, k13m3]
  instanceTypes := #[]
  staticTypes := #[.int, .int, .boolean]
  resolved := Array.replicate 1029 none
  statics := none }

def pool14 : Array CpInfo := pool [(2, .class_ 4), (1, u "java/lang/Object"), (0, u "<init>"), (0, u "()V"), (1, .class_ 10), (1, u "java/lang/System"), (0, u "allowSecurityManager"), (0, u "I"), (16, u "cons"), (0, u "Ljava/io/Console;"), (77, .class_ 110), (1, u "java/lang/System$CallersHolder"), (43, u "initialErrStream"), (0, u "Ljava/io/PrintStream;"), (19, u "security"), (0, u "Ljava/lang/SecurityManager;"), (31, .class_ 209), (0, u "java/lang/System$1"), (7, u "props"), (0, u "Ljava/util/Properties;"), (2, u "lineSeparator"), (0, u "Ljava/lang/String;"), (96, .class_ 321), (1, u "java/lang/System$LoggerFinder"), (5, .class_ 328), (0, u "java/lang/System$Logger"), (67, u "err"), (2, u "out"), (91, u "notSupportedJnuEncoding"), (15, u "in"), (17, u "initialIn"), (0, u "Ljava/io/InputStream;"), (35, u "bootLayer"), (0, u "Ljava/lang/ModuleLayer;"), (99, .class_ 664), (0, u "java/lang/System$2"), (9, u "NEVER"), (2, u "MAYBE"), (49, u "arraycopy"), (0, u "(Ljava/lang/Object;ILjava/lang/Object;II)V"), (72, .class_ 802), (0, u "java/lang/System$Logger$Level")] 31

def k14m0 : Method := { name := "<init>", desc := "()V", sig := { parameters := [], returnType := none }, accessFlags := 2, code := none }
def k14m1 : Method := { name := "arraycopy", desc := "(Ljava/lang/Object;ILjava/lang/Object;II)V", sig := { parameters := [(.object "java/lang/Object"), .int, (.object "java/lang/Object"), .int, .int], returnType := none }, accessFlags := 265, code := none }
/-- java/lang/System -/
def k14 : Class := { plain "java/lang/System" (some 0) with
  accessFlags := 49
  interfaces := #[]
  cf := some (fileOf pool14 8 #[.nestMembers #[319, 327, 801, 108, 663, 208]] #[{ accessFlags := 2, nameIndex := 5, descriptorIndex := 6, attributes := #[] }, { accessFlags := 265, nameIndex := 727, descriptorIndex := 728, attributes := #[] }] 49 2 #[] #[{ accessFlags := 25, nameIndex := 507, descriptorIndex := 526, attributes := #[] }, { accessFlags := 25, nameIndex := 399, descriptorIndex := 155, attributes := #[] }, { accessFlags := 25, nameIndex := 396, descriptorIndex := 155, attributes := #[] }, { accessFlags := 10, nameIndex := 525, descriptorIndex := 526, attributes := #[] }, { accessFlags := 26, nameIndex := 674, descriptorIndex := 12, attributes := #[] }, { accessFlags := 26, nameIndex := 677, descriptorIndex := 12, attributes := #[] }, { accessFlags := 10, nameIndex := 11, descriptorIndex := 12, attributes := #[] }, { accessFlags := 74, nameIndex := 175, descriptorIndex := 176, attributes := #[] }, { accessFlags := 10, nameIndex := 491, descriptorIndex := 222, attributes := #[] }, { accessFlags := 74, nameIndex := 29, descriptorIndex := 30, attributes := #[] }, { accessFlags := 74, nameIndex := 154, descriptorIndex := 155, attributes := #[] }, { accessFlags := 10, nameIndex := 217, descriptorIndex := 218, attributes := #[] }, { accessFlags := 10, nameIndex := 221, descriptorIndex := 222, attributes := #[] }, { accessFlags := 8, nameIndex := 562, descriptorIndex := 563, attributes := #[] }])
  fields := #[{ name := "in", type := (.object "java/io/InputStream"), accessFlags := 25, slot := 0, constantValue := 0 }, { name := "out", type := (.object "java/io/PrintStream"), accessFlags := 25, slot := 1, constantValue := 0 }, { name := "err", type := (.object "java/io/PrintStream"), accessFlags := 25, slot := 2, constantValue := 0 }, { name := "initialIn", type := (.object "java/io/InputStream"), accessFlags := 10, slot := 3, constantValue := 0 }, { name := "NEVER", type := .int, accessFlags := 26, slot := 4, constantValue := 0 }, { name := "MAYBE", type := .int, accessFlags := 26, slot := 5, constantValue := 0 }, { name := "allowSecurityManager", type := .int, accessFlags := 10, slot := 6, constantValue := 0 }, { name := "security", type := (.object "java/lang/SecurityManager"), accessFlags := 74, slot := 7, constantValue := 0 }, { name := "notSupportedJnuEncoding", type := (.object "java/lang/String"), accessFlags := 10, slot := 8, constantValue := 0 }, { name := "cons", type := (.object "java/io/Console"), accessFlags := 74, slot := 9, constantValue := 0 }, { name := "initialErrStream", type := (.object "java/io/PrintStream"), accessFlags := 74, slot := 10, constantValue := 0 }, { name := "props", type := (.object "java/util/Properties"), accessFlags := 10, slot := 11, constantValue := 0 }, { name := "lineSeparator", type := (.object "java/lang/String"), accessFlags := 10, slot := 12, constantValue := 0 }, { name := "bootLayer", type := (.object "java/lang/ModuleLayer"), accessFlags := 8, slot := 13, constantValue := 0 }]
  methods := #[k14m0, k14m1]
  instanceTypes := #[]
  staticTypes := #[(.object "java/io/InputStream"), (.object "java/io/PrintStream"), (.object "java/io/PrintStream"), (.object "java/io/InputStream"), .int, .int, .int, (.object "java/lang/SecurityManager"), (.object "java/lang/String"), (.object "java/io/Console"), (.object "java/io/PrintStream"), (.object "java/util/Properties"), (.object "java/lang/String"), (.object "java/lang/ModuleLayer")]
  resolved := Array.replicate 834 none
  statics := none }

def pool15 : Array CpInfo := pool [(9, u "<init>"), (6, .class_ 18), (1, u "java/lang/Object"), (0, u "()V"), (1, .class_ 23), (1, u "jdk/internal/util/ArraysSupport"), (0, u "LOG2_ARRAY_LONG_INDEX_SCALE"), (0, u "I"), (2, u "U"), (0, u "Ljdk/internal/misc/Unsafe;"), (8, u "BIG_ENDIAN"), (0, u "Z"), (8, u "LOG2_BYTE_BIT_SIZE"), (4, u "LOG2_ARRAY_INT_INDEX_SCALE"), (54, u "JLA"), (0, u "Ljdk/internal/access/JavaLangAccess;"), (11, u "LOG2_ARRAY_BOOLEAN_INDEX_SCALE"), (9, u "LOG2_ARRAY_BYTE_INDEX_SCALE"), (5, u "LOG2_ARRAY_CHAR_INDEX_SCALE"), (5, u "LOG2_ARRAY_SHORT_INDEX_SCALE"), (18, u "LOG2_ARRAY_FLOAT_INDEX_SCALE"), (24, u "LOG2_ARRAY_DOUBLE_INDEX_SCALE"), (89, u "T_BOOLEAN"), (2, u "T_CHAR"), (1, u "T_FLOAT"), (1, u "T_DOUBLE"), (1, u "T_BYTE"), (1, u "T_SHORT"), (1, u "T_INT"), (1, u "T_LONG"), (1, u "SOFT_MAX_ARRAY_LENGTH")] 83

def k15m0 : Method := { name := "<init>", desc := "()V", sig := { parameters := [], returnType := none }, accessFlags := 2, code := none }
/-- jdk/internal/util/ArraysSupport -/
def k15 : Class := { plain "jdk/internal/util/ArraysSupport" (some 0) with
  accessFlags := 33
  interfaces := #[]
  cf := some (fileOf pool15 21 #[] #[{ accessFlags := 2, nameIndex := 9, descriptorIndex := 19, attributes := #[] }] 33 16 #[] #[{ accessFlags := 24, nameIndex := 28, descriptorIndex := 29, attributes := #[] }, { accessFlags := 26, nameIndex := 38, descriptorIndex := 39, attributes := #[] }, { accessFlags := 25, nameIndex := 121, descriptorIndex := 25, attributes := #[] }, { accessFlags := 25, nameIndex := 131, descriptorIndex := 25, attributes := #[] }, { accessFlags := 25, nameIndex := 137, descriptorIndex := 25, attributes := #[] }, { accessFlags := 25, nameIndex := 143, descriptorIndex := 25, attributes := #[] }, { accessFlags := 25, nameIndex := 53, descriptorIndex := 25, attributes := #[] }, { accessFlags := 25, nameIndex := 24, descriptorIndex := 25, attributes := #[] }, { accessFlags := 25, nameIndex := 162, descriptorIndex := 25, attributes := #[] }, { accessFlags := 25, nameIndex := 187, descriptorIndex := 25, attributes := #[] }, { accessFlags := 26, nameIndex := 48, descriptorIndex := 25, attributes := #[] }, { accessFlags := 25, nameIndex := 277, descriptorIndex := 25, attributes := #[] }, { accessFlags := 25, nameIndex := 280, descriptorIndex := 25, attributes := #[] }, { accessFlags := 25, nameIndex := 282, descriptorIndex := 25, attributes := #[] }, { accessFlags := 25, nameIndex := 284, descriptorIndex := 25, attributes := #[] }, { accessFlags := 25, nameIndex := 286, descriptorIndex := 25, attributes := #[] }, { accessFlags := 25, nameIndex := 288, descriptorIndex := 25, attributes := #[] }, { accessFlags := 25, nameIndex := 290, descriptorIndex := 25, attributes := #[] }, { accessFlags := 25, nameIndex := 292, descriptorIndex := 25, attributes := #[] }, { accessFlags := 26, nameIndex := 108, descriptorIndex := 109, attributes := #[] }, { accessFlags := 25, nameIndex := 294, descriptorIndex := 25, attributes := #[] }])
  fields := #[{ name := "U", type := (.object "jdk/internal/misc/Unsafe"), accessFlags := 24, slot := 0, constantValue := 0 }, { name := "BIG_ENDIAN", type := .boolean, accessFlags := 26, slot := 1, constantValue := 0 }, { name := "LOG2_ARRAY_BOOLEAN_INDEX_SCALE", type := .int, accessFlags := 25, slot := 2, constantValue := 0 }, { name := "LOG2_ARRAY_BYTE_INDEX_SCALE", type := .int, accessFlags := 25, slot := 3, constantValue := 0 }, { name := "LOG2_ARRAY_CHAR_INDEX_SCALE", type := .int, accessFlags := 25, slot := 4, constantValue := 0 }, { name := "LOG2_ARRAY_SHORT_INDEX_SCALE", type := .int, accessFlags := 25, slot := 5, constantValue := 0 }, { name := "LOG2_ARRAY_INT_INDEX_SCALE", type := .int, accessFlags := 25, slot := 6, constantValue := 0 }, { name := "LOG2_ARRAY_LONG_INDEX_SCALE", type := .int, accessFlags := 25, slot := 7, constantValue := 0 }, { name := "LOG2_ARRAY_FLOAT_INDEX_SCALE", type := .int, accessFlags := 25, slot := 8, constantValue := 0 }, { name := "LOG2_ARRAY_DOUBLE_INDEX_SCALE", type := .int, accessFlags := 25, slot := 9, constantValue := 0 }, { name := "LOG2_BYTE_BIT_SIZE", type := .int, accessFlags := 26, slot := 10, constantValue := 0 }, { name := "T_BOOLEAN", type := .int, accessFlags := 25, slot := 11, constantValue := 0 }, { name := "T_CHAR", type := .int, accessFlags := 25, slot := 12, constantValue := 0 }, { name := "T_FLOAT", type := .int, accessFlags := 25, slot := 13, constantValue := 0 }, { name := "T_DOUBLE", type := .int, accessFlags := 25, slot := 14, constantValue := 0 }, { name := "T_BYTE", type := .int, accessFlags := 25, slot := 15, constantValue := 0 }, { name := "T_SHORT", type := .int, accessFlags := 25, slot := 16, constantValue := 0 }, { name := "T_INT", type := .int, accessFlags := 25, slot := 17, constantValue := 0 }, { name := "T_LONG", type := .int, accessFlags := 25, slot := 18, constantValue := 0 }, { name := "JLA", type := (.object "jdk/internal/access/JavaLangAccess"), accessFlags := 26, slot := 19, constantValue := 0 }, { name := "SOFT_MAX_ARRAY_LENGTH", type := .int, accessFlags := 25, slot := 20, constantValue := 0 }]
  methods := #[k15m0]
  instanceTypes := #[]
  staticTypes := #[(.object "jdk/internal/misc/Unsafe"), .boolean, .int, .int, .int, .int, .int, .int, .int, .int, .int, .int, .int, .int, .int, .int, .int, .int, .int, (.object "jdk/internal/access/JavaLangAccess"), .int]
  resolved := Array.replicate 378 none
  statics := none }

def pool16 : Array CpInfo := pool [(1, u "java/lang/Cloneable"), (0, .class_ 1), (0, u "java/lang/Object"), (0, .class_ 3)] 3

/-- java/lang/Cloneable -/
def k16 : Class := { plain "java/lang/Cloneable" (some 0) with
  accessFlags := 1537
  interfaces := #[]
  cf := some (fileOf pool16 2 #[] #[] 1537 4 #[] #[])
  fields := #[]
  methods := #[]
  instanceTypes := #[]
  staticTypes := #[]
  resolved := Array.replicate 8 none
  statics := none }

/-- the primitive byte -/
def k17 : Class := { plain "byte" none with kind := .primitive 'B', accessFlags := 0x411 }
/-- [B -/
def k18 : Class := { plain "[B" (some 0) with kind := .array 17 .byte, interfaces := #[16, 2], accessFlags := 1041 }

/-- the primitive char -/
def k19 : Class := { plain "char" none with kind := .primitive 'C', accessFlags := 0x411 }
/-- [C -/
def k20 : Class := { plain "[C" (some 0) with kind := .array 19 .char, interfaces := #[16, 2], accessFlags := 1041 }

/-- the primitive int -/
def k21 : Class := { plain "int" none with kind := .primitive 'I', accessFlags := 0x411 }
/-- [I -/
def k22 : Class := { plain "[I" (some 0) with kind := .array 21 .int, interfaces := #[16, 2], accessFlags := 1041 }

def heap : Heap := #[{ cls := 7, slots := #[.long 0, .int 1, .null, .int 0, .null, .int 0, .int 0], vm := .statics 7 },
  { cls := 11, slots := #[.null, .null, .null], vm := .statics 11 }]
def classes : Array Class := #[k0, k1, k2, k3, k4, k5, k6, k7, k8, k9, k10, k11, k12, k13, k14, k15, k16, k17, k18, k19, k20, k21, k22]
def interned : List (Array UInt16 × Addr) := []
def slotsUsed : Nat := 10
def theMethod : MethodId := ⟨1, 1⟩
def args0 : Array Value := #[.int 5, .int 6]
def aboutOver (below : List Frame) : State where
  vm := { classes := classes, interned := interned.toArray }
  heap := heap
  slotsUsed := slotsUsed
  threads := #[{ frames := .invoking theMethod args0 :: below }]
def below0 : List Frame := [.native { method := ⟨0, 0⟩, args := #[] }]
def about1 : State := aboutOver below0
def p0 : Program := .bare "" "" ""
def e0 : Env := launch0.env 0 0 0
theorem w_frames : about1.frames = Frame.invoking theMethod args0 :: below0 := rfl
set_option maxRecDepth 65536 in
theorem w_args : argsFit about1.vm theMethod args0 = true := by decide +kernel
set_option maxRecDepth 65536 in
theorem w_heap : heapFits about1 = true := by decide +kernel
set_option maxRecDepth 65536 in
theorem w_runnable : about1.curStatus? = some .runnable := by decide +kernel
set_option maxRecDepth 65536 in
theorem w_alone : about1.alone = true := by decide +kernel
set_option maxRecDepth 65536 in
theorem w_named : about1.methodNamed? x = some theMethod := by decide +kernel
set_option maxRecDepth 65536 in
theorem w_hears : about1.hears theMethod below0 = true := by decide +kernel
set_option maxRecDepth 65536 in
theorem w_ripe : about1.ripe theMethod args0 below0 = true := by decide +kernel
theorem w_running : about1.status = .running := rfl
set_option maxRecDepth 65536 in
theorem w_room : about1.hasRoom e0.platform room_1 = true :=
  launch0.hasRoom_least _ room_1 (by decide +kernel) (by decide +kernel) (by decide +kernel) (by decide +kernel) (by decide +kernel) (by decide +kernel)
theorem allAtoms_all (ts : List Jvm.Cond) (a : Array Jvm.Value) (st : Jvm.State) : (allAtoms ts).before a st = ts.all (fun c => c.before a st) := by
  induction ts with
  | nil => rfl
  | cons c t ih =>
    show (Jvm.Cond.and c (allAtoms t)).before a st = _
    rw [Jvm.Cond.before_and, ih, List.all_cons]
def words1 : List Jvm.Cond := Jvm.Cond.code x code maxLocals ret :: tables_1
/-- a 'code' word, met by the world's own term for the bytes: nothing is compared byte by byte -/
theorem code_word {y : MethodName} {bytes : ByteArray} {mx : Nat} {rt : Option FieldType} {a : Array Value} {s : State} {m : MethodId} {meth : Method} {c : Code} (h1 : s.methodNamed? y = some m) (h2 : s.vm.method? m = some meth) (h3 : meth.code = some c) (h4 : c.code = bytes)
    (h5 : (c.maxLocals == mx && c.exceptionTable.isEmpty && decide (c.maxStack ≤ mostOperands) && decide (meth.sig.returnType = rt) && !meth.locks && decide (parseMethodDescriptor y.desc = some meth.sig)) = true) : (Jvm.Cond.code y bytes mx rt).before a s = true := by
  simp only [Bool.and_eq_true, beq_iff_eq, Bool.not_eq_true', decide_eq_true_eq] at h5
  obtain ⟨⟨⟨⟨⟨g1, g2⟩, g3⟩, g4⟩, g5⟩, g6⟩ := h5
  simp [Cond.before, Cond.holds, Cond.value, h1, h2, h3, h4, g1, g2, g3, g4, g5, g6]
def isCode : Jvm.Cond → Bool
  | .code _ _ _ _ => true
  | _ => false
theorem all_split {L : List Jvm.Cond} {P : Jvm.Cond → Bool} (h1 : L.all (fun c => isCode c || P c) = true) (h2 : ∀ c ∈ L.filter isCode, P c = true) : L.all P = true := by
  refine List.all_eq_true.mpr fun c hc => ?_
  have h := List.all_eq_true.mp h1 c hc
  rcases Bool.eq_false_or_eq_true (isCode c) with hi | hi
  · exact h2 c (List.mem_filter.mpr ⟨hc, hi⟩)
  · simpa [hi] using h
set_option maxRecDepth 65536 in
theorem w_c0 : (Jvm.Cond.code x code maxLocals ret).before args0 about1 = true := code_word (m := ⟨1, 1⟩) (meth := k1m1) (c := k1c1) (by decide +kernel) rfl rfl rfl (by decide +kernel)
set_option maxRecDepth 65536 in
theorem w_c1 : (Jvm.Cond.code ({ cls := "com/example/ratable/ratable/core/FieldsMorePinLaw", name := "line", desc := "(ICCC)Ljava/lang/String;" } : Jvm.MethodName) method_4_code (4 : Nat) (Option.some (Jvm.ClassFile.FieldType.object "java/lang/String"))).before args0 about1 = true := code_word (m := ⟨1, 3⟩) (meth := k1m3) (c := k1c3) (by decide +kernel) rfl rfl rfl (by decide +kernel)
set_option maxRecDepth 65536 in
theorem w_c2 : (Jvm.Cond.code ({ cls := "java/lang/String", name := "<init>", desc := "([C)V" } : Jvm.MethodName) jdk_42_method_3_code (2 : Nat) (Option.none : Option Jvm.ClassFile.FieldType)).before args0 about1 = true := code_word (m := ⟨7, 1⟩) (meth := k7m1) (c := k7c1) (by decide +kernel) rfl rfl rfl (by decide +kernel)
set_option maxRecDepth 65536 in
theorem w_c3 : (Jvm.Cond.code ({ cls := "java/lang/String", name := "<init>", desc := "([CIILjava/lang/Void;)V" } : Jvm.MethodName) jdk_42_method_149_code (6 : Nat) (Option.none : Option Jvm.ClassFile.FieldType)).before args0 about1 = true := code_word (m := ⟨7, 5⟩) (meth := k7m5) (c := k7c5) (by decide +kernel) rfl rfl rfl (by decide +kernel)
set_option maxRecDepth 65536 in
theorem w_c4 : (Jvm.Cond.code ({ cls := "java/lang/Object", name := "<init>", desc := "()V" } : Jvm.MethodName) object_method_1_code (1 : Nat) (Option.none : Option Jvm.ClassFile.FieldType)).before args0 about1 = true := code_word (m := ⟨0, 0⟩) (meth := k0m0) (c := k0c0) (by decide +kernel) rfl rfl rfl (by decide +kernel)
set_option maxRecDepth 65536 in
theorem w_c5 : (Jvm.Cond.code ({ cls := "com/example/ratable/ratable/core/FieldsMorePinLaw", name := "tab", desc := "(ZC)I" } : Jvm.MethodName) method_3_code (2 : Nat) (Option.some Jvm.ClassFile.FieldType.int)).before args0 about1 = true := code_word (m := ⟨1, 2⟩) (meth := k1m2) (c := k1c2) (by decide +kernel) rfl rfl rfl (by decide +kernel)
set_option maxRecDepth 65536 in
theorem w_c6 : (Jvm.Cond.code ({ cls := "com/example/ratable/ratable/core/JournalSums$Fields", name := "<init>", desc := "(Ljava/lang/String;)V" } : Jvm.MethodName) prog_51_method_1_code (2 : Nat) (Option.none : Option Jvm.ClassFile.FieldType)).before args0 about1 = true := code_word (m := ⟨8, 0⟩) (meth := k8m0) (c := k8c0) (by decide +kernel) rfl rfl rfl (by decide +kernel)
set_option maxRecDepth 65536 in
theorem w_c7 : (Jvm.Cond.code ({ cls := "com/example/ratable/ratable/core/JournalSums$Fields", name := "more", desc := "()Z" } : Jvm.MethodName) prog_51_method_2_code (1 : Nat) (Option.some Jvm.ClassFile.FieldType.boolean)).before args0 about1 = true := code_word (m := ⟨8, 1⟩) (meth := k8m1) (c := k8c1) (by decide +kernel) rfl rfl rfl (by decide +kernel)
set_option maxRecDepth 65536 in
theorem w_c8 : (Jvm.Cond.code ({ cls := "java/lang/String", name := "length", desc := "()I" } : Jvm.MethodName) jdk_42_method_54_code (1 : Nat) (Option.some Jvm.ClassFile.FieldType.int)).before args0 about1 = true := code_word (m := ⟨7, 2⟩) (meth := k7m2) (c := k7c2) (by decide +kernel) rfl rfl rfl (by decide +kernel)
set_option maxRecDepth 65536 in
theorem w_c9 : (Jvm.Cond.code ({ cls := "java/lang/String", name := "coder", desc := "()B" } : Jvm.MethodName) jdk_42_method_152_code (1 : Nat) (Option.some Jvm.ClassFile.FieldType.byte)).before args0 about1 = true := code_word (m := ⟨7, 7⟩) (meth := k7m7) (c := k7c7) (by decide +kernel) rfl rfl rfl (by decide +kernel)
set_option maxRecDepth 65536 in
theorem w_c10 : (Jvm.Cond.code ({ cls := "com/example/ratable/ratable/core/JournalSums$Fields", name := "text", desc := "()Ljava/lang/String;" } : Jvm.MethodName) prog_51_method_3_code (3 : Nat) (Option.some (Jvm.ClassFile.FieldType.object "java/lang/String"))).before args0 about1 = true := code_word (m := ⟨8, 2⟩) (meth := k8m2) (c := k8c2) (by decide +kernel) rfl rfl rfl (by decide +kernel)
set_option maxRecDepth 65536 in
theorem w_c11 : (Jvm.Cond.code ({ cls := "com/example/ratable/ratable/core/JournalSums$Fields", name := "end", desc := "()I" } : Jvm.MethodName) prog_51_method_8_code (2 : Nat) (Option.some Jvm.ClassFile.FieldType.int)).before args0 about1 = true := code_word (m := ⟨8, 3⟩) (meth := k8m3) (c := k8c3) (by decide +kernel) rfl rfl rfl (by decide +kernel)
set_option maxRecDepth 65536 in
theorem w_c12 : (Jvm.Cond.code ({ cls := "java/lang/String", name := "indexOf", desc := "(II)I" } : Jvm.MethodName) jdk_42_method_80_code (3 : Nat) (Option.some Jvm.ClassFile.FieldType.int)).before args0 about1 = true := code_word (m := ⟨7, 3⟩) (meth := k7m3) (c := k7c3) (by decide +kernel) rfl rfl rfl (by decide +kernel)
set_option maxRecDepth 65536 in
theorem w_c13 : (Jvm.Cond.code ({ cls := "java/lang/String", name := "isLatin1", desc := "()Z" } : Jvm.MethodName) jdk_42_method_154_code (1 : Nat) (Option.some Jvm.ClassFile.FieldType.boolean)).before args0 about1 = true := code_word (m := ⟨7, 8⟩) (meth := k7m8) (c := k7c8) (by decide +kernel) rfl rfl rfl (by decide +kernel)
set_option maxRecDepth 65536 in
theorem w_c14 : (Jvm.Cond.code ({ cls := "java/lang/StringLatin1", name := "indexOf", desc := "([BIII)I" } : Jvm.MethodName) jdk_43_method_22_code (4 : Nat) (Option.some Jvm.ClassFile.FieldType.int)).before args0 about1 = true := code_word (m := ⟨9, 2⟩) (meth := k9m2) (c := k9c2) (by decide +kernel) rfl rfl rfl (by decide +kernel)
set_option maxRecDepth 65536 in
theorem w_c15 : (Jvm.Cond.code ({ cls := "java/lang/StringLatin1", name := "canEncode", desc := "(I)Z" } : Jvm.MethodName) jdk_43_method_4_code (1 : Nat) (Option.some Jvm.ClassFile.FieldType.boolean)).before args0 about1 = true := code_word (m := ⟨9, 1⟩) (meth := k9m1) (c := k9c1) (by decide +kernel) rfl rfl rfl (by decide +kernel)
set_option maxRecDepth 65536 in
theorem w_c16 : (Jvm.Cond.code ({ cls := "java/lang/Math", name := "max", desc := "(II)I" } : Jvm.MethodName) jdk_29_method_65_code (2 : Nat) (Option.some Jvm.ClassFile.FieldType.int)).before args0 about1 = true := code_word (m := ⟨10, 1⟩) (meth := k10m1) (c := k10c1) (by decide +kernel) rfl rfl rfl (by decide +kernel)
set_option maxRecDepth 65536 in
theorem w_c17 : (Jvm.Cond.code ({ cls := "java/lang/Math", name := "min", desc := "(II)I" } : Jvm.MethodName) jdk_29_method_69_code (2 : Nat) (Option.some Jvm.ClassFile.FieldType.int)).before args0 about1 = true := code_word (m := ⟨10, 2⟩) (meth := k10m2) (c := k10c2) (by decide +kernel) rfl rfl rfl (by decide +kernel)
set_option maxRecDepth 65536 in
theorem w_c18 : (Jvm.Cond.code ({ cls := "java/lang/String", name := "substring", desc := "(II)Ljava/lang/String;" } : Jvm.MethodName) jdk_42_method_92_code (5 : Nat) (Option.some (Jvm.ClassFile.FieldType.object "java/lang/String"))).before args0 about1 = true := code_word (m := ⟨7, 4⟩) (meth := k7m4) (c := k7c4) (by decide +kernel) rfl rfl rfl (by decide +kernel)
set_option maxRecDepth 65536 in
theorem w_c19 : (Jvm.Cond.code ({ cls := "java/lang/String", name := "checkBoundsBeginEnd", desc := "(III)V" } : Jvm.MethodName) jdk_42_method_158_code (3 : Nat) (Option.none : Option Jvm.ClassFile.FieldType)).before args0 about1 = true := code_word (m := ⟨7, 9⟩) (meth := k7m9) (c := k7c9) (by decide +kernel) rfl rfl rfl (by decide +kernel)
set_option maxRecDepth 65536 in
theorem w_c20 : (Jvm.Cond.code ({ cls := "jdk/internal/util/Preconditions", name := "checkFromToIndex", desc := "(IIILjava/util/function/BiFunction;)I" } : Jvm.MethodName) jdk_41_method_12_code (4 : Nat) (Option.some Jvm.ClassFile.FieldType.int)).before args0 about1 = true := code_word (m := ⟨11, 1⟩) (meth := k11m1) (c := k11c1) (by decide +kernel) rfl rfl rfl (by decide +kernel)
set_option maxRecDepth 65536 in
theorem w_c21 : (Jvm.Cond.code ({ cls := "java/lang/StringUTF16", name := "compress", desc := "([CII)[B" } : Jvm.MethodName) jdk_52_method_16_code (6 : Nat) (Option.some (Jvm.ClassFile.FieldType.array Jvm.ClassFile.FieldType.byte))).before args0 about1 = true := code_word (m := ⟨12, 2⟩) (meth := k12m2) (c := k12c2) (by decide +kernel) rfl rfl rfl (by decide +kernel)
set_option maxRecDepth 65536 in
theorem w_c22 : (Jvm.Cond.code ({ cls := "java/lang/StringUTF16", name := "compress", desc := "([CI[BII)I" } : Jvm.MethodName) jdk_52_method_21_code (7 : Nat) (Option.some Jvm.ClassFile.FieldType.int)).before args0 about1 = true := code_word (m := ⟨12, 3⟩) (meth := k12m3) (c := k12c3) (by decide +kernel) rfl rfl rfl (by decide +kernel)
set_option maxRecDepth 65536 in
theorem w_c23 : (Jvm.Cond.code ({ cls := "java/lang/StringUTF16", name := "coderFromArrayLen", desc := "([BI)B" } : Jvm.MethodName) jdk_52_method_15_code (2 : Nat) (Option.some Jvm.ClassFile.FieldType.byte)).before args0 about1 = true := code_word (m := ⟨12, 1⟩) (meth := k12m1) (c := k12c1) (by decide +kernel) rfl rfl rfl (by decide +kernel)
set_option maxRecDepth 65536 in
theorem w_c24 : (Jvm.Cond.code ({ cls := "java/lang/StringLatin1", name := "indexOfChar", desc := "([BIII)I" } : Jvm.MethodName) jdk_43_method_23_code (6 : Nat) (Option.some Jvm.ClassFile.FieldType.int)).before args0 about1 = true := code_word (m := ⟨9, 3⟩) (meth := k9m3) (c := k9c3) (by decide +kernel) rfl rfl rfl (by decide +kernel)
set_option maxRecDepth 65536 in
theorem w_c25 : (Jvm.Cond.code ({ cls := "java/lang/StringLatin1", name := "newString", desc := "([BII)Ljava/lang/String;" } : Jvm.MethodName) jdk_43_method_47_code (3 : Nat) (Option.some (Jvm.ClassFile.FieldType.object "java/lang/String"))).before args0 about1 = true := code_word (m := ⟨9, 4⟩) (meth := k9m4) (c := k9c4) (by decide +kernel) rfl rfl rfl (by decide +kernel)
set_option maxRecDepth 65536 in
theorem w_c26 : (Jvm.Cond.code ({ cls := "java/util/Arrays", name := "copyOfRange", desc := "([BII)[B" } : Jvm.MethodName) jdk_65_method_132_code (3 : Nat) (Option.some (Jvm.ClassFile.FieldType.array Jvm.ClassFile.FieldType.byte))).before args0 about1 = true := code_word (m := ⟨13, 2⟩) (meth := k13m2) (c := k13c2) (by decide +kernel) rfl rfl rfl (by decide +kernel)
set_option maxRecDepth 65536 in
theorem w_c27 : (Jvm.Cond.code ({ cls := "java/util/Arrays", name := "copyOfRangeByte", desc := "([BII)[B" } : Jvm.MethodName) jdk_65_method_133_code (5 : Nat) (Option.some (Jvm.ClassFile.FieldType.array Jvm.ClassFile.FieldType.byte))).before args0 about1 = true := code_word (m := ⟨13, 3⟩) (meth := k13m3) (c := k13c3) (by decide +kernel) rfl rfl rfl (by decide +kernel)
set_option maxRecDepth 65536 in
theorem w_c28 : (Jvm.Cond.code ({ cls := "java/util/Arrays", name := "checkLength", desc := "(II)V" } : Jvm.MethodName) jdk_65_method_131_code (2 : Nat) (Option.none : Option Jvm.ClassFile.FieldType)).before args0 about1 = true := code_word (m := ⟨13, 1⟩) (meth := k13m1) (c := k13c1) (by decide +kernel) rfl rfl rfl (by decide +kernel)
set_option maxRecDepth 65536 in
theorem w_c29 : (Jvm.Cond.code ({ cls := "java/lang/String", name := "<init>", desc := "([BB)V" } : Jvm.MethodName) jdk_42_method_151_code (3 : Nat) (Option.none : Option Jvm.ClassFile.FieldType)).before args0 about1 = true := code_word (m := ⟨7, 6⟩) (meth := k7m6) (c := k7c6) (by decide +kernel) rfl rfl rfl (by decide +kernel)
def codes1 : List Jvm.Cond := [Jvm.Cond.code x code maxLocals ret, Jvm.Cond.code ({ cls := "com/example/ratable/ratable/core/FieldsMorePinLaw", name := "line", desc := "(ICCC)Ljava/lang/String;" } : Jvm.MethodName) method_4_code (4 : Nat) (Option.some (Jvm.ClassFile.FieldType.object "java/lang/String")), Jvm.Cond.code ({ cls := "java/lang/String", name := "<init>", desc := "([C)V" } : Jvm.MethodName) jdk_42_method_3_code (2 : Nat) (Option.none : Option Jvm.ClassFile.FieldType), Jvm.Cond.code ({ cls := "java/lang/String", name := "<init>", desc := "([CIILjava/lang/Void;)V" } : Jvm.MethodName) jdk_42_method_149_code (6 : Nat) (Option.none : Option Jvm.ClassFile.FieldType), Jvm.Cond.code ({ cls := "java/lang/Object", name := "<init>", desc := "()V" } : Jvm.MethodName) object_method_1_code (1 : Nat) (Option.none : Option Jvm.ClassFile.FieldType), Jvm.Cond.code ({ cls := "com/example/ratable/ratable/core/FieldsMorePinLaw", name := "tab", desc := "(ZC)I" } : Jvm.MethodName) method_3_code (2 : Nat) (Option.some Jvm.ClassFile.FieldType.int), Jvm.Cond.code ({ cls := "com/example/ratable/ratable/core/JournalSums$Fields", name := "<init>", desc := "(Ljava/lang/String;)V" } : Jvm.MethodName) prog_51_method_1_code (2 : Nat) (Option.none : Option Jvm.ClassFile.FieldType), Jvm.Cond.code ({ cls := "com/example/ratable/ratable/core/JournalSums$Fields", name := "more", desc := "()Z" } : Jvm.MethodName) prog_51_method_2_code (1 : Nat) (Option.some Jvm.ClassFile.FieldType.boolean), Jvm.Cond.code ({ cls := "java/lang/String", name := "length", desc := "()I" } : Jvm.MethodName) jdk_42_method_54_code (1 : Nat) (Option.some Jvm.ClassFile.FieldType.int), Jvm.Cond.code ({ cls := "java/lang/String", name := "coder", desc := "()B" } : Jvm.MethodName) jdk_42_method_152_code (1 : Nat) (Option.some Jvm.ClassFile.FieldType.byte), Jvm.Cond.code ({ cls := "com/example/ratable/ratable/core/JournalSums$Fields", name := "text", desc := "()Ljava/lang/String;" } : Jvm.MethodName) prog_51_method_3_code (3 : Nat) (Option.some (Jvm.ClassFile.FieldType.object "java/lang/String")), Jvm.Cond.code ({ cls := "com/example/ratable/ratable/core/JournalSums$Fields", name := "end", desc := "()I" } : Jvm.MethodName) prog_51_method_8_code (2 : Nat) (Option.some Jvm.ClassFile.FieldType.int), Jvm.Cond.code ({ cls := "java/lang/String", name := "indexOf", desc := "(II)I" } : Jvm.MethodName) jdk_42_method_80_code (3 : Nat) (Option.some Jvm.ClassFile.FieldType.int), Jvm.Cond.code ({ cls := "java/lang/String", name := "isLatin1", desc := "()Z" } : Jvm.MethodName) jdk_42_method_154_code (1 : Nat) (Option.some Jvm.ClassFile.FieldType.boolean), Jvm.Cond.code ({ cls := "java/lang/StringLatin1", name := "indexOf", desc := "([BIII)I" } : Jvm.MethodName) jdk_43_method_22_code (4 : Nat) (Option.some Jvm.ClassFile.FieldType.int), Jvm.Cond.code ({ cls := "java/lang/StringLatin1", name := "canEncode", desc := "(I)Z" } : Jvm.MethodName) jdk_43_method_4_code (1 : Nat) (Option.some Jvm.ClassFile.FieldType.boolean), Jvm.Cond.code ({ cls := "java/lang/Math", name := "max", desc := "(II)I" } : Jvm.MethodName) jdk_29_method_65_code (2 : Nat) (Option.some Jvm.ClassFile.FieldType.int), Jvm.Cond.code ({ cls := "java/lang/Math", name := "min", desc := "(II)I" } : Jvm.MethodName) jdk_29_method_69_code (2 : Nat) (Option.some Jvm.ClassFile.FieldType.int), Jvm.Cond.code ({ cls := "java/lang/String", name := "substring", desc := "(II)Ljava/lang/String;" } : Jvm.MethodName) jdk_42_method_92_code (5 : Nat) (Option.some (Jvm.ClassFile.FieldType.object "java/lang/String")), Jvm.Cond.code ({ cls := "java/lang/String", name := "checkBoundsBeginEnd", desc := "(III)V" } : Jvm.MethodName) jdk_42_method_158_code (3 : Nat) (Option.none : Option Jvm.ClassFile.FieldType), Jvm.Cond.code ({ cls := "jdk/internal/util/Preconditions", name := "checkFromToIndex", desc := "(IIILjava/util/function/BiFunction;)I" } : Jvm.MethodName) jdk_41_method_12_code (4 : Nat) (Option.some Jvm.ClassFile.FieldType.int), Jvm.Cond.code ({ cls := "java/lang/StringUTF16", name := "compress", desc := "([CII)[B" } : Jvm.MethodName) jdk_52_method_16_code (6 : Nat) (Option.some (Jvm.ClassFile.FieldType.array Jvm.ClassFile.FieldType.byte)), Jvm.Cond.code ({ cls := "java/lang/StringUTF16", name := "compress", desc := "([CI[BII)I" } : Jvm.MethodName) jdk_52_method_21_code (7 : Nat) (Option.some Jvm.ClassFile.FieldType.int), Jvm.Cond.code ({ cls := "java/lang/StringUTF16", name := "coderFromArrayLen", desc := "([BI)B" } : Jvm.MethodName) jdk_52_method_15_code (2 : Nat) (Option.some Jvm.ClassFile.FieldType.byte), Jvm.Cond.code ({ cls := "java/lang/StringLatin1", name := "indexOfChar", desc := "([BIII)I" } : Jvm.MethodName) jdk_43_method_23_code (6 : Nat) (Option.some Jvm.ClassFile.FieldType.int), Jvm.Cond.code ({ cls := "java/lang/StringLatin1", name := "newString", desc := "([BII)Ljava/lang/String;" } : Jvm.MethodName) jdk_43_method_47_code (3 : Nat) (Option.some (Jvm.ClassFile.FieldType.object "java/lang/String")), Jvm.Cond.code ({ cls := "java/util/Arrays", name := "copyOfRange", desc := "([BII)[B" } : Jvm.MethodName) jdk_65_method_132_code (3 : Nat) (Option.some (Jvm.ClassFile.FieldType.array Jvm.ClassFile.FieldType.byte)), Jvm.Cond.code ({ cls := "java/util/Arrays", name := "copyOfRangeByte", desc := "([BII)[B" } : Jvm.MethodName) jdk_65_method_133_code (5 : Nat) (Option.some (Jvm.ClassFile.FieldType.array Jvm.ClassFile.FieldType.byte)), Jvm.Cond.code ({ cls := "java/util/Arrays", name := "checkLength", desc := "(II)V" } : Jvm.MethodName) jdk_65_method_131_code (2 : Nat) (Option.none : Option Jvm.ClassFile.FieldType), Jvm.Cond.code ({ cls := "java/lang/String", name := "<init>", desc := "([BB)V" } : Jvm.MethodName) jdk_42_method_151_code (3 : Nat) (Option.none : Option Jvm.ClassFile.FieldType)]
set_option maxRecDepth 65536 in
theorem codes_eq : words1.filter isCode = codes1 := rfl
theorem w_codes : ∀ c ∈ words1.filter isCode, c.before args0 about1 = true := by
  rw [codes_eq]
  intro c hc
  simp only [codes1, List.mem_cons, List.not_mem_nil, or_false] at hc
  rcases hc with rfl | rfl | rfl | rfl | rfl | rfl | rfl | rfl | rfl | rfl | rfl | rfl | rfl | rfl | rfl | rfl | rfl | rfl | rfl | rfl | rfl | rfl | rfl | rfl | rfl | rfl | rfl | rfl | rfl | rfl
  · exact w_c0
  · exact w_c1
  · exact w_c2
  · exact w_c3
  · exact w_c4
  · exact w_c5
  · exact w_c6
  · exact w_c7
  · exact w_c8
  · exact w_c9
  · exact w_c10
  · exact w_c11
  · exact w_c12
  · exact w_c13
  · exact w_c14
  · exact w_c15
  · exact w_c16
  · exact w_c17
  · exact w_c18
  · exact w_c19
  · exact w_c20
  · exact w_c21
  · exact w_c22
  · exact w_c23
  · exact w_c24
  · exact w_c25
  · exact w_c26
  · exact w_c27
  · exact w_c28
  · exact w_c29
set_option maxRecDepth 65536 in
theorem w_t1 : (words1.take 24).all (fun c => isCode c || c.before args0 about1) = true := by decide +kernel
set_option maxRecDepth 65536 in
theorem w_t2 : ((words1.drop 24).take 24).all (fun c => isCode c || c.before args0 about1) = true := by decide +kernel
set_option maxRecDepth 65536 in
theorem w_t3 : (((words1.drop 24).drop 24).take 24).all (fun c => isCode c || c.before args0 about1) = true := by decide +kernel
set_option maxRecDepth 65536 in
theorem w_t4 : ((((words1.drop 24).drop 24).drop 24).take 24).all (fun c => isCode c || c.before args0 about1) = true := by decide +kernel
set_option maxRecDepth 65536 in
theorem w_t5 : (((((words1.drop 24).drop 24).drop 24).drop 24).take 24).all (fun c => isCode c || c.before args0 about1) = true := by decide +kernel
set_option maxRecDepth 65536 in
theorem w_t6 : (((((words1.drop 24).drop 24).drop 24).drop 24).drop 24).all (fun c => isCode c || c.before args0 about1) = true := by decide +kernel
theorem w_tables : (allAtoms (Jvm.Cond.code x code maxLocals ret :: tables_1)).before args0 about1 = true := by
  rw [allAtoms_all]
  show words1.all (fun c => c.before args0 about1) = true
  refine all_split ?_ w_codes
  rw [← List.take_append_drop 24 words1, List.all_append, w_t1, ← List.take_append_drop 24 (words1.drop 24), List.all_append, w_t2, ← List.take_append_drop 24 ((words1.drop 24).drop 24), List.all_append, w_t3, ← List.take_append_drop 24 (((words1.drop 24).drop 24).drop 24), List.all_append, w_t4, ← List.take_append_drop 24 ((((words1.drop 24).drop 24).drop 24).drop 24), List.all_append, w_t5, w_t6]
  rfl
set_option maxRecDepth 65536 in
theorem w_rest : rest_1_c.before args0 about1 = true := by decide +kernel
set_option maxRecDepth 65536 in
theorem w_case : (Jvm.Cond.and given_1 narrow_1).before args0 about1 = true := by decide +kernel
set_option maxRecDepth 65536 in
theorem w_consts : constsHeld consts_1 about1 := Jvm.Lit.constsHeldB_iff.mp (by decide +kernel)
theorem w_applies : (headSpec (Jvm.Cond.code x code maxLocals ret :: tables_1) room_1).applies x e0.platform about1 = true :=
  (Spec.applies_iff w_frames).mpr ⟨w_running, w_runnable, w_alone, w_named, w_hears, w_ripe, w_room, w_tables⟩
theorem atStart : AtStart classFile x code maxLocals ret World_1 tables_1 room_1 Calls_1 rest_1 Pre_1 launch0 p0 e0 about1 theMethod args0 below0 :=
  ⟨lists_1, trivial, launch0.admits_env _ _ _, launch0.least_env, fairChoices_fair.cas, fairChoices_fair.clock, w_frames, w_args, w_heap, w_applies, ⟨w_consts, trivial⟩, w_rest, w_case⟩
end start1
theorem witness_1 : WitnessClaimed_1 := ⟨start1.p0, start1.e0, start1.about1, start1.theMethod, start1.args0, start1.below0, start1.atStart⟩
end Jvm.Pilot.@@N@@
