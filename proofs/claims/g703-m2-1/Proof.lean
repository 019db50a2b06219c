import JvmDerived
import JvmDerived.Pilot.@@N@@Statement
import JvmDerived.Pilot.@@N@@Code
set_option linter.unusedVariables false
set_option linter.unusedSimpArgs false
/- laws to paste: Road.backV, Road.codOf (cut by pick.py; bodies as the Statement names them) -/
namespace Jvm.Pilot.@@N@@
namespace StrChars
open Jvm Sem ClassFile Op Lib Jvm.Stand Jvm.Free.XT Jvm.Free.ALB Jvm.Free.JM Jvm.Free
open Jvm.Lib.Cold (StaticIs)
/-- a char array whose places are chars -/
def Ch (a : Addr) (A : Cell) (U : State) : Prop := Arr .char a A U ∧ Typed .char A
theorem Ch.mv {a : Addr} {A : Cell} {U U' : State} (h : Ch a A U) (hal : U.vm.Alike U'.vm) (hh : U'.heap = U.heap) : Ch a A U' := ⟨h.1.mv hal hh, h.2⟩
theorem Ch.keep {a : Addr} {A : Cell} {U U' : State} (h : Ch a A U) (hal : U.vm.Alike U'.vm) (hk : U'.heap[a]? = some A) : Ch a A U' := ⟨h.1.keep hal hk, h.2⟩
/-- what place i of a char[]'s cell holds -/
def cv (A : Cell) (i : Nat) : Int32 := match A.slots[i]? with | some (.int x) => x | _ => 0
theorem Ch.get {a : Addr} {A : Cell} {U : State} (h : Ch a A U) {i : Nat} (hi : i < A.slots.size) : A.slots[i]? = some (.int (cv A i)) := by
  have e := Array.getElem?_eq_getElem hi
  have f := h.2 i _ e
  unfold cv; rw [e]
  generalize A.slots[i] = v at f
  cases v <;> simp [fits] at f ⊢
/-- the byte that i2b leaves of a char -/
def lo8 (x : Int32) : Int32 := x.toInt8.toInt32
theorem fits_lo8 (y : Int32) : fits .byte (.int (lo8 y)) = true := by
  have h1 := y.toInt8.le_toInt
  have h2 := y.toInt8.toInt_lt
  simp only [lo8, fits, Bool.and_eq_true, decide_eq_true_eq, Int32.le_iff_toInt_le, Int8.toInt_toInt32, show (-128 : Int32).toInt = -128 from by decide, show (127 : Int32).toInt = 127 from by decide]
  omega
/-- A' is A but that each place j of lo .. hi - 1 holds f j -/
def Laid (A A' : Cell) (lo hi : Nat) (f : Nat → Value) : Prop := A'.cls = A.cls ∧ A'.vm = A.vm ∧ A'.slots.size = A.slots.size ∧ ∀ i, A'.slots[i]? = if lo ≤ i ∧ i < hi then some (f i) else A.slots[i]?
theorem Laid.zero (A : Cell) (lo : Nat) (f : Nat → Value) : Laid A A lo (lo + 0) f := ⟨rfl, rfl, rfl, fun i => by rw [if_neg (by omega)]⟩
theorem Laid.step {A Ak : Cell} {lo k : Nat} {f : Nat → Value} {v : Value} (h : Laid A Ak lo k f) (hlo : lo ≤ k) (hk : k < Ak.slots.size) (hv : v = f k) : Laid A (Ak.setSlot k v) lo (k + 1) f := by
  refine ⟨h.1, h.2.1, by simpa [Cell.setSlot] using h.2.2.1, fun i => ?_⟩
  by_cases e : k = i
  · subst e; rw [Cell.slots_setSlot_self v hk, if_pos (by omega), hv]
  · rw [Cell.slots_setSlot_ne v e, h.2.2.2 i]
    by_cases q : lo ≤ i ∧ i < k
    · rw [if_pos q, if_pos (by omega)]
    · rw [if_neg q, if_neg (by omega)]
def U16 : String := "java/lang/StringUTF16"
namespace Cmp5
def yN : MethodName := ⟨"java/lang/StringUTF16", "compress", "([CI[BII)I"⟩
abbrev yB : ByteArray := jdk_52_method_21_code
theorem d0 : decode yB 0 = .ok (.iconst 0, 1) := by decide +kernel
theorem d1 : decode yB 1 = .ok (.istore 5, 2) := by decide +kernel
theorem d3 : decode yB 3 = .ok (.iload 5, 2) := by decide +kernel
theorem d5 : decode yB 5 = .ok (.iload 4, 2) := by decide +kernel
theorem d7 : decode yB 7 = .ok (.if_icmp (.ge) 37, 3) := by decide +kernel
theorem d10 : decode yB 10 = .ok (.aload_n 0, 1) := by decide +kernel
theorem d11 : decode yB 11 = .ok (.iload_n 1, 1) := by decide +kernel
theorem d12 : decode yB 12 = .ok (.caload, 1) := by decide +kernel
theorem d13 : decode yB 13 = .ok (.istore 6, 2) := by decide +kernel
theorem d15 : decode yB 15 = .ok (.iload 6, 2) := by decide +kernel
theorem d17 : decode yB 17 = .ok (.sipush 255, 3) := by decide +kernel
theorem d20 : decode yB 20 = .ok (.if_icmp (.le) 6, 3) := by decide +kernel
theorem d26 : decode yB 26 = .ok (.aload_n 2, 1) := by decide +kernel
theorem d27 : decode yB 27 = .ok (.iload_n 3, 1) := by decide +kernel
theorem d28 : decode yB 28 = .ok (.iload 6, 2) := by decide +kernel
theorem d30 : decode yB 30 = .ok (.i2b, 1) := by decide +kernel
theorem d31 : decode yB 31 = .ok (.bastore, 1) := by decide +kernel
theorem d32 : decode yB 32 = .ok (.iinc 1 1, 3) := by decide +kernel
theorem d35 : decode yB 35 = .ok (.iinc 3 1, 3) := by decide +kernel
theorem d38 : decode yB 38 = .ok (.iinc 5 1, 3) := by decide +kernel
theorem d41 : decode yB 41 = .ok (.goto (-38), 3) := by decide +kernel
theorem d44 : decode yB 44 = .ok (.iload 4, 2) := by decide +kernel
theorem d46 : decode yB 46 = .ok (.ireturn, 1) := by decide +kernel
def site : List Cond := []
def tab : Cond := tabOf yN yB 7 (some .int) site
def P (b : Addr) (A : Cell) (d : Addr) (B : Cell) (o q len : Nat) (args : Array Value) (s : State) : Prop := args = #[.ref b, .int (Int32.ofNat o), .ref d, .int (Int32.ofNat q), .int (Int32.ofNat len)] ∧ Ch b A s ∧ Arr .byte d B s ∧ b ≠ d ∧ o + len ≤ A.slots.size ∧ q + len ≤ B.slots.size ∧ ∀ i, i < len → ¬ 255 < cv A (o + i)
def E (b : Addr) (A : Cell) (d : Addr) (B : Cell) (o q len : Nat) (r : Option Value) (s u : State) : Prop := r = some (.int (Int32.ofNat len)) ∧ ∃ B', Put d B' s u ∧ Laid B B' q (q + len) (fun j => Value.int (lo8 (cv A (o + (j - q)))))
/-- no char of the range above 255: len; the places written hold each char's low byte -/
theorem law (l : Launch) (b : Addr) (A : Cell) (d : Addr) (B : Cell) (o q len : Nat) : Law l yN 5 5 0 0 yB 7 (some .int) site (P b A d B o q len) (E b A d B o q len) (copyLocs d q len) 0 0 := by
  refine Law.of_walk (plainFor_of_name (by decide +kernel)) (by decide +kernel) (by decide +kernel) (by decide) (fun _ _ h => by rw [h.1]; rfl) (fun _ U U' hal hh h => ⟨h.1, h.2.1.mv hal hh, h.2.2.1.mv hal hh, h.2.2.2⟩) (fun r U U' V V' h1 hal h2 h => ⟨h.1, h.2.elim fun B' q => ⟨B', q.1.mv h1 h2, q.2⟩⟩) ?_
  intro p e s m args below meth c s₁ X0 hexec hbytes hml hret hlk hnm hown hh0 W hP
  obtain ⟨rfl, hA, hB, hne, l1, l2, hp⟩ := hP
  have c1 : Steps p.tables e below (s₁.setTop (entryFrame m #[.ref b, .int (Int32.ofNat o), .ref d, .int (Int32.ofNat q), .int (Int32.ofNat len)] 7)) (s₁.setTop (mkF m 0 #[.val (.ref b), .val (.int (Int32.ofNat o)), .val (.ref d), .val (.int (Int32.ofNat q)), .val (.int (Int32.ofNat len)), .unset, .unset] [])) := entry rfl
  have hA0 := hA.1.mv X0.warmed.alike hh0
  have hB0 := hB.mv X0.warmed.alike hh0
  have a31 := hA.1.2.2.2
  have c2 : Steps p.tables e below (s₁.setTop (entryFrame m #[.ref b, .int (Int32.ofNat o), .ref d, .int (Int32.ofNat q), .int (Int32.ofNat len)] 7)) (s₁.setTop (mkF m 3 #[.val (.ref b), .val (.int (Int32.ofNat o)), .val (.ref d), .val (.int (Int32.ofNat q)), .val (.int (Int32.ofNat len)), .val (.int 0), .unset] [])) := c1.trans (by
    refine iconstV X0.here hexec rfl 0 (hb hbytes d0) (by decide) ?_
    refine XS.istore X0.here hexec rfl (hb hbytes d1) rfl rfl ?_
    exact Steps.refl _)
  have loop : ∀ (r i : Nat), i + r = len → ∀ (z : Slot), (z = .unset ∨ ∃ w, z = .val w ∧ w.category = 1) → ∀ (Tl : State) (Bk : Cell), Stand p l e { frames := 0, locals := 0, cells := 0, slots := 0 } s m #[.ref b, .int (Int32.ofNat o), .ref d, .int (Int32.ofNat q), .int (Int32.ofNat len)] below meth c Tl ([] ++ copyLocs d q i) 0 0 → Put d Bk s₁ Tl → Laid B Bk q (q + i) (fun j => Value.int (lo8 (cv A (o + (j - q))))) →
      Steps p.tables e below (s₁.setTop (entryFrame m #[.ref b, .int (Int32.ofNat o), .ref d, .int (Int32.ofNat q), .int (Int32.ofNat len)] 7)) (Tl.setTop (mkF m 3 #[.val (.ref b), .val (.int (Int32.ofNat (o + i))), .val (.ref d), .val (.int (Int32.ofNat (q + i))), .val (.int (Int32.ofNat len)), .val (.int (Int32.ofNat i)), z] [])) → ∃ (T' : State) (B' : Cell) (z' : Slot), Stand p l e { frames := 0, locals := 0, cells := 0, slots := 0 } s m #[.ref b, .int (Int32.ofNat o), .ref d, .int (Int32.ofNat q), .int (Int32.ofNat len)] below meth c T' ([] ++ copyLocs d q len) 0 0 ∧ Put d B' s₁ T' ∧ Laid B B' q (q + len) (fun j => Value.int (lo8 (cv A (o + (j - q))))) ∧
      Steps p.tables e below (s₁.setTop (entryFrame m #[.ref b, .int (Int32.ofNat o), .ref d, .int (Int32.ofNat q), .int (Int32.ofNat len)] 7)) (T'.setTop (mkF m 3 #[.val (.ref b), .val (.int (Int32.ofNat (o + len))), .val (.ref d), .val (.int (Int32.ofNat (q + len))), .val (.int (Int32.ofNat len)), .val (.int (Int32.ofNat len)), z'] [])) := by
    intro r
    induction r with
    | zero =>
      intro i hi z hz Tl Bk Xl pl fl cl
      have hil : i = len := by omega
      rw [hil] at Xl fl cl
      exact ⟨Tl, Bk, z, Xl, pl, fl, cl⟩
    | succ r ih =>
      intro i hi z hz Tl Bk Xl pl fl cl
      have all := X0.warmed.alike.symm.trans Xl.warmed.alike
      have hAl := hA0.keep all (pl.other hne hA0.1)
      have hBk := hB0.like all pl.1 fl.1 fl.2.1 fl.2.2.1
      have hlt : q + i < Bk.slots.size := by rw [fl.2.2.1]; omega
      have c3 : Steps p.tables e below (s₁.setTop (entryFrame m #[.ref b, .int (Int32.ofNat o), .ref d, .int (Int32.ofNat q), .int (Int32.ofNat len)] 7)) (Tl.setTop (mkF m 12 #[.val (.ref b), .val (.int (Int32.ofNat (o + i))), .val (.ref d), .val (.int (Int32.ofNat (q + i))), .val (.int (Int32.ofNat len)), .val (.int (Int32.ofNat i)), z] [.int (Int32.ofNat (o + i)), .ref b])) := cl.trans (by
        refine XS.iload Xl.here hexec rfl (hb hbytes d3) rfl ?_
        refine XS.iload Xl.here hexec rfl (hb hbytes d5) rfl ?_
        refine XS.icmpNo Xl.here hexec rfl (hb hbytes d7) rfl (ii_ge_f (lt32 (by omega) (by omega))) ?_
        refine XS.aloadN Xl.here hexec rfl (hb hbytes d10) rfl rfl ?_
        refine XS.iloadN Xl.here hexec rfl (hb hbytes d11) rfl ?_
        exact Steps.refl _)
      have c4 : Steps p.tables e below (s₁.setTop (entryFrame m #[.ref b, .int (Int32.ofNat o), .ref d, .int (Int32.ofNat q), .int (Int32.ofNat len)] 7)) (Tl.setTop (mkF m 13 #[.val (.ref b), .val (.int (Int32.ofNat (o + i))), .val (.ref d), .val (.int (Int32.ofNat (q + i))), .val (.int (Int32.ofNat len)), .val (.int (Int32.ofNat i)), z] [.int (cv A (o + i))])) := c3.trans (by
        refine Xl.aget hexec hAl rfl (hA.get (i := o + i) (by omega)) rfl rfl (hb hbytes d12) ?_
        exact Steps.refl _)
      have c5 : Steps p.tables e below (s₁.setTop (entryFrame m #[.ref b, .int (Int32.ofNat o), .ref d, .int (Int32.ofNat q), .int (Int32.ofNat len)] 7)) (Tl.setTop (mkF m 15 #[.val (.ref b), .val (.int (Int32.ofNat (o + i))), .val (.ref d), .val (.int (Int32.ofNat (q + i))), .val (.int (Int32.ofNat len)), .val (.int (Int32.ofNat i)), .val (.int (cv A (o + i)))] [])) := c4.trans (by
        refine XS.istoreS Xl.here hexec rfl (hb hbytes d13) rfl rfl hz ?_
        exact Steps.refl _)
      have c6 : Steps p.tables e below (s₁.setTop (entryFrame m #[.ref b, .int (Int32.ofNat o), .ref d, .int (Int32.ofNat q), .int (Int32.ofNat len)] 7)) (Tl.setTop (mkF m 31 #[.val (.ref b), .val (.int (Int32.ofNat (o + i))), .val (.ref d), .val (.int (Int32.ofNat (q + i))), .val (.int (Int32.ofNat len)), .val (.int (Int32.ofNat i)), .val (.int (cv A (o + i)))] [.int (lo8 (cv A (o + i))), .int (Int32.ofNat (q + i)), .ref d])) := c5.trans (by
        refine XS.iload Xl.here hexec rfl (hb hbytes d15) rfl ?_
        refine sipushV Xl.here hexec rfl 255 (hb hbytes d17) (by decide) ?_
        refine XS.icmpYes Xl.here hexec rfl (pc0 := 20) rfl (hb hbytes d20) rfl (ii_le_t (hp i (by omega))) (by decide) rfl ?_
        refine XS.aloadN Xl.here hexec rfl (hb hbytes d26) rfl rfl ?_
        refine XS.iloadN Xl.here hexec rfl (hb hbytes d27) rfl ?_
        refine XS.iload Xl.here hexec rfl (hb hbytes d28) rfl ?_
        refine i2b Xl.here hexec rfl (hb hbytes d30) rfl ?_
        exact Steps.refl _)
      obtain ⟨T7, X7, p7, st7⟩ := Xl.aput hexec hBk rfl hlt rfl (fits_lo8 (cv A (o + i))) (g := (mkF m 31 #[.val (.ref b), .val (.int (Int32.ofNat (o + i))), .val (.ref d), .val (.int (Int32.ofNat (q + i))), .val (.int (Int32.ofNat len)), .val (.int (Int32.ofNat i)), .val (.int (cv A (o + i)))] [.int (lo8 (cv A (o + i))), .int (Int32.ofNat (q + i)), .ref d])) rfl (rest := []) rfl (hb hbytes d31)
      have c8 : Steps p.tables e below (s₁.setTop (entryFrame m #[.ref b, .int (Int32.ofNat o), .ref d, .int (Int32.ofNat q), .int (Int32.ofNat len)] 7)) (T7.setTop (mkF m 32 #[.val (.ref b), .val (.int (Int32.ofNat (o + i))), .val (.ref d), .val (.int (Int32.ofNat (q + i))), .val (.int (Int32.ofNat len)), .val (.int (Int32.ofNat i)), .val (.int (cv A (o + i)))] [])) := c6.trans (st7 _ (Steps.refl _))
      have c9 : Steps p.tables e below (s₁.setTop (entryFrame m #[.ref b, .int (Int32.ofNat o), .ref d, .int (Int32.ofNat q), .int (Int32.ofNat len)] 7)) (T7.setTop (mkF m 3 #[.val (.ref b), .val (.int (Int32.ofNat (o + i) + 1)), .val (.ref d), .val (.int (Int32.ofNat (q + i) + 1)), .val (.int (Int32.ofNat len)), .val (.int (Int32.ofNat i + 1)), .val (.int (cv A (o + i)))] [])) := c8.trans (by
        refine iincV X7.here hexec rfl 1 (hb hbytes d32) (by decide) rfl rfl ?_
        refine iincV X7.here hexec rfl 1 (hb hbytes d35) (by decide) rfl rfl ?_
        refine iincV X7.here hexec rfl 1 (hb hbytes d38) (by decide) rfl rfl ?_
        refine XS.goto X7.here hexec rfl (pc0 := 41) rfl (hb hbytes d41) (by decide) rfl ?_
        exact Steps.refl _)
      have c10 : Steps p.tables e below (s₁.setTop (entryFrame m #[.ref b, .int (Int32.ofNat o), .ref d, .int (Int32.ofNat q), .int (Int32.ofNat len)] 7)) (T7.setTop (mkF m 3 #[.val (.ref b), .val (.int (Int32.ofNat (o + (i + 1)))), .val (.ref d), .val (.int (Int32.ofNat (q + (i + 1)))), .val (.int (Int32.ofNat len)), .val (.int (Int32.ofNat (i + 1))), .val (.int (cv A (o + i)))] [])) := by
        have := c9
        rw [succ32, succ32, succ32] at this
        exact this
      exact ih (i + 1) (by omega) _ (Or.inr ⟨_, rfl, rfl⟩) T7 _ (by rw [copyLocs_step, ← List.append_assoc]; exact X7) (pl.trans p7) (fl.step (by omega) hlt (by simp)) c10
  obtain ⟨T9, B9, z9, X9, p9, f9, g9⟩ := loop len 0 (by omega) .unset (Or.inl rfl) s₁ B (by simpa [copyLocs] using X0) ⟨hB0.1, fun _ _ => rfl, rfl⟩ (Laid.zero _ _ _) c2
  have c11 : Steps p.tables e below (s₁.setTop (entryFrame m #[.ref b, .int (Int32.ofNat o), .ref d, .int (Int32.ofNat q), .int (Int32.ofNat len)] 7)) (T9.setTop (mkF m 46 #[.val (.ref b), .val (.int (Int32.ofNat (o + len))), .val (.ref d), .val (.int (Int32.ofNat (q + len))), .val (.int (Int32.ofNat len)), .val (.int (Int32.ofNat len)), z9] [.int (Int32.ofNat len)])) := g9.trans (by
    refine XS.iload X9.here hexec rfl (hb hbytes d3) rfl ?_
    refine XS.iload X9.here hexec rfl (hb hbytes d5) rfl ?_
    refine XS.icmpYes X9.here hexec rfl (pc0 := 7) rfl (hb hbytes d7) rfl (ii_ge_t (nlt32 (by omega) (Nat.le_refl _))) (by decide) rfl ?_
    refine XS.iload X9.here hexec rfl (hb hbytes d44) rfl ?_
    exact Steps.refl _)
  exact ⟨T9, some (.int (Int32.ofNat len)), _, _, _, X9, by simp, rfl, rfl, (fun h => by cases h), ⟨rfl, B9, p9.from hh0, f9⟩, fun fs hl => c11.trans (X9.ireturnOut hexec hret rfl (Or.inl rfl) (hb hbytes d46) hl)⟩
end Cmp5
namespace Cmp3
def yN : MethodName := ⟨"java/lang/StringUTF16", "compress", "([CII)[B"⟩
abbrev yB : ByteArray := jdk_52_method_16_code
theorem d0 : decode yB 0 = .ok (.iload_n 2, 1) := by decide +kernel
theorem d1 : decode yB 1 = .ok (.newarray .byte, 2) := by decide +kernel
theorem d3 : decode yB 3 = .ok (.astore_n 3, 1) := by decide +kernel
theorem d4 : decode yB 4 = .ok (.aload_n 0, 1) := by decide +kernel
theorem d5 : decode yB 5 = .ok (.iload_n 1, 1) := by decide +kernel
theorem d6 : decode yB 6 = .ok (.aload_n 3, 1) := by decide +kernel
theorem d7 : decode yB 7 = .ok (.iconst 0, 1) := by decide +kernel
theorem d8 : decode yB 8 = .ok (.iload_n 2, 1) := by decide +kernel
theorem d9 : decode yB 9 = .ok (.invokestatic 115, 3) := by decide +kernel
theorem d12 : decode yB 12 = .ok (.istore 4, 2) := by decide +kernel
theorem d14 : decode yB 14 = .ok (.iload 4, 2) := by decide +kernel
theorem d16 : decode yB 16 = .ok (.iload_n 2, 1) := by decide +kernel
theorem d17 : decode yB 17 = .ok (.if_icmp (.eq) 40, 3) := by decide +kernel
theorem d57 : decode yB 57 = .ok (.aload_n 3, 1) := by decide +kernel
theorem d58 : decode yB 58 = .ok (.areturn, 1) := by decide +kernel
def site : List Cond := [.arrayClass .byte, Cmp5.tab] ++ staticW U16 115 Cmp5.yN
def tab : Cond := tabOf yN yB 6 (some (.array .byte)) site
def P (b : Addr) (A : Cell) (o len : Nat) (args : Array Value) (s : State) : Prop := args = #[.ref b, .int (Int32.ofNat o), .int (Int32.ofNat len)] ∧ Ch b A s ∧ o + len ≤ A.slots.size ∧ len ≤ 536870912 ∧ ∀ i, i < len → ¬ 255 < cv A (o + i)
def E (b : Addr) (A : Cell) (o len : Nat) (r : Option Value) (s u : State) : Prop := NewArr .byte "[B" len (fun j => .int (lo8 (cv A (o + j)))) r s u ∧ u.heap.size = s.heap.size + 1
/-- no char of the range above 255: a new byte[] of their low bytes -/
theorem law (l : Launch) (b : Addr) (A : Cell) (o len : Nat) : Law l yN 3 3 1 18 yB 6 (some (.array .byte)) site (P b A o len) (E b A o len) [] 1 len := by
  refine Law.of_walk (plainFor_of_name (by decide +kernel)) (by decide +kernel) (by decide +kernel) (by decide) (fun _ _ h => by rw [h.1]; rfl) (fun _ U U' hal hh h => ⟨h.1, h.2.1.mv hal hh, h.2.2⟩) (fun r U U' V V' h1 hal h2 h => ⟨NewArr.mv r U U' V V' h1 hal h2 h.1, by rw [h1, h2]; exact h.2⟩) ?_
  intro p e s m args below meth c s₁ X0 hexec hbytes hml hret hlk hnm hown hh0 W hP
  obtain ⟨rfl, hA, l1, l2, hp⟩ := hP
  have a31 := hA.1.2.2.2
  have c1 : Steps p.tables e below (s₁.setTop (entryFrame m #[.ref b, .int (Int32.ofNat o), .int (Int32.ofNat len)] 6)) (s₁.setTop (mkF m 0 #[.val (.ref b), .val (.int (Int32.ofNat o)), .val (.int (Int32.ofNat len)), .unset, .unset, .unset] [])) := entry rfl
  have c2 : Steps p.tables e below (s₁.setTop (entryFrame m #[.ref b, .int (Int32.ofNat o), .int (Int32.ofNat len)] 6)) (s₁.setTop (mkF m 1 #[.val (.ref b), .val (.int (Int32.ofNat o)), .val (.int (Int32.ofNat len)), .unset, .unset, .unset] [.int (Int32.ofNat len)])) := c1.trans (by
    refine XS.iloadN X0.here hexec rfl (hb hbytes d0) rfl ?_
    exact Steps.refl _)
  obtain ⟨T3, B3, X3, ba3, bs3, bv3, bh3, bf3, st3⟩ := X0.anew hexec (atype := .byte) (wk W (.arrayClass .byte)) rfl (by show len * 1 ≤ _; omega) (by omega) (g := (mkF m 1 #[.val (.ref b), .val (.int (Int32.ofNat o)), .val (.int (Int32.ofNat len)), .unset, .unset, .unset] [.int (Int32.ofNat len)])) rfl (hb hbytes d1) (rest := []) rfl (Nat.le_refl _) (by show 0 + len ≤ len; omega)
  rw [hh0] at ba3 st3
  have kp3 : XT.Kept s T3 := (XT.Kept.of_eq hh0).push bh3
  have hA3 := hA.keep X3.warmed.alike (kp3 _ _ hA.1.1)
  have hne : b ≠ s.heap.size := hA.1.ne
  have c4 : Steps p.tables e below (s₁.setTop (entryFrame m #[.ref b, .int (Int32.ofNat o), .int (Int32.ofNat len)] 6)) (T3.setTop (mkF m 3 #[.val (.ref b), .val (.int (Int32.ofNat o)), .val (.int (Int32.ofNat len)), .unset, .unset, .unset] [.ref s.heap.size])) := c2.trans (st3 _ (Steps.refl _))
  have c5 : Steps p.tables e below (s₁.setTop (entryFrame m #[.ref b, .int (Int32.ofNat o), .int (Int32.ofNat len)] 6)) (T3.setTop (mkF m 9 #[.val (.ref b), .val (.int (Int32.ofNat o)), .val (.int (Int32.ofNat len)), .val (.ref s.heap.size), .unset, .unset] [.int (Int32.ofNat len), .int 0, .ref s.heap.size, .int (Int32.ofNat o), .ref b])) := c4.trans (by
    refine XS.astoreN X3.here hexec rfl (hb hbytes d3) rfl rfl rfl ?_
    refine XS.aloadN X3.here hexec rfl (hb hbytes d4) rfl rfl ?_
    refine XS.iloadN X3.here hexec rfl (hb hbytes d5) rfl ?_
    refine XS.aloadN X3.here hexec rfl (hb hbytes d6) rfl rfl ?_
    refine iconstV X3.here hexec rfl 0 (hb hbytes d7) (by decide) ?_
    refine XS.iloadN X3.here hexec rfl (hb hbytes d8) rfl ?_
    exact Steps.refl _)
  obtain ⟨v6, T6, X6, E6, g6⟩ := X3.callS hexec (Cmp5.law l b A s.heap.size B3 o 0 len) hown (wks W (staticW U16 115 Cmp5.yN)) (wk W Cmp5.tab) (W := 0) (Nat.le_of_ble_eq_true rfl) (Nat.le_of_ble_eq_true rfl) (Nat.le_refl _) (by show 0 + len + 0 ≤ len; omega) (g := (mkF m 9 #[.val (.ref b), .val (.int (Int32.ofNat o)), .val (.int (Int32.ofNat len)), .val (.ref s.heap.size), .unset, .unset] [.int (Int32.ofNat len), .int (Int32.ofNat 0), .ref s.heap.size, .int (Int32.ofNat o), .ref b])) rfl (by rw [hml]; rfl) c5 (argsL := [.ref b, .int (Int32.ofNat o), .ref s.heap.size, .int (Int32.ofNat 0), .int (Int32.ofNat len)]) (rest := []) rfl rfl (by show 2 * 0 + 0 ≤ _; decide) (hb hbytes d9) (⟨rfl, hA3, ba3, hne, l1, by rw [bs3]; simp, hp⟩)
  obtain ⟨rfl, B6, p6, f6⟩ := E6
  have c7 : Steps p.tables e below (s₁.setTop (entryFrame m #[.ref b, .int (Int32.ofNat o), .int (Int32.ofNat len)] 6)) (T6.setTop (mkF m 12 #[.val (.ref b), .val (.int (Int32.ofNat o)), .val (.int (Int32.ofNat len)), .val (.ref s.heap.size), .unset, .unset] [.int (Int32.ofNat len)])) := g6
  have c8 : Steps p.tables e below (s₁.setTop (entryFrame m #[.ref b, .int (Int32.ofNat o), .int (Int32.ofNat len)] 6)) (T6.setTop (mkF m 58 #[.val (.ref b), .val (.int (Int32.ofNat o)), .val (.int (Int32.ofNat len)), .val (.ref s.heap.size), .val (.int (Int32.ofNat len)), .unset] [.ref s.heap.size])) := c7.trans (by
    refine XS.istore X6.here hexec rfl (hb hbytes d12) rfl rfl ?_
    refine XS.iload X6.here hexec rfl (hb hbytes d14) rfl ?_
    refine XS.iloadN X6.here hexec rfl (hb hbytes d16) rfl ?_
    refine XS.icmpYes X6.here hexec rfl (pc0 := 17) rfl (hb hbytes d17) rfl (ii_eq_t rfl) (by decide) rfl ?_
    refine XS.aloadN X6.here hexec rfl (hb hbytes d57) rfl rfl ?_
    exact Steps.refl _)
  have X8 := X6.wide (L' := []) (cells' := 1) (slots' := len) (fun x hx hlt => by
    simp only [List.nil_append, copyLocs, List.mem_map, List.mem_range] at hx
    obtain ⟨i, -, rfl⟩ := hx
    exact absurd hlt (Nat.lt_irrefl _)) (Nat.le_refl _) (by omega)
  exact ⟨T6, some (.ref s.heap.size), _, _, _, X8, rfl, rfl, rfl, (fun h => by cases h), ⟨⟨rfl, B6, ba3.like (X3.warmed.alike.symm.trans X6.warmed.alike) p6.1 f6.1 f6.2.1 f6.2.2.1, f6.2.1.trans bv3, by rw [X6.warmed.alike.findClass, f6.1]; exact bf3, by rw [f6.2.2.1, bs3]; simp, fun j hj => by rw [f6.2.2.2 j, if_pos (by omega)]; rfl, kp3.put p6 (Nat.le_refl _)⟩, by rw [p6.2.2, bh3, hh0]; simp⟩, fun fs hl => c8.trans (X8.areturnOut hexec rfl hret rfl (hb hbytes d58) hl)⟩
end Cmp3
namespace CodL
def yN : MethodName := ⟨"java/lang/StringUTF16", "coderFromArrayLen", "([BI)B"⟩
abbrev yB : ByteArray := jdk_52_method_15_code
theorem d0 : decode yB 0 = .ok (.iload_n 1, 1) := by decide +kernel
theorem d1 : decode yB 1 = .ok (.aload_n 0, 1) := by decide +kernel
theorem d2 : decode yB 2 = .ok (.arraylength, 1) := by decide +kernel
theorem d3 : decode yB 3 = .ok (.isub, 1) := by decide +kernel
theorem d4 : decode yB 4 = .ok (.bipush 31, 2) := by decide +kernel
theorem d6 : decode yB 6 = .ok (.iushr, 1) := by decide +kernel
theorem d7 : decode yB 7 = .ok (.i2b, 1) := by decide +kernel
theorem d8 : decode yB 8 = .ok (.ireturn, 1) := by decide +kernel
def site : List Cond := []
def tab : Cond := tabOf yN yB 2 (some .byte) site
def P (d : Addr) (B : Cell) (args : Array Value) (s : State) : Prop := args = #[.ref d, .int (Int32.ofNat B.slots.size)] ∧ Arr .byte d B s
def E (r : Option Value) (s u : State) : Prop := XT.PureE (some (.int 0)) r s u
/-- an array as long as the number of chars: LATIN1 -/
theorem law (l : Launch) (d : Addr) (B : Cell) : Law l yN 2 2 0 0 yB 2 (some .byte) site (P d B) E [] 0 0 := by
  refine Law.of_walk (plainFor_of_name (by decide +kernel)) (by decide +kernel) (by decide +kernel) (by decide) (fun _ _ h => by rw [h.1]; rfl) (fun _ U U' hal hh h => ⟨h.1, h.2.mv hal hh⟩) (fun r U U' V V' h1 hal h2 h => XT.PureE.mv r U U' V V' h1 hal h2 h) ?_
  intro p e s m args below meth c s₁ X0 hexec hbytes hml hret hlk hnm hown hh0 W hP
  obtain ⟨rfl, hB⟩ := hP
  have hB0 := hB.mv X0.warmed.alike hh0
  have c1 : Steps p.tables e below (s₁.setTop (entryFrame m #[.ref d, .int (Int32.ofNat B.slots.size)] 2)) (s₁.setTop (mkF m 0 #[.val (.ref d), .val (.int (Int32.ofNat B.slots.size))] [])) := entry rfl
  have c2 : Steps p.tables e below (s₁.setTop (entryFrame m #[.ref d, .int (Int32.ofNat B.slots.size)] 2)) (s₁.setTop (mkF m 2 #[.val (.ref d), .val (.int (Int32.ofNat B.slots.size))] [.ref d, .int (Int32.ofNat B.slots.size)])) := c1.trans (by
    refine XS.iloadN X0.here hexec rfl (hb hbytes d0) rfl ?_
    refine XS.aloadN X0.here hexec rfl (hb hbytes d1) rfl rfl ?_
    exact Steps.refl _)
  have c3 : Steps p.tables e below (s₁.setTop (entryFrame m #[.ref d, .int (Int32.ofNat B.slots.size)] 2)) (s₁.setTop (mkF m 8 #[.val (.ref d), .val (.int (Int32.ofNat B.slots.size))] [.int (lo8 (ushr (Int32.ofNat B.slots.size - Int32.ofNat B.slots.size) 31))])) := c2.trans (by
    refine X0.alen hexec hB0 rfl rfl (hb hbytes d2) ?_
    refine XS.isub X0.here hexec rfl (hb hbytes d3) rfl ?_
    refine bipushV X0.here hexec rfl 31 (hb hbytes d4) (by decide) ?_
    refine iushr X0.here hexec rfl (hb hbytes d6) rfl ?_
    refine i2b X0.here hexec rfl (hb hbytes d7) rfl ?_
    exact Steps.refl _)
  have e0 : lo8 (ushr (Int32.ofNat B.slots.size - Int32.ofNat B.slots.size) 31) = 0 := by rw [Int32.sub_self]; decide
  rw [e0] at c3
  exact ⟨s₁, some (.int 0), _, _, _, X0, rfl, rfl, rfl, (fun h => by cases h), ⟨rfl, hh0⟩, fun fs hl => c3.trans (X0.ireturnOut hexec hret rfl (Or.inr (Or.inr (Or.inl rfl))) (hb hbytes d8) hl)⟩
end CodL
/-- the String at a is Latin-1 over a new byte[] (the heap's one new cell): the low bytes of the len chars of A from o on; every cell but a is kept -/
def Got (a : Addr) (D : Cell) (fV fC : Field) (A : Cell) (o len : Nat) (r : Option Value) (s u : State) : Prop := r = none ∧ ∃ D' V : Cell, Blank "java/lang/String" a D' u ∧ Same D D' [fV.slot, fC.slot] ∧ D'.slots[fV.slot]? = some (.ref s.heap.size) ∧ D'.slots[fC.slot]? = some (.int 0) ∧ Arr .byte s.heap.size V u ∧ V.vm = .none ∧ u.vm.findClass "[B" = some V.cls ∧ V.slots.size = len ∧ (∀ j, j < len → V.slots[j]? = some (.int (lo8 (cv A (o + j))))) ∧ (∀ (y : Addr) (c : Cell), y ≠ a → s.heap[y]? = some c → u.heap[y]? = some c) ∧ u.heap.size = s.heap.size + 1
theorem Got.mv {a : Addr} {D A : Cell} {fV fC : Field} {o len : Nat} : ∀ r (U U' V V' : State), U'.heap = U.heap → V.vm.Alike V'.vm → V'.heap = V.heap → Got a D fV fC A o len r U V → Got a D fV fC A o len r U' V' :=
  fun r U U' V V' h1 hal h2 ⟨e0, D', X, a1, a2, a3, a4, a5, a6, a7, a8, a9, a10, a11⟩ => ⟨e0, D', X, a1.mv hal h2, a2, by rw [h1]; exact a3, a4, by rw [h1]; exact a5.mv hal h2, a6, by rw [hal.findClass]; exact a7, a8, a9, by rw [h1, h2]; exact a10, by rw [h1, h2]; exact a11⟩
namespace New4
def yN : MethodName := ⟨"java/lang/String", "<init>", "([CIILjava/lang/Void;)V"⟩
abbrev yB : ByteArray := jdk_42_method_149_code
theorem d0 : decode yB 0 = .ok (.aload_n 0, 1) := by decide +kernel
theorem d1 : decode yB 1 = .ok (.invokespecial 1, 3) := by decide +kernel
theorem d4 : decode yB 4 = .ok (.iload_n 3, 1) := by decide +kernel
theorem d5 : decode yB 5 = .ok (.ifCond (.ne) 22, 3) := by decide +kernel
theorem d27 : decode yB 27 = .ok (.getstatic 38, 3) := by decide +kernel
theorem d30 : decode yB 30 = .ok (.ifCond (.eq) 28, 3) := by decide +kernel
theorem d33 : decode yB 33 = .ok (.aload_n 1, 1) := by decide +kernel
theorem d34 : decode yB 34 = .ok (.iload_n 2, 1) := by decide +kernel
theorem d35 : decode yB 35 = .ok (.iload_n 3, 1) := by decide +kernel
theorem d36 : decode yB 36 = .ok (.invokestatic 177, 3) := by decide +kernel
theorem d39 : decode yB 39 = .ok (.astore 5, 2) := by decide +kernel
theorem d41 : decode yB 41 = .ok (.aload_n 0, 1) := by decide +kernel
theorem d42 : decode yB 42 = .ok (.aload 5, 2) := by decide +kernel
theorem d44 : decode yB 44 = .ok (.iload_n 3, 1) := by decide +kernel
theorem d45 : decode yB 45 = .ok (.invokestatic 47, 3) := by decide +kernel
theorem d48 : decode yB 48 = .ok (.putfield 15, 3) := by decide +kernel
theorem d51 : decode yB 51 = .ok (.aload_n 0, 1) := by decide +kernel
theorem d52 : decode yB 52 = .ok (.aload 5, 2) := by decide +kernel
theorem d54 : decode yB 54 = .ok (.putfield 9, 3) := by decide +kernel
theorem d57 : decode yB 57 = .ok (.return_, 1) := by decide +kernel
def site : List Cond := [.fieldLink "java/lang/String" 38 "java/lang/String" "COMPACT_STRINGS" "Z", Cmp3.tab, CodL.tab, .laysFinal "java/lang/String" "java/lang/String" "value" "[B", .fieldLink "java/lang/String" 9 "java/lang/String" "value" "[B", .laysFinal "java/lang/String" "java/lang/String" "coder" "B", .fieldLink "java/lang/String" 15 "java/lang/String" "coder" "B"] ++ objW "java/lang/String" 1 ++ staticW "java/lang/String" 177 Cmp3.yN ++ staticW "java/lang/String" 47 CodL.yN
def tab : Cond := tabOf yN yB 6 none site
def P (a : Addr) (D : Cell) (fV fC : Field) (b : Addr) (A : Cell) (z : Int32) (o len : Nat) (args : Array Value) (s : State) : Prop := args = #[.ref a, .ref b, .int (Int32.ofNat o), .int (Int32.ofNat len), .null] ∧ Blank "java/lang/String" a D s ∧ Found "java/lang/String" "value" "[B" fV s ∧ Found "java/lang/String" "coder" "B" fC s ∧ Ch b A s ∧ StaticIs s "java/lang/String" "COMPACT_STRINGS" "Z" (.int z) ∧ ¬ z = 0 ∧ 0 < len ∧ o + len ≤ A.slots.size ∧ len ≤ 536870912 ∧ ∀ i, i < len → ¬ 255 < cv A (o + i)
def E (a : Addr) (D : Cell) (fV fC : Field) (A : Cell) (o len : Nat) (r : Option Value) (s u : State) : Prop := Got a D fV fC A o len r s u
/-- len > 0, no char of the range above 255: a Latin-1 String of their low bytes -/
theorem law (l : Launch) (a : Addr) (D : Cell) (fV fC : Field) (b : Addr) (A : Cell) (z : Int32) (o len : Nat) : Law l yN 5 4 2 35 yB 6 none site (P a D fV fC b A z o len) (E a D fV fC A o len) [⟨a, fC.slot⟩, ⟨a, fV.slot⟩] 1 len := by
  refine Law.of_walk (plainFor_of_name (by decide +kernel)) (by decide +kernel) (by decide +kernel) (by decide) (fun _ _ h => by rw [h.1]; rfl) (fun _ U U' hal hh h => ⟨h.1, h.2.1.mv hal hh, h.2.2.1.al hal, h.2.2.2.1.al hal, h.2.2.2.2.1.mv hal hh, h.2.2.2.2.2.1.there hal hh, h.2.2.2.2.2.2⟩) (fun r U U' V V' h1 hal h2 h => Got.mv r U U' V V' h1 hal h2 h) ?_
  intro p e s m args below meth c s₁ X0 hexec hbytes hml hret hlk hnm hown hh0 W hP
  obtain ⟨rfl, hB, f1, f2, hA, s1, hz, l0, l1, l2, hp⟩ := hP
  have a31 := hA.1.2.2.2
  have c1 : Steps p.tables e below (s₁.setTop (entryFrame m #[.ref a, .ref b, .int (Int32.ofNat o), .int (Int32.ofNat len), .null] 6)) (s₁.setTop (mkF m 0 #[.val (.ref a), .val (.ref b), .val (.int (Int32.ofNat o)), .val (.int (Int32.ofNat len)), .val .null, .unset] [])) := entry rfl
  have c2 : Steps p.tables e below (s₁.setTop (entryFrame m #[.ref a, .ref b, .int (Int32.ofNat o), .int (Int32.ofNat len), .null] 6)) (s₁.setTop (mkF m 1 #[.val (.ref a), .val (.ref b), .val (.int (Int32.ofNat o)), .val (.int (Int32.ofNat len)), .val .null, .unset] [.ref a])) := c1.trans (by
    refine XS.aloadN X0.here hexec rfl (hb hbytes d0) rfl rfl ?_
    exact Steps.refl _)
  obtain ⟨T3, X3, q3, st3⟩ := X0.oinit hexec hown (wks W (objW "java/lang/String" 1)) (g := (mkF m 1 #[.val (.ref a), .val (.ref b), .val (.int (Int32.ofNat o)), .val (.int (Int32.ofNat len)), .val .null, .unset] [.ref a])) rfl (by rw [hml]; rfl) (rest := []) rfl (hb hbytes d1) (W := 0) (by show 2 * 0 + 0 ≤ _; decide) (Nat.le_of_ble_eq_true rfl) (Nat.le_of_ble_eq_true rfl)
  have hh3 := q3.trans hh0
  have c4 : Steps p.tables e below (s₁.setTop (entryFrame m #[.ref a, .ref b, .int (Int32.ofNat o), .int (Int32.ofNat len), .null] 6)) (T3.setTop (mkF m 27 #[.val (.ref a), .val (.ref b), .val (.int (Int32.ofNat o)), .val (.int (Int32.ofNat len)), .val .null, .unset] [])) := (c2.trans (st3 _ (Steps.refl _))).trans (by
    refine XS.iloadN X3.here hexec rfl (hb hbytes d4) rfl ?_
    refine XS.ifYes X3.here hexec rfl (pc0 := 5) rfl (hb hbytes d5) rfl (i0_ne_t (nz32 (by omega) l0)) (by decide) rfl ?_
    exact Steps.refl _)
  obtain ⟨T5, X5, q5, st5⟩ := X3.sget hexec hown (wk W (.fieldLink "java/lang/String" 38 "java/lang/String" "COMPACT_STRINGS" "Z")) s1 (fun _ _ h => by rw [hh3]; exact h) (g := (mkF m 27 #[.val (.ref a), .val (.ref b), .val (.int (Int32.ofNat o)), .val (.int (Int32.ofNat len)), .val .null, .unset] [])) rfl (hb hbytes d27)
  have hh5 := q5.trans hh3
  have c6 : Steps p.tables e below (s₁.setTop (entryFrame m #[.ref a, .ref b, .int (Int32.ofNat o), .int (Int32.ofNat len), .null] 6)) (T5.setTop (mkF m 30 #[.val (.ref a), .val (.ref b), .val (.int (Int32.ofNat o)), .val (.int (Int32.ofNat len)), .val .null, .unset] [.int z])) := c4.trans (st5 _ (Steps.refl _))
  have c7 : Steps p.tables e below (s₁.setTop (entryFrame m #[.ref a, .ref b, .int (Int32.ofNat o), .int (Int32.ofNat len), .null] 6)) (T5.setTop (mkF m 36 #[.val (.ref a), .val (.ref b), .val (.int (Int32.ofNat o)), .val (.int (Int32.ofNat len)), .val .null, .unset] [.int (Int32.ofNat len), .int (Int32.ofNat o), .ref b])) := c6.trans (by
    refine XS.ifNo X5.here hexec rfl (hb hbytes d30) rfl (i0_eq_f hz) ?_
    refine XS.aloadN X5.here hexec rfl (hb hbytes d33) rfl rfl ?_
    refine XS.iloadN X5.here hexec rfl (hb hbytes d34) rfl ?_
    refine XS.iloadN X5.here hexec rfl (hb hbytes d35) rfl ?_
    exact Steps.refl _)
  obtain ⟨v8, T8, X8, E8, g8⟩ := X5.callS hexec (Cmp3.law l b A o len) hown (wks W (staticW "java/lang/String" 177 Cmp3.yN)) (wk W Cmp3.tab) (W := 0) (Nat.le_of_ble_eq_true rfl) (Nat.le_of_ble_eq_true rfl) (Nat.le_refl _) (by show 0 + len ≤ len; omega) (g := (mkF m 36 #[.val (.ref a), .val (.ref b), .val (.int (Int32.ofNat o)), .val (.int (Int32.ofNat len)), .val .null, .unset] [.int (Int32.ofNat len), .int (Int32.ofNat o), .ref b])) rfl (by rw [hml]; rfl) c7 (argsL := [.ref b, .int (Int32.ofNat o), .int (Int32.ofNat len)]) (rest := []) rfl rfl (by show 2 * 0 + 0 ≤ _; decide) (hb hbytes d36) (⟨rfl, hA.mv X5.warmed.alike hh5, l1, l2, hp⟩)
  obtain ⟨e8, z8⟩ := E8
  obtain ⟨rfl, N, n1, n2, n3, n4, n5, n6⟩ := NewArr.mv _ T5 s _ _ hh5.symm (Vm.Alike.refl _) rfl e8
  rw [hh5] at z8
  have hB1 := hB.keep X8.warmed.alike (n6 _ _ hB.1)
  have hne : s.heap.size ≠ a := (Nat.ne_of_lt (Array.getElem?_eq_some_iff.mp hB.1).1).symm
  have c9 : Steps p.tables e below (s₁.setTop (entryFrame m #[.ref a, .ref b, .int (Int32.ofNat o), .int (Int32.ofNat len), .null] 6)) (T8.setTop (mkF m 39 #[.val (.ref a), .val (.ref b), .val (.int (Int32.ofNat o)), .val (.int (Int32.ofNat len)), .val .null, .unset] [.ref s.heap.size])) := g8
  have c10 : Steps p.tables e below (s₁.setTop (entryFrame m #[.ref a, .ref b, .int (Int32.ofNat o), .int (Int32.ofNat len), .null] 6)) (T8.setTop (mkF m 45 #[.val (.ref a), .val (.ref b), .val (.int (Int32.ofNat o)), .val (.int (Int32.ofNat len)), .val .null, .val (.ref s.heap.size)] [.int (Int32.ofNat N.slots.size), .ref s.heap.size, .ref a])) := by
    have hc : Steps p.tables e below (s₁.setTop (entryFrame m #[.ref a, .ref b, .int (Int32.ofNat o), .int (Int32.ofNat len), .null] 6)) (T8.setTop (mkF m 45 #[.val (.ref a), .val (.ref b), .val (.int (Int32.ofNat o)), .val (.int (Int32.ofNat len)), .val .null, .val (.ref s.heap.size)] [.int (Int32.ofNat len), .ref s.heap.size, .ref a])) := c9.trans (by
      refine XS.astore X8.here hexec rfl (hb hbytes d39) rfl rfl rfl ?_
      refine XS.aloadN X8.here hexec rfl (hb hbytes d41) rfl rfl ?_
      refine XS.aload X8.here hexec rfl (hb hbytes d42) rfl rfl ?_
      refine XS.iloadN X8.here hexec rfl (hb hbytes d44) rfl ?_
      exact Steps.refl _)
    rw [n4]; exact hc
  obtain ⟨v11, T11, X11, E11, g11⟩ := X8.callS hexec (CodL.law l s.heap.size N) hown (wks W (staticW "java/lang/String" 47 CodL.yN)) (wk W CodL.tab) (W := 1) (Nat.le_of_ble_eq_true rfl) (Nat.le_of_ble_eq_true rfl) (Nat.le_refl _) (by show 0 + len + 0 ≤ len; omega) (g := (mkF m 45 #[.val (.ref a), .val (.ref b), .val (.int (Int32.ofNat o)), .val (.int (Int32.ofNat len)), .val .null, .val (.ref s.heap.size)] [.int (Int32.ofNat N.slots.size), .ref s.heap.size, .ref a])) rfl (by rw [hml]; rfl) c10 (argsL := [.ref s.heap.size, .int (Int32.ofNat N.slots.size)]) (rest := [.ref a]) rfl rfl (by show 2 * 0 + (1 + 0) ≤ _; decide) (hb hbytes d45) (⟨rfl, n1⟩)
  obtain ⟨rfl, q11⟩ := E11
  have hB11 := hB1.mv (X8.warmed.alike.symm.trans X11.warmed.alike) q11
  have c12 : Steps p.tables e below (s₁.setTop (entryFrame m #[.ref a, .ref b, .int (Int32.ofNat o), .int (Int32.ofNat len), .null] 6)) (T11.setTop (mkF m 48 #[.val (.ref a), .val (.ref b), .val (.int (Int32.ofNat o)), .val (.int (Int32.ofNat len)), .val .null, .val (.ref s.heap.size)] [.int 0, .ref a])) := g11
  obtain ⟨T13, X13, p13, bl13, sl13, st13⟩ := X11.finit hexec hown (wk W (.fieldLink "java/lang/String" 15 "java/lang/String" "coder" "B")) (Or.inr ⟨_, (wk W (.laysFinal "java/lang/String" "java/lang/String" "coder" "B"))⟩) (Or.inl ⟨rfl, hnm⟩) f2 (Or.inl rfl) hB11 (t := .byte) (by decide +kernel) rfl (g := (mkF m 48 #[.val (.ref a), .val (.ref b), .val (.int (Int32.ofNat o)), .val (.int (Int32.ofNat len)), .val .null, .val (.ref s.heap.size)] [.int 0, .ref a])) rfl (rest := []) rfl (hb hbytes d48)
  have c14 : Steps p.tables e below (s₁.setTop (entryFrame m #[.ref a, .ref b, .int (Int32.ofNat o), .int (Int32.ofNat len), .null] 6)) (T13.setTop (mkF m 54 #[.val (.ref a), .val (.ref b), .val (.int (Int32.ofNat o)), .val (.int (Int32.ofNat len)), .val .null, .val (.ref s.heap.size)] [.ref s.heap.size, .ref a])) := (c12.trans (st13 _ (Steps.refl _))).trans (by
    refine XS.aloadN X13.here hexec rfl (hb hbytes d51) rfl rfl ?_
    refine XS.aload X13.here hexec rfl (hb hbytes d52) rfl rfl ?_
    exact Steps.refl _)
  obtain ⟨T15, X15, p15, bl15, sl15, st15⟩ := X13.finit hexec hown (wk W (.fieldLink "java/lang/String" 9 "java/lang/String" "value" "[B")) (Or.inr ⟨_, (wk W (.laysFinal "java/lang/String" "java/lang/String" "value" "[B"))⟩) (Or.inl ⟨rfl, hnm⟩) f1 (Or.inl rfl) bl13 (t := (.array .byte)) (by decide +kernel) rfl (g := (mkF m 54 #[.val (.ref a), .val (.ref b), .val (.int (Int32.ofNat o)), .val (.int (Int32.ofNat len)), .val .null, .val (.ref s.heap.size)] [.ref s.heap.size, .ref a])) rfl (rest := []) rfl (hb hbytes d54)
  have c16 : Steps p.tables e below (s₁.setTop (entryFrame m #[.ref a, .ref b, .int (Int32.ofNat o), .int (Int32.ofNat len), .null] 6)) (T15.setTop (mkF m 57 #[.val (.ref a), .val (.ref b), .val (.int (Int32.ofNat o)), .val (.int (Int32.ofNat len)), .val .null, .val (.ref s.heap.size)] [])) := c14.trans (st15 _ (Steps.refl _))
  have ap := apart (Or.inr ⟨_, (wk W (.laysFinal "java/lang/String" "java/lang/String" "value" "[B"))⟩) (Or.inr ⟨_, (wk W (.laysFinal "java/lang/String" "java/lang/String" "coder" "B"))⟩) f1 f2 (t₁ := .array .byte) (t₂ := .byte) (by decide +kernel) (by decide +kernel) (by decide)
  have al := X8.warmed.alike.symm.trans X15.warmed.alike
  have n7 : T11.heap[s.heap.size]? = some N := by rw [q11]; exact n1.1
  exact ⟨T15, none, _, _, _, X15, by simp, rfl, by omega, (fun _ => rfl), ⟨rfl, _, N, bl15, ((Same.refl D _).set _ (by simp)).set _ (by simp), sl15, (Cell.slots_setSlot_ne _ ap).trans sl13, n1.keep al (p15.other hne (p13.other hne n7)), n2, by rw [al.findClass]; exact n3, n4, n5, fun y c h1 h2 => p15.other h1 (p13.other h1 (by rw [q11]; exact n6 y c h2)), by rw [p15.2.2, p13.2.2, q11]; exact z8⟩, fun fs hl => c16.trans (X15.returnOut hexec hret (hb hbytes d57) hl)⟩
end New4
namespace New1
def yN : MethodName := ⟨"java/lang/String", "<init>", "([C)V"⟩
abbrev yB : ByteArray := jdk_42_method_3_code
theorem d0 : decode yB 0 = .ok (.aload_n 0, 1) := by decide +kernel
theorem d1 : decode yB 1 = .ok (.aload_n 1, 1) := by decide +kernel
theorem d2 : decode yB 2 = .ok (.iconst 0, 1) := by decide +kernel
theorem d3 : decode yB 3 = .ok (.aload_n 1, 1) := by decide +kernel
theorem d4 : decode yB 4 = .ok (.arraylength, 1) := by decide +kernel
theorem d5 : decode yB 5 = .ok (.aconst_null, 1) := by decide +kernel
theorem d6 : decode yB 6 = .ok (.invokespecial 27, 3) := by decide +kernel
theorem d9 : decode yB 9 = .ok (.return_, 1) := by decide +kernel
def site : List Cond := [New4.tab] ++ initW "java/lang/String" 27 New4.yN
def tab : Cond := tabOf yN yB 2 none site
def P (a : Addr) (D : Cell) (fV fC : Field) (b : Addr) (A : Cell) (z : Int32) (args : Array Value) (s : State) : Prop := args = #[.ref a, .ref b] ∧ Blank "java/lang/String" a D s ∧ Found "java/lang/String" "value" "[B" fV s ∧ Found "java/lang/String" "coder" "B" fC s ∧ Ch b A s ∧ StaticIs s "java/lang/String" "COMPACT_STRINGS" "Z" (.int z) ∧ ¬ z = 0 ∧ 0 < A.slots.size ∧ A.slots.size ≤ 536870912 ∧ ∀ i, i < A.slots.size → ¬ 255 < cv A i
def E (a : Addr) (D : Cell) (fV fC : Field) (A : Cell) (r : Option Value) (s u : State) : Prop := Got a D fV fC A 0 A.slots.size r s u
/-- new String(chars), not empty, no char above 255: a Latin-1 String of their low bytes -/
theorem law (l : Launch) (a : Addr) (D : Cell) (fV fC : Field) (b : Addr) (A : Cell) (z : Int32) : Law l yN 2 1 3 52 yB 2 none site (P a D fV fC b A z) (E a D fV fC A) [⟨a, fC.slot⟩, ⟨a, fV.slot⟩] 1 A.slots.size := by
  refine Law.of_walk (plainFor_of_name (by decide +kernel)) (by decide +kernel) (by decide +kernel) (by decide) (fun _ _ h => by rw [h.1]; rfl) (fun _ U U' hal hh h => ⟨h.1, h.2.1.mv hal hh, h.2.2.1.al hal, h.2.2.2.1.al hal, h.2.2.2.2.1.mv hal hh, h.2.2.2.2.2.1.there hal hh, h.2.2.2.2.2.2⟩) (fun r U U' V V' h1 hal h2 h => Got.mv r U U' V V' h1 hal h2 h) ?_
  intro p e s m args below meth c s₁ X0 hexec hbytes hml hret hlk hnm hown hh0 W hP
  obtain ⟨rfl, hB, f1, f2, hA, s1, hz, l0, l2, hp⟩ := hP
  have c1 : Steps p.tables e below (s₁.setTop (entryFrame m #[.ref a, .ref b] 2)) (s₁.setTop (mkF m 0 #[.val (.ref a), .val (.ref b)] [])) := entry rfl
  have c2 : Steps p.tables e below (s₁.setTop (entryFrame m #[.ref a, .ref b] 2)) (s₁.setTop (mkF m 6 #[.val (.ref a), .val (.ref b)] [.null, .int (Int32.ofNat A.slots.size), .int 0, .ref b, .ref a])) := c1.trans (by
    refine XS.aloadN X0.here hexec rfl (hb hbytes d0) rfl rfl ?_
    refine XS.aloadN X0.here hexec rfl (hb hbytes d1) rfl rfl ?_
    refine iconstV X0.here hexec rfl 0 (hb hbytes d2) (by decide) ?_
    refine XS.aloadN X0.here hexec rfl (hb hbytes d3) rfl rfl ?_
    refine X0.alen hexec (hA.1.mv X0.warmed.alike hh0) rfl rfl (hb hbytes d4) ?_
    refine XS.aconstNull X0.here hexec rfl (hb hbytes d5) ?_
    exact Steps.refl _)
  obtain ⟨v3, T3, X3, E3, g3⟩ := X0.callN hexec (New4.law l a D fV fC b A z 0 A.slots.size) rfl hown (wks W (initW "java/lang/String" 27 New4.yN)) (W New4.tab (by simp only [site, List.mem_cons, List.mem_append, true_or, or_true])) (W := 0) (Nat.le_of_ble_eq_true rfl) (Nat.le_of_ble_eq_true rfl) (Nat.le_refl _) (by show 0 + A.slots.size ≤ A.slots.size; omega) (g := (mkF m 6 #[.val (.ref a), .val (.ref b)] [.null, .int (Int32.ofNat A.slots.size), .int (Int32.ofNat 0), .ref b, .ref a])) rfl (by rw [hml]; rfl) c2 (argsL := [.ref b, .int (Int32.ofNat 0), .int (Int32.ofNat A.slots.size), .null]) (rest := []) rfl rfl (by show 2 * 0 + 0 ≤ _; decide) (hb hbytes d6) (⟨rfl, hB.mv X0.warmed.alike hh0, f1.al X0.warmed.alike, f2.al X0.warmed.alike, hA.mv X0.warmed.alike hh0, s1.there X0.warmed.alike hh0, hz, l0, by omega, l2, fun i hi => by rw [Nat.zero_add]; exact hp i hi⟩)
  have e0 := Got.mv _ s₁ s _ _ hh0.symm (Vm.Alike.refl _) rfl E3
  obtain rfl := e0.1
  have c4 : Steps p.tables e below (s₁.setTop (entryFrame m #[.ref a, .ref b] 2)) (T3.setTop (mkF m 9 #[.val (.ref a), .val (.ref b)] [])) := g3
  exact ⟨T3, none, _, _, _, X3, by simp, rfl, by omega, (fun _ => rfl), e0, fun fs hl => c4.trans (X3.returnOut hexec hret (hb hbytes d9) hl)⟩
theorem pays {l : Launch} {R : Room} {p : Program} {e : Env} {below : List Frame} {s : State} {sargs : Array Value} {len W : Nat} (a : Addr) (D : Cell) (fV fC : Field) (b : Addr) (A : Cell) (z : Int32) (htab : tab.before sargs s = true) (hfr : 4 ≤ R.frames) (hlo : W + 65 ≤ R.locals) :
    Back l R p e below s sargs yN len W (fun A₁ a₁ => A₁.cells + 1 ≤ R.cells ∧ A₁.slots + A.slots.size ≤ R.slots ∧ P a D fV fC b A z a₁ A₁.U) (fun A₁ _ v₁ B₁ => E a D fV fC A v₁ A₁.U B₁.U ∧ B₁.locs = A₁.locs ++ [⟨a, fC.slot⟩, ⟨a, fV.slot⟩] ∧ B₁.cells = A₁.cells + 1 ∧ B₁.slots = A₁.slots + A.slots.size) :=
  (law l a D fV fC b A z).pays htab hfr (by omega)
end New1
end StrChars
namespace StrChars.Road
open Jvm Sem ClassFile Op Lib Jvm.Stand Jvm.Free Jvm.Free.XT
open Jvm.Lib.Cold (StaticIs)
abbrev ST : String := "java/lang/String"
/-- every table word that New1's law asks, flat -/
abbrev words : List Jvm.Cond := [.code New1.yN New1.yB 2 none, .initialized ST, .methodLink ST 27 New4.yN, .instanceMethod New4.yN,
  .code New4.yN New4.yB 6 none, .fieldLink ST 38 ST "COMPACT_STRINGS" "Z", .laysFinal ST ST "value" "[B", .fieldLink ST 9 ST "value" "[B", .laysFinal ST ST "coder" "B", .fieldLink ST 15 ST "coder" "B",
  .methodLink ST 1 Lib.objectInit, .instanceMethod Lib.objectInit, .code Lib.objectInit ⟨#[0xb1]⟩ 1 none, .methodLink ST 177 Cmp3.yN, .static Cmp3.yN, .methodLink ST 47 CodL.yN, .static CodL.yN,
  .code Cmp3.yN Cmp3.yB 6 (some (.array .byte)), .initialized U16, .arrayClass .byte, .methodLink U16 115 Cmp5.yN, .static Cmp5.yN, .code Cmp5.yN Cmp5.yB 7 (some .int), .code CodL.yN CodL.yB 2 (some .byte)]
theorem tab_of {a : Array Value} {s : State} (h : ∀ w ∈ words, w.before a s = true) : New1.tab.before a s = true := by
  have h5 : Cmp5.tab.before a s = true := unparts (wk h (.code Cmp5.yN Cmp5.yB 7 (some .int))) (wks h (.initialized Cmp5.yN.cls :: Cmp5.site))
  have hc : CodL.tab.before a s = true := unparts (wk h (.code CodL.yN CodL.yB 2 (some .byte))) (wks h (.initialized CodL.yN.cls :: CodL.site))
  have q5 : ∀ w ∈ Cmp5.tab :: words, w.before a s = true := fun w hw => (List.mem_cons.mp hw).elim (fun e => e ▸ h5) (h w)
  have h3 : Cmp3.tab.before a s = true := unparts (wk q5 (.code Cmp3.yN Cmp3.yB 6 (some (.array .byte)))) (wks q5 (.initialized Cmp3.yN.cls :: Cmp3.site))
  have q3 : ∀ w ∈ Cmp3.tab :: CodL.tab :: words, w.before a s = true := fun w hw => (List.mem_cons.mp hw).elim (fun e => e ▸ h3) fun hw => (List.mem_cons.mp hw).elim (fun e => e ▸ hc) (h w)
  have h4 : New4.tab.before a s = true := unparts (wk q3 (.code New4.yN New4.yB 6 none)) (wks q3 (.initialized New4.yN.cls :: New4.site))
  have q4 : ∀ w ∈ New4.tab :: words, w.before a s = true := fun w hw => (List.mem_cons.mp hw).elim (fun e => e ▸ h4) (h w)
  exact unparts (wk q4 (.code New1.yN New1.yB 2 none)) (wks q4 (.initialized New1.yN.cls :: New1.site))
/-- the words ride from the start Z to the walk's own state -/
theorem moved {Z s : State} {a0 args : Array Value} (hZ : Z.Warmed39 s.vm) (hw : ∀ d ∈ words, d.before a0 Z = true) : ∀ d ∈ words, d.before args s = true := fun d hd => by
  have q := hw d hd
  have t : ∀ d ∈ words, d = .arrayClass .byte ∨ (d.onTables && d.keepsFace) = true := by decide +kernel
  rcases t d hd with rfl | t
  · exact RoadKit.mvA hZ q
  · exact RoadKit.mv hZ q t
/-- WHAT COMES BACK, over the tables of the start Z: h the heap at the call, h' behind it -/
def Q (Z : State) (x : Addr) (A : Cell) (h : Heap) (v : Option Value) (h' : Heap) (L : List Loc) : Prop := v = none ∧ (∀ y ∈ L, y.base = x) ∧ RoadKit.Keep h h' [x] ∧ h'.size = h.size + 1 ∧ RoadKit.Exa Z h' x ST ∧ RoadKit.Fld Z h' x ST "value" "[B" (.ref h.size) ∧ RoadKit.Fld Z h' x ST "coder" "B" (.int 0) ∧
  (∃ V : Cell, RoadKit.Arr Z h' h.size V .byte ∧ V.vm = .none ∧ Z.vm.findClass "[B" = some V.cls ∧ V.slots.size = A.slots.size ∧ ∀ j, j < A.slots.size → V.slots[j]? = some (.int (lo8 (cv A j)))) ∧
  ∀ (O n d : String) (w : Value), RoadKit.Fld Z h x O n d w → RoadKit.slotOf Z O n d ≠ RoadKit.slotOf Z ST "value" "[B" → RoadKit.slotOf Z O n d ≠ RoadKit.slotOf Z ST "coder" "B" → RoadKit.Fld Z h' x O n d w
/-- **new String(chars) AT A CALL, IN THE ROAD'S FORM**: for specialBack behind newO: x the fresh String, b the char[] with the cell A -/
theorem back {p : Program} {l : Launch} {e : Env} {R : Room} {s : State} {args : Array Value} {below : List Frame} {len W : Nat} {Z : State} {a0 : Array Value} {h : Heap} (hZ : Z.Warmed39 s.vm) (hw : ∀ d ∈ words, d.before a0 Z = true) {kI : Nat} (wi : (Jvm.Cond.instantiable ST kI).before a0 Z = true)
    {x b : Addr} {A : Cell} {z : Int32} {v0 c0 : Value} (E : RoadKit.Exa Z h x ST) (V : RoadKit.Fld Z h x ST "value" "[B" v0) (C : RoadKit.Fld Z h x ST "coder" "B" c0) (K : RoadKit.Arr Z h b A .char) (hty : Typed .char A) (S : RoadKit.Sta Z h ST "COMPACT_STRINGS" "Z" (.int z)) (hz : ¬ z = 0)
    (l0 : 0 < A.slots.size) (l2 : A.slots.size ≤ 536870912) (hp : ∀ i, i < A.slots.size → ¬ 255 < cv A i) (hfr : 4 ≤ R.frames) (hlo : W + 65 ≤ R.locals) :
    Back l R p e below s args New1.yN len W (fun P a => a = #[.ref x, .ref b] ∧ P.U.heap = h ∧ P.cells + 1 ≤ R.cells ∧ P.slots + A.slots.size ≤ R.slots)
      (fun P _ v B => ∃ L, Q Z x A h v B.U.heap L ∧ B.locs = P.locs ++ L ∧ B.cells = P.cells + 1 ∧ B.slots = P.slots + A.slots.size) := by
  intro m meth c P g ig mk a X hg hsize hdg hW hn hp'
  obtain ⟨rfl, rfl, r1, r2⟩ := hp'
  have al : Z.vm.Alike P.U.vm := hZ.alike.trans X.warmed.alike
  obtain ⟨D, cfV, kV, iV, fV, hD, gV, stV, knV, obV, asV, slV⟩ := id V
  obtain ⟨D', cfC, kC, iC, fC, hD', gC, stC, -, -, asC, slC⟩ := id C
  cases hD.symm.trans hD'
  obtain ⟨D2, kD, e1, e2, e3, e4, e5⟩ := id E
  cases hD.symm.trans e1
  obtain ⟨c2, k2, i1, i2, i3, -⟩ := Cond.instantiable_spec wi
  cases e2.symm.trans i1
  cases e3.symm.trans i2
  obtain ⟨kU, u1, u2⟩ := al.2.2 _ _ e3
  have hB : Blank ST x D P.U := ⟨hD, ⟨knV, fun q hq => by rw [hq] at obV; cases obV⟩, by rw [al.findClass]; exact e2, kU, u1, by rw [u2]; exact i3, by rw [u2]; exact e5 i3⟩
  have F1 : Found ST "value" "[B" fV P.U := ⟨SBG.found_only al ⟨cfV, kV, iV, gV⟩, stV⟩
  have F2 : Found ST "coder" "B" fC P.U := ⟨SBG.found_only al ⟨cfC, kC, iC, gC⟩, stC⟩
  have hA : Ch b A P.U := ⟨⟨K.1, State.isArrayOf_alike al K.2.1, K.2.2, by omega⟩, hty⟩
  have hS : StaticIs P.U ST "COMPACT_STRINGS" "Z" (.int z) := by
    obtain ⟨cfS, iS, kS, fS, st, cS, t1, t2, t3, t4, t5, t6, t7⟩ := S
    exact StaticIs.there (s := { Z with heap := P.U.heap }) ⟨cfS, iS, kS, fS, st, cS, t1, t2, t3, t4, t5, (fun q => by rw [q] at t6; cases t6), t7⟩ al rfl
  obtain ⟨v, B, X', ⟨⟨hv, E', V', q1, q2, q3, q4, q5, q6, q7, q8, q9, q10, q11⟩, hl, hc, hs⟩, st⟩ := New1.pays x D fV fC b A z (tab_of (moved hZ hw)) hfr hlo m meth c P g ig mk _ X hg hsize hdg hW hn ⟨r1, r2, rfl, hB, F1, F2, hA, hS, hz, l0, l2, hp⟩
  have al' : Z.vm.Alike B.U.vm := hZ.alike.trans X'.warmed.alike
  have hsz : E'.slots.size = D.slots.size := by
    obtain ⟨-, -, -, kB, w1, w2, w3⟩ := q1
    obtain ⟨kB', y1, y2⟩ := al'.2.2 _ _ e3
    rw [q2.2.1] at w1
    cases w1.symm.trans y1
    rw [w3, e5 i3, y2]
  refine ⟨v, B, X', ⟨_, ⟨hv, ?_, ⟨by omega, fun y cy hy hn' => q10 y cy (by simpa using hn') hy, fun y cy hy => ?_⟩, q11, ⟨E', _, q1.1, by rw [q2.2.1]; exact e2, by rw [q2.2.1]; exact e3, by rw [q2.1]; exact obV, fun _ => by rw [hsz]; exact e5 i3⟩,
    ⟨E', cfV, kV, iV, fV, q1.1, gV, stV, by rw [q2.1]; exact knV, by rw [q2.1]; exact obV, by rw [q2.2.1]; exact asV, q3⟩, ⟨E', cfC, kC, iC, fC, q1.1, gC, stC, by rw [q2.1]; exact knV, by rw [q2.1]; exact obV, by rw [q2.2.1]; exact asC, q4⟩,
    ⟨V', ⟨q5.1, State.isArrayOf_alike al'.symm q5.2.1, q5.2.2.1⟩, q6, by rw [← al'.findClass]; exact q7, q8, fun j hj => by have := q9 j hj; rwa [Nat.zero_add] at this⟩, fun O n d w F n1 n2 => ?_⟩, hl, hc, hs⟩, st⟩
  · intro y hy
    simp only [List.mem_cons, List.not_mem_nil, or_false] at hy
    rcases hy with rfl | rfl <;> rfl
  · by_cases q : y = x
    · subst q
      cases hD.symm.trans hy
      exact ⟨E', q1.1, q2.2.1, q2.1, hsz⟩
    · exact ⟨cy, q10 y cy q hy, rfl, rfl, rfl⟩
  · obtain ⟨D3, cf, k, i, f, g1, g2, g3, g4, g5, g6, g7⟩ := F
    cases hD.symm.trans g1
    simp only [RoadKit.slotOf, g2, gV, gC, Option.map_some, Option.getD_some] at n1 n2
    exact ⟨E', cf, k, i, f, q1.1, g2, g3, by rw [q2.1]; exact g4, by rw [q2.1]; exact g5, by rw [q2.2.1]; exact g6, by rw [q2.2.2 f.slot (by simp [n1, n2])]; exact g7⟩
end StrChars.Road
namespace StrChars.Road
open Jvm Sem ClassFile Op Lib Jvm.Stand Jvm.Free Jvm.Free.XT
/-- WHAT COMES BACK, the byte[] as a list of values -/
def QA (Z : State) (x : Addr) (zn : Int32) (cs : List Int32) (h : Heap) (v : Option Value) (h' : Heap) (L : List Loc) : Prop := v = none ∧ (∀ y ∈ L, y.base = x) ∧ RoadKit.Keep h h' [x] ∧ h'.size = h.size + 1 ∧ RoadKit.Exa Z h' x ST ∧ RoadKit.Fld Z h' x ST "value" "[B" (.ref h.size) ∧ RoadKit.Fld Z h' x ST "coder" "B" (.int 0) ∧
  (∃ kb, Z.vm.findClass "[B" = some kb ∧ RoadKit.Arv Z h' h.size kb .byte zn (cs.map fun c => .int (lo8 c)) (.int 0)) ∧
  ∀ (O n d : String) (w : Value), RoadKit.Fld Z h x O n d w → RoadKit.slotOf Z O n d ≠ RoadKit.slotOf Z ST "value" "[B" → RoadKit.slotOf Z O n d ≠ RoadKit.slotOf Z ST "coder" "B" → RoadKit.Fld Z h' x O n d w
/-- **new String(chars) AT A CALL, THE ARRAYS AS LISTS**: the char[] at b holds cs, not empty, no char above 255 -/
theorem backArv {p : Program} {l : Launch} {e : Env} {R : Room} {s : State} {args : Array Value} {below : List Frame} {len W : Nat} {Z : State} {a0 : Array Value} {h : Heap} (hZ : Z.Warmed39 s.vm) (hw : ∀ d ∈ words, d.before a0 Z = true) {kI : Nat} (wi : (Jvm.Cond.instantiable ST kI).before a0 Z = true)
    {x b : Addr} {k : ClassId} {zn z : Int32} {cs : List Int32} {dv v0 c0 : Value} (E : RoadKit.Exa Z h x ST) (V : RoadKit.Fld Z h x ST "value" "[B" v0) (C : RoadKit.Fld Z h x ST "coder" "B" c0) (K : RoadKit.Arv Z h b k .char zn (cs.map Value.int) dv) (S : RoadKit.Sta Z h ST "COMPACT_STRINGS" "Z" (.int z)) (hz : ¬ z = 0)
    (hlen : zn.toNatClampNeg = cs.length) (h0 : 0 < cs.length) (hbig : cs.length ≤ 536870912) (hall : ∀ c ∈ cs, ¬ 255 < c) (hfr : 4 ≤ R.frames) (hlo : W + 65 ≤ R.locals) :
    Back l R p e below s args New1.yN len W (fun P a => a = #[.ref x, .ref b] ∧ P.U.heap = h ∧ P.cells + 1 ≤ R.cells ∧ P.slots + cs.length ≤ R.slots)
      (fun P _ v B => ∃ L, QA Z x zn cs h v B.U.heap L ∧ B.locs = P.locs ++ L ∧ B.cells = P.cells + 1 ∧ B.slots = P.slots + cs.length) := by
  obtain ⟨A, K1, K2, K3, K4, K5, K6⟩ := K
  have e : A.slots.size = cs.length := K3.trans hlen
  have hat : ∀ (i : Nat) (hi : i < cs.length), A.slots[i]? = some (.int cs[i]) := fun i hi => by rw [K5 i (by omega)]; simp [List.getD_eq_getElem?_getD, hi]
  have hcv : ∀ (i : Nat) (hi : i < cs.length), cv A i = cs[i] := fun i hi => by unfold cv; rw [hat i hi]
  have hty : Typed .char A := fun i v hv => by
    have hi : i < A.slots.size := (Array.getElem?_eq_some_iff.mp hv).1
    have q := K5 i hi
    rw [hv] at q
    rw [Option.some.inj q]
    exact K6 i hi
  refine Back.mono (back hZ hw wi E V C K1 hty S hz (by omega) (by omega) (fun i hi => by rw [hcv i (by omega)]; exact hall _ (List.getElem_mem _)) hfr hlo) (fun P a hp => ⟨hp.1, hp.2.1, hp.2.2.1, by rw [e]; exact hp.2.2.2⟩) (fun P a v B hp hq => ?_)
  obtain ⟨L, ⟨q1, q2, q3, q4, q5, q6, q7, ⟨V', v1, v2, v3, v4, v5⟩, q9⟩, hl, hc, hs⟩ := hq
  refine ⟨L, ⟨q1, q2, q3, q4, q5, q6, q7, ⟨V'.cls, v3, V', v1, rfl, by rw [v4, e, hlen], K4, fun i hi => ?_, fun i hi => ?_⟩, q9⟩, hl, hc, by rw [hs, e]⟩
  · have hi' : i < cs.length := by omega
    rw [v5 i (by omega), hcv i hi']; simp [List.getD_eq_getElem?_getD, hi']
  · have hi' : i < cs.length := by omega
    simp only [List.getD_eq_getElem?_getD, List.getElem?_map, List.getElem?_eq_getElem hi', Option.map_some, Option.getD_some]
    exact fits_lo8 _
end StrChars.Road
namespace StrChars.Road
open Jvm Sem ClassFile Op Lib Jvm.Stand Jvm.Free Jvm.Free.XT
/-- WHAT COMES BACK, in the writer's own shape -/
def QV (Z : State) (x : Addr) (N : Int32) (bs : List Int32) (h : Heap) (n0 : Nat) (v : Option Value) (h' : Heap) (L : List Loc) : Prop := v = none ∧ RoadKit.Fr n0 L ∧ RoadKit.Keep h h' [x] ∧ RoadKit.Exa Z h' x ST ∧ RoadKit.Fld Z h' x ST "coder" "B" (.int 0) ∧
  ∃ (t : Addr) (kb : ClassId), n0 ≤ t ∧ h.size ≤ t ∧ ¬ t = x ∧ RoadKit.Fld Z h' x ST "value" "[B" (.ref t) ∧ RoadKit.Arv Z h' t kb .byte N (bs.map Value.int) (.int 0)
/-- **new String(chars) AT A CALL, FOR THE WRITER**: a char[] of n known ints, each 0 to 255 -/
theorem backV {p : Program} {l : Launch} {e : Env} {R : Room} {s : State} {args : Array Value} {below : List Frame} {len W : Nat} {Z : State} {a0 : Array Value} {h : Heap} (hZ : Z.Warmed39 s.vm) (hw : ∀ d ∈ words, d.before a0 Z = true) {kI : Nat} (wi : (Jvm.Cond.instantiable ST kI).before a0 Z = true)
    {x b : Addr} {kC : ClassId} {cs bs : List Int32} {d v0 c0 : Value} {z N : Int32} {n n0 : Nat} (hx0 : n0 ≤ x) (hh0 : n0 ≤ h.size) (E : RoadKit.Exa Z h x ST) (V : RoadKit.Fld Z h x ST "value" "[B" v0) (C : RoadKit.Fld Z h x ST "coder" "B" c0) (K : RoadKit.Arv Z h b kC .char N (cs.map Value.int) d) (S : RoadKit.Sta Z h ST "COMPACT_STRINGS" "Z" (.int z)) (hz : ¬ z = 0)
    (hn : cs.length = n) (hN : N = Int32.ofNat n) (l0 : 0 < n) (l2 : n ≤ 4000) (hp : ∀ c ∈ cs, ¬ c < 0 ∧ ¬ (255 : Int32) < c) (hb : bs = cs.map (fun c => c.toInt8.toInt32)) (hfr : 4 ≤ R.frames) (hlo : W + 65 ≤ R.locals) :
    Back l R p e below s args (⟨"java/lang/String", "<init>", "([C)V"⟩ : MethodName) len W (fun P a => a = #[.ref x, .ref b] ∧ P.U.heap = h ∧ P.cells + 1 ≤ R.cells ∧ P.slots + n ≤ R.slots)
      (fun P _ v B => ∃ L, QV Z x N bs h n0 v B.U.heap L ∧ B.locs = P.locs ++ L ∧ B.cells = P.cells + 1 ∧ B.slots = P.slots + n) := by
  subst hn hN hb
  refine Back.mono (backArv hZ hw wi E V C K S hz (n32 (by omega)) l0 (by omega) (fun c hc => (hp c hc).2) hfr hlo) (fun P a hp => hp) (fun P a v B hp hq => ?_)
  obtain ⟨L, ⟨q1, q2, q3, q4, q5, q6, q7, ⟨kb, v1, v2⟩, q9⟩, hl, hc, hs⟩ := hq
  exact ⟨L, ⟨q1, fun y hy => by rw [q2 y hy]; exact hx0, q3, q5, q7, h.size, kb, hh0, Nat.le_refl _, Nat.ne_of_gt E.lt, q6, by rw [List.map_map]; exact v2⟩, hl, hc, hs⟩
end StrChars.Road
namespace StrChars
open Jvm Sem ClassFile Op Lib Jvm.Stand Jvm.Free.XT Jvm.Free.ALB Jvm.Free.JM Jvm.Free
open Jvm.Lib.Cold (StaticIs)
def hi8 (x : Int32) : Int32 := lo8 (x >>> ((8 : Int32) &&& 31))
end StrChars
namespace StrChars.Road
open Jvm Sem ClassFile Op Lib Jvm.Stand Jvm.Free Jvm.Free.XT
open Jvm.Lib.Cold (StaticIs)
/-- the bytes of the chars cs, low before high -/
def wideBytes : List Int32 → List Value
  | [] => []
  | c :: cs => .int (lo8 c) :: .int (hi8 c) :: wideBytes cs
/-- an array of N2 bytes vs codes the chars cs by the coder cd -/
def CodA (cs : List Int32) (cd N2 : Int32) (vs : List Value) : Prop := (cd = 0 ∧ N2 = Int32.ofNat cs.length ∧ vs = (cs.map fun c => Value.int (lo8 c)) ∧ ∀ c ∈ cs, ¬ 255 < c) ∨ (cd = 1 ∧ N2 = Int32.ofNat (2 * cs.length) ∧ vs = wideBytes cs ∧ ∃ c ∈ cs, 255 < c)
end StrChars.Road
namespace StrChars.Road
open Jvm Sem ClassFile Op Lib Jvm.Stand Jvm.Free Jvm.Free.XT
open Jvm.Lib.Cold (StaticIs)
/-- what backV says of its String, as the contracts of this text ask it: cs's low bytes, coder 0 -/
theorem codOf {cs : List Int32} {n : Nat} (hn : cs.length = n) (hb : ∀ c ∈ cs, ¬ 255 < c) : CodA cs 0 (Int32.ofNat n) ((cs.map lo8).map Value.int) := Or.inl ⟨rfl, by rw [hn], by simp [List.map_map, Function.comp_def], hb⟩
end StrChars.Road
end Jvm.Pilot.@@N@@
namespace Jvm.Pilot.@@N@@
open Jvm Jvm.ClassFile Sem Op Lib Jvm.Free Jvm.Stand Jvm.LawKit Jvm.RoadKit Bundle Jvm.Pilot.@@N@@.Jvm.D
section OwnKit
variable {Z : State} {EL : List (String × Nat)} {a0 : Array Value} {n0 : Nat} {h0 : Heap} {ws : List Addr} {own : String} {bytes : ByteArray} {mx : Nat} {p : Program} {l : Launch} {e : Env} {R : Room} {s : State} {m : MethodId} {args : Array Value} {below : List Frame} {meth : Method} {c : Code} {sv : List Addr} {T : State} {h : Heap} {k n : Nat} {P : Outcome → State → Prop} {pc : Nat} {Ls : Array Slot} {st : List Value}
def OGo (tb : Tables) (e : Env) (below : List Frame) (P : Outcome → State → Prop) (T : State) (g : JFrame) : Prop := ∃ (t : State) (o : Outcome), Steps tb e below (T.setTop g) t ∧ t.status = .running ∧ Ended t below o ∧ P o t
theorem og {tb : Tables} {T' : State} {g g' : JFrame} (st : ∀ t, Steps tb e below (T'.setTop g') t → Steps tb e below (T.setTop g) t) (K : OGo tb e below P T' g') : OGo tb e below P T g := by
  obtain ⟨t, o, h1, h2⟩ := K
  exact ⟨t, o, st t h1, h2⟩
def OEnd (Z : State) (EL : List (String × Nat)) (n0 : Nat) (h0 : Heap) (ws : List Addr) (s : State) (Q : Option Value → Heap → Prop) (k n : Nat) (o : Outcome) (t : State) : Prop :=
  ∃ v L, o = .returned v ∧ (Fr n0 L ∧ Keep h0 t.heap ws ∧ Q v t.heap) ∧ CHr Z EL s.vm s.heap t.vm t.heap ∧ ReturnedEndW s o t L k n ∧ (EL = [] → FrameEnd s o t L k n)
def OIn (Z : State) (EL : List (String × Nat)) (a0 : Array Value) (n0 : Nat) (h0 : Heap) (ws : List Addr) (own : String) (s : State) (m : MethodId) (sv : List Addr) (vm0 : Vm) (locs : List Loc) (h : Heap) : Prop :=
  s.heap = h0 ∧ Old Z n0 h ∧ Keep h0 h ws ∧ (∃ k0, s.Since vm0 k0 ∧ k0 ≤ h.size) ∧ Z.Warmed39 vm0 ∧ vm0.findClass own = some m.cls ∧ EW Z a0 EL ∧ CHr Z EL s.vm s.heap vm0 h ∧ (EL = [] → vm0 = s.vm) ∧ Fr n0 locs ∧ ∀ x ∈ sv, n0 ≤ x ∧ x < h.size ∧ (x ∈ ws ∨ h0.size ≤ x) ∧ Safe Z EL vm0 h x
def OSt (Z : State) (EL : List (String × Nat)) (a0 : Array Value) (n0 : Nat) (h0 : Heap) (ws : List Addr) (own : String) (bytes : ByteArray) (mx : Nat) (p : Program) (l : Launch) (e : Env) (R : Room) (s : State) (m : MethodId) (args : Array Value) (below : List Frame) (meth : Method) (c : Code) (sv : List Addr) (T : State) (h : Heap) (k n : Nat) : Prop :=
  p.tables.exec = Jvm.exec ∧ c.code = bytes ∧ c.maxLocals = mx ∧ T.heap = h ∧ meth.locks = false ∧ ∃ (vm0 : Vm) (locs : List Loc), Stand p l e R (s.setVm vm0) m args below meth c T locs k n ∧ OIn Z EL a0 n0 h0 ws own s m sv vm0 locs h
theorem OSt.here (X : OSt Z EL a0 n0 h0 ws own bytes mx p l e R s m args below meth c sv T h k n) : At T m c below := by obtain ⟨-, -, -, -, -, _, _, Y, -⟩ := X; exact Y.here
theorem OSt.hx (X : OSt Z EL a0 n0 h0 ws own bytes mx p l e R s m args below meth c sv T h k n) : p.tables.exec = Jvm.exec := X.1
theorem OSt.hd (X : OSt Z EL a0 n0 h0 ws own bytes mx p l e R s m args below meth c sv T h k n) {r : Except ClassFile.DecodeError (ClassFile.Instr × Nat)} (hd : decode bytes pc = r) : decode c.code pc = r := hb X.2.1 hd
theorem OSt.old (X : OSt Z EL a0 n0 h0 ws own bytes mx p l e R s m args below meth c sv T h k n) : Old Z n0 h := by obtain ⟨-, -, -, -, -, _, _, -, -, I, -⟩ := X; exact I
theorem OSt.kept (X : OSt Z EL a0 n0 h0 ws own bytes mx p l e R s m args below meth c sv T h k n) : Keep h0 h ws := by obtain ⟨-, -, -, -, -, _, _, -, -, -, I, -⟩ := X; exact I
theorem OSt.more (X : OSt Z EL a0 n0 h0 ws own bytes mx p l e R s m args below meth c sv T h k n) {k' n' : Nat} (hk : k ≤ k') (hn : n ≤ n') : OSt Z EL a0 n0 h0 ws own bytes mx p l e R s m args below meth c sv T h k' n' := by
  obtain ⟨a1, a2, a3, a4, a5, vm0, locs, Y, I⟩ := X
  exact ⟨a1, a2, a3, a4, a5, vm0, locs, Y.more hk hn, I⟩
theorem OSt.less (X : OSt Z EL a0 n0 h0 ws own bytes mx p l e R s m args below meth c sv T h k n) {sv' : List Addr} (q : ∀ x ∈ sv', x ∈ sv) : OSt Z EL a0 n0 h0 ws own bytes mx p l e R s m args below meth c sv' T h k n := by
  obtain ⟨a1, a2, a3, a4, a5, vm0, locs, Y, b1, b2, b3, b4, b5, b6, b7, b8, b9, b10, b11⟩ := X
  exact ⟨a1, a2, a3, a4, a5, vm0, locs, Y, b1, b2, b3, b4, b5, b6, b7, b8, b9, b10, fun x hx => b11 x (q x hx)⟩
theorem OIn.ext {vm0 : Vm} {locs : List Loc} {h' : Heap} (I : OIn Z EL a0 n0 h0 ws own s m sv vm0 locs h) (E : Ext h h') : OIn Z EL a0 n0 h0 ws own s m sv vm0 locs h' := by
  obtain ⟨b1, b2, b3, ⟨k0, b4, b4'⟩, b5, b6, b7, b8, b9, b10, b11⟩ := I
  exact ⟨b1, b2.ext E, b3.ext E, ⟨k0, b4, Nat.le_trans b4' E.1⟩, b5, b6, b7, b8.trans (CHr.ext E b8.1), b9, b10, fun x hx => let q := b11 x hx; ⟨q.1, Nat.lt_of_lt_of_le q.2.1 E.1, q.2.2.1, Safe.ext E b8.1 q.2.2.2⟩⟩
theorem OIn.new {vm0 : Vm} {locs : List Loc} {h' : Heap} (I : OIn Z EL a0 n0 h0 ws own s m sv vm0 locs h) (E : Ext h h') {b : Addr} (h1 : h.size ≤ b) (h2 : b < h'.size) : OIn Z EL a0 n0 h0 ws own s m (b :: sv) vm0 locs h' := by
  have I' := I.ext E
  obtain ⟨b1, b2, b3, -, -, -, -, b8, -⟩ := I
  obtain ⟨c1, c2, c3, c4, c5, c6, c7, c8, c9, c10, c11⟩ := I'
  refine ⟨c1, c2, c3, c4, c5, c6, c7, c8, c9, c10, fun x hx => ?_⟩
  rcases List.mem_cons.mp hx with rfl | hx
  · exact ⟨Nat.le_trans (Nat.le_of_eq b2.1.symm) (Nat.le_trans b2.2.1 h1), h2, Or.inr (Nat.le_trans b3.1 h1), Safe.ext E b8.1 (Safe.new h1)⟩
  · exact c11 x hx
theorem OIn.wr {vm0 : Vm} {locs : List Loc} {h' : Heap} (I : OIn Z EL a0 n0 h0 ws own s m sv vm0 locs h) {a : Addr} {sl : Nat} {v : Value} (ha : a ∈ sv) (W : Wr h h' a sl v) : OIn Z EL a0 n0 h0 ws own s m sv vm0 (locs ++ [⟨a, sl⟩]) h' := by
  obtain ⟨b1, b2, b3, ⟨k0, b4, b4'⟩, b5, b6, b7, b8, b9, b10, b11⟩ := I
  obtain ⟨q1, q2, q3, q4⟩ := b11 a ha
  refine ⟨b1, b2.wr W q1, b3.wr W q3, ⟨k0, b4, by rw [W.size]; exact b4'⟩, b5, b6, b7, b8.trans (CHr.wr W q4 b8.1), b9, b10.app fun y hy => ?_, fun x hx => let r := b11 x hx; ⟨r.1, by rw [W.size]; exact r.2.1, r.2.2.1, Safe.wr W q4 b8.1 r.2.2.2⟩⟩
  cases List.mem_singleton.mp hy; exact q1
theorem OIn.keep {vm0 : Vm} {locs : List Loc} {h' : Heap} (I : OIn Z EL a0 n0 h0 ws own s m sv vm0 locs h) {ws' : List Addr} {L : List Loc} (K : Keep h h' ws') (hs : ∀ x ∈ ws', x ∈ sv) (N : Fr n0 L) : OIn Z EL a0 n0 h0 ws own s m sv vm0 (locs ++ L) h' := by
  obtain ⟨b1, b2, b3, ⟨k0, b4, b4'⟩, b5, b6, b7, b8, b9, b10, b11⟩ := I
  have sf : ∀ x ∈ ws', Safe Z EL vm0 h x := fun x hx => (b11 x (hs x hx)).2.2.2
  exact ⟨b1, b2.keep K fun x hx => (b11 x (hs x hx)).1, b3.trans K fun x hx => (b11 x (hs x hx)).2.2.1, ⟨k0, b4, Nat.le_trans b4' K.1⟩, b5, b6, b7, b8.trans (CHr.keep K sf b8.1), b9, b10.app N, fun x hx => let r := b11 x hx; ⟨r.1, Nat.lt_of_lt_of_le r.2.1 K.1, r.2.2.1, Safe.keep K sf b8.1 r.2.2.2⟩⟩
theorem OIn.call {vm0 : Vm} {locs : List Loc} {h' : Heap} {vm1 : Vm} (I : OIn Z EL a0 n0 h0 ws own s m sv vm0 locs h) {ws' : List Addr} {L : List Loc} (K : Keep h h' ws') (hs : ∀ x ∈ ws', x ∈ sv) (N : Fr n0 L) (C : CHr Z EL vm0 h vm1 h') (S : (s.setVm vm0).Since vm1 h'.size) (hne : EL = [] → vm1 = vm0) : OIn Z EL a0 n0 h0 ws own s m sv vm1 (locs ++ L) h' := by
  obtain ⟨b1, b2, b3, ⟨k0, b4, b4'⟩, b5, b6, b7, b8, b9, b10, b11⟩ := I
  exact ⟨b1, b2.keep K fun x hx => (b11 x (hs x hx)).1, b3.trans K fun x hx => (b11 x (hs x hx)).2.2.1, ⟨_, b4.trans S (Nat.le_trans b4' K.1), Nat.le_refl _⟩, State.Warmed39.trans (t := s.setVm vm0) b5 S.1, by rw [S.1.alike.findClass]; exact b6, b7, b8.trans C, fun q => (hne q).trans (b9 q), b10.app N, fun x hx => let r := b11 x hx; ⟨r.1, Nat.lt_of_lt_of_le r.2.1 K.1, r.2.2.1, C.safe r.2.1 r.2.2.2⟩⟩
theorem og_aload (X : OSt Z EL a0 n0 h0 ws own bytes mx p l e R s m args below meth c sv T h k n) (pc' : Nat) {j : Nat} {v : Value} (hd : decode bytes pc = .ok (.aload j, 2)) (hl : Ls[j]? = some (.val (v))) (hv : v.isRef = true) (hq : pc' = pc + 2) (K : OGo p.tables e below P T (mkF m pc' Ls (v :: st))) : OGo p.tables e below P T (mkF m pc Ls st) := by
  subst hq
  exact og (fun _ q => XS.aload X.here X.hx rfl (X.hd hd) hl hv q) K
theorem og_aloadN (X : OSt Z EL a0 n0 h0 ws own bytes mx p l e R s m args below meth c sv T h k n) (pc' : Nat) {j : Fin 4} {v : Value} (hd : decode bytes pc = .ok (.aload_n j, 1)) (hl : Ls[j.val]? = some (.val (v))) (hv : v.isRef = true) (hq : pc' = pc + 1) (K : OGo p.tables e below P T (mkF m pc' Ls (v :: st))) : OGo p.tables e below P T (mkF m pc Ls st) := by
  subst hq
  exact og (fun _ q => XS.aloadN X.here X.hx rfl (X.hd hd) hl hv q) K
theorem og_iload (X : OSt Z EL a0 n0 h0 ws own bytes mx p l e R s m args below meth c sv T h k n) (pc' : Nat) {j : Nat} {v : Int32} (hd : decode bytes pc = .ok (.iload j, 2)) (hl : Ls[j]? = some (.val (.int v))) (hq : pc' = pc + 2) (K : OGo p.tables e below P T (mkF m pc' Ls (.int v :: st))) : OGo p.tables e below P T (mkF m pc Ls st) := by
  subst hq
  exact og (fun _ q => XS.iload X.here X.hx rfl (X.hd hd) hl q) K
theorem og_iloadN (X : OSt Z EL a0 n0 h0 ws own bytes mx p l e R s m args below meth c sv T h k n) (pc' : Nat) {j : Fin 4} {v : Int32} (hd : decode bytes pc = .ok (.iload_n j, 1)) (hl : Ls[j.val]? = some (.val (.int v))) (hq : pc' = pc + 1) (K : OGo p.tables e below P T (mkF m pc' Ls (.int v :: st))) : OGo p.tables e below P T (mkF m pc Ls st) := by
  subst hq
  exact og (fun _ q => XS.iloadN X.here X.hx rfl (X.hd hd) hl q) K
theorem og_lload (X : OSt Z EL a0 n0 h0 ws own bytes mx p l e R s m args below meth c sv T h k n) (pc' : Nat) {j : Nat} {v : Int64} (hd : decode bytes pc = .ok (.lload j, 2)) (hl : Ls[j]? = some (.val (.long v))) (hq : pc' = pc + 2) (K : OGo p.tables e below P T (mkF m pc' Ls (.long v :: st))) : OGo p.tables e below P T (mkF m pc Ls st) := by
  subst hq
  exact og (fun _ q => XT.lload X.here X.hx rfl (X.hd hd) hl q) K
theorem og_lloadN (X : OSt Z EL a0 n0 h0 ws own bytes mx p l e R s m args below meth c sv T h k n) (pc' : Nat) {j : Fin 4} {v : Int64} (hd : decode bytes pc = .ok (.lload_n j, 1)) (hl : Ls[j.val]? = some (.val (.long v))) (hq : pc' = pc + 1) (K : OGo p.tables e below P T (mkF m pc' Ls (.long v :: st))) : OGo p.tables e below P T (mkF m pc Ls st) := by
  subst hq
  exact og (fun _ q => XT.lloadN X.here X.hx rfl (X.hd hd) hl q) K
theorem og_iconst (X : OSt Z EL a0 n0 h0 ws own bytes mx p l e R s m args below meth c sv T h k n) (pc' : Nat) (v : Int32) {i : Int} (hd : decode bytes pc = .ok (.iconst i, 1)) (hv : Int32.ofInt i = v) (hq : pc' = pc + 1) (K : OGo p.tables e below P T (mkF m pc' Ls (.int v :: st))) : OGo p.tables e below P T (mkF m pc Ls st) := by
  subst hq hv
  exact og (fun _ q => XS.iconst X.here X.hx rfl (X.hd hd) q) K
theorem og_bipush (X : OSt Z EL a0 n0 h0 ws own bytes mx p l e R s m args below meth c sv T h k n) (pc' : Nat) (v : Int32) {i : Int} (hd : decode bytes pc = .ok (.bipush i, 2)) (hv : (Int8.ofInt i).toInt32 = v) (hq : pc' = pc + 2) (K : OGo p.tables e below P T (mkF m pc' Ls (.int v :: st))) : OGo p.tables e below P T (mkF m pc Ls st) := by
  subst hq hv
  exact og (fun _ q => XS.bipush X.here X.hx rfl (X.hd hd) q) K
theorem og_sipush (X : OSt Z EL a0 n0 h0 ws own bytes mx p l e R s m args below meth c sv T h k n) (pc' : Nat) (v : Int32) {i : Int} (hd : decode bytes pc = .ok (.sipush i, 3)) (hv : (Int16.ofInt i).toInt32 = v) (hq : pc' = pc + 3) (K : OGo p.tables e below P T (mkF m pc' Ls (.int v :: st))) : OGo p.tables e below P T (mkF m pc Ls st) := by
  subst hq hv
  exact og (fun _ q => XS.sipush X.here X.hx rfl (X.hd hd) q) K
theorem og_lconst (X : OSt Z EL a0 n0 h0 ws own bytes mx p l e R s m args below meth c sv T h k n) (pc' : Nat) (v : Int64) {i : Fin 2} (hd : decode bytes pc = .ok (.lconst i, 1)) (hv : Int64.ofNat i = v) (hq : pc' = pc + 1) (K : OGo p.tables e below P T (mkF m pc' Ls (.long v :: st))) : OGo p.tables e below P T (mkF m pc Ls st) := by
  subst hq hv
  exact og (fun _ q => XT.lconst X.here X.hx rfl (X.hd hd) q) K
theorem og_aconstNull (X : OSt Z EL a0 n0 h0 ws own bytes mx p l e R s m args below meth c sv T h k n) (pc' : Nat)  (hd : decode bytes pc = .ok (.aconst_null, 1))  (hq : pc' = pc + 1) (K : OGo p.tables e below P T (mkF m pc' Ls (.null :: st))) : OGo p.tables e below P T (mkF m pc Ls st) := by
  subst hq
  exact og (fun _ q => XS.aconstNull X.here X.hx rfl (X.hd hd) q) K
theorem og_iadd (X : OSt Z EL a0 n0 h0 ws own bytes mx p l e R s m args below meth c sv T h k n) (pc' : Nat) {x y : Int32} (hd : decode bytes pc = .ok (.iadd, 1))  (hq : pc' = pc + 1) (K : OGo p.tables e below P T (mkF m pc' Ls (.int (x + y) :: st))) : OGo p.tables e below P T (mkF m pc Ls (.int y :: .int x :: st)) := by
  subst hq
  exact og (fun _ q => XS.iadd X.here X.hx rfl (X.hd hd) rfl q) K
theorem og_isub (X : OSt Z EL a0 n0 h0 ws own bytes mx p l e R s m args below meth c sv T h k n) (pc' : Nat) {x y : Int32} (hd : decode bytes pc = .ok (.isub, 1))  (hq : pc' = pc + 1) (K : OGo p.tables e below P T (mkF m pc' Ls (.int (x - y) :: st))) : OGo p.tables e below P T (mkF m pc Ls (.int y :: .int x :: st)) := by
  subst hq
  exact og (fun _ q => XS.isub X.here X.hx rfl (X.hd hd) rfl q) K
theorem og_iand (X : OSt Z EL a0 n0 h0 ws own bytes mx p l e R s m args below meth c sv T h k n) (pc' : Nat) {x y : Int32} (hd : decode bytes pc = .ok (.iand, 1))  (hq : pc' = pc + 1) (K : OGo p.tables e below P T (mkF m pc' Ls (.int (x &&& y) :: st))) : OGo p.tables e below P T (mkF m pc Ls (.int y :: .int x :: st)) := by
  subst hq
  exact og (fun _ q => XS.iand X.here X.hx rfl (X.hd hd) rfl q) K
theorem og_imul (X : OSt Z EL a0 n0 h0 ws own bytes mx p l e R s m args below meth c sv T h k n) (pc' : Nat) {x y : Int32} (hd : decode bytes pc = .ok (.imul, 1))  (hq : pc' = pc + 1) (K : OGo p.tables e below P T (mkF m pc' Ls (.int (x * y) :: st))) : OGo p.tables e below P T (mkF m pc Ls (.int y :: .int x :: st)) := by
  subst hq
  exact og (fun _ q => XS.imul X.here X.hx rfl (X.hd hd) rfl q) K
theorem og_ixor (X : OSt Z EL a0 n0 h0 ws own bytes mx p l e R s m args below meth c sv T h k n) (pc' : Nat) {x y : Int32} (hd : decode bytes pc = .ok (.ixor, 1))  (hq : pc' = pc + 1) (K : OGo p.tables e below P T (mkF m pc' Ls (.int (x ^^^ y) :: st))) : OGo p.tables e below P T (mkF m pc Ls (.int y :: .int x :: st)) := by
  subst hq
  exact og (fun _ q => XT.ixor X.here X.hx rfl (X.hd hd) rfl q) K
theorem og_ior (X : OSt Z EL a0 n0 h0 ws own bytes mx p l e R s m args below meth c sv T h k n) (pc' : Nat) {x y : Int32} (hd : decode bytes pc = .ok (.ior, 1))  (hq : pc' = pc + 1) (K : OGo p.tables e below P T (mkF m pc' Ls (.int (x ||| y) :: st))) : OGo p.tables e below P T (mkF m pc Ls (.int y :: .int x :: st)) := by
  subst hq
  exact og (fun _ q => XT.ior X.here X.hx rfl (X.hd hd) rfl q) K
theorem og_ishl (X : OSt Z EL a0 n0 h0 ws own bytes mx p l e R s m args below meth c sv T h k n) (pc' : Nat) {x y : Int32} (hd : decode bytes pc = .ok (.ishl, 1))  (hq : pc' = pc + 1) (K : OGo p.tables e below P T (mkF m pc' Ls (.int (x <<< (y &&& 31)) :: st))) : OGo p.tables e below P T (mkF m pc Ls (.int y :: .int x :: st)) := by
  subst hq
  exact og (fun _ q => XT.ishl X.here X.hx rfl (X.hd hd) rfl q) K
theorem og_ishr (X : OSt Z EL a0 n0 h0 ws own bytes mx p l e R s m args below meth c sv T h k n) (pc' : Nat) {x y : Int32} (hd : decode bytes pc = .ok (.ishr, 1))  (hq : pc' = pc + 1) (K : OGo p.tables e below P T (mkF m pc' Ls (.int (x >>> (y &&& 31)) :: st))) : OGo p.tables e below P T (mkF m pc Ls (.int y :: .int x :: st)) := by
  subst hq
  exact og (fun _ q => XT.ishr X.here X.hx rfl (X.hd hd) rfl q) K
theorem og_iushr (X : OSt Z EL a0 n0 h0 ws own bytes mx p l e R s m args below meth c sv T h k n) (pc' : Nat) {x y : Int32} (hd : decode bytes pc = .ok (.iushr, 1))  (hq : pc' = pc + 1) (K : OGo p.tables e below P T (mkF m pc' Ls (.int (Jvm.Free.XT.ushr x y) :: st))) : OGo p.tables e below P T (mkF m pc Ls (.int y :: .int x :: st)) := by
  subst hq
  exact og (fun _ q => XT.iushr X.here X.hx rfl (X.hd hd) rfl q) K
theorem og_idiv (X : OSt Z EL a0 n0 h0 ws own bytes mx p l e R s m args below meth c sv T h k n) (pc' : Nat) {x y : Int32} (hd : decode bytes pc = .ok (.idiv, 1)) (hy : y ≠ 0) (hq : pc' = pc + 1) (K : OGo p.tables e below P T (mkF m pc' Ls (.int (x / y) :: st))) : OGo p.tables e below P T (mkF m pc Ls (.int y :: .int x :: st)) := by
  subst hq
  exact og (fun _ q => XS.idiv X.here X.hx rfl (X.hd hd) rfl hy q) K
theorem og_irem (X : OSt Z EL a0 n0 h0 ws own bytes mx p l e R s m args below meth c sv T h k n) (pc' : Nat) {x y : Int32} (hd : decode bytes pc = .ok (.irem, 1)) (hy : y ≠ 0) (hq : pc' = pc + 1) (K : OGo p.tables e below P T (mkF m pc' Ls (.int (x % y) :: st))) : OGo p.tables e below P T (mkF m pc Ls (.int y :: .int x :: st)) := by
  subst hq
  have q0 : x - x / y * y = x % y := irem_eq_mod x y
  exact og (fun _ q => XS.irem X.here X.hx rfl (X.hd hd) rfl hy (by rw [q0]; exact q)) K
theorem og_ineg (X : OSt Z EL a0 n0 h0 ws own bytes mx p l e R s m args below meth c sv T h k n) (pc' : Nat) {x : Int32} (hd : decode bytes pc = .ok (.ineg, 1))  (hq : pc' = pc + 1) (K : OGo p.tables e below P T (mkF m pc' Ls (.int (-x) :: st))) : OGo p.tables e below P T (mkF m pc Ls (.int x :: st)) := by
  subst hq
  exact og (fun _ q => XS.ineg X.here X.hx rfl (X.hd hd) rfl q) K
theorem og_ladd (X : OSt Z EL a0 n0 h0 ws own bytes mx p l e R s m args below meth c sv T h k n) (pc' : Nat) {x y : Int64} (hd : decode bytes pc = .ok (.ladd, 1))  (hq : pc' = pc + 1) (K : OGo p.tables e below P T (mkF m pc' Ls (.long (x + y) :: st))) : OGo p.tables e below P T (mkF m pc Ls (.long y :: .long x :: st)) := by
  subst hq
  exact og (fun _ q => XT.ladd X.here X.hx rfl (X.hd hd) rfl q) K
theorem og_lsub (X : OSt Z EL a0 n0 h0 ws own bytes mx p l e R s m args below meth c sv T h k n) (pc' : Nat) {x y : Int64} (hd : decode bytes pc = .ok (.lsub, 1))  (hq : pc' = pc + 1) (K : OGo p.tables e below P T (mkF m pc' Ls (.long (x - y) :: st))) : OGo p.tables e below P T (mkF m pc Ls (.long y :: .long x :: st)) := by
  subst hq
  exact og (fun _ q => XT.lsub X.here X.hx rfl (X.hd hd) rfl q) K
theorem og_lmul (X : OSt Z EL a0 n0 h0 ws own bytes mx p l e R s m args below meth c sv T h k n) (pc' : Nat) {x y : Int64} (hd : decode bytes pc = .ok (.lmul, 1))  (hq : pc' = pc + 1) (K : OGo p.tables e below P T (mkF m pc' Ls (.long (x * y) :: st))) : OGo p.tables e below P T (mkF m pc Ls (.long y :: .long x :: st)) := by
  subst hq
  exact og (fun _ q => XT.lmul X.here X.hx rfl (X.hd hd) rfl q) K
theorem og_land (X : OSt Z EL a0 n0 h0 ws own bytes mx p l e R s m args below meth c sv T h k n) (pc' : Nat) {x y : Int64} (hd : decode bytes pc = .ok (.land, 1))  (hq : pc' = pc + 1) (K : OGo p.tables e below P T (mkF m pc' Ls (.long (x &&& y) :: st))) : OGo p.tables e below P T (mkF m pc Ls (.long y :: .long x :: st)) := by
  subst hq
  exact og (fun _ q => XT.land X.here X.hx rfl (X.hd hd) rfl q) K
theorem og_lor (X : OSt Z EL a0 n0 h0 ws own bytes mx p l e R s m args below meth c sv T h k n) (pc' : Nat) {x y : Int64} (hd : decode bytes pc = .ok (.lor, 1))  (hq : pc' = pc + 1) (K : OGo p.tables e below P T (mkF m pc' Ls (.long (x ||| y) :: st))) : OGo p.tables e below P T (mkF m pc Ls (.long y :: .long x :: st)) := by
  subst hq
  exact og (fun _ q => XT.lor X.here X.hx rfl (X.hd hd) rfl q) K
theorem og_lxor (X : OSt Z EL a0 n0 h0 ws own bytes mx p l e R s m args below meth c sv T h k n) (pc' : Nat) {x y : Int64} (hd : decode bytes pc = .ok (.lxor, 1))  (hq : pc' = pc + 1) (K : OGo p.tables e below P T (mkF m pc' Ls (.long (x ^^^ y) :: st))) : OGo p.tables e below P T (mkF m pc Ls (.long y :: .long x :: st)) := by
  subst hq
  exact og (fun _ q => XT.lxor X.here X.hx rfl (X.hd hd) rfl q) K
theorem og_lcmp (X : OSt Z EL a0 n0 h0 ws own bytes mx p l e R s m args below meth c sv T h k n) (pc' : Nat) {x y : Int64} (hd : decode bytes pc = .ok (.lcmp, 1))  (hq : pc' = pc + 1) (K : OGo p.tables e below P T (mkF m pc' Ls (.int (Jvm.Free.XT.cmpL x y) :: st))) : OGo p.tables e below P T (mkF m pc Ls (.long y :: .long x :: st)) := by
  subst hq
  exact og (fun _ q => XT.lcmp X.here X.hx rfl (X.hd hd) rfl q) K
theorem og_i2l (X : OSt Z EL a0 n0 h0 ws own bytes mx p l e R s m args below meth c sv T h k n) (pc' : Nat) {x : Int32} (hd : decode bytes pc = .ok (.i2l, 1))  (hq : pc' = pc + 1) (K : OGo p.tables e below P T (mkF m pc' Ls (.long x.toInt64 :: st))) : OGo p.tables e below P T (mkF m pc Ls (.int x :: st)) := by
  subst hq
  exact og (fun _ q => XT.i2l X.here X.hx rfl (X.hd hd) rfl q) K
theorem og_i2b (X : OSt Z EL a0 n0 h0 ws own bytes mx p l e R s m args below meth c sv T h k n) (pc' : Nat) {x : Int32} (hd : decode bytes pc = .ok (.i2b, 1))  (hq : pc' = pc + 1) (K : OGo p.tables e below P T (mkF m pc' Ls (.int x.toInt8.toInt32 :: st))) : OGo p.tables e below P T (mkF m pc Ls (.int x :: st)) := by
  subst hq
  exact og (fun _ q => XT.i2b X.here X.hx rfl (X.hd hd) rfl q) K
theorem og_i2c (X : OSt Z EL a0 n0 h0 ws own bytes mx p l e R s m args below meth c sv T h k n) (pc' : Nat) {x : Int32} (hd : decode bytes pc = .ok (.i2c, 1))  (hq : pc' = pc + 1) (K : OGo p.tables e below P T (mkF m pc' Ls (.int x.toUInt32.toUInt16.toUInt32.toInt32 :: st))) : OGo p.tables e below P T (mkF m pc Ls (.int x :: st)) := by
  subst hq
  exact og (fun _ q => XT.i2c X.here X.hx rfl (X.hd hd) rfl q) K
theorem og_i2s (X : OSt Z EL a0 n0 h0 ws own bytes mx p l e R s m args below meth c sv T h k n) (pc' : Nat) {x : Int32} (hd : decode bytes pc = .ok (.i2s, 1))  (hq : pc' = pc + 1) (K : OGo p.tables e below P T (mkF m pc' Ls (.int x.toInt16.toInt32 :: st))) : OGo p.tables e below P T (mkF m pc Ls (.int x :: st)) := by
  subst hq
  exact og (fun _ q => XT.i2s X.here X.hx rfl (X.hd hd) rfl q) K
theorem og_l2i (X : OSt Z EL a0 n0 h0 ws own bytes mx p l e R s m args below meth c sv T h k n) (pc' : Nat) {x : Int64} (hd : decode bytes pc = .ok (.l2i, 1))  (hq : pc' = pc + 1) (K : OGo p.tables e below P T (mkF m pc' Ls (.int x.toInt32 :: st))) : OGo p.tables e below P T (mkF m pc Ls (.long x :: st)) := by
  subst hq
  exact og (fun _ q => XT.l2i X.here X.hx rfl (X.hd hd) rfl q) K
theorem og_i2c8 (X : OSt Z EL a0 n0 h0 ws own bytes mx p l e R s m args below meth c sv T h k n) (pc' : Nat) {x : Int32} (hd : decode bytes pc = .ok (.i2c, 1)) (hq : pc' = pc + 1) (K : OGo p.tables e below P T (mkF m pc' Ls (.int (x &&& 255) :: st))) : OGo p.tables e below P T (mkF m pc Ls (.int (x &&& 255) :: st)) := by
  subst hq
  exact og (fun _ q => XT.i2c X.here X.hx rfl (X.hd hd) rfl (by rw [i2c_mask]; exact q)) K
theorem og_dup (X : OSt Z EL a0 n0 h0 ws own bytes mx p l e R s m args below meth c sv T h k n) (pc' : Nat) {x : Value} (hd : decode bytes pc = .ok (.dup, 1)) (hc : x.category = 1) (hq : pc' = pc + 1) (K : OGo p.tables e below P T (mkF m pc' Ls (x :: x :: st))) : OGo p.tables e below P T (mkF m pc Ls (x :: st)) := by
  subst hq
  exact og (fun _ q => XS.dup X.here X.hx rfl (X.hd hd) rfl hc q) K
theorem og_pop (X : OSt Z EL a0 n0 h0 ws own bytes mx p l e R s m args below meth c sv T h k n) (pc' : Nat) {x : Value} (hd : decode bytes pc = .ok (.pop, 1)) (hc : x.category = 1) (hq : pc' = pc + 1) (K : OGo p.tables e below P T (mkF m pc' Ls st)) : OGo p.tables e below P T (mkF m pc Ls (x :: st)) := by
  subst hq
  exact og (fun _ q => XT.pop X.here X.hx rfl (X.hd hd) rfl hc q) K
theorem og_dupX1 (X : OSt Z EL a0 n0 h0 ws own bytes mx p l e R s m args below meth c sv T h k n) (pc' : Nat) {x y : Value} (hd : decode bytes pc = .ok (.dup_x1, 1)) (hc : x.category = 1) (hc' : y.category = 1) (hq : pc' = pc + 1) (K : OGo p.tables e below P T (mkF m pc' Ls (x :: y :: x :: st))) : OGo p.tables e below P T (mkF m pc Ls (x :: y :: st)) := by
  subst hq
  exact og (fun _ q => XT.dupX1 X.here X.hx rfl (X.hd hd) rfl hc hc' q) K
theorem og_dup2 (X : OSt Z EL a0 n0 h0 ws own bytes mx p l e R s m args below meth c sv T h k n) (pc' : Nat) {x y : Value} (hd : decode bytes pc = .ok (.dup2, 1)) (hc : x.category = 1) (hc' : y.category = 1) (hq : pc' = pc + 1) (K : OGo p.tables e below P T (mkF m pc' Ls (x :: y :: x :: y :: st))) : OGo p.tables e below P T (mkF m pc Ls (x :: y :: st)) := by
  subst hq
  exact og (fun _ q => XT.dup2 X.here X.hx rfl (X.hd hd) rfl hc hc' q) K
theorem og_istore (X : OSt Z EL a0 n0 h0 ws own bytes mx p l e R s m args below meth c sv T h k n) (pc' : Nat) (l' : Array Slot) {j : Nat} {x : Int32} (hd : decode bytes pc = .ok (.istore j, 2)) (hl : storeLocals Ls j (.int x) = some l') (hq : pc' = pc + 2) (K : OGo p.tables e below P T (mkF m pc' l' st)) : OGo p.tables e below P T (mkF m pc Ls (.int x :: st)) := by
  subst hq
  exact og (fun _ q => XS.istore X.here X.hx rfl (X.hd hd) rfl hl q) K
theorem og_istoreN (X : OSt Z EL a0 n0 h0 ws own bytes mx p l e R s m args below meth c sv T h k n) (pc' : Nat) (l' : Array Slot) {j : Fin 4} {x : Int32} (hd : decode bytes pc = .ok (.istore_n j, 1)) (hl : storeLocals Ls j.val (.int x) = some l') (hq : pc' = pc + 1) (K : OGo p.tables e below P T (mkF m pc' l' st)) : OGo p.tables e below P T (mkF m pc Ls (.int x :: st)) := by
  subst hq
  exact og (fun _ q => XS.istoreN X.here X.hx rfl (X.hd hd) rfl hl q) K
theorem og_lstore (X : OSt Z EL a0 n0 h0 ws own bytes mx p l e R s m args below meth c sv T h k n) (pc' : Nat) (l' : Array Slot) {j : Nat} {x : Int64} (hd : decode bytes pc = .ok (.lstore j, 2)) (hl : storeLocals Ls j (.long x) = some l') (hq : pc' = pc + 2) (K : OGo p.tables e below P T (mkF m pc' l' st)) : OGo p.tables e below P T (mkF m pc Ls (.long x :: st)) := by
  subst hq
  exact og (fun _ q => XT.lstore X.here X.hx rfl (X.hd hd) rfl hl q) K
theorem og_lstoreN (X : OSt Z EL a0 n0 h0 ws own bytes mx p l e R s m args below meth c sv T h k n) (pc' : Nat) (l' : Array Slot) {j : Fin 4} {x : Int64} (hd : decode bytes pc = .ok (.lstore_n j, 1)) (hl : storeLocals Ls j.val (.long x) = some l') (hq : pc' = pc + 1) (K : OGo p.tables e below P T (mkF m pc' l' st)) : OGo p.tables e below P T (mkF m pc Ls (.long x :: st)) := by
  subst hq
  exact og (fun _ q => XT.lstoreN X.here X.hx rfl (X.hd hd) rfl hl q) K
theorem og_astore (X : OSt Z EL a0 n0 h0 ws own bytes mx p l e R s m args below meth c sv T h k n) (pc' : Nat) (l' : Array Slot) {j : Nat} {x : Value} (hd : decode bytes pc = .ok (.astore j, 2)) (hv : x.isRef = true) (hl : storeLocals Ls j x = some l') (hq : pc' = pc + 2) (K : OGo p.tables e below P T (mkF m pc' l' st)) : OGo p.tables e below P T (mkF m pc Ls (x :: st)) := by
  subst hq
  exact og (fun _ q => XS.astore X.here X.hx rfl (X.hd hd) rfl hv hl q) K
theorem og_astoreN (X : OSt Z EL a0 n0 h0 ws own bytes mx p l e R s m args below meth c sv T h k n) (pc' : Nat) (l' : Array Slot) {j : Fin 4} {x : Value} (hd : decode bytes pc = .ok (.astore_n j, 1)) (hv : x.isRef = true) (hl : storeLocals Ls j.val x = some l') (hq : pc' = pc + 1) (K : OGo p.tables e below P T (mkF m pc' l' st)) : OGo p.tables e below P T (mkF m pc Ls (x :: st)) := by
  subst hq
  exact og (fun _ q => XS.astoreN X.here X.hx rfl (X.hd hd) rfl hv hl q) K
theorem og_iinc (X : OSt Z EL a0 n0 h0 ws own bytes mx p l e R s m args below meth c sv T h k n) (pc' : Nat) (l' : Array Slot) {j : Nat} {i : Int} {x : Int32} (hd : decode bytes pc = .ok (.iinc j i, 3)) (hl : Ls[j]? = some (.val (.int x))) (hl' : storeLocals Ls j (.int (x + Int32.ofInt i)) = some l') (hq : pc' = pc + 3) (K : OGo p.tables e below P T (mkF m pc' l' st)) : OGo p.tables e below P T (mkF m pc Ls st) := by
  subst hq
  exact og (fun _ q => XS.iinc X.here X.hx rfl (X.hd hd) hl hl' q) K
theorem og_goto (X : OSt Z EL a0 n0 h0 ws own bytes mx p l e R s m args below meth c sv T h k n) (pc' : Nat)  {o : Int} (hd : decode bytes pc = .ok (.goto o, 3))  (ho : 0 ≤ (pc : Int) + o) (hp : ((pc : Int) + o).toNat = pc') (K : OGo p.tables e below P T (mkF m pc' Ls st)) : OGo p.tables e below P T (mkF m pc Ls st) := og (fun _ q => XS.goto X.here X.hx rfl rfl (X.hd hd) ho hp q) K
theorem og_ifY (X : OSt Z EL a0 n0 h0 ws own bytes mx p l e R s m args below meth c sv T h k n) (pc' : Nat) {cd : ClassFile.Cond} {x : Int32} {o : Int} (hd : decode bytes pc = .ok (.ifCond cd o, 3)) (hc : ifCond.holds cd x = true) (ho : 0 ≤ (pc : Int) + o) (hp : ((pc : Int) + o).toNat = pc') (K : OGo p.tables e below P T (mkF m pc' Ls st)) : OGo p.tables e below P T (mkF m pc Ls (.int x :: st)) := og (fun _ q => XS.ifYes X.here X.hx rfl rfl (X.hd hd) rfl hc ho hp q) K
theorem og_icmpY (X : OSt Z EL a0 n0 h0 ws own bytes mx p l e R s m args below meth c sv T h k n) (pc' : Nat) {cd : ClassFile.Cond} {x y : Int32} {o : Int} (hd : decode bytes pc = .ok (.if_icmp cd o, 3)) (hc : if_icmp.holds cd x y = true) (ho : 0 ≤ (pc : Int) + o) (hp : ((pc : Int) + o).toNat = pc') (K : OGo p.tables e below P T (mkF m pc' Ls st)) : OGo p.tables e below P T (mkF m pc Ls (.int y :: .int x :: st)) := og (fun _ q => XS.icmpYes X.here X.hx rfl rfl (X.hd hd) rfl hc ho hp q) K
theorem og_nullY (X : OSt Z EL a0 n0 h0 ws own bytes mx p l e R s m args below meth c sv T h k n) (pc' : Nat)  {o : Int} (hd : decode bytes pc = .ok (.ifnull o, 3))  (ho : 0 ≤ (pc : Int) + o) (hp : ((pc : Int) + o).toNat = pc') (K : OGo p.tables e below P T (mkF m pc' Ls st)) : OGo p.tables e below P T (mkF m pc Ls (.null :: st)) := og (fun _ q => XS.ifnullYes X.here X.hx rfl rfl (X.hd hd) rfl ho hp q) K
theorem og_nonnullY (X : OSt Z EL a0 n0 h0 ws own bytes mx p l e R s m args below meth c sv T h k n) (pc' : Nat) {b : Addr} {o : Int} (hd : decode bytes pc = .ok (.ifnonnull o, 3))  (ho : 0 ≤ (pc : Int) + o) (hp : ((pc : Int) + o).toNat = pc') (K : OGo p.tables e below P T (mkF m pc' Ls st)) : OGo p.tables e below P T (mkF m pc Ls (.ref b :: st)) := og (fun _ q => XT.ifnonnullYes X.here X.hx rfl rfl (X.hd hd) rfl ho hp q) K
theorem og_acmpY (X : OSt Z EL a0 n0 h0 ws own bytes mx p l e R s m args below meth c sv T h k n) (pc' : Nat) {cd : ClassFile.ACond} {x y : Value} {o : Int} (hd : decode bytes pc = .ok (.if_acmp cd o, 3)) (hx' : x.isRef = true) (hy' : y.isRef = true) (hc : Jvm.Free.XT.acmp cd x y = true) (ho : 0 ≤ (pc : Int) + o) (hp : ((pc : Int) + o).toNat = pc') (K : OGo p.tables e below P T (mkF m pc' Ls st)) : OGo p.tables e below P T (mkF m pc Ls (y :: x :: st)) := og (fun _ q => XT.acmpYes X.here X.hx rfl rfl (X.hd hd) rfl hx' hy' hc ho hp q) K
theorem og_ifN (X : OSt Z EL a0 n0 h0 ws own bytes mx p l e R s m args below meth c sv T h k n) (pc' : Nat) {cd : ClassFile.Cond} {o : Int} {x : Int32} (hd : decode bytes pc = .ok (.ifCond cd o, 3)) (hc : ifCond.holds cd x = false) (hq : pc' = pc + 3) (K : OGo p.tables e below P T (mkF m pc' Ls st)) : OGo p.tables e below P T (mkF m pc Ls (.int x :: st)) := by
  subst hq
  exact og (fun _ q => XS.ifNo X.here X.hx rfl (X.hd hd) rfl hc q) K
theorem og_icmpN (X : OSt Z EL a0 n0 h0 ws own bytes mx p l e R s m args below meth c sv T h k n) (pc' : Nat) {cd : ClassFile.Cond} {o : Int} {x y : Int32} (hd : decode bytes pc = .ok (.if_icmp cd o, 3)) (hc : if_icmp.holds cd x y = false) (hq : pc' = pc + 3) (K : OGo p.tables e below P T (mkF m pc' Ls st)) : OGo p.tables e below P T (mkF m pc Ls (.int y :: .int x :: st)) := by
  subst hq
  exact og (fun _ q => XS.icmpNo X.here X.hx rfl (X.hd hd) rfl hc q) K
theorem og_nullN (X : OSt Z EL a0 n0 h0 ws own bytes mx p l e R s m args below meth c sv T h k n) (pc' : Nat) {o : Int} {b : Addr} (hd : decode bytes pc = .ok (.ifnull o, 3))  (hq : pc' = pc + 3) (K : OGo p.tables e below P T (mkF m pc' Ls st)) : OGo p.tables e below P T (mkF m pc Ls (.ref b :: st)) := by
  subst hq
  exact og (fun _ q => XS.ifnullNo X.here X.hx rfl (X.hd hd) rfl q) K
theorem og_nonnullN (X : OSt Z EL a0 n0 h0 ws own bytes mx p l e R s m args below meth c sv T h k n) (pc' : Nat) {o : Int} (hd : decode bytes pc = .ok (.ifnonnull o, 3))  (hq : pc' = pc + 3) (K : OGo p.tables e below P T (mkF m pc' Ls st)) : OGo p.tables e below P T (mkF m pc Ls (.null :: st)) := by
  subst hq
  exact og (fun _ q => XT.ifnonnullNo X.here X.hx rfl (X.hd hd) rfl q) K
theorem og_acmpN (X : OSt Z EL a0 n0 h0 ws own bytes mx p l e R s m args below meth c sv T h k n) (pc' : Nat) {cd : ClassFile.ACond} {o : Int} {x y : Value} (hd : decode bytes pc = .ok (.if_acmp cd o, 3)) (hx' : x.isRef = true) (hy' : y.isRef = true) (hc : Jvm.Free.XT.acmp cd x y = false) (hq : pc' = pc + 3) (K : OGo p.tables e below P T (mkF m pc' Ls st)) : OGo p.tables e below P T (mkF m pc Ls (y :: x :: st)) := by
  subst hq
  exact og (fun _ q => XT.acmpNo X.here X.hx rfl (X.hd hd) rfl hx' hy' hc q) K
theorem own_nc8 (y : Int32) : nar .char (y &&& 255) = y &&& 255 := i2c_mask y
theorem own_u16 (u : UInt16) : (u.toUInt32.toInt32).toInt = u.toNat := by
  have hu := u.toNat_lt
  show ((u.toUInt32).toBitVec).toInt = _
  have hm : (u.toUInt32).toBitVec.toNat = u.toNat := by
    show (u.toUInt32).toNat = _
    simp
  rw [BitVec.toInt_eq_toNat_cond, hm, if_pos (by omega)]
theorem own_ncc (y : Int32) : nar .char (y.toUInt32.toUInt16.toUInt32.toInt32) = y.toUInt32.toUInt16.toUInt32.toInt32 := by
  have e : (y.toUInt32.toUInt16.toUInt32.toInt32).toUInt32.toUInt16 = y.toUInt32.toUInt16 := UInt16.toUInt16_toUInt32 _
  show ((y.toUInt32.toUInt16.toUInt32.toInt32).toUInt32.toUInt16).toUInt32.toInt32 = _
  rw [e]
theorem own_lat16 (y : Int32) : ¬ y.toUInt32.toUInt16.toUInt32.toInt32 < 0 ∧ ¬ (65535 : Int32) < y.toUInt32.toUInt16.toUInt32.toInt32 := by
  have h2 := (y.toUInt32.toUInt16).toNat_lt
  have e1 : (0 : Int32).toInt = 0 := (by decide)
  have e2 : (65535 : Int32).toInt = 65535 := (by decide)
  rw [Int32.lt_iff_toInt_lt, Int32.lt_iff_toInt_lt, own_u16, e1, e2]
  omega
theorem own_lat8 (x : Int32) : ¬ (x &&& 255) < 0 ∧ ¬ (255 : Int32) < (x &&& 255) := by
  have t : ∀ k : Fin 256, ¬ (Int32.ofNat k.val) < 0 ∧ ¬ (255 : Int32) < (Int32.ofNat k.val) := by decide +kernel
  have h : (x &&& 255).toBitVec.toNat < 256 := by
    simp only [Int32.toBitVec_and, BitVec.toNat_and]
    exact Nat.lt_succ_of_le Nat.and_le_right
  have e : (x &&& 255) = Int32.ofNat (x &&& 255).toBitVec.toNat := by
    apply Int32.toBitVec_inj.mp
    show _ = BitVec.ofNat 32 _
    rw [BitVec.ofNat_toNat]; simp
  rw [e]
  exact t ⟨_, h⟩
theorem own_up8 {c : Int32} (h : ¬ (255 : Int32) < c) : ¬ (65535 : Int32) < c := fun q => h (by rw [Int32.lt_iff_toInt_lt] at q ⊢; have e1 : (65535 : Int32).toInt = 65535 := rfl; have e2 : (255 : Int32).toInt = 255 := rfl; omega)
def own_stv (Z : State) (C n d : String) : Value := ((Term.static C n d).eval #[] Z none [] Z).getD .null
def own_sti (Z : State) (C n d : String) : Int32 := match (Term.static C n d).eval #[] Z none [] Z with | some (.int z) => z | _ => 0
theorem own_stv_of {Z : State} {C n d : String} {v : Value} {a : Array Value} (h : (Term.static C n d).eval a Z none [] Z = some v) : own_stv Z C n d = v := by
  have q : (Term.static C n d).eval #[] Z none [] Z = some v := h
  simp [own_stv, q]
theorem own_sti_of {Z : State} {C n d : String} {v : Int32} {a : Array Value} (h : (Term.static C n d).eval a Z none [] Z = some (.int v)) : own_sti Z C n d = v := by
  have q : (Term.static C n d).eval #[] Z none [] Z = some (.int v) := h
  simp [own_sti, q]
theorem own_l0 {P : Int32 → Prop} : ∀ c ∈ ([] : List Int32), P c := fun _ q => nomatch q
theorem own_lS {P : Int32 → Prop} {y : Int32} {M : List Int32} (q : P y) (r : ∀ x ∈ M, P x) : ∀ x ∈ y :: M, P x := fun x z => (List.mem_cons.mp z).elim (fun u => u ▸ q) (r x)
def own_N (x : Int32) : Nat := x.toBitVec.toNat
theorem own_N_lt (x : Int32) : own_N x < 4294967296 := x.toBitVec.isLt
theorem own_N_inj {x y : Int32} : own_N x = own_N y ↔ x = y := ⟨fun h => Int32.toBitVec_inj.mp (BitVec.eq_of_toNat_eq h), fun h => by rw [h]⟩
theorem own_N_and {x m : Int32} (k : Nat) (hm : m.toBitVec.toNat = 2 ^ k - 1) : own_N (x &&& m) = own_N x % 2 ^ k := by
  unfold own_N; rw [Int32.toBitVec_and, BitVec.toNat_and, hm, Nat.and_two_pow_sub_one_eq_mod]
theorem own_N_ushr {x j : Int32} (k : Nat) (hj : (j &&& 31).toUInt32.toNat = k) (hk : k < 32) : own_N (XT.ushr x j) = own_N x / 2 ^ k := by
  show (x.toUInt32 >>> (j &&& 31).toUInt32).toNat = x.toUInt32.toNat / 2 ^ k
  rw [UInt32.toNat_shiftRight, hj, Nat.mod_eq_of_lt hk, Nat.shiftRight_eq_div_pow]
theorem own_N3 (x : Int32) : own_N (x &&& 3) = own_N x % 4 := own_N_and 2 rfl
theorem own_N255 (x : Int32) : own_N (x &&& 255) = own_N x % 256 := own_N_and 8 rfl
theorem own_nbb (y : Int32) : (y.toInt8.toInt32).toInt8.toInt32 = y.toInt8.toInt32 := by simp
theorem own_zb {z : Int32} (h : z = 0 ∨ z = 1) : narrow .boolean (.int z) = .int z ∧ fits .boolean (.int z) = true := by rcases h with rfl | rfl <;> exact ⟨rfl, rfl⟩
theorem own_xor0 {a b : Int32} : a ^^^ b = 0 ↔ a = b := by
  rw [← Int32.toBitVec_inj, ← Int32.toBitVec_inj, Int32.toBitVec_xor]
  exact BitVec.xor_eq_zero_iff
theorem own_xor_ushr_and (x y j k : Int32) : XT.ushr (x ^^^ y) j &&& k = (XT.ushr x j &&& k) ^^^ (XT.ushr y j &&& k) := by
  apply Int32.toBitVec_inj.mp
  show ((x ^^^ y).toUInt32 >>> (j &&& 31).toUInt32).toBitVec &&& k.toBitVec = ((x.toUInt32 >>> (j &&& 31).toUInt32).toBitVec &&& k.toBitVec) ^^^ ((y.toUInt32 >>> (j &&& 31).toUInt32).toBitVec &&& k.toBitVec)
  have e : (x ^^^ y).toUInt32 = x.toUInt32 ^^^ y.toUInt32 := rfl
  rw [e, UInt32.toBitVec_shiftRight, UInt32.toBitVec_shiftRight, UInt32.toBitVec_shiftRight, UInt32.toBitVec_xor]
  ext i hi
  simp [Bool.and_xor_distrib_right]
theorem own_new (X : OSt Z EL a0 n0 h0 ws own bytes mx p l e R s m args below meth c sv T h k n) (pc' : Nat) {C : String} {index z : Nat} (hd : decode bytes pc = .ok (.new index, 3)) (w : (Cond.classLink own index C).before a0 Z = true) (wi : (Cond.instantiable C z).before a0 Z = true) (wz : (Cond.initialized C).before a0 Z = true) (hc : k + 1 ≤ R.cells) (hl : n + z ≤ R.slots) (hq : pc' = pc + 3)
    (K : ∀ (T' : State) (h' : Heap) (b : Addr), OSt Z EL a0 n0 h0 ws own bytes mx p l e R s m args below meth c (b :: sv) T' h' (k + 1) (n + z) → Keep h h' [] → h.size ≤ b → b < h'.size → Exa Z h' b C → (∀ {O nm d : String} {ty : FieldType}, Laid Z a0 C O nm d → parseFieldDescriptor d = some ty → Fld Z h' b O nm d (defaultValue ty)) → OGo p.tables e below P T' (mkF m pc' Ls (.ref b :: st))) : OGo p.tables e below P T (mkF m pc Ls st) := by
  subst hq
  obtain ⟨hx, hby, hml, eT, hlk, vm0, locs, Y, I⟩ := X
  obtain ⟨T', h', Y', e', E, A, D, -, stp⟩ := newO Y hx (show Z.Warmed39 (s.setVm vm0).vm from I.2.2.2.2.1) (show (s.setVm vm0).vm.findClass own = _ from I.2.2.2.2.2.1) w wi wz eT (g := mkF m pc Ls st) rfl (hb hby hd) hc hl
  exact og stp (K T' h' h.size ⟨hx, hby, hml, e', hlk, vm0, locs, Y', I.new E (Nat.le_refl _) A.lt⟩ ((Keep.refl _ _).ext E) (Nat.le_refl _) A.lt A D)
theorem own_arr (X : OSt Z EL a0 n0 h0 ws own bytes mx p l e R s m args below meth c sv T h k n) (pc' : Nat) {aty : ArrayType} {z : Int32} (hd : decode bytes pc = .ok (.newarray aty, 2)) (w : (Cond.arrayClass (newarray.typeOf aty)).before a0 Z = true) (hz : ¬ z < 0) {cap : Nat} (hcap : z.toNatClampNeg = cap) (hbig : cap * 8 ≤ 536870912) (hc : k + 1 ≤ R.cells) (hl : n + cap ≤ R.slots) (hq : pc' = pc + 2)
    (K : ∀ (T' : State) (h' : Heap) (b : Addr) (kb : ClassId), OSt Z EL a0 n0 h0 ws own bytes mx p l e R s m args below meth c (b :: sv) T' h' (k + 1) (n + cap) → Keep h h' [] → h.size ≤ b → b < h'.size → Arv Z h' b kb (newarray.typeOf aty) z (List.replicate cap (defaultValue (newarray.typeOf aty))) (defaultValue (newarray.typeOf aty)) → OGo p.tables e below P T' (mkF m pc' Ls (.ref b :: st))) : OGo p.tables e below P T (mkF m pc Ls (.int z :: st)) := by
  subst hq
  obtain ⟨hx, hby, hml, eT, hlk, vm0, locs, Y, I⟩ := X
  obtain ⟨T', h', kb, Y', e', E, A, stp⟩ := newP Y hx (show Z.Warmed39 (s.setVm vm0).vm from I.2.2.2.2.1) w eT (g := mkF m pc Ls (.int z :: st)) rfl (hb hby hd) rfl hz (cap := cap) (Nat.le_of_eq hcap) hbig hc hl
  have V := (Arv.new A hz).pad (pad_rep [] (defaultValue (newarray.typeOf aty)) cap)
  rw [List.nil_append] at V
  exact og stp (K T' h' h.size kb ⟨hx, hby, hml, e', hlk, vm0, locs, Y', I.new E (Nat.le_refl _) A.lt⟩ ((Keep.refl _ _).ext E) (Nat.le_refl _) A.lt V)
theorem own_anew (X : OSt Z EL a0 n0 h0 ws own bytes mx p l e R s m args below meth c sv T h k n) (pc' : Nat) {C : String} {index : Nat} {z : Int32} (hd : decode bytes pc = .ok (.anewarray index, 3)) (w : (Cond.classLink own index C).before a0 Z = true) (w2 : (Cond.arrayOver (.object C)).before a0 Z = true) (hz : ¬ z < 0) {cap : Nat} (hcap : z.toNatClampNeg = cap) (hbig : cap * 8 ≤ 536870912) (hc : k + 1 ≤ R.cells) (hl : n + cap ≤ R.slots) (hq : pc' = pc + 3)
    (K : ∀ (T' : State) (h' : Heap) (b : Addr) (kb : ClassId), OSt Z EL a0 n0 h0 ws own bytes mx p l e R s m args below meth c (b :: sv) T' h' (k + 1) (n + cap) → Keep h h' [] → h.size ≤ b → b < h'.size → Arv Z h' b kb (.object C) z (List.replicate cap .null) .null → Ovr Z kb C → OGo p.tables e below P T' (mkF m pc' Ls (.ref b :: st))) : OGo p.tables e below P T (mkF m pc Ls (.int z :: st)) := by
  subst hq
  obtain ⟨hx, hby, hml, eT, hlk, vm0, locs, Y, I⟩ := X
  obtain ⟨T', h', kb, Y', e', E, A, O, stp⟩ := newR Y hx (show Z.Warmed39 (s.setVm vm0).vm from I.2.2.2.2.1) (show (s.setVm vm0).vm.findClass own = _ from I.2.2.2.2.2.1) w w2 eT (g := mkF m pc Ls (.int z :: st)) rfl (hb hby hd) rfl hz (cap := cap) (Nat.le_of_eq hcap) hbig hc hl
  have V := (Arv.new A hz).pad (pad_rep [] (defaultValue (.object C)) cap)
  rw [List.nil_append] at V
  exact og stp (K T' h' h.size kb ⟨hx, hby, hml, e', hlk, vm0, locs, Y', I.new E (Nat.le_refl _) A.lt⟩ ((Keep.refl _ _).ext E) (Nat.le_refl _) A.lt V O)
theorem own_put (X : OSt Z EL a0 n0 h0 ws own bytes mx p l e R s m args below meth c sv T h k n) (pc' : Nat) {R0 O nm d host C : String} {index kk : Nat} {ty : FieldType} {a : Addr} {v old : Value} (hd : decode bytes pc = .ok (.putfield index, 3)) (w : (Cond.fieldLink own index R0 nm d).before a0 Z = true ∨ (Cond.fieldLinkNest own index R0 nm d host).before a0 Z = true) (via : Via Z R0 O nm d)
    (F : Fld Z h a O nm d old) (E : Exa Z h a C) (L : (Cond.lays C O nm d).before a0 Z = true ∨ ((Cond.laysFinal C O nm d).before a0 Z = true ∧ own = O ∧ meth.name = "<init>")) (wi : (Cond.instantiable C kk).before a0 Z = true) (hty : parseFieldDescriptor d = some ty) (hn : narrow ty v = v) (hf : fits ty v = true) (ha : a ∈ sv) (hq : pc' = pc + 3)
    (K : ∀ (T' : State) (h' : Heap), OSt Z EL a0 n0 h0 ws own bytes mx p l e R s m args below meth c sv T' h' k n → Wr h h' a (RoadKit.slotOf Z O nm d) v → Keep h h' [a] → Fld Z h' a O nm d v → OGo p.tables e below P T' (mkF m pc' Ls st)) : OGo p.tables e below P T (mkF m pc Ls (v :: .ref a :: st)) := by
  subst hq
  obtain ⟨hx, hby, hml, eT, hlk, vm0, locs, Y, I⟩ := X
  obtain ⟨T', h', Y', e', W, stp⟩ := putF Y hx (show Z.Warmed39 (s.setVm vm0).vm from I.2.2.2.2.1) (show (s.setVm vm0).vm.findClass own = _ from I.2.2.2.2.2.1) w via eT F E L wi hty hn hf (g := mkF m pc Ls (v :: .ref a :: st)) rfl rfl (hb hby hd)
  exact og stp (K T' h' ⟨hx, hby, hml, e', hlk, vm0, _, Y', I.wr ha W⟩ W (Keep.of_wr W) (F.same W))
theorem own_get (X : OSt Z EL a0 n0 h0 ws own bytes mx p l e R s m args below meth c sv T h k n) (pc' : Nat) {R0 O nm d host : String} {index : Nat} {a : Addr} {v : Value} (hd : decode bytes pc = .ok (.getfield index, 3)) (w : (Cond.fieldLink own index R0 nm d).before a0 Z = true ∨ (Cond.fieldLinkNest own index R0 nm d host).before a0 Z = true) (via : Via Z R0 O nm d) (F : Fld Z h a O nm d v) (hq : pc' = pc + 3)
    (K : ∀ (T' : State), OSt Z EL a0 n0 h0 ws own bytes mx p l e R s m args below meth c sv T' h k n → OGo p.tables e below P T' (mkF m pc' Ls (v :: st))) : OGo p.tables e below P T (mkF m pc Ls (.ref a :: st)) := by
  subst hq
  obtain ⟨hx, hby, hml, eT, hlk, vm0, locs, Y, I⟩ := X
  obtain ⟨T', Y', e', stp⟩ := getF Y hx (show Z.Warmed39 (s.setVm vm0).vm from I.2.2.2.2.1) (show (s.setVm vm0).vm.findClass own = _ from I.2.2.2.2.2.1) w via eT F (g := mkF m pc Ls (.ref a :: st)) rfl rfl (hb hby hd)
  exact og stp (K T' ⟨hx, hby, hml, e', hlk, vm0, _, Y', I⟩)
theorem own_getS (X : OSt Z EL a0 n0 h0 ws own bytes mx p l e R s m args below meth c sv T h k n) (pc' : Nat) {R0 O nm d host : String} {index : Nat} {v : Value} (hd : decode bytes pc = .ok (.getstatic index, 3)) (w : (Cond.fieldLink own index R0 nm d).before a0 Z = true ∨ (Cond.fieldLinkNest own index R0 nm d host).before a0 Z = true) (via : Via Z R0 O nm d) (F : Sta Z Z.heap O nm d v) (hq : pc' = pc + 3)
    (K : ∀ (T' : State), OSt Z EL a0 n0 h0 ws own bytes mx p l e R s m args below meth c sv T' h k n → OGo p.tables e below P T' (mkF m pc' Ls (v :: st))) : OGo p.tables e below P T (mkF m pc Ls st) := by
  subst hq
  have O1 := X.old
  obtain ⟨hx, hby, hml, eT, hlk, vm0, locs, Y, I⟩ := X
  obtain ⟨T', Y', e', stp⟩ := getS2 Y hx (show Z.Warmed39 (s.setVm vm0).vm from I.2.2.2.2.1) (show (s.setVm vm0).vm.findClass own = _ from I.2.2.2.2.2.1) w via eT (F.ext O1.2) (g := mkF m pc Ls st) rfl (hb hby hd)
  exact og stp (K T' ⟨hx, hby, hml, e', hlk, vm0, _, Y', I⟩)
theorem own_cast (X : OSt Z EL a0 n0 h0 ws own bytes mx p l e R s m args below meth c sv T h k n) (pc' : Nat) {C : String} {index : Nat} {a : Addr} (hd : decode bytes pc = .ok (.checkcast index, 3)) (w : (Cond.classLink own index C).before a0 Z = true) (F : Ins Z h a C true) (hq : pc' = pc + 3)
    (K : ∀ (T' : State), OSt Z EL a0 n0 h0 ws own bytes mx p l e R s m args below meth c sv T' h k n → OGo p.tables e below P T' (mkF m pc' Ls (.ref a :: st))) : OGo p.tables e below P T (mkF m pc Ls (.ref a :: st)) := by
  subst hq
  obtain ⟨hx, hby, hml, eT, hlk, vm0, locs, Y, I⟩ := X
  obtain ⟨T', Y', e', stp⟩ := castY Y hx (show Z.Warmed39 (s.setVm vm0).vm from I.2.2.2.2.1) (show (s.setVm vm0).vm.findClass own = _ from I.2.2.2.2.2.1) w eT F (g := mkF m pc Ls (.ref a :: st)) rfl rfl (hb hby hd)
  exact og stp (K T' ⟨hx, hby, hml, e', hlk, vm0, _, Y', I⟩)
theorem own_instY (X : OSt Z EL a0 n0 h0 ws own bytes mx p l e R s m args below meth c sv T h k n) (pc' : Nat) {C : String} {index : Nat} {a : Addr} (hd : decode bytes pc = .ok (.instanceof index, 3)) (w : (Cond.classLink own index C).before a0 Z = true) (F : Ins Z h a C true) (hq : pc' = pc + 3)
    (K : ∀ (T' : State), OSt Z EL a0 n0 h0 ws own bytes mx p l e R s m args below meth c sv T' h k n → OGo p.tables e below P T' (mkF m pc' Ls (.int 1 :: st))) : OGo p.tables e below P T (mkF m pc Ls (.ref a :: st)) := by
  subst hq
  obtain ⟨hx, hby, hml, eT, hlk, vm0, locs, Y, I⟩ := X
  obtain ⟨T', Y', e', stp⟩ := instY Y hx (show Z.Warmed39 (s.setVm vm0).vm from I.2.2.2.2.1) (show (s.setVm vm0).vm.findClass own = _ from I.2.2.2.2.2.1) w eT F (g := mkF m pc Ls (.ref a :: st)) rfl rfl (hb hby hd)
  exact og stp (K T' ⟨hx, hby, hml, e', hlk, vm0, _, Y', I⟩)
theorem own_instN (X : OSt Z EL a0 n0 h0 ws own bytes mx p l e R s m args below meth c sv T h k n) (pc' : Nat) {C C' : String} {index : Nat} {a : Addr} (hd : decode bytes pc = .ok (.instanceof index, 3)) (w : (Cond.classLink own index C).before a0 Z = true) (F : Ins Z h0 a C false) (E : Exa Z h0 a C') (hq : pc' = pc + 3)
    (K : ∀ (T' : State), OSt Z EL a0 n0 h0 ws own bytes mx p l e R s m args below meth c sv T' h k n → OGo p.tables e below P T' (mkF m pc' Ls (.int 0 :: st))) : OGo p.tables e below P T (mkF m pc Ls (.ref a :: st)) := by
  subst hq
  obtain ⟨hx, hby, hml, eT, hlk, vm0, locs, Y, I⟩ := X
  have e0 : (s.setVm vm0).heap = h0 := I.1
  obtain ⟨T', Y', e', stp⟩ := instN Y hx (show Z.Warmed39 (s.setVm vm0).vm from I.2.2.2.2.1) (show (s.setVm vm0).vm.findClass own = _ from I.2.2.2.2.2.1) w eT (by rw [e0]; exact F) (by rw [e0]; exact E) (g := mkF m pc Ls (.ref a :: st)) rfl rfl (hb hby hd)
  exact og stp (K T' ⟨hx, hby, hml, e', hlk, vm0, _, Y', I⟩)
theorem own_obj0 (X : OSt Z EL a0 n0 h0 ws own bytes mx p l e R s m args below meth c sv T h k n) (pc' : Nat) {index : Nat} {a : Addr} (hd : decode bytes pc = .ok (.invokespecial index, 3)) (w1 : (Cond.methodLink own index Lib.objectInit).before a0 Z = true) (w2 : (Cond.instanceMethod Lib.objectInit).before a0 Z = true) (w3 : (Cond.code Lib.objectInit ⟨#[0xb1]⟩ 1 none).before a0 Z = true) (hsz : Ls.size = mx) {W : Nat} (hW : (st.map fun v => v.category).sum = W) (hf : 1 ≤ R.frames) (hl : W + 12 ≤ R.locals) (hq : pc' = pc + 3)
    (K : ∀ (T' : State), OSt Z EL a0 n0 h0 ws own bytes mx p l e R s m args below meth c sv T' h k n → OGo p.tables e below P T' (mkF m pc' Ls st)) : OGo p.tables e below P T (mkF m pc Ls (.ref a :: st)) := by
  subst hq
  obtain ⟨hx, hby, hml, eT, hlk, vm0, locs, Y, I⟩ := X
  obtain ⟨T', Y', e', stp⟩ := initO Y hx (show Z.Warmed39 (s.setVm vm0).vm from I.2.2.2.2.1) (show (s.setVm vm0).vm.findClass own = _ from I.2.2.2.2.2.1) w1 w2 w3 eT (g := mkF m pc Ls (.ref a :: st)) rfl (by rw [hml]; exact hsz) rfl (hb hby hd) hf (W := W) (by show 2 * 0 + _ ≤ _; rw [hW]; omega) hl
  exact og stp (K T' ⟨hx, hby, hml, e', hlk, vm0, _, Y', I⟩)
theorem own_inb {cl : Cell} {z j : Int32} (S : cl.slots.size = z.toNatClampNeg) (h1 : ¬ j < 0) (h2 : j < z) : ¬ (j < 0 ∨ cl.slots.size ≤ j.toNatClampNeg) := inb_of S ⟨h1, h2⟩
theorem own_stC (X : OSt Z EL a0 n0 h0 ws own bytes mx p l e R s m args below meth c sv T h k n) (pc' : Nat) {a : Addr} {kb : ClassId} {z j x x' : Int32} {vs : List Value} {dv : Value} (hd : decode bytes pc = .ok (.castore, 1)) (A : Arv Z h a kb .char z vs dv) (hx' : nar .char x = x') (h1 : ¬ j < 0) (h2 : j < z) {i : Nat} (hi : j.toNatClampNeg = i) (hl : i < vs.length) (ha : a ∈ sv) (hq : pc' = pc + 1)
    (K : ∀ (T' : State) (h' : Heap), OSt Z EL a0 n0 h0 ws own bytes mx p l e R s m args below meth c sv T' h' k n → Wr h h' a j.toNatClampNeg (.int x') → Keep h h' [a] → Arv Z h' a kb .char z (vs.set i (.int x')) dv → OGo p.tables e below P T' (mkF m pc' Ls st)) : OGo p.tables e below P T (mkF m pc Ls (.int x :: .int j :: .ref a :: st)) := by
  subst hq hx'
  obtain ⟨hx, hby, hml, eT, hlk, vm0, locs, Y, I⟩ := X
  obtain ⟨cl, Ar, q, S, N, Hs, G⟩ := A
  obtain ⟨T', h', Y', e', W, stp⟩ := stC Y hx (show Z.Warmed39 (s.setVm vm0).vm from I.2.2.2.2.1) eT Ar (j := j) (x := x) (own_inb S h1 h2) (g := mkF m pc Ls (.int x :: .int j :: .ref a :: st)) rfl rfl (hb hby hd)
  exact og stp (K T' h' ⟨hx, hby, hml, e', hlk, vm0, _, Y', I.wr ha W⟩ W (Keep.of_wr W) (Arv.set Ar q S N Hs G (fits_nar_char _) W i hi hl))
theorem own_stB (X : OSt Z EL a0 n0 h0 ws own bytes mx p l e R s m args below meth c sv T h k n) (pc' : Nat) {a : Addr} {kb : ClassId} {z j x x' : Int32} {vs : List Value} {dv : Value} (hd : decode bytes pc = .ok (.bastore, 1)) (A : Arv Z h a kb .byte z vs dv) (hx' : x.toInt8.toInt32 = x') (h1 : ¬ j < 0) (h2 : j < z) {i : Nat} (hi : j.toNatClampNeg = i) (hl : i < vs.length) (ha : a ∈ sv) (hq : pc' = pc + 1)
    (K : ∀ (T' : State) (h' : Heap), OSt Z EL a0 n0 h0 ws own bytes mx p l e R s m args below meth c sv T' h' k n → Wr h h' a j.toNatClampNeg (.int x') → Keep h h' [a] → Arv Z h' a kb .byte z (vs.set i (.int x')) dv → OGo p.tables e below P T' (mkF m pc' Ls st)) : OGo p.tables e below P T (mkF m pc Ls (.int x :: .int j :: .ref a :: st)) := by
  subst hq hx'
  obtain ⟨hx, hby, hml, eT, hlk, vm0, locs, Y, I⟩ := X
  obtain ⟨cl, Ar, q, S, N, Hs, G⟩ := A
  obtain ⟨T', h', Y', e', W, stp⟩ := stB Y hx (show Z.Warmed39 (s.setVm vm0).vm from I.2.2.2.2.1) eT Ar (j := j) (x := x) (own_inb S h1 h2) (g := mkF m pc Ls (.int x :: .int j :: .ref a :: st)) rfl rfl (hb hby hd)
  exact og stp (K T' h' ⟨hx, hby, hml, e', hlk, vm0, _, Y', I.wr ha W⟩ W (Keep.of_wr W) (Arv.set Ar q S N Hs G (fits_nar_byte _) W i hi hl))
theorem own_stR (X : OSt Z EL a0 n0 h0 ws own bytes mx p l e R s m args below meth c sv T h k n) (pc' : Nat) {a : Addr} {kb : ClassId} {ty : FieldType} {z j : Int32} {v : Value} {vs : List Value} {dv : Value} (hd : decode bytes pc = .ok (.aastore, 1)) (A : Arv Z h a kb ty z vs dv) (hty : ty.isReference = true) (hf : fits ty v = true) (F : Sto Z h a v) (h1 : ¬ j < 0) (h2 : j < z) {i : Nat} (hi : j.toNatClampNeg = i) (hl : i < vs.length) (ha : a ∈ sv) (hq : pc' = pc + 1)
    (K : ∀ (T' : State) (h' : Heap), OSt Z EL a0 n0 h0 ws own bytes mx p l e R s m args below meth c sv T' h' k n → Wr h h' a j.toNatClampNeg v → Keep h h' [a] → Arv Z h' a kb ty z (vs.set i v) dv → OGo p.tables e below P T' (mkF m pc' Ls st)) : OGo p.tables e below P T (mkF m pc Ls (v :: .int j :: .ref a :: st)) := by
  subst hq
  obtain ⟨hx, hby, hml, eT, hlk, vm0, locs, Y, I⟩ := X
  obtain ⟨cl, Ar, q, S, N, Hs, G⟩ := A
  obtain ⟨T', h', Y', e', W, stp⟩ := stR Y hx (show Z.Warmed39 (s.setVm vm0).vm from I.2.2.2.2.1) eT Ar (j := j) (v := v) (own_inb S h1 h2) hty F (g := mkF m pc Ls (v :: .int j :: .ref a :: st)) rfl rfl (hb hby hd)
  exact og stp (K T' h' ⟨hx, hby, hml, e', hlk, vm0, _, Y', I.wr ha W⟩ W (Keep.of_wr W) (Arv.set Ar q S N Hs G hf W i hi hl))
theorem own_len (X : OSt Z EL a0 n0 h0 ws own bytes mx p l e R s m args below meth c sv T h k n) (pc' : Nat) {a : Addr} {kb : ClassId} {ty : FieldType} {z : Int32} {vs : List Value} {dv : Value} (hd : decode bytes pc = .ok (.arraylength, 1)) (A : Arv Z h a kb ty z vs dv) (hq : pc' = pc + 1) (K : OGo p.tables e below P T (mkF m pc' Ls (.int z :: st))) : OGo p.tables e below P T (mkF m pc Ls (.ref a :: st)) := by
  subst hq
  obtain ⟨hx, hby, hml, eT, hlk, vm0, locs, Y, I⟩ := X
  obtain ⟨cl, Ar, q, S, N, Hs, G⟩ := A
  refine og (fun _ r => Y.arraylength hx (by rw [eT]; exact Ar.1) (State.isArrayOf_alike (show Z.Warmed39 (s.setVm vm0).vm from I.2.2.2.2.1).alike Ar.2.1) (g := mkF m pc Ls (.ref a :: st)) rfl rfl (hb hby hd) _ r) ?_
  rw [len_of S N]; exact K
theorem own_ldC (X : OSt Z EL a0 n0 h0 ws own bytes mx p l e R s m args below meth c sv T h k n) (pc' : Nat) {a : Addr} {kb : ClassId} {z j : Int32} {v : Value} {vs : List Value} {dv : Value} (hd : decode bytes pc = .ok (.caload, 1)) (A : Arv Z h a kb .char z vs dv) (h1 : ¬ j < 0) (h2 : j < z) (hv : vs.getD j.toNatClampNeg dv = v) (hq : pc' = pc + 1) (K : OGo p.tables e below P T (mkF m pc' Ls (v :: st))) : OGo p.tables e below P T (mkF m pc Ls (.int j :: .ref a :: st)) := by
  subst hq
  obtain ⟨hx, hby, hml, eT, hlk, vm0, locs, Y, I⟩ := X
  obtain ⟨cl, Ar, q, S, N, Hs, G⟩ := A
  exact og (fun _ r => Y.caload hx (j := j) (v := v) (by rw [eT]; exact Ar.1) (State.isArrayOf_alike (show Z.Warmed39 (s.setVm vm0).vm from I.2.2.2.2.1).alike Ar.2.1) Ar.2.2 (own_inb S h1 h2) (Hs.at (own_inb S h1 h2) hv) (g := mkF m pc Ls (.int j :: .ref a :: st)) rfl rfl (hb hby hd) _ r) K
theorem own_ldB (X : OSt Z EL a0 n0 h0 ws own bytes mx p l e R s m args below meth c sv T h k n) (pc' : Nat) {a : Addr} {kb : ClassId} {z j : Int32} {v : Value} {vs : List Value} {dv : Value} (hd : decode bytes pc = .ok (.baload, 1)) (A : Arv Z h a kb .byte z vs dv) (h1 : ¬ j < 0) (h2 : j < z) (hv : vs.getD j.toNatClampNeg dv = v) (hq : pc' = pc + 1) (K : OGo p.tables e below P T (mkF m pc' Ls (v :: st))) : OGo p.tables e below P T (mkF m pc Ls (.int j :: .ref a :: st)) := by
  subst hq
  obtain ⟨hx, hby, hml, eT, hlk, vm0, locs, Y, I⟩ := X
  obtain ⟨cl, Ar, q, S, N, Hs, G⟩ := A
  exact og (fun _ r => Y.baloadBytes hx (j := j) (v := v) (by rw [eT]; exact Ar.1) (State.isArrayOf_alike (show Z.Warmed39 (s.setVm vm0).vm from I.2.2.2.2.1).alike Ar.2.1) Ar.2.2 (own_inb S h1 h2) (Hs.at (own_inb S h1 h2) hv) (g := mkF m pc Ls (.int j :: .ref a :: st)) rfl rfl (hb hby hd) _ r) K
theorem own_ldR (X : OSt Z EL a0 n0 h0 ws own bytes mx p l e R s m args below meth c sv T h k n) (pc' : Nat) {a : Addr} {kb : ClassId} {ty : FieldType} {z j : Int32} {v : Value} {vs : List Value} {dv : Value} (hd : decode bytes pc = .ok (.aaload, 1)) (A : Arv Z h a kb ty z vs dv) (hty : ty.isReference = true) (h1 : ¬ j < 0) (h2 : j < z) (hv : vs.getD j.toNatClampNeg dv = v) (hq : pc' = pc + 1) (K : OGo p.tables e below P T (mkF m pc' Ls (v :: st))) : OGo p.tables e below P T (mkF m pc Ls (.int j :: .ref a :: st)) := by
  subst hq
  obtain ⟨hx, hby, hml, eT, hlk, vm0, locs, Y, I⟩ := X
  obtain ⟨cl, Ar, q, S, N, Hs, G⟩ := A
  exact og (fun _ r => Y.aaload hx (j := j) (v := v) (by rw [eT]; exact Ar.1) (State.isArrayOf_alike (show Z.Warmed39 (s.setVm vm0).vm from I.2.2.2.2.1).alike Ar.2.1) hty Ar.2.2 (own_inb S h1 h2) (Hs.at (own_inb S h1 h2) hv) (g := mkF m pc Ls (.int j :: .ref a :: st)) rfl rfl (hb hby hd) _ r) K
theorem own_ldcI (X : OSt Z EL a0 n0 h0 ws own bytes mx p l e R s m args below meth c sv T h k n) (pc' : Nat) {index : Nat} {v : Int32} (hd : decode bytes pc = .ok (.ldc index, 2)) (w : (Cond.constant own index v).before a0 Z = true) (hq : pc' = pc + 2) (K : OGo p.tables e below P T (mkF m pc' Ls (.int v :: st))) : OGo p.tables e below P T (mkF m pc Ls st) := by
  subst hq
  obtain ⟨hx, hby, hml, eT, hlk, vm0, locs, Y, I⟩ := X
  exact og (fun _ r => Y.ldcInt hx (show (s.setVm vm0).vm.findClass own = _ from I.2.2.2.2.2.1) (mvT (show Z.Warmed39 (s.setVm vm0).vm from I.2.2.2.2.1) w) (g := mkF m pc Ls st) rfl (hb hby hd) _ r) K
theorem own_instNull (X : OSt Z EL a0 n0 h0 ws own bytes mx p l e R s m args below meth c sv T h k n) (pc' : Nat) {index : Nat} (hd : decode bytes pc = .ok (.instanceof index, 3)) (hq : pc' = pc + 3) (K : OGo p.tables e below P T (mkF m pc' Ls (.int 0 :: st))) : OGo p.tables e below P T (mkF m pc Ls (.null :: st)) := by
  subst hq
  obtain ⟨hx, hby, hml, eT, hlk, vm0, locs, Y, I⟩ := X
  exact og (fun _ r => Y.instanceofNull hx (g := mkF m pc Ls (.null :: st)) rfl rfl (hb hby hd) _ r) K
theorem own_castNull (X : OSt Z EL a0 n0 h0 ws own bytes mx p l e R s m args below meth c sv T h k n) (pc' : Nat) {index : Nat} (hd : decode bytes pc = .ok (.checkcast index, 3)) (hq : pc' = pc + 3) (K : OGo p.tables e below P T (mkF m pc' Ls (.null :: st))) : OGo p.tables e below P T (mkF m pc Ls (.null :: st)) := by
  subst hq
  obtain ⟨hx, hby, hml, eT, hlk, vm0, locs, Y, I⟩ := X
  exact og (fun _ r => Y.checkcastNull hx (g := mkF m pc Ls (.null :: st)) rfl rfl (hb hby hd) _ r) K
theorem own_instNo (X : OSt Z EL a0 n0 h0 ws own bytes mx p l e R s m args below meth c sv T h k n) (pc' : Nat) {C C' : String} {index : Nat} {a : Addr} (hd : decode bytes pc = .ok (.instanceof index, 3)) (w : (Cond.classLink own index C).before a0 Z = true) (E : Exa Z h a C') (F : ∃ c t, Z.vm.findClass C' = some c ∧ Z.vm.findClass C = some t ∧ Z.vm.assignable c t = false) (hq : pc' = pc + 3)
    (K : ∀ (T' : State), OSt Z EL a0 n0 h0 ws own bytes mx p l e R s m args below meth c sv T' h k n → OGo p.tables e below P T' (mkF m pc' Ls (.int 0 :: st))) : OGo p.tables e below P T (mkF m pc Ls (.ref a :: st)) := by
  subst hq
  obtain ⟨hx, hby, hml, eT, hlk, vm0, locs, Y, I⟩ := X
  obtain ⟨T', Y', e', stp⟩ := instNo Y hx (show Z.Warmed39 (s.setVm vm0).vm from I.2.2.2.2.1) (show (s.setVm vm0).vm.findClass own = _ from I.2.2.2.2.2.1) w eT E F (g := mkF m pc Ls (.ref a :: st)) rfl rfl (hb hby hd)
  exact og stp (K T' ⟨hx, hby, hml, e', hlk, vm0, _, Y', I⟩)
theorem own_nsRoot {O C : String} {kk : Nat} (w : (Cond.noSuperclass O).before a0 Z = true) (wk : (Cond.instantiable C kk).before a0 Z = true) (hn : O ≠ C) : NS Z O C := by
  obtain ⟨c, k, h1, h2, h3, -, -⟩ := Cond.noSuperclass_spec w
  obtain ⟨t, k2, g1, -⟩ := Cond.instantiable_spec wk
  have ne := ids_ne h1 g1 hn
  refine ⟨c, t, h1, g1, fun fuel => ?_⟩
  cases fuel with
  | zero => rfl
  | succ f => simp [Vm.isSubclassAux, ne, h2, h3]
theorem own_nsNo {C S K' : String} {kk : Nat} (w : (Cond.superclass C S).before a0 Z = true) (wk : (Cond.instantiable K' kk).before a0 Z = true) (N : NS Z C K') (hn : C ≠ K') : ∃ c t, Z.vm.findClass C = some c ∧ Z.vm.findClass K' = some t ∧ Z.vm.assignable c t = false := by
  obtain ⟨c, t, h0, g0, n3⟩ := N
  obtain ⟨p, k, kp, h1, h2, h3, h4, h5, -, h7⟩ := Cond.superclass_spec h0 w
  obtain ⟨t', k2, g1, g2, g3, g4, -⟩ := Cond.instantiable_spec wk
  cases g0.symm.trans g1
  have ne := ids_ne h0 g0 hn
  have g5 : k2.isInterface = false := by
    cases hi : k2.isInterface with
    | false => rfl
    | true => rw [hi] at g4; simp at g4
  refine ⟨c, t, h0, g0, ?_⟩
  show Z.vm.assignableAux (255 + 1) c t = false
  simp [Vm.assignableAux, ne, h2, g2, h5, g3, g5, Vm.isSubclass, n3]
def OMet (l : Launch) (Z : State) (EL : List (String × Nat)) (n0 : Nat) (y : MethodName) (wc : List Jvm.Cond) (rm : Room) (as' : Array Value) (h0 : Heap) (ws : List Addr) (Q : Option Value → Heap → Prop) : Prop :=
  MetFree l y (head1 wc rm) (fun a U => a = as' ∧ Z.Warmed39 U.vm ∧ U.heap = h0 ∧ CHv Z EL U.vm h0 ∧ ∀ x ∈ ws, Safe Z EL U.vm h0 x) (fun _ _ _ _ _ => True) (fun _ U o U' => OEnd Z EL n0 h0 ws U Q rm.cells rm.slots o U')
theorem own_enter {y : MethodName} {ret : Option FieldType} {wc : List Jvm.Cond} {rm : Room} {as' : Array Value} {Q : Option Value → Heap → Prop} (Ls : Array Slot) (hn : plainFor y = true) (ef : ∀ m, entryFrame m as' mx = mkF m 0 Ls []) (hEL : EW Z a0 EL) (O : Old Z n0 h0) (hlt : ∀ x ∈ ws, n0 ≤ x ∧ x < h0.size)
    (K : ∀ (p : Program) (e : Env) (s : State) (m : MethodId) (below : List Frame) (meth : Method) (c : Code) (T : State), OSt Z EL a0 n0 h0 ws y.cls bytes mx p l e rm s m as' below meth c ws T h0 0 0 → meth.name = y.name → meth.sig.returnType = ret → OGo p.tables e below (OEnd Z EL n0 h0 ws s Q rm.cells rm.slots) T (mkF m 0 Ls [])) :
    OMet l Z EL n0 y (Jvm.Cond.code y bytes mx ret :: wc) rm as' h0 ws Q := by
  refine MetFree.of_bodySF hn hisR ?_
  intro p e s m args below meth c s₁ Bd hml hP _
  obtain ⟨rfl, hZ, hh, hC, hS⟩ := hP
  have Y : Stand p l e rm (s.setVm s.vm) m args below meth c s₁ [] 0 0 := Stand.of_body Bd
  have hown := findClass_of_methodNamed Bd.named
  have e0 : s₁.heap = h0 := by rw [← hh, Bd.state]; rfl
  obtain ⟨t, o, g1, g2⟩ := K p e s m below meth c s₁ ⟨Bd.exec, Bd.bytes, hml, e0, Bd.notSynchronized, s.vm, [], Y, hh, O, Keep.refl _ _, ⟨_, (State.WarmedH.refl s).since _, Nat.le_refl _⟩, hZ, hown, hEL, by rw [hh]; exact CHr.refl hC, fun _ => rfl, Fr.nil _, fun x hx => ⟨(hlt x hx).1, (hlt x hx).2, Or.inl hx, hS x hx⟩⟩ (name_of_methodNamed Bd.named Bd.method).1 Bd.returns
  exact ⟨t, o, castTop (ef m) g1, g2⟩
theorem own_leave (X : OSt Z EL a0 n0 h0 ws own bytes mx p l e R s m args below meth c sv T h k n) {v : Option Value} {Q : Option Value → Heap → Prop} {k' n' : Nat} (hv : meth.sig.returnType = none → v = none) (hk : k ≤ k') (hn : n ≤ n') (hQ : Q v h) :
    ∃ fs, (∀ (f : JFrame) (acts : List Action), f.method = m → f.locked = none → f.entered = [] → (doReturn e (T.setTop f) acts v).1 = T.setFrames fs) ∧ (T.setFrames fs).status = .running ∧ Ended (T.setFrames fs) below (.returned v) ∧ OEnd Z EL n0 h0 ws s Q k' n' (.returned v) (T.setFrames fs) := by
  obtain ⟨hx, hby, hml, eT, hlk, vm0, locs, Y, b1, b2, b3, ⟨k0, b4, b4'⟩, b5, b6, b7, b8, b9, b10, b11⟩ := X.more hk hn
  obtain ⟨fs, h1, h2, h3, hW, hs⟩ := Y.leave hv hlk
  have C := CHv.at Y b5 b7 b8.1
  obtain ⟨q1, q2, q3⟩ := b4.ended (U := T.setFrames fs) hW (by show k0 ≤ T.heap.size; rw [eT]; exact b4') hs
  refine ⟨fs, h1, h2, h3, v, locs, rfl, ⟨b10, by show Keep h0 T.heap ws; rw [eT]; exact b3, by show Q v T.heap; rw [eT]; exact hQ⟩, by show CHr Z EL s.vm s.heap T.vm T.heap; rw [eT]; exact b8.trans C, ⟨⟨v, rfl⟩, q1, q2, q3⟩, fun hnil => ?_⟩
  have := b9 hnil
  subst this
  exact ⟨⟨v, rfl⟩, hW, hs⟩
theorem own_retV (X : OSt Z EL a0 n0 h0 ws own bytes mx p l e R s m args below meth c sv T h k n) {Q : Option Value → Heap → Prop} {k' n' : Nat} (hd : decode bytes pc = .ok (.return_, 1)) (hret : meth.sig.returnType = none) (hk : k ≤ k') (hn : n ≤ n') (hQ : Q none h) : OGo p.tables e below (OEnd Z EL n0 h0 ws s Q k' n') T (mkF m pc Ls []) := by
  obtain ⟨fs, h1, h2, h3, h4⟩ := own_leave X (fun _ => rfl) hk hn hQ
  have X' := X
  obtain ⟨hx, hby, hml, eT, hlk, vm0, locs, Y, -⟩ := X'
  exact ⟨_, _, Y.returnOut hx hret (hb hby hd) h1, h2, h3, h4⟩
theorem own_ret (X : OSt Z EL a0 n0 h0 ws own bytes mx p l e R s m args below meth c sv T h k n) {Q : Option Value → Heap → Prop} {k' n' : Nat} {t : FieldType} {w : Value} {i : Instr} (hd : decode bytes pc = .ok (i, 1)) (hret : meth.sig.returnType = some t) (hnw : narrow t w = w)
    (hi : (i = .ireturn ∧ (t = .int ∨ t = .boolean ∨ t = .byte ∨ t = .char ∨ t = .short) ∧ ∃ z, w = .int z) ∨ (i = .lreturn ∧ t = .long ∧ ∃ z, w = .long z) ∨ (i = .dreturn ∧ t = .double ∧ ∃ z, w = .double z) ∨ (i = .freturn ∧ t = .float ∧ ∃ z, w = .float z) ∨ (i = .areturn ∧ t.isReference = true ∧ w.isRef = true))
    (hk : k ≤ k') (hn : n ≤ n') (hQ : Q (some w) h) : OGo p.tables e below (OEnd Z EL n0 h0 ws s Q k' n') T (mkF m pc Ls (w :: st)) := by
  obtain ⟨fs, h1, h2, h3, h4⟩ := own_leave X (fun q => by rw [hret] at q; cases q) hk hn hQ
  have X' := X
  obtain ⟨hx, hby, hml, eT, hlk, vm0, locs, Y, -⟩ := X'
  exact ⟨_, _, retOut Y hx hret hnw hi (hb hby hd) h1, h2, h3, h4⟩
theorem own_retI (X : OSt Z EL a0 n0 h0 ws own bytes mx p l e R s m args below meth c sv T h k n) {Q : Option Value → Heap → Prop} {k' n' : Nat} {z : Int32} (hd : decode bytes pc = .ok (.ireturn, 1)) (hret : meth.sig.returnType = some .int) (hk : k ≤ k') (hn : n ≤ n') (hQ : Q (some (.int z)) h) : OGo p.tables e below (OEnd Z EL n0 h0 ws s Q k' n') T (mkF m pc Ls (.int z :: st)) :=
  own_ret X hd hret rfl (Or.inl ⟨rfl, Or.inl rfl, z, rfl⟩) hk hn hQ
theorem own_retZ (X : OSt Z EL a0 n0 h0 ws own bytes mx p l e R s m args below meth c sv T h k n) {Q : Option Value → Heap → Prop} {k' n' : Nat} {z : Int32} (hd : decode bytes pc = .ok (.ireturn, 1)) (hret : meth.sig.returnType = some .boolean) (hz : narrow .boolean (.int z) = .int z) (hk : k ≤ k') (hn : n ≤ n') (hQ : Q (some (.int z)) h) : OGo p.tables e below (OEnd Z EL n0 h0 ws s Q k' n') T (mkF m pc Ls (.int z :: st)) :=
  own_ret X hd hret hz (Or.inl ⟨rfl, Or.inr (Or.inl rfl), z, rfl⟩) hk hn hQ
theorem own_retC (X : OSt Z EL a0 n0 h0 ws own bytes mx p l e R s m args below meth c sv T h k n) {Q : Option Value → Heap → Prop} {k' n' : Nat} {z : Int32} (hd : decode bytes pc = .ok (.ireturn, 1)) (hret : meth.sig.returnType = some .char) (hz : narrow .char (.int z) = .int z) (hk : k ≤ k') (hn : n ≤ n') (hQ : Q (some (.int z)) h) : OGo p.tables e below (OEnd Z EL n0 h0 ws s Q k' n') T (mkF m pc Ls (.int z :: st)) :=
  own_ret X hd hret hz (Or.inl ⟨rfl, Or.inr (Or.inr (Or.inr (Or.inl rfl))), z, rfl⟩) hk hn hQ
theorem own_retY (X : OSt Z EL a0 n0 h0 ws own bytes mx p l e R s m args below meth c sv T h k n) {Q : Option Value → Heap → Prop} {k' n' : Nat} {z : Int32} (hd : decode bytes pc = .ok (.ireturn, 1)) (hret : meth.sig.returnType = some .byte) (hz : narrow .byte (.int z) = .int z) (hk : k ≤ k') (hn : n ≤ n') (hQ : Q (some (.int z)) h) : OGo p.tables e below (OEnd Z EL n0 h0 ws s Q k' n') T (mkF m pc Ls (.int z :: st)) :=
  own_ret X hd hret hz (Or.inl ⟨rfl, Or.inr (Or.inr (Or.inl rfl)), z, rfl⟩) hk hn hQ
theorem own_retL (X : OSt Z EL a0 n0 h0 ws own bytes mx p l e R s m args below meth c sv T h k n) {Q : Option Value → Heap → Prop} {k' n' : Nat} {z : Int64} (hd : decode bytes pc = .ok (.lreturn, 1)) (hret : meth.sig.returnType = some .long) (hk : k ≤ k') (hn : n ≤ n') (hQ : Q (some (.long z)) h) : OGo p.tables e below (OEnd Z EL n0 h0 ws s Q k' n') T (mkF m pc Ls (.long z :: st)) :=
  own_ret X hd hret rfl (Or.inr (Or.inl ⟨rfl, rfl, z, rfl⟩)) hk hn hQ
theorem own_narR {t : FieldType} {w : Value} (ht : t.isReference = true) (hw : w.isRef = true) : narrow t w = w := by
  rcases ref_cases hw with rfl | ⟨a, rfl⟩ <;> cases t <;> first | rfl | cases ht
theorem own_retA (X : OSt Z EL a0 n0 h0 ws own bytes mx p l e R s m args below meth c sv T h k n) {Q : Option Value → Heap → Prop} {k' n' : Nat} {t : FieldType} {w : Value} (hd : decode bytes pc = .ok (.areturn, 1)) (hret : meth.sig.returnType = some t) (ht : t.isReference = true) (hw : w.isRef = true) (hk : k ≤ k') (hn : n ≤ n') (hQ : Q (some w) h) : OGo p.tables e below (OEnd Z EL n0 h0 ws s Q k' n') T (mkF m pc Ls (w :: st)) :=
  own_ret X hd hret (own_narR ht hw) (Or.inr (Or.inr (Or.inr (Or.inr ⟨rfl, ht, hw⟩)))) hk hn hQ
theorem own_payN {vm0 : Vm} {y : MethodName} {maxL : Nat} {ret : Option FieldType} {rm : Room} {len W : Nat} {as' : Array Value} {ws' : List Addr} {Q : Option Value → Heap → Prop} {bc : ByteArray} (hnil : EL = []) (hM : OMet l Z EL n0 y [Jvm.Cond.code y bc maxL ret] rm as' h ws' Q) (hZ : Z.Warmed39 vm0) (wc : (Cond.code y bc maxL ret).before a0 Z = true) (wz : (Cond.initialized y.cls).before a0 Z = true) (hf : rm.frames + 1 ≤ R.frames) (hl : W + (maxL + 11) + rm.locals ≤ R.locals) (hEL : EW Z a0 EL) (H : CHv Z EL vm0 h) (hS : ∀ x ∈ ws', x < h.size ∧ Safe Z EL vm0 h x) :
    Back l R p e below (s.setVm vm0) args y len W (fun A a => a = as' ∧ A.U.heap = h ∧ A.cells + rm.cells ≤ R.cells ∧ A.slots + rm.slots ≤ R.slots)
      (fun A _ v B => ∃ L, (Fr n0 L ∧ Keep h B.U.heap ws' ∧ Q v B.U.heap) ∧ B.locs = A.locs ++ L ∧ B.cells = A.cells + rm.cells ∧ B.slots = A.slots + rm.slots) :=
  Back.of_free (bytes := bc) (maxL := maxL) (ret := ret) (E := fun _ _ o t L k n => k = rm.cells ∧ n = rm.slots ∧ ∃ v, o = .returned v ∧ (Fr n0 L ∧ Keep h t.heap ws' ∧ Q v t.heap)) hM hf hl
    (fun m meth c A a Y hp => have hU : Z.Warmed39 A.U.vm := wtrans (s := s.setVm vm0) hZ Y.warmed
      ⟨by show (Cond.and _ .tt).before a A.U = true; rw [Cond.before_and, mv hU wc]; rfl, mv hU wc, mv hU wz, hp.2.2.1, hp.2.2.2⟩)
    (fun m meth c A a g mk Y hp => ⟨hp.1, wtrans (s := s.setVm vm0) hZ Y.warmed, hp.2.1, (CHv.at Y hZ hEL H).1, fun x hx => (CHv.at Y hZ hEL H).safe (hS x hx).1 (hS x hx).2⟩) (fun _ _ _ _ _ _ _ _ _ => trivial)
    (fun _ _ _ _ ⟨v, L, h1, h2, _, _, h3⟩ => ⟨L, _, _, h3 hnil, rfl, rfl, v, h1, h2⟩)
    (fun m meth c A a g mk v t L k n Y hp _ _ ⟨e1, e2, v', e3, e4⟩ => by cases e3; subst e1 e2; exact ⟨L, e4, rfl, rfl, rfl⟩)
theorem own_payW {vm0 : Vm} {y : MethodName} {maxL : Nat} {ret : Option FieldType} {rm : Room} {len W : Nat} {as' : Array Value} {ws' : List Addr} {Q : Option Value → Heap → Prop} {bc : ByteArray} (hM : OMet l Z EL n0 y [Jvm.Cond.code y bc maxL ret] rm as' h ws' Q) (hZ : Z.Warmed39 vm0) (wc : (Cond.code y bc maxL ret).before a0 Z = true) (wz : (Cond.initialized y.cls).before a0 Z = true) (hf : rm.frames + 1 ≤ R.frames) (hl : W + (maxL + 11) + rm.locals ≤ R.locals) (hEL : EW Z a0 EL) (H : CHv Z EL vm0 h) (hS : ∀ x ∈ ws', x < h.size ∧ Safe Z EL vm0 h x) :
    BackS l R p e below (s.setVm vm0) args y len W (fun A a => a = as' ∧ A.U.heap = h ∧ A.cells + rm.cells ≤ R.cells ∧ A.slots + rm.slots ≤ R.slots)
      (fun A _ v B => ∃ L, (Fr n0 L ∧ Keep h B.U.heap ws' ∧ Q v B.U.heap) ∧ B.locs = A.locs ++ L ∧ B.cells = A.cells + rm.cells ∧ B.slots = A.slots + rm.slots ∧ CHr Z EL vm0 h B.U.vm B.U.heap) :=
  BackS.of_freeW (bytes := bc) (maxL := maxL) (ret := ret) (E := fun _ first o t L k n => k = rm.cells ∧ n = rm.slots ∧ (∃ v, o = .returned v ∧ (Fr n0 L ∧ Keep h t.heap ws' ∧ Q v t.heap)) ∧ CHr Z EL first.vm first.heap t.vm t.heap) hM hf hl
    (fun m meth c A a Y hp => have hU : Z.Warmed39 A.U.vm := wtrans (s := s.setVm vm0) hZ Y.warmed
      ⟨by show (Cond.and _ .tt).before a A.U = true; rw [Cond.before_and, mv hU wc]; rfl, mv hU wc, mv hU wz, hp.2.2.1, hp.2.2.2⟩)
    (fun m meth c A a g mk Y hp => ⟨hp.1, wtrans (s := s.setVm vm0) hZ Y.warmed, hp.2.1, (CHv.at Y hZ hEL H).1, fun x hx => (CHv.at Y hZ hEL H).safe (hS x hx).1 (hS x hx).2⟩) (fun _ _ _ _ _ _ _ _ _ => trivial)
    (fun _ _ _ _ ⟨v, L, h1, h2, h3, h4, _⟩ => ⟨L, _, _, h4, rfl, rfl, ⟨v, h1, h2⟩, h3⟩)
    (fun m meth c A a g mk v t L k n Y hp _ _ ⟨e1, e2, ⟨v', e3, e4⟩, e5⟩ => by
      cases e3; subst e1 e2
      refine ⟨L, e4, rfl, rfl, rfl, (CHv.at Y hZ hEL H).trans ?_⟩
      rw [← hp.2.1]; exact e5)
theorem own_stat (X : OSt Z EL a0 n0 h0 ws own bytes mx p l e R s m args below meth c sv T h k n) (pc' : Nat) {y : MethodName} {index maxL W : Nat} {ret : Option FieldType} {rm : Room} {as' : Array Value} {ws' : List Addr} {Q : Option Value → Heap → Prop} {bc : ByteArray} {argsL rest : List Value} (hd : decode bytes pc = .ok (.invokestatic index, 3)) (hM : OMet l Z EL n0 y [Jvm.Cond.code y bc maxL ret] rm as' h ws' Q) (w1 : (Cond.methodLink own index y).before a0 Z = true) (w2 : (Cond.static y).before a0 Z = true) (wz : (Cond.initialized y.cls).before a0 Z = true) (wc : (Cond.code y bc maxL ret).before a0 Z = true) (hy : y.cls ≠ "java/lang/invoke/MethodHandle" ∧ y.cls ≠ "java/lang/invoke/VarHandle")
    (hlen : ∀ sig, parseMethodDescriptor y.desc = some sig → argsL.length = sig.parameters.length) (hst : st = argsL.reverse ++ rest) (has : argsL.toArray = as') (hsz : Ls.size = mx) (hW : (rest.map fun v => v.category).sum = W) (hf : rm.frames + 1 ≤ R.frames) (hl : W + (maxL + 11) + rm.locals ≤ R.locals) (hc : k + rm.cells ≤ R.cells) (hs : n + rm.slots ≤ R.slots) (hsv : ∀ x ∈ ws', x ∈ sv) (hq : pc' = pc + 3)
    (K : ∀ (T' : State) (h' : Heap) (v : Option Value), OSt Z EL a0 n0 h0 ws own bytes mx p l e R s m args below meth c sv T' h' (k + rm.cells) (n + rm.slots) → Keep h h' ws' → Q v h' → OGo p.tables e below P T' (mkF m pc' Ls (v.toList ++ rest))) : OGo p.tables e below P T (mkF m pc Ls st) := by
  subst hq
  obtain ⟨hx, hby, hml, eT, hlk, vm0, locs, Y, I⟩ := X
  have I0 := I
  obtain ⟨b1, b2, b3, b4, b5, b6, b7, b8, b9, b10, b11⟩ := I0
  have hS : ∀ x ∈ ws', x < h.size ∧ Safe Z EL vm0 h x := fun x hx => ⟨(b11 x (hsv x hx)).2.1, (b11 x (hsv x hx)).2.2.2⟩
  have hZ : Z.Warmed39 (s.setVm vm0).vm := b5
  have hW' : 2 * (mkF m pc Ls st).monitorRoom + (rest.map fun v => v.category).sum ≤ W := by show 2 * 0 + _ ≤ _; rw [hW]; omega
  by_cases hnil : EL = []
  · obtain ⟨v, vm₁, ⟨U, L', k', n'⟩, -, Y', ⟨L, ⟨q1, q2, q3⟩, l1, l2, l3⟩, stp⟩ := Jvm.LawKit.callS Y hx (y := y) (show (s.setVm vm0).vm.findClass own = _ from b6) (mvT hZ w1) (mvT hZ w2) (mvT hZ wz) (mvT hZ wc) hy (own_payN hnil hM b5 wc wz hf hl b7 b8.1 hS) (g := mkF m pc Ls st) rfl (by rw [hml]; exact hsz) (argsL := argsL) (rest := rest) hlen hst hW' (hb hby hd) (fun _ _ => ⟨has, eT, hc, hs⟩)
    dsimp only [Pt.U, Pt.locs, Pt.cells, Pt.slots] at Y' l1 l2 l3 q1 q2 q3 stp
    subst l1 l2 l3
    exact og stp (K U U.heap v ⟨hx, hby, hml, rfl, hlk, vm0, _, Y', I.keep q2 hsv q1⟩ q2 q3)
  · obtain ⟨v, vm₁, ⟨U, L', k', n'⟩, -, Y', S', g', ⟨L, ⟨q1, q2, q3⟩, l1, l2, l3, C⟩, stp⟩ := callSS Y hx (y := y) (show (s.setVm vm0).vm.findClass own = _ from b6) (mvT hZ w1) (mvT hZ w2) (mvT hZ wz) (mvT hZ wc) hy (own_payW hM b5 wc wz hf hl b7 b8.1 hS) (g := mkF m pc Ls st) rfl (by rw [hml]; exact hsz) (argsL := argsL) (rest := rest) hlen hst hW' (hb hby hd) (fun _ _ => ⟨has, eT, hc, hs⟩)
    dsimp only [Pt.U, Pt.locs, Pt.cells, Pt.slots] at Y' l1 l2 l3 q1 q2 q3 stp S' g' C
    subst l1 l2 l3
    exact og (fun _ q => stp.trans q) (K U U.heap v ⟨hx, hby, hml, rfl, hlk, U.vm, _, Y', I.call q2 hsv q1 C S' (fun q => absurd q hnil)⟩ q2 q3)
theorem own_spec (X : OSt Z EL a0 n0 h0 ws own bytes mx p l e R s m args below meth c sv T h k n) (pc' : Nat) {y : MethodName} {index maxL W : Nat} {rm : Room} {as' : Array Value} {ws' : List Addr} {Q : Option Value → Heap → Prop} {bc : ByteArray} {a : Addr} {argsL rest : List Value} (hd : decode bytes pc = .ok (.invokespecial index, 3)) (hy1 : y.name = "<init>") (hM : OMet l Z EL n0 y [Jvm.Cond.code y bc maxL none] rm as' h ws' Q) (w1 : (Cond.methodLink own index y).before a0 Z = true) (w2 : (Cond.instanceMethod y).before a0 Z = true) (wz : (Cond.initialized y.cls).before a0 Z = true) (wc : (Cond.code y bc maxL none).before a0 Z = true) (hy : y.cls ≠ "java/lang/invoke/MethodHandle" ∧ y.cls ≠ "java/lang/invoke/VarHandle")
    (hlen : ∀ sig, parseMethodDescriptor y.desc = some sig → argsL.length = sig.parameters.length) (hst : st = argsL.reverse ++ .ref a :: rest) (has : (.ref a :: argsL).toArray = as') (hsz : Ls.size = mx) (hW : (rest.map fun v => v.category).sum = W) (hf : rm.frames + 1 ≤ R.frames) (hl : W + (maxL + 11) + rm.locals ≤ R.locals) (hc : k + rm.cells ≤ R.cells) (hs : n + rm.slots ≤ R.slots) (hsv : ∀ x ∈ ws', x ∈ sv) (hq : pc' = pc + 3)
    (K : ∀ (T' : State) (h' : Heap) (v : Option Value), OSt Z EL a0 n0 h0 ws own bytes mx p l e R s m args below meth c sv T' h' (k + rm.cells) (n + rm.slots) → Keep h h' ws' → Q v h' → OGo p.tables e below P T' (mkF m pc' Ls (v.toList ++ rest))) : OGo p.tables e below P T (mkF m pc Ls st) := by
  subst hq
  obtain ⟨hx, hby, hml, eT, hlk, vm0, locs, Y, I⟩ := X
  have I0 := I
  obtain ⟨b1, b2, b3, b4, b5, b6, b7, b8, b9, b10, b11⟩ := I0
  have hS : ∀ x ∈ ws', x < h.size ∧ Safe Z EL vm0 h x := fun x hx => ⟨(b11 x (hsv x hx)).2.1, (b11 x (hsv x hx)).2.2.2⟩
  have hZ : Z.Warmed39 (s.setVm vm0).vm := b5
  have hW' : 2 * (mkF m pc Ls st).monitorRoom + (rest.map fun v => v.category).sum ≤ W := by show 2 * 0 + _ ≤ _; rw [hW]; omega
  by_cases hnil : EL = []
  · obtain ⟨v, vm₁, ⟨U, L', k', n'⟩, -, Y', ⟨L, ⟨q1, q2, q3⟩, l1, l2, l3⟩, stp⟩ := Y.specialBack hx (y := y) hy1 (show (s.setVm vm0).vm.findClass own = _ from b6) (mvT hZ w1) (mvT hZ w2) (mvT hZ wc) hy (own_payN hnil hM b5 wc wz hf hl b7 b8.1 hS) (g := mkF m pc Ls st) rfl (by rw [hml]; exact hsz) (Steps.refl _) (a := a) (argsL := argsL) (rest := rest) hlen hst hW' (hb hby hd) (fun _ _ => ⟨has, eT, hc, hs⟩)
    dsimp only [Pt.U, Pt.locs, Pt.cells, Pt.slots] at Y' l1 l2 l3 q1 q2 q3 stp
    subst l1 l2 l3
    exact og (fun _ q => stp.trans q) (K U U.heap v ⟨hx, hby, hml, rfl, hlk, vm0, _, Y', I.keep q2 hsv q1⟩ q2 q3)
  · obtain ⟨v, vm₁, ⟨U, L', k', n'⟩, -, Y', S', g', ⟨L, ⟨q1, q2, q3⟩, l1, l2, l3, C⟩, stp⟩ := Y.specialBackS hx (y := y) hy1 (show (s.setVm vm0).vm.findClass own = _ from b6) (mvT hZ w1) (mvT hZ w2) (mvT hZ wc) hy (own_payW hM b5 wc wz hf hl b7 b8.1 hS) (g := mkF m pc Ls st) rfl (by rw [hml]; exact hsz) (Steps.refl _) (a := a) (argsL := argsL) (rest := rest) hlen hst hW' (hb hby hd) (fun _ _ => ⟨has, eT, hc, hs⟩)
    dsimp only [Pt.U, Pt.locs, Pt.cells, Pt.slots] at Y' l1 l2 l3 q1 q2 q3 stp S' g' C
    subst l1 l2 l3
    exact og (fun _ q => stp.trans q) (K U U.heap v ⟨hx, hby, hml, rfl, hlk, U.vm, _, Y', I.call q2 hsv q1 C S' (fun q => absurd q hnil)⟩ q2 q3)
theorem own_virt (X : OSt Z EL a0 n0 h0 ws own bytes mx p l e R s m args below meth c sv T h k n) (pc' : Nat) {y z : MethodName} {C : String} {index maxL W : Nat} {ret : Option FieldType} {rm : Room} {as' : Array Value} {ws' : List Addr} {Q : Option Value → Heap → Prop} {bc : ByteArray} {a : Addr} {argsL rest : List Value} (hd : decode bytes pc = .ok (.invokevirtual index, 3)) (E : Exa Z h a C) (hnf : ∀ vm0, Z.Warmed39 (s.setVm vm0).vm → NotFace (s.setVm vm0) y) (hM : OMet l Z EL n0 z [Jvm.Cond.code z bc maxL ret] rm as' h ws' Q) (w1 : (Cond.methodLink own index y).before a0 Z = true) (w2 : (Cond.declares y).before a0 Z = true) (w3 : (Cond.selects C y z).before a0 Z = true) (w4 : (Cond.instanceMethod z).before a0 Z = true) (wz : (Cond.initialized z.cls).before a0 Z = true) (wc : (Cond.code z bc maxL ret).before a0 Z = true) (hy : y.cls ≠ "java/lang/invoke/MethodHandle" ∧ y.cls ≠ "java/lang/invoke/VarHandle")
    (hlen : ∀ sig, parseMethodDescriptor y.desc = some sig → argsL.length = sig.parameters.length) (hst : st = argsL.reverse ++ .ref a :: rest) (has : (.ref a :: argsL).toArray = as') (hsz : Ls.size = mx) (hW : (rest.map fun v => v.category).sum = W) (hf : rm.frames + 1 ≤ R.frames) (hl : W + (maxL + 11) + rm.locals ≤ R.locals) (hc : k + rm.cells ≤ R.cells) (hs : n + rm.slots ≤ R.slots) (hsv : ∀ x ∈ ws', x ∈ sv) (hq : pc' = pc + 3)
    (K : ∀ (T' : State) (h' : Heap) (v : Option Value), OSt Z EL a0 n0 h0 ws own bytes mx p l e R s m args below meth c sv T' h' (k + rm.cells) (n + rm.slots) → Keep h h' ws' → Q v h' → OGo p.tables e below P T' (mkF m pc' Ls (v.toList ++ rest))) : OGo p.tables e below P T (mkF m pc Ls st) := by
  subst hq
  obtain ⟨hx, hby, hml, eT, hlk, vm0, locs, Y, I⟩ := X
  have I0 := I
  obtain ⟨b1, b2, b3, b4, b5, b6, b7, b8, b9, b10, b11⟩ := I0
  have hS : ∀ x ∈ ws', x < h.size ∧ Safe Z EL vm0 h x := fun x hx => ⟨(b11 x (hsv x hx)).2.1, (b11 x (hsv x hx)).2.2.2⟩
  have hZ : Z.Warmed39 (s.setVm vm0).vm := b5
  have hW' : 2 * (mkF m pc Ls st).monitorRoom + (rest.map fun v => v.category).sum ≤ W := by show 2 * 0 + _ ≤ _; rw [hW]; omega
  obtain ⟨cq, kq, qa, qb, qc⟩ := isOf (s := s.setVm vm0) hZ eT E
  by_cases hnil : EL = []
  · obtain ⟨v, vm₁, ⟨U, L', k', n'⟩, -, Y', ⟨L, ⟨q1, q2, q3⟩, l1, l2, l3⟩, stp⟩ := Y.virtualBack hx (y := y) (z := z) (show (s.setVm vm0).vm.findClass own = _ from b6) (mvT hZ w1) (mvT hZ w2) (hnf vm0 hZ) (mvT hZ w3) (mvT hZ w4) hy (own_payN hnil hM b5 wc wz hf hl b7 b8.1 hS) qa qc (g := mkF m pc Ls st) rfl (by rw [hml]; exact hsz) (Steps.refl _) (argsL := argsL) (rest := rest) hlen hst hW' (hb hby hd) (fun _ _ => ⟨has, eT, hc, hs⟩)
    dsimp only [Pt.U, Pt.locs, Pt.cells, Pt.slots] at Y' l1 l2 l3 q1 q2 q3 stp
    subst l1 l2 l3
    exact og (fun _ q => stp.trans q) (K U U.heap v ⟨hx, hby, hml, rfl, hlk, vm0, _, Y', I.keep q2 hsv q1⟩ q2 q3)
  · obtain ⟨v, vm₁, ⟨U, L', k', n'⟩, -, Y', S', g', ⟨L, ⟨q1, q2, q3⟩, l1, l2, l3, C⟩, stp⟩ := Y.virtualBackS hx (y := y) (z := z) (show (s.setVm vm0).vm.findClass own = _ from b6) (mvT hZ w1) (mvT hZ w2) (hnf vm0 hZ) (mvT hZ w3) (mvT hZ w4) hy (own_payW hM b5 wc wz hf hl b7 b8.1 hS) qa qc (g := mkF m pc Ls st) rfl (by rw [hml]; exact hsz) (Steps.refl _) (argsL := argsL) (rest := rest) hlen hst hW' (hb hby hd) (fun _ _ => ⟨has, eT, hc, hs⟩)
    dsimp only [Pt.U, Pt.locs, Pt.cells, Pt.slots] at Y' l1 l2 l3 q1 q2 q3 stp S' g' C
    subst l1 l2 l3
    exact og (fun _ q => stp.trans q) (K U U.heap v ⟨hx, hby, hml, rfl, hlk, U.vm, _, Y', I.call q2 hsv q1 C S' (fun q => absurd q hnil)⟩ q2 q3)
theorem own_specB (X : OSt Z EL a0 n0 h0 ws own bytes mx p l e R s m args below meth c sv T h k n) (pc' : Nat) {y : MethodName} {index maxL W rc rs : Nat} {as' : Array Value} {ws' : List Addr} {Q : Option Value → Heap → List Loc → Prop} {bc : ByteArray} {a : Addr} {argsL rest : List Value} (hd : decode bytes pc = .ok (.invokespecial index, 3)) (hy1 : y.name = "<init>")
    (hK : ∀ vm0, Z.Warmed39 (s.setVm vm0).vm → Back l R p e below (s.setVm vm0) args y 3 W (fun A a => a = as' ∧ A.U.heap = h ∧ A.cells + rc ≤ R.cells ∧ A.slots + rs ≤ R.slots) (fun A _ v B => ∃ L, Q v B.U.heap L ∧ B.locs = A.locs ++ L ∧ B.cells = A.cells + rc ∧ B.slots = A.slots + rs)) (hQ : ∀ v h' L, Q v h' L → Fr n0 L ∧ Keep h h' ws')
    (w1 : (Cond.methodLink own index y).before a0 Z = true) (w2 : (Cond.instanceMethod y).before a0 Z = true) (wc : (Cond.code y bc maxL none).before a0 Z = true) (hy : y.cls ≠ "java/lang/invoke/MethodHandle" ∧ y.cls ≠ "java/lang/invoke/VarHandle")
    (hlen : ∀ sig, parseMethodDescriptor y.desc = some sig → argsL.length = sig.parameters.length) (hst : st = argsL.reverse ++ .ref a :: rest) (has : (.ref a :: argsL).toArray = as') (hsz : Ls.size = mx) (hW : (rest.map fun v => v.category).sum = W) (hc : k + rc ≤ R.cells) (hs : n + rs ≤ R.slots) (hsv : ∀ x ∈ ws', x ∈ sv) (hq : pc' = pc + 3)
    (K : ∀ (T' : State) (h' : Heap) (v : Option Value) (L : List Loc), OSt Z EL a0 n0 h0 ws own bytes mx p l e R s m args below meth c sv T' h' (k + rc) (n + rs) → Keep h h' ws' → Q v h' L → OGo p.tables e below P T' (mkF m pc' Ls (v.toList ++ rest))) : OGo p.tables e below P T (mkF m pc Ls st) := by
  subst hq
  obtain ⟨hx, hby, hml, eT, hlk, vm0, locs, Y, I⟩ := X
  have hZ : Z.Warmed39 (s.setVm vm0).vm := I.2.2.2.2.1
  have hW' : 2 * (mkF m pc Ls st).monitorRoom + (rest.map fun v => v.category).sum ≤ W := by show 2 * 0 + _ ≤ _; rw [hW]; omega
  obtain ⟨v, vm₁, ⟨U, L', k', n'⟩, -, Y', ⟨L, q, l1, l2, l3⟩, stp⟩ := Y.specialBack hx (y := y) hy1 (show (s.setVm vm0).vm.findClass own = _ from I.2.2.2.2.2.1) (mvT hZ w1) (mvT hZ w2) (mvT hZ wc) hy (hK vm0 hZ) (g := mkF m pc Ls st) rfl (by rw [hml]; exact hsz) (Steps.refl _) (a := a) (argsL := argsL) (rest := rest) hlen hst hW' (hb hby hd) (fun _ _ => ⟨has, eT, hc, hs⟩)
  dsimp only [Pt.U, Pt.locs, Pt.cells, Pt.slots] at Y' l1 l2 l3 q stp
  subst l1 l2 l3
  exact og (fun _ q => stp.trans q) (K U U.heap v L ⟨hx, hby, hml, rfl, hlk, vm0, _, Y', I.keep (hQ _ _ _ q).2 hsv (hQ _ _ _ q).1⟩ (hQ _ _ _ q).2 q)
theorem own_virtB (X : OSt Z EL a0 n0 h0 ws own bytes mx p l e R s m args below meth c sv T h k n) (pc' : Nat) {y z : MethodName} {C : String} {index W rc rs : Nat} {as' : Array Value} {ws' : List Addr} {Q : Option Value → Heap → List Loc → Prop} {a : Addr} {argsL rest : List Value} (hd : decode bytes pc = .ok (.invokevirtual index, 3)) (E : Exa Z h a C) (hnf : ∀ vm0, Z.Warmed39 (s.setVm vm0).vm → NotFace (s.setVm vm0) y)
    (hK : ∀ vm0, Z.Warmed39 (s.setVm vm0).vm → Back l R p e below (s.setVm vm0) args z 3 W (fun A a => a = as' ∧ A.U.heap = h ∧ A.cells + rc ≤ R.cells ∧ A.slots + rs ≤ R.slots) (fun A _ v B => ∃ L, Q v B.U.heap L ∧ B.locs = A.locs ++ L ∧ B.cells = A.cells + rc ∧ B.slots = A.slots + rs)) (hQ : ∀ v h' L, Q v h' L → Fr n0 L ∧ Keep h h' ws')
    (w1 : (Cond.methodLink own index y).before a0 Z = true) (w2 : (Cond.declares y).before a0 Z = true) (w3 : (Cond.selects C y z).before a0 Z = true) (w4 : (Cond.instanceMethod z).before a0 Z = true) (hy : y.cls ≠ "java/lang/invoke/MethodHandle" ∧ y.cls ≠ "java/lang/invoke/VarHandle")
    (hlen : ∀ sig, parseMethodDescriptor y.desc = some sig → argsL.length = sig.parameters.length) (hst : st = argsL.reverse ++ .ref a :: rest) (has : (.ref a :: argsL).toArray = as') (hsz : Ls.size = mx) (hW : (rest.map fun v => v.category).sum = W) (hc : k + rc ≤ R.cells) (hs : n + rs ≤ R.slots) (hsv : ∀ x ∈ ws', x ∈ sv) (hq : pc' = pc + 3)
    (K : ∀ (T' : State) (h' : Heap) (v : Option Value) (L : List Loc), OSt Z EL a0 n0 h0 ws own bytes mx p l e R s m args below meth c sv T' h' (k + rc) (n + rs) → Keep h h' ws' → Q v h' L → OGo p.tables e below P T' (mkF m pc' Ls (v.toList ++ rest))) : OGo p.tables e below P T (mkF m pc Ls st) := by
  subst hq
  obtain ⟨hx, hby, hml, eT, hlk, vm0, locs, Y, I⟩ := X
  have hZ : Z.Warmed39 (s.setVm vm0).vm := I.2.2.2.2.1
  have hW' : 2 * (mkF m pc Ls st).monitorRoom + (rest.map fun v => v.category).sum ≤ W := by show 2 * 0 + _ ≤ _; rw [hW]; omega
  obtain ⟨cq, kq, qa, qb, qc⟩ := isOf (s := s.setVm vm0) hZ eT E
  obtain ⟨v, vm₁, ⟨U, L', k', n'⟩, -, Y', ⟨L, q, l1, l2, l3⟩, stp⟩ := Y.virtualBack hx (y := y) (z := z) (show (s.setVm vm0).vm.findClass own = _ from I.2.2.2.2.2.1) (mvT hZ w1) (mvT hZ w2) (hnf vm0 hZ) (mvT hZ w3) (mvT hZ w4) hy (hK vm0 hZ) qa qc (g := mkF m pc Ls st) rfl (by rw [hml]; exact hsz) (Steps.refl _) (argsL := argsL) (rest := rest) hlen hst hW' (hb hby hd) (fun _ _ => ⟨has, eT, hc, hs⟩)
  dsimp only [Pt.U, Pt.locs, Pt.cells, Pt.slots] at Y' l1 l2 l3 q stp
  subst l1 l2 l3
  exact og (fun _ q => stp.trans q) (K U U.heap v L ⟨hx, hby, hml, rfl, hlk, vm0, _, Y', I.keep (hQ _ _ _ q).2 hsv (hQ _ _ _ q).1⟩ (hQ _ _ _ q).2 q)
theorem own_svb (X : OSt Z EL a0 n0 h0 ws own bytes mx p l e R s m args below meth c sv T h k n) {a : Addr} (ha : a ∈ sv) : n0 ≤ a ∧ a < h.size := by
  obtain ⟨-, -, -, -, -, _, _, -, -, -, -, -, -, -, -, -, -, -, q⟩ := X
  exact ⟨(q a ha).1, (q a ha).2.1⟩
theorem own_fitR {t : FieldType} {w : Value} (ht : t.isReference = true) (hw : w.isRef = true) : fits t w = true := by
  rcases ref_cases hw with rfl | ⟨a, rfl⟩ <;> cases t <;> first | rfl | cases ht
theorem own_sto {a y : Addr} {kb : ClassId} {ty : FieldType} {z : Int32} {vs : List Value} {dv : Value} {C : String} (A : Arv Z h a kb ty z vs dv) (O : Ovr Z kb C) (i : Ins Z h y C true) : Sto Z h a (.ref y) := by
  obtain ⟨cl, Ar, q, -⟩ := A
  exact Sto.ofV Ar q O i
theorem own_face (X : OSt Z EL a0 n0 h0 ws own bytes mx p l e R s m args below meth c sv T h k n) (pc' : Nat) {y z : MethodName} {C : String} {index count maxL W : Nat} {ret : Option FieldType} {rm : Room} {as' : Array Value} {ws' : List Addr} {Q : Option Value → Heap → Prop} {bc : ByteArray} {a : Addr} {argsL rest : List Value} (hd : decode bytes pc = .ok (.invokeinterface index count, 5)) (E : Exa Z h a C) (hM : OMet l Z EL n0 z [Jvm.Cond.code z bc maxL ret] rm as' h ws' Q) (w1 : (Cond.methodLink own index y).before a0 Z = true) (w2 : (Cond.declares y).before a0 Z = true) (w3 : (Cond.interfaceMethod y.cls y.cls y.name y.desc).before a0 Z = true) (w4 : (Cond.selects C y z).before a0 Z = true) (w5 : (Cond.instanceMethod z).before a0 Z = true) (w6 : (Cond.publicMethod z).before a0 Z = true) (w7 : (Cond.unhidden C y.name y.desc).before a0 Z = true) (w8 : (Cond.castable C y.cls).before a0 Z = true) (wz : (Cond.initialized z.cls).before a0 Z = true) (wc : (Cond.code z bc maxL ret).before a0 Z = true) (hy : y.cls ≠ "java/lang/invoke/MethodHandle" ∧ y.cls ≠ "java/lang/invoke/VarHandle")
    (hlen : ∀ sig, parseMethodDescriptor y.desc = some sig → argsL.length = sig.parameters.length) (hst : st = argsL.reverse ++ .ref a :: rest) (has : (.ref a :: argsL).toArray = as') (hsz : Ls.size = mx) (hW : (rest.map fun v => v.category).sum = W) (hf : rm.frames + 1 ≤ R.frames) (hl : W + (maxL + 11) + rm.locals ≤ R.locals) (hc : k + rm.cells ≤ R.cells) (hs : n + rm.slots ≤ R.slots) (hsv : ∀ x ∈ ws', x ∈ sv) (hq : pc' = pc + 5)
    (K : ∀ (T' : State) (h' : Heap) (v : Option Value), OSt Z EL a0 n0 h0 ws own bytes mx p l e R s m args below meth c sv T' h' (k + rm.cells) (n + rm.slots) → Keep h h' ws' → Q v h' → OGo p.tables e below P T' (mkF m pc' Ls (v.toList ++ rest))) : OGo p.tables e below P T (mkF m pc Ls st) := by
  subst hq
  obtain ⟨hx, hby, hml, eT, hlk, vm0, locs, Y, I⟩ := X
  have I0 := I
  obtain ⟨b1, b2, b3, b4, b5, b6, b7, b8, b9, b10, b11⟩ := I0
  have hS : ∀ x ∈ ws', x < h.size ∧ Safe Z EL vm0 h x := fun x hx => ⟨(b11 x (hsv x hx)).2.1, (b11 x (hsv x hx)).2.2.2⟩
  have hZ : Z.Warmed39 (s.setVm vm0).vm := b5
  have hW' : 2 * (mkF m pc Ls st).monitorRoom + (rest.map fun v => v.category).sum ≤ W := by show 2 * 0 + _ ≤ _; rw [hW]; omega
  obtain ⟨cq, kq, qa, qb, qc⟩ := isOf (s := s.setVm vm0) hZ eT E
  by_cases hnil : EL = []
  · obtain ⟨v, vm₁, ⟨U, L', k', n'⟩, -, Y', ⟨L, ⟨q1, q2, q3⟩, l1, l2, l3⟩, stp⟩ := Y.interfaceBack hx (xi := y) (y := z) (show (s.setVm vm0).vm.findClass own = _ from b6) (mvT hZ w1 (by first | rfl | decide | simp [Cond.onTables, Cond.keepsFace, Cond.keeps, Cond.steady, Cond.faceAtom, hy.1, hy.2])) (mvT hZ w2 (by first | rfl | decide | simp [Cond.onTables, Cond.keepsFace, Cond.keeps, Cond.steady, Cond.faceAtom, hy.1, hy.2])) (mvT hZ w3 (by first | rfl | decide | simp [Cond.onTables, Cond.keepsFace, Cond.keeps, Cond.steady, Cond.faceAtom, hy.1, hy.2])) (mvT hZ w4 (by first | rfl | decide | simp [Cond.onTables, Cond.keepsFace, Cond.keeps, Cond.steady, Cond.faceAtom, hy.1, hy.2])) (mvT hZ w5 (by first | rfl | decide | simp [Cond.onTables, Cond.keepsFace, Cond.keeps, Cond.steady, Cond.faceAtom, hy.1, hy.2])) (mvT hZ w6 (by first | rfl | decide | simp [Cond.onTables, Cond.keepsFace, Cond.keeps, Cond.steady, Cond.faceAtom, hy.1, hy.2])) (mvT hZ w7 (by first | rfl | decide | simp [Cond.onTables, Cond.keepsFace, Cond.keeps, Cond.steady, Cond.faceAtom, hy.1, hy.2])) (mvT hZ w8 (by first | rfl | decide | simp [Cond.onTables, Cond.keepsFace, Cond.keeps, Cond.steady, Cond.faceAtom, hy.1, hy.2])) hy (own_payN hnil hM b5 wc wz hf hl b7 b8.1 hS) qa qb qc (g := mkF m pc Ls st) rfl (by rw [hml]; exact hsz) (Steps.refl _) (argsL := argsL) (rest := rest) hlen hst hW' (hb hby hd) (fun _ _ => ⟨has, eT, hc, hs⟩)
    dsimp only [Pt.U, Pt.locs, Pt.cells, Pt.slots] at Y' l1 l2 l3 q1 q2 q3 stp
    subst l1 l2 l3
    exact og (fun _ q => stp.trans q) (K U U.heap v ⟨hx, hby, hml, rfl, hlk, vm0, _, Y', I.keep q2 hsv q1⟩ q2 q3)
  · obtain ⟨v, vm₁, ⟨U, L', k', n'⟩, -, Y', S', g', ⟨L, ⟨q1, q2, q3⟩, l1, l2, l3, C⟩, stp⟩ := Y.interfaceBackS hx (xi := y) (y := z) (show (s.setVm vm0).vm.findClass own = _ from b6) (mvT hZ w1 (by first | rfl | decide | simp [Cond.onTables, Cond.keepsFace, Cond.keeps, Cond.steady, Cond.faceAtom, hy.1, hy.2])) (mvT hZ w2 (by first | rfl | decide | simp [Cond.onTables, Cond.keepsFace, Cond.keeps, Cond.steady, Cond.faceAtom, hy.1, hy.2])) (mvT hZ w3 (by first | rfl | decide | simp [Cond.onTables, Cond.keepsFace, Cond.keeps, Cond.steady, Cond.faceAtom, hy.1, hy.2])) (mvT hZ w4 (by first | rfl | decide | simp [Cond.onTables, Cond.keepsFace, Cond.keeps, Cond.steady, Cond.faceAtom, hy.1, hy.2])) (mvT hZ w5 (by first | rfl | decide | simp [Cond.onTables, Cond.keepsFace, Cond.keeps, Cond.steady, Cond.faceAtom, hy.1, hy.2])) (mvT hZ w6 (by first | rfl | decide | simp [Cond.onTables, Cond.keepsFace, Cond.keeps, Cond.steady, Cond.faceAtom, hy.1, hy.2])) (mvT hZ w7 (by first | rfl | decide | simp [Cond.onTables, Cond.keepsFace, Cond.keeps, Cond.steady, Cond.faceAtom, hy.1, hy.2])) (mvT hZ w8 (by first | rfl | decide | simp [Cond.onTables, Cond.keepsFace, Cond.keeps, Cond.steady, Cond.faceAtom, hy.1, hy.2])) hy (own_payW hM b5 wc wz hf hl b7 b8.1 hS) qa qb qc (g := mkF m pc Ls st) rfl (by rw [hml]; exact hsz) (Steps.refl _) (argsL := argsL) (rest := rest) hlen hst hW' (hb hby hd) (fun _ _ => ⟨has, eT, hc, hs⟩)
    dsimp only [Pt.U, Pt.locs, Pt.cells, Pt.slots] at Y' l1 l2 l3 q1 q2 q3 stp S' g' C
    subst l1 l2 l3
    exact og (fun _ q => stp.trans q) (K U U.heap v ⟨hx, hby, hml, rfl, hlk, U.vm, _, Y', I.call q2 hsv q1 C S' (fun q => absurd q hnil)⟩ q2 q3)
theorem own_ldcO (X : OSt Z EL a0 n0 h0 ws own bytes mx p l e R s m args below meth c sv T h k n) (pc' : Nat) {index cap : Nat} {text : String} (hd : decode bytes pc = .ok (.ldc index, 2)) (hne : EL ≠ []) (w : (Cond.stringLink own index text).before a0 Z = true) (wS : ∀ a ∈ Bundle.stringAtoms, a.before a0 Z = true) (hcap : 4 * text.toList.length ≤ cap) (hbig : cap ≤ 536870912) (hc : k + 2 ≤ R.cells) (hl : n + (cap + 4) ≤ R.slots) (hq : pc' = pc + 2)
    (K : ∀ (T' : State) (h' : Heap) (a : Addr), OSt Z EL a0 n0 h0 ws own bytes mx p l e R s m args below meth c sv T' h' (k + 2) (n + (cap + 4)) → Keep h h' [] → OGo p.tables e below P T' (mkF m pc' Ls (.ref a :: st))) : OGo p.tables e below P T (mkF m pc Ls st) := by
  subst hq
  obtain ⟨hx, hby, hml, eT, hlk, vm0, locs, Y, I⟩ := X
  have I0 := I
  obtain ⟨b1, b2, b3, ⟨k0, b4, b4'⟩, b5, b6, b7, b8, b9, b10, b11⟩ := I0
  obtain ⟨a, T', h', k1, Y', e', E, S', hk', hZ', hown', C, -, stp⟩ := ldcOH Y hx b5 b6 w wS eT b4 b4' b7 b8.1 (g := mkF m pc Ls st) rfl (hb hby hd) hcap hbig hc hl
  have hZ' : Z.Warmed39 T'.vm := hZ'
  refine og stp (K T' h' a ⟨hx, hby, hml, e', hlk, T'.vm, locs, Y', b1, b2.ext E, b3.ext E, ⟨k1, S', hk'⟩, hZ', hown', b7, b8.trans C, fun q => absurd q hne, b10, fun x hx => ?_⟩ ((Keep.refl _ _).ext E))
  exact ⟨(b11 x hx).1, Nat.lt_of_lt_of_le (b11 x hx).2.1 E.1, (b11 x hx).2.2.1, C.safe (b11 x hx).2.1 (b11 x hx).2.2.2⟩
theorem own_ldcR (X : OSt Z EL a0 n0 h0 ws own bytes mx p l e R s m args below meth c sv T h k n) (pc' : Nat) {index cap : Nat} {text : String} {vs : List Value} {z : Int32} (hd : decode bytes pc = .ok (.ldc index, 2)) (hmem : (own, index) ∈ EL) (w : (Cond.stringLink own index text).before a0 Z = true) (wS : ∀ a ∈ Bundle.stringAtoms, a.before a0 Z = true) (ht : (∀ c ∈ text.toList, c.toNat < 256) ∧ text.toList.map (fun c => Value.int (Jvm.Lit.byteI c.toNat.toUInt16)) = vs) (hz : ¬ z < 0) (hlz : z.toNatClampNeg = vs.length) (hcap : 4 * text.toList.length ≤ cap) (hbig : cap ≤ 536870912) (hc : k + 2 ≤ R.cells) (hl : n + (cap + 4) ≤ R.slots) (hq : pc' = pc + 2)
    (K : ∀ (T' : State) (h' : Heap) (a b : Addr) (kb : ClassId), OSt Z EL a0 n0 h0 ws own bytes mx p l e R s m args below meth c sv T' h' (k + 2) (n + (cap + 4)) → Keep h h' [] → Exa Z h' a "java/lang/String" → Fld Z h' a "java/lang/String" "coder" "B" (.int 0) → Fld Z h' a "java/lang/String" "value" "[B" (.ref b) → Arv Z h' b kb .byte z vs (.int 0) → (∀ x ∈ sv, x ≠ a ∧ x ≠ b) → OGo p.tables e below P T' (mkF m pc' Ls (.ref a :: st))) : OGo p.tables e below P T (mkF m pc Ls st) := by
  subst hq
  obtain ⟨hx, hby, hml, eT, hlk, vm0, locs, Y, I⟩ := X
  have I0 := I
  obtain ⟨b1, b2, b3, ⟨k0, b4, b4'⟩, b5, b6, b7, b8, b9, b10, b11⟩ := I0
  obtain ⟨a, T', h', k1, b, kb, Y', e', E, S', hk', hZ', hown', r1, r2, r3, r4, r5, r6, C, -, far, stp⟩ := ldcCH Y hx b5 b6 w wS eT b4 b4' b7 hmem b8.1 ht hz hlz (g := mkF m pc Ls st) rfl (hb hby hd) hcap hbig hc hl
  have hZ' : Z.Warmed39 T'.vm := hZ'
  have sf : ∀ x ∈ sv, Safe Z EL T'.vm h' x := fun x hx => C.safe (b11 x hx).2.1 (b11 x hx).2.2.2
  refine og stp (K T' h' a b kb ⟨hx, hby, hml, e', hlk, T'.vm, locs, Y', b1, b2.ext E, b3.ext E, ⟨k1, S', hk'⟩, hZ', hown', b7, b8.trans C, fun q => ?_, b10, fun x hx => ?_⟩ ((Keep.refl _ _).ext E) r1 r2 r3 r4 fun x hx => far x (sf x hx))
  · rw [q] at hmem; cases hmem
  · exact ⟨(b11 x hx).1, Nat.lt_of_lt_of_le (b11 x hx).2.1 E.1, (b11 x hx).2.2.1, sf x hx⟩
theorem own_n0 (X : OSt Z EL a0 n0 h0 ws own bytes mx p l e R s m args below meth c sv T h k n) : n0 ≤ h.size := X.old.1 ▸ X.old.2.1
def OFar (Z : State) (h : Heap) (B : Nat) (y : Addr) : Prop := B ≤ y ∨ ∃ (C : String) (kk : Nat) (a0 : Array Value), Exa Z h y C ∧ C ≠ "java/lang/String" ∧ (Jvm.Cond.instantiable C kk).before a0 Z = true
def OStr (Z : State) (h : Heap) (x : Addr) (cs : List Int32) (B : Nat) : Prop := ∃ (t : Addr) (kb : ClassId) (cd N : Int32) (vs : List Value), Exa Z h x "java/lang/String" ∧ Fld Z h x "java/lang/String" "coder" "B" (.int cd) ∧ Fld Z h x "java/lang/String" "value" "[B" (.ref t) ∧ Arv Z h t kb .byte N vs (.int 0) ∧ StrChars.Road.CodA cs cd N vs ∧ (∀ c ∈ cs, ¬ c < 0 ∧ ¬ (65535 : Int32) < c) ∧ cs.length ≤ 4000 ∧ x < B ∧ t < B
theorem OStr.exa {Z : State} {h : Heap} {x : Addr} {cs : List Int32} {B : Nat} (F : OStr Z h x cs B) : Exa Z h x "java/lang/String" := by obtain ⟨t, kb, cd, N, vs, r, -⟩ := F; exact r
theorem OStr.lt {Z : State} {h : Heap} {x : Addr} {cs : List Int32} {B : Nat} (F : OStr Z h x cs B) : x < h.size := F.exa.lt
theorem OStr.ltB {Z : State} {h : Heap} {x : Addr} {cs : List Int32} {B : Nat} (F : OStr Z h x cs B) : x < B := by obtain ⟨t, kb, cd, N, vs, -, -, -, -, -, -, -, r, -⟩ := F; exact r
theorem OStr.top {Z : State} {h : Heap} {x : Addr} {cs : List Int32} {B : Nat} (F : OStr Z h x cs B) : OStr Z h x cs h.size := by
  obtain ⟨t, kb, cd, N, vs, r1, r2, r3, r4, r5, r6, r7, -, -⟩ := F
  exact ⟨t, kb, cd, N, vs, r1, r2, r3, r4, r5, r6, r7, r1.lt, r4.lt⟩
theorem OStr.keep {Z : State} {h h' : Heap} {x : Addr} {cs : List Int32} {B : Nat} {ws : List Addr} (F : OStr Z h x cs B) (K : Keep h h' ws) (q : ∀ y ∈ ws, OFar Z h B y) : OStr Z h' x cs B := by
  obtain ⟨t, kb, cd, N, vs, r1, r2, r3, r4, r5, r6, r7, r8, r9⟩ := F
  have nx : x ∉ ws := fun hx => by
    rcases q x hx with u | ⟨C, kk, a0, E, hC, -⟩
    · exact absurd r8 (Nat.not_lt.mpr u)
    · exact ne_exa r1 E (Ne.symm hC) rfl
  have nt : t ∉ ws := fun hx => by
    rcases q t hx with u | ⟨C, kk, a0, E, hC, wi⟩
    · exact absurd r9 (Nat.not_lt.mpr u)
    · obtain ⟨c, A, -⟩ := r4
      exact ne_arr E wi A rfl
  exact ⟨t, kb, cd, N, vs, r1.keep K, r2.keep K nx, r3.keep K nx, r4.keep K nt, r5, r6, r7, r8, r9⟩
theorem own_mkStr {Z : State} {h : Heap} {x t : Addr} {kb : ClassId} {cs bs : List Int32} {N : Int32} {n : Nat} (E : Exa Z h x "java/lang/String") (C : Fld Z h x "java/lang/String" "coder" "B" (.int 0)) (V : Fld Z h x "java/lang/String" "value" "[B" (.ref t)) (A : Arv Z h t kb .byte N (bs.map Value.int) (.int 0)) (hb : bs = cs.map (fun c => c.toInt8.toInt32)) (hp : ∀ c ∈ cs, ¬ c < 0 ∧ ¬ (255 : Int32) < c) (hn : cs.length = n) (hN : N = Int32.ofNat n) (hl : n ≤ 4000) : OStr Z h x cs h.size := by
  subst hn hN hb
  exact ⟨t, kb, 0, _, _, E, C, V, A, StrChars.Road.codOf rfl (fun c hc => (hp c hc).2), fun c hc => ⟨(hp c hc).1, own_up8 (hp c hc).2⟩, hl, E.lt, A.lt⟩
end OwnKit
def own_EL : List (String × Nat) := consts_1
def OWorld (Z : State) (a0 : Array Value) : Prop := EW Z a0 own_EL ∧ (Sta Z Z.heap "java/lang/String" "COMPACT_STRINGS" "Z" (.int (own_sti Z "java/lang/String" "COMPACT_STRINGS" "Z")) ∧ ¬ (own_sti Z "java/lang/String" "COMPACT_STRINGS" "Z") = 0) ∧ (Sta Z Z.heap "com/example/roleward/roleward/model/RoleScope" "TENANT" "Lcom/example/roleward/roleward/model/RoleScope;" (own_stv Z "com/example/roleward/roleward/model/RoleScope" "TENANT" "Lcom/example/roleward/roleward/model/RoleScope;") ∧ (own_stv Z "com/example/roleward/roleward/model/RoleScope" "TENANT" "Lcom/example/roleward/roleward/model/RoleScope;").isRef = true)
theorem ef_rm_emp4 (a : Addr) (b : Addr) (y : Value) (z : Int32) (m : MethodId) : entryFrame m #[(.ref a), (.ref b), (.int (0 : Int32)), (.int (0 : Int32)), .null] 6 = mkF m 0 #[.val (.ref a), .val (.ref b), .val (.int (0 : Int32)), .val (.int (0 : Int32)), .val .null, .unset] [] := by first | (simp [entryFrame, mkF, argsToLocals, Value.category, maxLocals]; done) | rfl
theorem pn_java_lang_String__init____CIILjava_lang_Void__V : plainFor (⟨"java/lang/String", "<init>", "([CIILjava/lang/Void;)V"⟩ : MethodName) = true := by first | exact plainFor_of_name (by first | (simp [plainName, overriddenIn]; done) | decide +kernel) | decide +kernel
theorem d3_0 : decode jdk_42_method_149_code 0 = .ok (.aload_n 0, 1) := by decide +kernel
theorem d3_1 : decode jdk_42_method_149_code 1 = .ok (.invokespecial 1, 3) := by decide +kernel
theorem d3_4 : decode jdk_42_method_149_code 4 = .ok (.iload_n 3, 1) := by decide +kernel
theorem d3_5 : decode jdk_42_method_149_code 5 = .ok (.ifCond .ne 22, 3) := by decide +kernel
theorem d3_8 : decode jdk_42_method_149_code 8 = .ok (.aload_n 0, 1) := by decide +kernel
theorem d3_9 : decode jdk_42_method_149_code 9 = .ok (.ldc 7, 2) := by decide +kernel
theorem own_wS {Z : State} {a0 : Array Value} (hw : ∀ d ∈ tables_1, d.before a0 Z = true) : ∀ d ∈ Bundle.stringAtoms, d.before a0 Z = true := fun d hd => hw d ((by decide +kernel : ∀ d ∈ Bundle.stringAtoms, d ∈ tables_1) d hd)
theorem d3_11 : decode jdk_42_method_149_code 11 = .ok (.getfield 9, 3) := by decide +kernel
theorem d3_14 : decode jdk_42_method_149_code 14 = .ok (.putfield 9, 3) := by decide +kernel
theorem d3_17 : decode jdk_42_method_149_code 17 = .ok (.aload_n 0, 1) := by decide +kernel
theorem d3_18 : decode jdk_42_method_149_code 18 = .ok (.ldc 7, 2) := by decide +kernel
theorem d3_20 : decode jdk_42_method_149_code 20 = .ok (.getfield 15, 3) := by decide +kernel
theorem d3_23 : decode jdk_42_method_149_code 23 = .ok (.putfield 15, 3) := by decide +kernel
theorem d3_26 : decode jdk_42_method_149_code 26 = .ok (.return_, 1) := by decide +kernel
theorem ef_rm_emp1 (a : Addr) (b : Addr) (y : Value) (z : Int32) (kb : ClassId) (m : MethodId) : entryFrame m #[(.ref a), (.ref b)] 2 = mkF m 0 #[.val (.ref a), .val (.ref b)] [] := by first | (simp [entryFrame, mkF, argsToLocals, Value.category, maxLocals]; done) | rfl
theorem pn_java_lang_String__init____C_V : plainFor (⟨"java/lang/String", "<init>", "([C)V"⟩ : MethodName) = true := by first | exact plainFor_of_name (by first | (simp [plainName, overriddenIn]; done) | decide +kernel) | decide +kernel
theorem d2_0 : decode jdk_42_method_3_code 0 = .ok (.aload_n 0, 1) := by decide +kernel
theorem d2_1 : decode jdk_42_method_3_code 1 = .ok (.aload_n 1, 1) := by decide +kernel
theorem d2_2 : decode jdk_42_method_3_code 2 = .ok (.iconst 0, 1) := by decide +kernel
theorem d2_3 : decode jdk_42_method_3_code 3 = .ok (.aload_n 1, 1) := by decide +kernel
theorem d2_4 : decode jdk_42_method_3_code 4 = .ok (.arraylength, 1) := by decide +kernel
theorem d2_5 : decode jdk_42_method_3_code 5 = .ok (.aconst_null, 1) := by decide +kernel
theorem d2_6 : decode jdk_42_method_3_code 6 = .ok (.invokespecial 27, 3) := by decide +kernel
theorem pd__28_5bCIILjava_2flang_2fVoid_3b_29V : parseMethodDescriptor "([CIILjava/lang/Void;)V" = some ⟨[(.array .char), .int, .int, (.object "java/lang/Void")], none⟩ := by decide +kernel
theorem d2_9 : decode jdk_42_method_3_code 9 = .ok (.return_, 1) := by decide +kernel
theorem ef_rm1 (x : Int32) (z : Int32) (m : MethodId) : entryFrame m #[(.int x), (.int z)] 3 = mkF m 0 #[.val (.int x), .val (.int z), .unset] [] := by first | (simp [entryFrame, mkF, argsToLocals, Value.category, maxLocals]; done) | rfl
theorem pn_com_example_roleward_roleward_model_RoleOfTenantPinLaw_str__IZ_Ljava_lang_String_ : plainFor (⟨"com/example/roleward/roleward/model/RoleOfTenantPinLaw", "str", "(IZ)Ljava/lang/String;"⟩ : MethodName) = true := by first | exact plainFor_of_name (by first | (simp [plainName, overriddenIn]; done) | decide +kernel) | decide +kernel
theorem d1_0 : decode method_2_code 0 = .ok (.iload_n 1, 1) := by decide +kernel
theorem d1_1 : decode method_2_code 1 = .ok (.ifCond .eq 14, 3) := by decide +kernel
theorem d1_15 : decode method_2_code 15 = .ok (.iconst 2, 1) := by decide +kernel
theorem d1_16 : decode method_2_code 16 = .ok (.newarray .char, 2) := by decide +kernel
theorem d1_18 : decode method_2_code 18 = .ok (.astore_n 2, 1) := by decide +kernel
theorem d1_19 : decode method_2_code 19 = .ok (.aload_n 2, 1) := by decide +kernel
theorem d1_20 : decode method_2_code 20 = .ok (.iconst 0, 1) := by decide +kernel
theorem d1_21 : decode method_2_code 21 = .ok (.iload_n 0, 1) := by decide +kernel
theorem d1_22 : decode method_2_code 22 = .ok (.sipush 255, 3) := by decide +kernel
theorem d1_25 : decode method_2_code 25 = .ok (.iand, 1) := by decide +kernel
theorem d1_26 : decode method_2_code 26 = .ok (.i2c, 1) := by decide +kernel
theorem d1_27 : decode method_2_code 27 = .ok (.castore, 1) := by decide +kernel
theorem d1_28 : decode method_2_code 28 = .ok (.aload_n 2, 1) := by decide +kernel
theorem d1_29 : decode method_2_code 29 = .ok (.iconst 1, 1) := by decide +kernel
theorem d1_30 : decode method_2_code 30 = .ok (.iload_n 0, 1) := by decide +kernel
theorem d1_31 : decode method_2_code 31 = .ok (.bipush 8, 2) := by decide +kernel
theorem d1_33 : decode method_2_code 33 = .ok (.iushr, 1) := by decide +kernel
theorem d1_34 : decode method_2_code 34 = .ok (.sipush 255, 3) := by decide +kernel
theorem d1_37 : decode method_2_code 37 = .ok (.iand, 1) := by decide +kernel
theorem d1_38 : decode method_2_code 38 = .ok (.i2c, 1) := by decide +kernel
theorem d1_39 : decode method_2_code 39 = .ok (.castore, 1) := by decide +kernel
theorem d1_40 : decode method_2_code 40 = .ok (.new 7, 3) := by decide +kernel
theorem d1_43 : decode method_2_code 43 = .ok (.dup, 1) := by decide +kernel
theorem d1_44 : decode method_2_code 44 = .ok (.aload_n 2, 1) := by decide +kernel
theorem d1_45 : decode method_2_code 45 = .ok (.invokespecial 9, 3) := by decide +kernel
theorem own_wV {Z : State} {a0 : Array Value} (hw : ∀ d ∈ tables_1, d.before a0 Z = true) : ∀ d ∈ StrChars.Road.words, d.before a0 Z = true := fun d hd => hw d ((by decide +kernel : ∀ d ∈ StrChars.Road.words, d ∈ tables_1) d hd)
theorem pd__28_5bC_29V : parseMethodDescriptor "([C)V" = some ⟨[(.array .char)], none⟩ := by decide +kernel
theorem d1_48 : decode method_2_code 48 = .ok (.areturn, 1) := by decide +kernel
theorem d1_4 : decode method_2_code 4 = .ok (.new 7, 3) := by decide +kernel
theorem d1_7 : decode method_2_code 7 = .ok (.dup, 1) := by decide +kernel
theorem d1_8 : decode method_2_code 8 = .ok (.iconst 0, 1) := by decide +kernel
theorem d1_9 : decode method_2_code 9 = .ok (.newarray .char, 2) := by decide +kernel
theorem d1_11 : decode method_2_code 11 = .ok (.invokespecial 9, 3) := by decide +kernel
theorem d1_14 : decode method_2_code 14 = .ok (.areturn, 1) := by decide +kernel
theorem ef_rm10 (a : Addr) (m : MethodId) : entryFrame m #[(.ref a)] 1 = mkF m 0 #[.val (.ref a)] [] := by first | (simp [entryFrame, mkF, argsToLocals, Value.category, maxLocals]; done) | rfl
theorem pn_java_lang_Record__init____V : plainFor (⟨"java/lang/Record", "<init>", "()V"⟩ : MethodName) = true := by first | exact plainFor_of_name (by first | (simp [plainName, overriddenIn]; done) | decide +kernel) | decide +kernel
theorem d10_0 : decode jdk_30_method_1_code 0 = .ok (.aload_n 0, 1) := by decide +kernel
theorem d10_1 : decode jdk_30_method_1_code 1 = .ok (.invokespecial 1, 3) := by decide +kernel
theorem d10_4 : decode jdk_30_method_1_code 4 = .ok (.return_, 1) := by decide +kernel
theorem ef_rm9 (a : Addr) (p0 : Value) (p1 : Value) (p2 : Value) (p3 : Value) (p4 : Value) (p5 : Value) (p6 : Value) (h_p0 : p0.isRef = true) (h_p1 : p1.isRef = true) (h_p2 : p2.isRef = true) (h_p3 : p3.isRef = true) (h_p4 : p4.isRef = true) (h_p5 : p5.isRef = true) (h_p6 : p6.isRef = true) (m : MethodId) : entryFrame m #[(.ref a), p0, p1, p2, p3, p4, p5, p6] 8 = mkF m 0 #[.val (.ref a), .val p0, .val p1, .val p2, .val p3, .val p4, .val p5, .val p6] [] := by simp [entryFrame, mkF, argsToLocals, XT.cat1 h_p0, XT.cat1 h_p1, XT.cat1 h_p2, XT.cat1 h_p3, XT.cat1 h_p4, XT.cat1 h_p5, XT.cat1 h_p6, show (Value.ref a).category = 1 from rfl]
theorem pn_com_example_roleward_roleward_model_Role__init___Ljava_lang_String_Ljava_lang_String_Ljava_lang_String_Lcom_example_roleward_roleward_model_RoleScope_Ljava_lang_String_Ljava_lang_String_Ljava_lang_String__V : plainFor (⟨"com/example/roleward/roleward/model/Role", "<init>", "(Ljava/lang/String;Ljava/lang/String;Ljava/lang/String;Lcom/example/roleward/roleward/model/RoleScope;Ljava/lang/String;Ljava/lang/String;Ljava/lang/String;)V"⟩ : MethodName) = true := by first | exact plainFor_of_name (by first | (simp [plainName, overriddenIn]; done) | decide +kernel) | decide +kernel
theorem d9_0 : decode prog_12_method_1_code 0 = .ok (.aload_n 0, 1) := by decide +kernel
theorem d9_1 : decode prog_12_method_1_code 1 = .ok (.invokespecial 1, 3) := by decide +kernel
theorem pd__28_29V : parseMethodDescriptor "()V" = some ⟨[], none⟩ := by decide +kernel
theorem d9_4 : decode prog_12_method_1_code 4 = .ok (.aload_n 0, 1) := by decide +kernel
theorem d9_5 : decode prog_12_method_1_code 5 = .ok (.aload_n 1, 1) := by decide +kernel
theorem d9_6 : decode prog_12_method_1_code 6 = .ok (.putfield 7, 3) := by decide +kernel
theorem d9_9 : decode prog_12_method_1_code 9 = .ok (.aload_n 0, 1) := by decide +kernel
theorem d9_10 : decode prog_12_method_1_code 10 = .ok (.aload_n 2, 1) := by decide +kernel
theorem d9_11 : decode prog_12_method_1_code 11 = .ok (.putfield 13, 3) := by decide +kernel
theorem d9_14 : decode prog_12_method_1_code 14 = .ok (.aload_n 0, 1) := by decide +kernel
theorem d9_15 : decode prog_12_method_1_code 15 = .ok (.aload_n 3, 1) := by decide +kernel
theorem d9_16 : decode prog_12_method_1_code 16 = .ok (.putfield 16, 3) := by decide +kernel
theorem d9_19 : decode prog_12_method_1_code 19 = .ok (.aload_n 0, 1) := by decide +kernel
theorem d9_20 : decode prog_12_method_1_code 20 = .ok (.aload 4, 2) := by decide +kernel
theorem d9_22 : decode prog_12_method_1_code 22 = .ok (.putfield 19, 3) := by decide +kernel
theorem d9_25 : decode prog_12_method_1_code 25 = .ok (.aload_n 0, 1) := by decide +kernel
theorem d9_26 : decode prog_12_method_1_code 26 = .ok (.aload 5, 2) := by decide +kernel
theorem d9_28 : decode prog_12_method_1_code 28 = .ok (.putfield 23, 3) := by decide +kernel
theorem d9_31 : decode prog_12_method_1_code 31 = .ok (.aload_n 0, 1) := by decide +kernel
theorem d9_32 : decode prog_12_method_1_code 32 = .ok (.aload 6, 2) := by decide +kernel
theorem d9_34 : decode prog_12_method_1_code 34 = .ok (.putfield 26, 3) := by decide +kernel
theorem d9_37 : decode prog_12_method_1_code 37 = .ok (.aload_n 0, 1) := by decide +kernel
theorem d9_38 : decode prog_12_method_1_code 38 = .ok (.aload 7, 2) := by decide +kernel
theorem d9_40 : decode prog_12_method_1_code 40 = .ok (.putfield 29, 3) := by decide +kernel
theorem d9_43 : decode prog_12_method_1_code 43 = .ok (.return_, 1) := by decide +kernel
theorem ef_rm8 (p0 : Value) (p1 : Value) (p2 : Value) (p3 : Value) (p4 : Value) (h_p0 : p0.isRef = true) (h_p1 : p1.isRef = true) (h_p2 : p2.isRef = true) (h_p3 : p3.isRef = true) (h_p4 : p4.isRef = true) (m : MethodId) : entryFrame m #[p0, p1, p2, p3, p4] 5 = mkF m 0 #[.val p0, .val p1, .val p2, .val p3, .val p4] [] := by simp [entryFrame, mkF, argsToLocals, XT.cat1 h_p0, XT.cat1 h_p1, XT.cat1 h_p2, XT.cat1 h_p3, XT.cat1 h_p4]
theorem pn_com_example_roleward_roleward_model_Role_ofTenant__Ljava_lang_String_Ljava_lang_String_Ljava_lang_String_Ljava_lang_String_Ljava_lang_String__Lcom_example_roleward_roleward_model_Role_ : plainFor (⟨"com/example/roleward/roleward/model/Role", "ofTenant", "(Ljava/lang/String;Ljava/lang/String;Ljava/lang/String;Ljava/lang/String;Ljava/lang/String;)Lcom/example/roleward/roleward/model/Role;"⟩ : MethodName) = true := by first | exact plainFor_of_name (by first | (simp [plainName, overriddenIn]; done) | decide +kernel) | decide +kernel
theorem d8_0 : decode prog_12_method_2_code 0 = .ok (.new 8, 3) := by decide +kernel
theorem d8_3 : decode prog_12_method_2_code 3 = .ok (.dup, 1) := by decide +kernel
theorem d8_4 : decode prog_12_method_2_code 4 = .ok (.aload_n 1, 1) := by decide +kernel
theorem d8_5 : decode prog_12_method_2_code 5 = .ok (.aload_n 2, 1) := by decide +kernel
theorem d8_6 : decode prog_12_method_2_code 6 = .ok (.aload_n 3, 1) := by decide +kernel
theorem d8_7 : decode prog_12_method_2_code 7 = .ok (.getstatic 32, 3) := by decide +kernel
theorem d8_10 : decode prog_12_method_2_code 10 = .ok (.aload_n 0, 1) := by decide +kernel
theorem d8_11 : decode prog_12_method_2_code 11 = .ok (.aconst_null, 1) := by decide +kernel
theorem d8_12 : decode prog_12_method_2_code 12 = .ok (.aload 4, 2) := by decide +kernel
theorem d8_14 : decode prog_12_method_2_code 14 = .ok (.invokespecial 37, 3) := by decide +kernel
theorem pd__28Ljava_2flang_2fString_3bLjava_2flang_2fString_3bLjava_2flang_2fString_3bLcom_2fexample_2froleward_2froleward_2fmodel_2fRoleScope_3bLjava_2flang_2fString_3bLjava_2flang_2fString_3bLjava_2flang_2fString_3b_29V : parseMethodDescriptor "(Ljava/lang/String;Ljava/lang/String;Ljava/lang/String;Lcom/example/roleward/roleward/model/RoleScope;Ljava/lang/String;Ljava/lang/String;Ljava/lang/String;)V" = some ⟨[(.object "java/lang/String"), (.object "java/lang/String"), (.object "java/lang/String"), (.object "com/example/roleward/roleward/model/RoleScope"), (.object "java/lang/String"), (.object "java/lang/String"), (.object "java/lang/String")], none⟩ := by decide +kernel
theorem d8_17 : decode prog_12_method_2_code 17 = .ok (.areturn, 1) := by decide +kernel
theorem ef_rm11 (a : Addr) (y : Value) (m : MethodId) : entryFrame m #[(.ref a)] 1 = mkF m 0 #[.val (.ref a)] [] := by first | (simp [entryFrame, mkF, argsToLocals, Value.category, maxLocals]; done) | rfl
theorem pn_com_example_roleward_roleward_model_Role_id___Ljava_lang_String_ : plainFor (⟨"com/example/roleward/roleward/model/Role", "id", "()Ljava/lang/String;"⟩ : MethodName) = true := by first | exact plainFor_of_name (by first | (simp [plainName, overriddenIn]; done) | decide +kernel) | decide +kernel
theorem d11_0 : decode prog_12_method_6_code 0 = .ok (.aload_n 0, 1) := by decide +kernel
theorem d11_1 : decode prog_12_method_6_code 1 = .ok (.getfield 7, 3) := by decide +kernel
theorem d11_4 : decode prog_12_method_6_code 4 = .ok (.areturn, 1) := by decide +kernel
theorem ef_rm12 (a : Addr) (y : Value) (m : MethodId) : entryFrame m #[(.ref a)] 1 = mkF m 0 #[.val (.ref a)] [] := by first | (simp [entryFrame, mkF, argsToLocals, Value.category, maxLocals]; done) | rfl
theorem pn_com_example_roleward_roleward_model_Role_name___Ljava_lang_String_ : plainFor (⟨"com/example/roleward/roleward/model/Role", "name", "()Ljava/lang/String;"⟩ : MethodName) = true := by first | exact plainFor_of_name (by first | (simp [plainName, overriddenIn]; done) | decide +kernel) | decide +kernel
theorem d12_0 : decode prog_12_method_7_code 0 = .ok (.aload_n 0, 1) := by decide +kernel
theorem d12_1 : decode prog_12_method_7_code 1 = .ok (.getfield 13, 3) := by decide +kernel
theorem d12_4 : decode prog_12_method_7_code 4 = .ok (.areturn, 1) := by decide +kernel
theorem ef_rm13 (a : Addr) (y : Value) (m : MethodId) : entryFrame m #[(.ref a)] 1 = mkF m 0 #[.val (.ref a)] [] := by first | (simp [entryFrame, mkF, argsToLocals, Value.category, maxLocals]; done) | rfl
theorem pn_com_example_roleward_roleward_model_Role_description___Ljava_lang_String_ : plainFor (⟨"com/example/roleward/roleward/model/Role", "description", "()Ljava/lang/String;"⟩ : MethodName) = true := by first | exact plainFor_of_name (by first | (simp [plainName, overriddenIn]; done) | decide +kernel) | decide +kernel
theorem d13_0 : decode prog_12_method_8_code 0 = .ok (.aload_n 0, 1) := by decide +kernel
theorem d13_1 : decode prog_12_method_8_code 1 = .ok (.getfield 16, 3) := by decide +kernel
theorem d13_4 : decode prog_12_method_8_code 4 = .ok (.areturn, 1) := by decide +kernel
theorem ef_rm14 (a : Addr) (y : Value) (m : MethodId) : entryFrame m #[(.ref a)] 1 = mkF m 0 #[.val (.ref a)] [] := by first | (simp [entryFrame, mkF, argsToLocals, Value.category, maxLocals]; done) | rfl
theorem pn_com_example_roleward_roleward_model_Role_scope___Lcom_example_roleward_roleward_model_RoleScope_ : plainFor (⟨"com/example/roleward/roleward/model/Role", "scope", "()Lcom/example/roleward/roleward/model/RoleScope;"⟩ : MethodName) = true := by first | exact plainFor_of_name (by first | (simp [plainName, overriddenIn]; done) | decide +kernel) | decide +kernel
theorem d14_0 : decode prog_12_method_9_code 0 = .ok (.aload_n 0, 1) := by decide +kernel
theorem d14_1 : decode prog_12_method_9_code 1 = .ok (.getfield 19, 3) := by decide +kernel
theorem d14_4 : decode prog_12_method_9_code 4 = .ok (.areturn, 1) := by decide +kernel
theorem ef_rm15 (a : Addr) (y : Value) (m : MethodId) : entryFrame m #[(.ref a)] 1 = mkF m 0 #[.val (.ref a)] [] := by first | (simp [entryFrame, mkF, argsToLocals, Value.category, maxLocals]; done) | rfl
theorem pn_com_example_roleward_roleward_model_Role_tenantId___Ljava_lang_String_ : plainFor (⟨"com/example/roleward/roleward/model/Role", "tenantId", "()Ljava/lang/String;"⟩ : MethodName) = true := by first | exact plainFor_of_name (by first | (simp [plainName, overriddenIn]; done) | decide +kernel) | decide +kernel
theorem d15_0 : decode prog_12_method_10_code 0 = .ok (.aload_n 0, 1) := by decide +kernel
theorem d15_1 : decode prog_12_method_10_code 1 = .ok (.getfield 23, 3) := by decide +kernel
theorem d15_4 : decode prog_12_method_10_code 4 = .ok (.areturn, 1) := by decide +kernel
theorem ef_rm16 (a : Addr) (y : Value) (m : MethodId) : entryFrame m #[(.ref a)] 1 = mkF m 0 #[.val (.ref a)] [] := by first | (simp [entryFrame, mkF, argsToLocals, Value.category, maxLocals]; done) | rfl
theorem pn_com_example_roleward_roleward_model_Role_communityId___Ljava_lang_String_ : plainFor (⟨"com/example/roleward/roleward/model/Role", "communityId", "()Ljava/lang/String;"⟩ : MethodName) = true := by first | exact plainFor_of_name (by first | (simp [plainName, overriddenIn]; done) | decide +kernel) | decide +kernel
theorem d16_0 : decode prog_12_method_11_code 0 = .ok (.aload_n 0, 1) := by decide +kernel
theorem d16_1 : decode prog_12_method_11_code 1 = .ok (.getfield 26, 3) := by decide +kernel
theorem d16_4 : decode prog_12_method_11_code 4 = .ok (.areturn, 1) := by decide +kernel
theorem ef_rm17 (a : Addr) (y : Value) (m : MethodId) : entryFrame m #[(.ref a)] 1 = mkF m 0 #[.val (.ref a)] [] := by first | (simp [entryFrame, mkF, argsToLocals, Value.category, maxLocals]; done) | rfl
theorem pn_com_example_roleward_roleward_model_Role_roleTypeId___Ljava_lang_String_ : plainFor (⟨"com/example/roleward/roleward/model/Role", "roleTypeId", "()Ljava/lang/String;"⟩ : MethodName) = true := by first | exact plainFor_of_name (by first | (simp [plainName, overriddenIn]; done) | decide +kernel) | decide +kernel
theorem d17_0 : decode prog_12_method_12_code 0 = .ok (.aload_n 0, 1) := by decide +kernel
theorem d17_1 : decode prog_12_method_12_code 1 = .ok (.getfield 29, 3) := by decide +kernel
theorem d17_4 : decode prog_12_method_12_code 4 = .ok (.areturn, 1) := by decide +kernel
theorem ef_rm0 (pt : Int32) (pi : Int32) (pn : Int32) (pd : Int32) (pr : Int32) (pf : Int32) (m : MethodId) : entryFrame m #[(.int pt), (.int pi), (.int pn), (.int pd), (.int pr), (.int pf)] maxLocals = mkF m 0 #[.val (.int pt), .val (.int pi), .val (.int pn), .val (.int pd), .val (.int pr), .val (.int pf), .unset, .unset, .unset, .unset, .unset, .unset, .unset, .unset] [] := by first | (simp [entryFrame, mkF, argsToLocals, Value.category, maxLocals]; done) | rfl
theorem pn_com_example_roleward_roleward_model_RoleOfTenantPinLaw_law__IIIIII_Z : plainFor (⟨"com/example/roleward/roleward/model/RoleOfTenantPinLaw", "law", "(IIIIII)Z"⟩ : MethodName) = true := by first | exact plainFor_of_name (by first | (simp [plainName, overriddenIn]; done) | decide +kernel) | decide +kernel
theorem pd__28IZ_29Ljava_2flang_2fString_3b : parseMethodDescriptor "(IZ)Ljava/lang/String;" = some ⟨[.int, .boolean], some (.object "java/lang/String")⟩ := by decide +kernel
theorem pd__28Ljava_2flang_2fString_3bLjava_2flang_2fString_3bLjava_2flang_2fString_3bLjava_2flang_2fString_3bLjava_2flang_2fString_3b_29Lcom_2fexample_2froleward_2froleward_2fmodel_2fRole_3b : parseMethodDescriptor "(Ljava/lang/String;Ljava/lang/String;Ljava/lang/String;Ljava/lang/String;Ljava/lang/String;)Lcom/example/roleward/roleward/model/Role;" = some ⟨[(.object "java/lang/String"), (.object "java/lang/String"), (.object "java/lang/String"), (.object "java/lang/String"), (.object "java/lang/String")], some (.object "com/example/roleward/roleward/model/Role")⟩ := by decide +kernel
theorem pd__28_29Ljava_2flang_2fString_3b : parseMethodDescriptor "()Ljava/lang/String;" = some ⟨[], some (.object "java/lang/String")⟩ := by decide +kernel
theorem pd__28_29Lcom_2fexample_2froleward_2froleward_2fmodel_2fRoleScope_3b : parseMethodDescriptor "()Lcom/example/roleward/roleward/model/RoleScope;" = some ⟨[], some (.object "com/example/roleward/roleward/model/RoleScope")⟩ := by decide +kernel
set_option maxRecDepth 65536 in
set_option maxHeartbeats 40000000 in
theorem rm_emp4 (l : Launch) (Z : State) (a0 : Array Value) (hw : ∀ d ∈ tables_1, d.before a0 Z = true) (n0 : Nat) (h0 : Heap) (hWd : OWorld Z a0) (wc : List Jvm.Cond) (O0 : Old Z n0 h0) (a : Addr) (b : Addr) (y : Value) (z : Int32) (q0 : Exa Z h0 a "java/lang/String") (q1 : Fld Z h0 a "java/lang/String" "value" "[B" y) (q2 : Fld Z h0 a "java/lang/String" "coder" "B" (.int z)) (g0 : n0 ≤ a ∧ a < h0.size) :
    OMet l Z own_EL n0 (⟨"java/lang/String", "<init>", "([CIILjava/lang/Void;)V"⟩ : MethodName) (Jvm.Cond.code (⟨"java/lang/String", "<init>", "([CIILjava/lang/Void;)V"⟩ : MethodName) jdk_42_method_149_code 6 none :: wc) ({ frames := 1, cells := 4, slots := 8, locals := 12 } : Room) #[(.ref a), (.ref b), (.int (0 : Int32)), (.int (0 : Int32)), .null] h0 [a] (fun vq hq => vq = none ∧ OStr Z hq a [] hq.size) := by
  refine own_enter #[.val (.ref a), .val (.ref b), .val (.int (0 : Int32)), .val (.int (0 : Int32)), .val .null, .unset] pn_java_lang_String__init____CIILjava_lang_Void__V (ef_rm_emp4 a b y z) hWd.1 O0 (allS g0 all0) ?_
  intro p e s m below meth c T0 X0 hnm hret
  refine og_aloadN X0 1 d3_0 rfl rfl rfl ?_
  refine own_obj0 X0 4 (a := a) d3_1 (hw _ (List.mem_of_getElem? (i := 15) rfl)) (hw _ (List.mem_of_getElem? (i := 16) rfl)) (hw _ (List.mem_of_getElem? (i := 17) rfl)) rfl (W := 0) rfl (by decide) (by decide) rfl ?_
  intro T1 X2
  refine og_iloadN X2 5 d3_4 rfl rfl ?_
  refine og_ifN X2 8 d3_5 (XT.i0_ne_f (by decide)) rfl ?_
  refine og_aloadN X2 9 d3_8 rfl rfl rfl ?_
  refine own_ldcR X2 11 (cap := 0) (vs := []) (z := (0 : Int32)) d3_9 (List.mem_of_getElem? (i := 0) rfl) (hw _ (List.mem_of_getElem? (i := 34) rfl)) (own_wS hw) ⟨by decide, rfl⟩ (by decide) rfl (by decide) (by decide) (by decide) (by decide) rfl ?_
  intro T3 h3 a3 b3 kb3 X3 K3 E3 C3 V3 A3 far3
  have f4 := own_mkStr (cs := []) (bs := []) (n := 0) E3 C3 V3 A3 rfl own_l0 rfl rfl (by decide)
  refine own_get X3 14 d3_11 (host := "") (Or.inl (hw _ (List.mem_of_getElem? (i := 32) rfl))) Via.refl V3 rfl ?_
  intro T5 X6
  have f7 := q1.keep K3 nin0
  have f8 := q0.keep K3
  have f9 := q2.keep K3 nin0
  refine own_put X6 17 d3_14 (host := "") (Or.inl (hw _ (List.mem_of_getElem? (i := 32) rfl))) Via.refl f7 f8 (Or.inr ⟨(hw _ (List.mem_of_getElem? (i := 33) rfl)), rfl, hnm⟩) (hw _ (List.mem_of_getElem? (i := 6) rfl)) (ty := (.array .byte)) (by decide) rfl rfl (List.mem_of_getElem? (i := 0) rfl) rfl ?_
  intro T10 h10 X10 W10 K10 F10
  have f11 := Fld.other W10 f9 (Or.inr (slot_ne (Or.inr (hw _ (List.mem_of_getElem? (i := 31) rfl))) (Or.inr (hw _ (List.mem_of_getElem? (i := 33) rfl))) (by decide) (t := .byte) (t' := (.array .byte)) (by decide) (by decide)))
  refine og_aloadN X10 18 d3_17 rfl rfl rfl ?_
  refine own_ldcR X10 20 (cap := 0) (vs := []) (z := (0 : Int32)) d3_18 (List.mem_of_getElem? (i := 0) rfl) (hw _ (List.mem_of_getElem? (i := 34) rfl)) (own_wS hw) ⟨by decide, rfl⟩ (by decide) rfl (by decide) (by decide) (by decide) (by decide) rfl ?_
  intro T12 h12 a12 b12 kb12 X12 K12 E12 C12 V12 A12 far12
  have f13 := own_mkStr (cs := []) (bs := []) (n := 0) E12 C12 V12 A12 rfl own_l0 rfl rfl (by decide)
  refine own_get X12 23 d3_20 (host := "") (Or.inl (hw _ (List.mem_of_getElem? (i := 30) rfl))) Via.refl C12 rfl ?_
  intro T14 X15
  have f16 := f11.keep K12 nin0
  have f17 := f8.keep K10
  have f18 := f17.keep K12
  have f19 := F10.keep K12 nin0
  refine own_put X15 26 d3_23 (host := "") (Or.inl (hw _ (List.mem_of_getElem? (i := 30) rfl))) Via.refl f16 f18 (Or.inr ⟨(hw _ (List.mem_of_getElem? (i := 31) rfl)), rfl, hnm⟩) (hw _ (List.mem_of_getElem? (i := 6) rfl)) (ty := .byte) (by decide) rfl rfl (List.mem_of_getElem? (i := 0) rfl) rfl ?_
  intro T20 h20 X20 W20 K20 F20
  have f21 := Fld.other W20 f19 (Or.inr (slot_ne (Or.inr (hw _ (List.mem_of_getElem? (i := 33) rfl))) (Or.inr (hw _ (List.mem_of_getElem? (i := 31) rfl))) (by decide) (t := (.array .byte)) (t' := .byte) (by decide) (by decide)))
  have f22 := f18.keep K20
  have f23 := A3.keep K10 (ninS (Ne.symm (far3 _ (List.mem_of_getElem? (i := 0) rfl)).2) nin0)
  have f24 := f23.keep K12 nin0
  have f25 := f24.keep K20 (ninS (Ne.symm (far3 _ (List.mem_of_getElem? (i := 0) rfl)).2) nin0)
  refine own_retV X20 d3_26 hret (by decide) (by decide) ?_
  exact ⟨rfl, own_mkStr (cs := []) (bs := []) (n := 0) f22 F20 f21 f25 rfl own_l0 rfl rfl (by decide)⟩
set_option maxRecDepth 65536 in
set_option maxHeartbeats 40000000 in
theorem rm_emp1 (l : Launch) (Z : State) (a0 : Array Value) (hw : ∀ d ∈ tables_1, d.before a0 Z = true) (n0 : Nat) (h0 : Heap) (hWd : OWorld Z a0) (wc : List Jvm.Cond) (O0 : Old Z n0 h0) (a : Addr) (b : Addr) (y : Value) (z : Int32) (kb : ClassId) (q0 : Exa Z h0 a "java/lang/String") (q1 : Fld Z h0 a "java/lang/String" "value" "[B" y) (q2 : Fld Z h0 a "java/lang/String" "coder" "B" (.int z)) (q3 : Arv Z h0 b kb .char (0 : Int32) [] (.int (0 : Int32))) (g0 : n0 ≤ a ∧ a < h0.size) :
    OMet l Z own_EL n0 (⟨"java/lang/String", "<init>", "([C)V"⟩ : MethodName) (Jvm.Cond.code (⟨"java/lang/String", "<init>", "([C)V"⟩ : MethodName) jdk_42_method_3_code 2 none :: wc) ({ frames := 2, cells := 4, slots := 8, locals := 29 } : Room) #[(.ref a), (.ref b)] h0 [a] (fun vq hq => vq = none ∧ OStr Z hq a [] hq.size) := by
  refine own_enter #[.val (.ref a), .val (.ref b)] pn_java_lang_String__init____C_V (ef_rm_emp1 a b y z kb) hWd.1 O0 (allS g0 all0) ?_
  intro p e s m below meth c T0 X0 hnm hret
  refine og_aloadN X0 1 d2_0 rfl rfl rfl ?_
  refine og_aloadN X0 2 d2_1 rfl rfl rfl ?_
  refine og_iconst X0 3 (0 : Int32) d2_2 rfl rfl ?_
  refine og_aloadN X0 4 d2_3 rfl rfl rfl ?_
  refine own_len X0 5 d2_4 q3 rfl ?_
  refine og_aconstNull X0 6 d2_5 rfl ?_
  refine own_spec X0 9 (a := a) (argsL := [(.ref b), (.int (0 : Int32)), (.int (0 : Int32)), .null]) (rest := []) d2_6 rfl (rm_emp4 l Z a0 hw n0 h0 hWd [] X0.old a b y z q0 q1 q2 (own_svb X0 (List.mem_of_getElem? (i := 0) rfl))) (hw _ (List.mem_of_getElem? (i := 11) rfl)) (hw _ (List.mem_of_getElem? (i := 12) rfl)) (hw _ (List.mem_of_getElem? (i := 7) rfl)) (hw _ (List.mem_of_getElem? (i := 14) rfl)) (by decide) (lenOf pd__28_5bCIILjava_2flang_2fVoid_3b_29V rfl) rfl rfl rfl (W := 0) rfl (by decide) (by decide) (by decide) (by decide) (allS (List.mem_of_getElem? (i := 0) rfl) all0) rfl ?_
  intro T1 h1 v1 X1 K1 hQ1
  obtain ⟨rfl, f2⟩ := hQ1
  show OGo _ _ _ _ T1 (mkF m 9 #[.val (.ref a), .val (.ref b)] [])
  refine own_retV X1 d2_9 hret (by decide) (by decide) ?_
  exact ⟨rfl, f2.top⟩
set_option maxRecDepth 65536 in
set_option maxHeartbeats 40000000 in
theorem rm1 (l : Launch) (Z : State) (a0 : Array Value) (hw : ∀ d ∈ tables_1, d.before a0 Z = true) (n0 : Nat) (h0 : Heap) (hWd : OWorld Z a0) (wc : List Jvm.Cond) (O0 : Old Z n0 h0) (x : Int32) (z : Int32)  :
    OMet l Z own_EL n0 (⟨"com/example/roleward/roleward/model/RoleOfTenantPinLaw", "str", "(IZ)Ljava/lang/String;"⟩ : MethodName) (Jvm.Cond.code (⟨"com/example/roleward/roleward/model/RoleOfTenantPinLaw", "str", "(IZ)Ljava/lang/String;"⟩ : MethodName) method_2_code 3 (some (.object "java/lang/String")) :: wc) ({ frames := 4, cells := 6, slots := 12, locals := 66 } : Room) #[(.int x), (.int z)] h0 [] (fun vq hq => ∃ (r : Addr), vq = some (.ref r) ∧ h0.size ≤ r ∧ Exa Z hq r "java/lang/String") := by
  refine own_enter #[.val (.int x), .val (.int z), .unset] pn_com_example_roleward_roleward_model_RoleOfTenantPinLaw_str__IZ_Ljava_lang_String_ (ef_rm1 x z) hWd.1 O0 all0 ?_
  intro p e s m below meth c T0 X0 hnm hret
  refine og_iloadN X0 1 d1_0 rfl rfl ?_
  by_cases hc1 : z = 0
  · -- z = 0
    refine og_ifY X0 15 d1_1 (XT.i0_eq_t hc1) (by decide) (by decide) ?_
    refine og_iconst X0 16 (2 : Int32) d1_15 rfl rfl ?_
    refine own_arr X0 18 d1_16 (hw _ (List.mem_of_getElem? (i := 4) rfl)) (by decide) (cap := 2) (by decide) (by decide) (by decide) (by decide) rfl ?_
    intro T2 h2 b2 kb2 X2 K2 G2 U2 A2
    have f3 : Arv Z h2 b2 kb2 .char (2 : Int32) [(.int (0 : Int32)), (.int (0 : Int32))] (.int (0 : Int32)) := A2
    refine og_astoreN X2 19 #[.val (.int x), .val (.int z), .val (.ref b2)] d1_18 rfl rfl rfl ?_
    refine og_aloadN X2 20 d1_19 rfl rfl rfl ?_
    refine og_iconst X2 21 (0 : Int32) d1_20 rfl rfl ?_
    refine og_iloadN X2 22 d1_21 rfl rfl ?_
    refine og_sipush X2 25 (255 : Int32) d1_22 rfl rfl ?_
    refine og_iand X2 26 d1_25 rfl ?_
    refine og_i2c8 X2 27 d1_26 rfl ?_
    refine own_stC X2 28 d1_27 f3 (own_nc8 _) (by decide) (by decide) (i := 0) (by decide) (Nat.le_of_ble_eq_true rfl) (List.mem_of_getElem? (i := 0) rfl) rfl ?_
    intro T4 h4 X4 W4 K4 A4
    have f5 : Arv Z h4 b2 kb2 .char (2 : Int32) [(.int (x &&& (255 : Int32))), (.int (0 : Int32))] (.int (0 : Int32)) := A4
    refine og_aloadN X4 29 d1_28 rfl rfl rfl ?_
    refine og_iconst X4 30 (1 : Int32) d1_29 rfl rfl ?_
    refine og_iloadN X4 31 d1_30 rfl rfl ?_
    refine og_bipush X4 33 (8 : Int32) d1_31 rfl rfl ?_
    refine og_iushr X4 34 d1_33 rfl ?_
    refine og_sipush X4 37 (255 : Int32) d1_34 rfl rfl ?_
    refine og_iand X4 38 d1_37 rfl ?_
    refine og_i2c8 X4 39 d1_38 rfl ?_
    refine own_stC X4 40 d1_39 f5 (own_nc8 _) (by decide) (by decide) (i := 1) (by decide) (Nat.le_of_ble_eq_true rfl) (List.mem_of_getElem? (i := 0) rfl) rfl ?_
    intro T6 h6 X6 W6 K6 A6
    have f7 : Arv Z h6 b2 kb2 .char (2 : Int32) [(.int (x &&& (255 : Int32))), (.int ((XT.ushr x (8 : Int32)) &&& (255 : Int32)))] (.int (0 : Int32)) := A6
    refine own_new X6 43 d1_40 (hw _ (List.mem_of_getElem? (i := 5) rfl)) (hw _ (List.mem_of_getElem? (i := 6) rfl)) (hw _ (List.mem_of_getElem? (i := 7) rfl)) (by decide) (by decide) rfl ?_
    intro T8 h8 b8 X8 K8 G8 U8 E8 D8
    have f9 : Fld Z h8 b8 "java/lang/String" "coder" "B" (.int (0 : Int32)) := D8 (Or.inr (hw _ (List.mem_of_getElem? (i := 31) rfl))) (ty := .byte) (by decide)
    have f10 : Fld Z h8 b8 "java/lang/String" "value" "[B" .null := D8 (Or.inr (hw _ (List.mem_of_getElem? (i := 33) rfl))) (ty := (.array .byte)) (by decide)
    refine og_dup X8 44 d1_43 rfl rfl ?_
    refine og_aloadN X8 45 d1_44 rfl rfl rfl ?_
    have f11 := f7.keep K8 nin0
    have hp12 : ∀ c ∈ ([(x &&& (255 : Int32)), ((XT.ushr x (8 : Int32)) &&& (255 : Int32))] : List Int32), ¬ c < 0 ∧ ¬ (255 : Int32) < c := (own_lS (own_lat8 _) (own_lS (own_lat8 _) own_l0))
    refine own_specB X8 48 (a := b8) (argsL := [(.ref b2)]) (rest := [(.ref b8)]) d1_45 rfl (fun vm0 hZ => StrChars.Road.backV (W := 1) hZ (own_wV hw) (kI := 4) (hw _ (List.mem_of_getElem? (i := 6) rfl)) (cs := [(x &&& (255 : Int32)), ((XT.ushr x (8 : Int32)) &&& (255 : Int32))]) (n := 2) (own_svb X8 (List.mem_of_getElem? (i := 0) rfl)).1 (own_n0 X8) E8 f10 f9 f11 (hWd.2.1.1.ext X8.old.2) hWd.2.1.2 rfl rfl (by decide) (by decide) hp12 rfl (by decide) (by decide)) (fun v h' L q => ⟨q.2.1, q.2.2.1⟩) (hw _ (List.mem_of_getElem? (i := 8) rfl)) (hw _ (List.mem_of_getElem? (i := 9) rfl)) (hw _ (List.mem_of_getElem? (i := 10) rfl)) (by decide) (lenOf pd__28_5bC_29V rfl) rfl rfl rfl (W := 1) rfl (by decide) (by decide) (allS (List.mem_of_getElem? (i := 0) rfl) all0) rfl ?_
    intro T12 h12 v12 L12 X12 K12 hQ12
    obtain ⟨rfl, -, -, E12, C12, t12, k12, -, gt12, nt12, V12, A12⟩ := hQ12
    have f13 := own_mkStr E12 C12 V12 A12 rfl hp12 rfl rfl (Nat.le_of_ble_eq_true rfl)
    show OGo _ _ _ _ T12 (mkF m 48 #[.val (.int x), .val (.int z), .val (.ref b2)] [(.ref b8)])
    refine own_retA X12 d1_48 hret rfl rfl (by decide) (by decide) ?_
    exact ⟨b8, rfl, (Nat.le_trans (Nat.le_trans (Nat.le_trans K2.1 K4.1) K6.1) G8), E12⟩
  · -- not
    refine og_ifN X0 4 d1_1 (XT.i0_eq_f hc1) rfl ?_
    refine own_new X0 7 d1_4 (hw _ (List.mem_of_getElem? (i := 5) rfl)) (hw _ (List.mem_of_getElem? (i := 6) rfl)) (hw _ (List.mem_of_getElem? (i := 7) rfl)) (by decide) (by decide) rfl ?_
    intro T14 h14 b14 X14 K14 G14 U14 E14 D14
    have f15 : Fld Z h14 b14 "java/lang/String" "coder" "B" (.int (0 : Int32)) := D14 (Or.inr (hw _ (List.mem_of_getElem? (i := 31) rfl))) (ty := .byte) (by decide)
    have f16 : Fld Z h14 b14 "java/lang/String" "value" "[B" .null := D14 (Or.inr (hw _ (List.mem_of_getElem? (i := 33) rfl))) (ty := (.array .byte)) (by decide)
    refine og_dup X14 8 d1_7 rfl rfl ?_
    refine og_iconst X14 9 (0 : Int32) d1_8 rfl rfl ?_
    refine own_arr X14 11 d1_9 (hw _ (List.mem_of_getElem? (i := 4) rfl)) (by decide) (cap := 0) (by decide) (by decide) (by decide) (by decide) rfl ?_
    intro T17 h17 b17 kb17 X17 K17 G17 U17 A17
    have f18 : Arv Z h17 b17 kb17 .char (0 : Int32) [] (.int (0 : Int32)) := A17
    have f19 := E14.keep K17
    have f20 := f16.keep K17 nin0
    have f21 := f15.keep K17 nin0
    refine own_spec X17 14 (a := b14) (argsL := [(.ref b17)]) (rest := [(.ref b14)]) d1_11 rfl (rm_emp1 l Z a0 hw n0 h17 hWd [] X17.old b14 b17 .null (0 : Int32) kb17 f19 f20 f21 f18 (own_svb X17 (List.mem_of_getElem? (i := 1) rfl))) (hw _ (List.mem_of_getElem? (i := 8) rfl)) (hw _ (List.mem_of_getElem? (i := 9) rfl)) (hw _ (List.mem_of_getElem? (i := 7) rfl)) (hw _ (List.mem_of_getElem? (i := 10) rfl)) (by decide) (lenOf pd__28_5bC_29V rfl) rfl rfl rfl (W := 1) rfl (by decide) (by decide) (by decide) (by decide) (allS (List.mem_of_getElem? (i := 1) rfl) all0) rfl ?_
    intro T22 h22 v22 X22 K22 hQ22
    obtain ⟨rfl, f23⟩ := hQ22
    show OGo _ _ _ _ T22 (mkF m 14 #[.val (.int x), .val (.int z), .unset] [(.ref b14)])
    have f24 := f19.keep K22
    refine own_retA X22 d1_14 hret rfl rfl (by decide) (by decide) ?_
    exact ⟨b14, rfl, G14, f24⟩
set_option maxRecDepth 65536 in
set_option maxHeartbeats 40000000 in
theorem rm10 (l : Launch) (Z : State) (a0 : Array Value) (hw : ∀ d ∈ tables_1, d.before a0 Z = true) (n0 : Nat) (h0 : Heap) (hWd : OWorld Z a0) (wc : List Jvm.Cond) (O0 : Old Z n0 h0) (a : Addr)  :
    OMet l Z own_EL n0 (⟨"java/lang/Record", "<init>", "()V"⟩ : MethodName) (Jvm.Cond.code (⟨"java/lang/Record", "<init>", "()V"⟩ : MethodName) jdk_30_method_1_code 1 none :: wc) ({ frames := 1, cells := 0, slots := 0, locals := 12 } : Room) #[(.ref a)] h0 [] (fun vq hq => vq = none) := by
  refine own_enter #[.val (.ref a)] pn_java_lang_Record__init____V (ef_rm10 a) hWd.1 O0 all0 ?_
  intro p e s m below meth c T0 X0 hnm hret
  refine og_aloadN X0 1 d10_0 rfl rfl rfl ?_
  refine own_obj0 X0 4 (a := a) d10_1 (hw _ (List.mem_of_getElem? (i := 54) rfl)) (hw _ (List.mem_of_getElem? (i := 16) rfl)) (hw _ (List.mem_of_getElem? (i := 17) rfl)) rfl (W := 0) rfl (by decide) (by decide) rfl ?_
  intro T1 X2
  refine own_retV X2 d10_4 hret (by decide) (by decide) ?_
  exact rfl
set_option maxRecDepth 65536 in
set_option maxHeartbeats 40000000 in
theorem rm9 (l : Launch) (Z : State) (a0 : Array Value) (hw : ∀ d ∈ tables_1, d.before a0 Z = true) (n0 : Nat) (h0 : Heap) (hWd : OWorld Z a0) (wc : List Jvm.Cond) (O0 : Old Z n0 h0) (a : Addr) (p0 : Value) (p1 : Value) (p2 : Value) (p3 : Value) (p4 : Value) (p5 : Value) (p6 : Value) (q0 : Exa Z h0 a "com/example/roleward/roleward/model/Role") (q1 : Fld Z h0 a "com/example/roleward/roleward/model/Role" "id" "Ljava/lang/String;" .null) (q2 : Fld Z h0 a "com/example/roleward/roleward/model/Role" "name" "Ljava/lang/String;" .null) (q3 : Fld Z h0 a "com/example/roleward/roleward/model/Role" "description" "Ljava/lang/String;" .null) (q4 : Fld Z h0 a "com/example/roleward/roleward/model/Role" "scope" "Lcom/example/roleward/roleward/model/RoleScope;" .null) (q5 : Fld Z h0 a "com/example/roleward/roleward/model/Role" "tenantId" "Ljava/lang/String;" .null) (q6 : Fld Z h0 a "com/example/roleward/roleward/model/Role" "communityId" "Ljava/lang/String;" .null) (q7 : Fld Z h0 a "com/example/roleward/roleward/model/Role" "roleTypeId" "Ljava/lang/String;" .null) (q8 : (p0).isRef = true) (q9 : (p1).isRef = true) (q10 : (p2).isRef = true) (q11 : (p3).isRef = true) (q12 : (p4).isRef = true) (q13 : (p5).isRef = true) (q14 : (p6).isRef = true) (g0 : n0 ≤ a ∧ a < h0.size) :
    OMet l Z own_EL n0 (⟨"com/example/roleward/roleward/model/Role", "<init>", "(Ljava/lang/String;Ljava/lang/String;Ljava/lang/String;Lcom/example/roleward/roleward/model/RoleScope;Ljava/lang/String;Ljava/lang/String;Ljava/lang/String;)V"⟩ : MethodName) (Jvm.Cond.code (⟨"com/example/roleward/roleward/model/Role", "<init>", "(Ljava/lang/String;Ljava/lang/String;Ljava/lang/String;Lcom/example/roleward/roleward/model/RoleScope;Ljava/lang/String;Ljava/lang/String;Ljava/lang/String;)V"⟩ : MethodName) prog_12_method_1_code 8 none :: wc) ({ frames := 2, cells := 0, slots := 0, locals := 24 } : Room) #[(.ref a), p0, p1, p2, p3, p4, p5, p6] h0 [a] (fun vq hq => vq = none ∧ Fld Z hq a "com/example/roleward/roleward/model/Role" "id" "Ljava/lang/String;" p0 ∧ Fld Z hq a "com/example/roleward/roleward/model/Role" "name" "Ljava/lang/String;" p1 ∧ Fld Z hq a "com/example/roleward/roleward/model/Role" "description" "Ljava/lang/String;" p2 ∧ Fld Z hq a "com/example/roleward/roleward/model/Role" "scope" "Lcom/example/roleward/roleward/model/RoleScope;" p3 ∧ Fld Z hq a "com/example/roleward/roleward/model/Role" "tenantId" "Ljava/lang/String;" p4 ∧ Fld Z hq a "com/example/roleward/roleward/model/Role" "communityId" "Ljava/lang/String;" p5 ∧ Fld Z hq a "com/example/roleward/roleward/model/Role" "roleTypeId" "Ljava/lang/String;" p6) := by
  refine own_enter #[.val (.ref a), .val p0, .val p1, .val p2, .val p3, .val p4, .val p5, .val p6] pn_com_example_roleward_roleward_model_Role__init___Ljava_lang_String_Ljava_lang_String_Ljava_lang_String_Lcom_example_roleward_roleward_model_RoleScope_Ljava_lang_String_Ljava_lang_String_Ljava_lang_String__V (ef_rm9 a p0 p1 p2 p3 p4 p5 p6 q8 q9 q10 q11 q12 q13 q14) hWd.1 O0 (allS g0 all0) ?_
  intro p e s m below meth c T0 X0 hnm hret
  refine og_aloadN X0 1 d9_0 rfl rfl rfl ?_
  refine own_spec X0 4 (a := a) (argsL := []) (rest := []) d9_1 rfl (rm10 l Z a0 hw n0 h0 hWd [] X0.old a  ) (hw _ (List.mem_of_getElem? (i := 49) rfl)) (hw _ (List.mem_of_getElem? (i := 50) rfl)) (hw _ (List.mem_of_getElem? (i := 52) rfl)) (hw _ (List.mem_of_getElem? (i := 53) rfl)) (by decide) (lenOf pd__28_29V rfl) rfl rfl rfl (W := 0) rfl (by decide) (by decide) (by decide) (by decide) all0 rfl ?_
  intro T1 h1 v1 X1 K1 hQ1
  obtain rfl := hQ1
  show OGo _ _ _ _ T1 (mkF m 4 #[.val (.ref a), .val p0, .val p1, .val p2, .val p3, .val p4, .val p5, .val p6] [])
  refine og_aloadN X1 5 d9_4 rfl rfl rfl ?_
  refine og_aloadN X1 6 d9_5 rfl q8 rfl ?_
  have f2 := q1.keep K1 nin0
  have f3 := q0.keep K1
  have f4 := q2.keep K1 nin0
  have f5 := q3.keep K1 nin0
  have f6 := q4.keep K1 nin0
  have f7 := q5.keep K1 nin0
  have f8 := q6.keep K1 nin0
  have f9 := q7.keep K1 nin0
  refine own_put X1 9 d9_6 (host := "") (Or.inl (hw _ (List.mem_of_getElem? (i := 55) rfl))) Via.refl f2 f3 (Or.inr ⟨(hw _ (List.mem_of_getElem? (i := 56) rfl)), rfl, hnm⟩) (hw _ (List.mem_of_getElem? (i := 42) rfl)) (ty := (.object "java/lang/String")) (by decide) (own_narR rfl q8) (own_fitR rfl q8) (List.mem_of_getElem? (i := 0) rfl) rfl ?_
  intro T10 h10 X10 W10 K10 F10
  have f11 := Fld.other W10 f4 (Or.inr (slot_ne (Or.inr (hw _ (List.mem_of_getElem? (i := 58) rfl))) (Or.inr (hw _ (List.mem_of_getElem? (i := 56) rfl))) (by decide) (t := (.object "java/lang/String")) (t' := (.object "java/lang/String")) (by decide) (by decide)))
  have f12 := Fld.other W10 f5 (Or.inr (slot_ne (Or.inr (hw _ (List.mem_of_getElem? (i := 60) rfl))) (Or.inr (hw _ (List.mem_of_getElem? (i := 56) rfl))) (by decide) (t := (.object "java/lang/String")) (t' := (.object "java/lang/String")) (by decide) (by decide)))
  have f13 := Fld.other W10 f6 (Or.inr (slot_ne (Or.inr (hw _ (List.mem_of_getElem? (i := 62) rfl))) (Or.inr (hw _ (List.mem_of_getElem? (i := 56) rfl))) (by decide) (t := (.object "com/example/roleward/roleward/model/RoleScope")) (t' := (.object "java/lang/String")) (by decide) (by decide)))
  have f14 := Fld.other W10 f7 (Or.inr (slot_ne (Or.inr (hw _ (List.mem_of_getElem? (i := 64) rfl))) (Or.inr (hw _ (List.mem_of_getElem? (i := 56) rfl))) (by decide) (t := (.object "java/lang/String")) (t' := (.object "java/lang/String")) (by decide) (by decide)))
  have f15 := Fld.other W10 f8 (Or.inr (slot_ne (Or.inr (hw _ (List.mem_of_getElem? (i := 66) rfl))) (Or.inr (hw _ (List.mem_of_getElem? (i := 56) rfl))) (by decide) (t := (.object "java/lang/String")) (t' := (.object "java/lang/String")) (by decide) (by decide)))
  have f16 := Fld.other W10 f9 (Or.inr (slot_ne (Or.inr (hw _ (List.mem_of_getElem? (i := 68) rfl))) (Or.inr (hw _ (List.mem_of_getElem? (i := 56) rfl))) (by decide) (t := (.object "java/lang/String")) (t' := (.object "java/lang/String")) (by decide) (by decide)))
  refine og_aloadN X10 10 d9_9 rfl rfl rfl ?_
  refine og_aloadN X10 11 d9_10 rfl q9 rfl ?_
  have f17 := f3.keep K10
  refine own_put X10 14 d9_11 (host := "") (Or.inl (hw _ (List.mem_of_getElem? (i := 57) rfl))) Via.refl f11 f17 (Or.inr ⟨(hw _ (List.mem_of_getElem? (i := 58) rfl)), rfl, hnm⟩) (hw _ (List.mem_of_getElem? (i := 42) rfl)) (ty := (.object "java/lang/String")) (by decide) (own_narR rfl q9) (own_fitR rfl q9) (List.mem_of_getElem? (i := 0) rfl) rfl ?_
  intro T18 h18 X18 W18 K18 F18
  have f19 := Fld.other W18 F10 (Or.inr (slot_ne (Or.inr (hw _ (List.mem_of_getElem? (i := 56) rfl))) (Or.inr (hw _ (List.mem_of_getElem? (i := 58) rfl))) (by decide) (t := (.object "java/lang/String")) (t' := (.object "java/lang/String")) (by decide) (by decide)))
  have f20 := Fld.other W18 f12 (Or.inr (slot_ne (Or.inr (hw _ (List.mem_of_getElem? (i := 60) rfl))) (Or.inr (hw _ (List.mem_of_getElem? (i := 58) rfl))) (by decide) (t := (.object "java/lang/String")) (t' := (.object "java/lang/String")) (by decide) (by decide)))
  have f21 := Fld.other W18 f13 (Or.inr (slot_ne (Or.inr (hw _ (List.mem_of_getElem? (i := 62) rfl))) (Or.inr (hw _ (List.mem_of_getElem? (i := 58) rfl))) (by decide) (t := (.object "com/example/roleward/roleward/model/RoleScope")) (t' := (.object "java/lang/String")) (by decide) (by decide)))
  have f22 := Fld.other W18 f14 (Or.inr (slot_ne (Or.inr (hw _ (List.mem_of_getElem? (i := 64) rfl))) (Or.inr (hw _ (List.mem_of_getElem? (i := 58) rfl))) (by decide) (t := (.object "java/lang/String")) (t' := (.object "java/lang/String")) (by decide) (by decide)))
  have f23 := Fld.other W18 f15 (Or.inr (slot_ne (Or.inr (hw _ (List.mem_of_getElem? (i := 66) rfl))) (Or.inr (hw _ (List.mem_of_getElem? (i := 58) rfl))) (by decide) (t := (.object "java/lang/String")) (t' := (.object "java/lang/String")) (by decide) (by decide)))
  have f24 := Fld.other W18 f16 (Or.inr (slot_ne (Or.inr (hw _ (List.mem_of_getElem? (i := 68) rfl))) (Or.inr (hw _ (List.mem_of_getElem? (i := 58) rfl))) (by decide) (t := (.object "java/lang/String")) (t' := (.object "java/lang/String")) (by decide) (by decide)))
  refine og_aloadN X18 15 d9_14 rfl rfl rfl ?_
  refine og_aloadN X18 16 d9_15 rfl q10 rfl ?_
  have f25 := f17.keep K18
  refine own_put X18 19 d9_16 (host := "") (Or.inl (hw _ (List.mem_of_getElem? (i := 59) rfl))) Via.refl f20 f25 (Or.inr ⟨(hw _ (List.mem_of_getElem? (i := 60) rfl)), rfl, hnm⟩) (hw _ (List.mem_of_getElem? (i := 42) rfl)) (ty := (.object "java/lang/String")) (by decide) (own_narR rfl q10) (own_fitR rfl q10) (List.mem_of_getElem? (i := 0) rfl) rfl ?_
  intro T26 h26 X26 W26 K26 F26
  have f27 := Fld.other W26 f19 (Or.inr (slot_ne (Or.inr (hw _ (List.mem_of_getElem? (i := 56) rfl))) (Or.inr (hw _ (List.mem_of_getElem? (i := 60) rfl))) (by decide) (t := (.object "java/lang/String")) (t' := (.object "java/lang/String")) (by decide) (by decide)))
  have f28 := Fld.other W26 F18 (Or.inr (slot_ne (Or.inr (hw _ (List.mem_of_getElem? (i := 58) rfl))) (Or.inr (hw _ (List.mem_of_getElem? (i := 60) rfl))) (by decide) (t := (.object "java/lang/String")) (t' := (.object "java/lang/String")) (by decide) (by decide)))
  have f29 := Fld.other W26 f21 (Or.inr (slot_ne (Or.inr (hw _ (List.mem_of_getElem? (i := 62) rfl))) (Or.inr (hw _ (List.mem_of_getElem? (i := 60) rfl))) (by decide) (t := (.object "com/example/roleward/roleward/model/RoleScope")) (t' := (.object "java/lang/String")) (by decide) (by decide)))
  have f30 := Fld.other W26 f22 (Or.inr (slot_ne (Or.inr (hw _ (List.mem_of_getElem? (i := 64) rfl))) (Or.inr (hw _ (List.mem_of_getElem? (i := 60) rfl))) (by decide) (t := (.object "java/lang/String")) (t' := (.object "java/lang/String")) (by decide) (by decide)))
  have f31 := Fld.other W26 f23 (Or.inr (slot_ne (Or.inr (hw _ (List.mem_of_getElem? (i := 66) rfl))) (Or.inr (hw _ (List.mem_of_getElem? (i := 60) rfl))) (by decide) (t := (.object "java/lang/String")) (t' := (.object "java/lang/String")) (by decide) (by decide)))
  have f32 := Fld.other W26 f24 (Or.inr (slot_ne (Or.inr (hw _ (List.mem_of_getElem? (i := 68) rfl))) (Or.inr (hw _ (List.mem_of_getElem? (i := 60) rfl))) (by decide) (t := (.object "java/lang/String")) (t' := (.object "java/lang/String")) (by decide) (by decide)))
  refine og_aloadN X26 20 d9_19 rfl rfl rfl ?_
  refine og_aload X26 22 d9_20 rfl q11 rfl ?_
  have f33 := f25.keep K26
  refine own_put X26 25 d9_22 (host := "") (Or.inl (hw _ (List.mem_of_getElem? (i := 61) rfl))) Via.refl f29 f33 (Or.inr ⟨(hw _ (List.mem_of_getElem? (i := 62) rfl)), rfl, hnm⟩) (hw _ (List.mem_of_getElem? (i := 42) rfl)) (ty := (.object "com/example/roleward/roleward/model/RoleScope")) (by decide) (own_narR rfl q11) (own_fitR rfl q11) (List.mem_of_getElem? (i := 0) rfl) rfl ?_
  intro T34 h34 X34 W34 K34 F34
  have f35 := Fld.other W34 f27 (Or.inr (slot_ne (Or.inr (hw _ (List.mem_of_getElem? (i := 56) rfl))) (Or.inr (hw _ (List.mem_of_getElem? (i := 62) rfl))) (by decide) (t := (.object "java/lang/String")) (t' := (.object "com/example/roleward/roleward/model/RoleScope")) (by decide) (by decide)))
  have f36 := Fld.other W34 f28 (Or.inr (slot_ne (Or.inr (hw _ (List.mem_of_getElem? (i := 58) rfl))) (Or.inr (hw _ (List.mem_of_getElem? (i := 62) rfl))) (by decide) (t := (.object "java/lang/String")) (t' := (.object "com/example/roleward/roleward/model/RoleScope")) (by decide) (by decide)))
  have f37 := Fld.other W34 F26 (Or.inr (slot_ne (Or.inr (hw _ (List.mem_of_getElem? (i := 60) rfl))) (Or.inr (hw _ (List.mem_of_getElem? (i := 62) rfl))) (by decide) (t := (.object "java/lang/String")) (t' := (.object "com/example/roleward/roleward/model/RoleScope")) (by decide) (by decide)))
  have f38 := Fld.other W34 f30 (Or.inr (slot_ne (Or.inr (hw _ (List.mem_of_getElem? (i := 64) rfl))) (Or.inr (hw _ (List.mem_of_getElem? (i := 62) rfl))) (by decide) (t := (.object "java/lang/String")) (t' := (.object "com/example/roleward/roleward/model/RoleScope")) (by decide) (by decide)))
  have f39 := Fld.other W34 f31 (Or.inr (slot_ne (Or.inr (hw _ (List.mem_of_getElem? (i := 66) rfl))) (Or.inr (hw _ (List.mem_of_getElem? (i := 62) rfl))) (by decide) (t := (.object "java/lang/String")) (t' := (.object "com/example/roleward/roleward/model/RoleScope")) (by decide) (by decide)))
  have f40 := Fld.other W34 f32 (Or.inr (slot_ne (Or.inr (hw _ (List.mem_of_getElem? (i := 68) rfl))) (Or.inr (hw _ (List.mem_of_getElem? (i := 62) rfl))) (by decide) (t := (.object "java/lang/String")) (t' := (.object "com/example/roleward/roleward/model/RoleScope")) (by decide) (by decide)))
  refine og_aloadN X34 26 d9_25 rfl rfl rfl ?_
  refine og_aload X34 28 d9_26 rfl q12 rfl ?_
  have f41 := f33.keep K34
  refine own_put X34 31 d9_28 (host := "") (Or.inl (hw _ (List.mem_of_getElem? (i := 63) rfl))) Via.refl f38 f41 (Or.inr ⟨(hw _ (List.mem_of_getElem? (i := 64) rfl)), rfl, hnm⟩) (hw _ (List.mem_of_getElem? (i := 42) rfl)) (ty := (.object "java/lang/String")) (by decide) (own_narR rfl q12) (own_fitR rfl q12) (List.mem_of_getElem? (i := 0) rfl) rfl ?_
  intro T42 h42 X42 W42 K42 F42
  have f43 := Fld.other W42 f35 (Or.inr (slot_ne (Or.inr (hw _ (List.mem_of_getElem? (i := 56) rfl))) (Or.inr (hw _ (List.mem_of_getElem? (i := 64) rfl))) (by decide) (t := (.object "java/lang/String")) (t' := (.object "java/lang/String")) (by decide) (by decide)))
  have f44 := Fld.other W42 f36 (Or.inr (slot_ne (Or.inr (hw _ (List.mem_of_getElem? (i := 58) rfl))) (Or.inr (hw _ (List.mem_of_getElem? (i := 64) rfl))) (by decide) (t := (.object "java/lang/String")) (t' := (.object "java/lang/String")) (by decide) (by decide)))
  have f45 := Fld.other W42 f37 (Or.inr (slot_ne (Or.inr (hw _ (List.mem_of_getElem? (i := 60) rfl))) (Or.inr (hw _ (List.mem_of_getElem? (i := 64) rfl))) (by decide) (t := (.object "java/lang/String")) (t' := (.object "java/lang/String")) (by decide) (by decide)))
  have f46 := Fld.other W42 F34 (Or.inr (slot_ne (Or.inr (hw _ (List.mem_of_getElem? (i := 62) rfl))) (Or.inr (hw _ (List.mem_of_getElem? (i := 64) rfl))) (by decide) (t := (.object "com/example/roleward/roleward/model/RoleScope")) (t' := (.object "java/lang/String")) (by decide) (by decide)))
  have f47 := Fld.other W42 f39 (Or.inr (slot_ne (Or.inr (hw _ (List.mem_of_getElem? (i := 66) rfl))) (Or.inr (hw _ (List.mem_of_getElem? (i := 64) rfl))) (by decide) (t := (.object "java/lang/String")) (t' := (.object "java/lang/String")) (by decide) (by decide)))
  have f48 := Fld.other W42 f40 (Or.inr (slot_ne (Or.inr (hw _ (List.mem_of_getElem? (i := 68) rfl))) (Or.inr (hw _ (List.mem_of_getElem? (i := 64) rfl))) (by decide) (t := (.object "java/lang/String")) (t' := (.object "java/lang/String")) (by decide) (by decide)))
  refine og_aloadN X42 32 d9_31 rfl rfl rfl ?_
  refine og_aload X42 34 d9_32 rfl q13 rfl ?_
  have f49 := f41.keep K42
  refine own_put X42 37 d9_34 (host := "") (Or.inl (hw _ (List.mem_of_getElem? (i := 65) rfl))) Via.refl f47 f49 (Or.inr ⟨(hw _ (List.mem_of_getElem? (i := 66) rfl)), rfl, hnm⟩) (hw _ (List.mem_of_getElem? (i := 42) rfl)) (ty := (.object "java/lang/String")) (by decide) (own_narR rfl q13) (own_fitR rfl q13) (List.mem_of_getElem? (i := 0) rfl) rfl ?_
  intro T50 h50 X50 W50 K50 F50
  have f51 := Fld.other W50 f43 (Or.inr (slot_ne (Or.inr (hw _ (List.mem_of_getElem? (i := 56) rfl))) (Or.inr (hw _ (List.mem_of_getElem? (i := 66) rfl))) (by decide) (t := (.object "java/lang/String")) (t' := (.object "java/lang/String")) (by decide) (by decide)))
  have f52 := Fld.other W50 f44 (Or.inr (slot_ne (Or.inr (hw _ (List.mem_of_getElem? (i := 58) rfl))) (Or.inr (hw _ (List.mem_of_getElem? (i := 66) rfl))) (by decide) (t := (.object "java/lang/String")) (t' := (.object "java/lang/String")) (by decide) (by decide)))
  have f53 := Fld.other W50 f45 (Or.inr (slot_ne (Or.inr (hw _ (List.mem_of_getElem? (i := 60) rfl))) (Or.inr (hw _ (List.mem_of_getElem? (i := 66) rfl))) (by decide) (t := (.object "java/lang/String")) (t' := (.object "java/lang/String")) (by decide) (by decide)))
  have f54 := Fld.other W50 f46 (Or.inr (slot_ne (Or.inr (hw _ (List.mem_of_getElem? (i := 62) rfl))) (Or.inr (hw _ (List.mem_of_getElem? (i := 66) rfl))) (by decide) (t := (.object "com/example/roleward/roleward/model/RoleScope")) (t' := (.object "java/lang/String")) (by decide) (by decide)))
  have f55 := Fld.other W50 F42 (Or.inr (slot_ne (Or.inr (hw _ (List.mem_of_getElem? (i := 64) rfl))) (Or.inr (hw _ (List.mem_of_getElem? (i := 66) rfl))) (by decide) (t := (.object "java/lang/String")) (t' := (.object "java/lang/String")) (by decide) (by decide)))
  have f56 := Fld.other W50 f48 (Or.inr (slot_ne (Or.inr (hw _ (List.mem_of_getElem? (i := 68) rfl))) (Or.inr (hw _ (List.mem_of_getElem? (i := 66) rfl))) (by decide) (t := (.object "java/lang/String")) (t' := (.object "java/lang/String")) (by decide) (by decide)))
  refine og_aloadN X50 38 d9_37 rfl rfl rfl ?_
  refine og_aload X50 40 d9_38 rfl q14 rfl ?_
  have f57 := f49.keep K50
  refine own_put X50 43 d9_40 (host := "") (Or.inl (hw _ (List.mem_of_getElem? (i := 67) rfl))) Via.refl f56 f57 (Or.inr ⟨(hw _ (List.mem_of_getElem? (i := 68) rfl)), rfl, hnm⟩) (hw _ (List.mem_of_getElem? (i := 42) rfl)) (ty := (.object "java/lang/String")) (by decide) (own_narR rfl q14) (own_fitR rfl q14) (List.mem_of_getElem? (i := 0) rfl) rfl ?_
  intro T58 h58 X58 W58 K58 F58
  have f59 := Fld.other W58 f51 (Or.inr (slot_ne (Or.inr (hw _ (List.mem_of_getElem? (i := 56) rfl))) (Or.inr (hw _ (List.mem_of_getElem? (i := 68) rfl))) (by decide) (t := (.object "java/lang/String")) (t' := (.object "java/lang/String")) (by decide) (by decide)))
  have f60 := Fld.other W58 f52 (Or.inr (slot_ne (Or.inr (hw _ (List.mem_of_getElem? (i := 58) rfl))) (Or.inr (hw _ (List.mem_of_getElem? (i := 68) rfl))) (by decide) (t := (.object "java/lang/String")) (t' := (.object "java/lang/String")) (by decide) (by decide)))
  have f61 := Fld.other W58 f53 (Or.inr (slot_ne (Or.inr (hw _ (List.mem_of_getElem? (i := 60) rfl))) (Or.inr (hw _ (List.mem_of_getElem? (i := 68) rfl))) (by decide) (t := (.object "java/lang/String")) (t' := (.object "java/lang/String")) (by decide) (by decide)))
  have f62 := Fld.other W58 f54 (Or.inr (slot_ne (Or.inr (hw _ (List.mem_of_getElem? (i := 62) rfl))) (Or.inr (hw _ (List.mem_of_getElem? (i := 68) rfl))) (by decide) (t := (.object "com/example/roleward/roleward/model/RoleScope")) (t' := (.object "java/lang/String")) (by decide) (by decide)))
  have f63 := Fld.other W58 f55 (Or.inr (slot_ne (Or.inr (hw _ (List.mem_of_getElem? (i := 64) rfl))) (Or.inr (hw _ (List.mem_of_getElem? (i := 68) rfl))) (by decide) (t := (.object "java/lang/String")) (t' := (.object "java/lang/String")) (by decide) (by decide)))
  have f64 := Fld.other W58 F50 (Or.inr (slot_ne (Or.inr (hw _ (List.mem_of_getElem? (i := 66) rfl))) (Or.inr (hw _ (List.mem_of_getElem? (i := 68) rfl))) (by decide) (t := (.object "java/lang/String")) (t' := (.object "java/lang/String")) (by decide) (by decide)))
  refine own_retV X58 d9_43 hret (by decide) (by decide) ?_
  exact ⟨rfl, f59, f60, f61, f62, f63, f64, F58⟩
set_option maxRecDepth 65536 in
set_option maxHeartbeats 40000000 in
theorem rm8 (l : Launch) (Z : State) (a0 : Array Value) (hw : ∀ d ∈ tables_1, d.before a0 Z = true) (n0 : Nat) (h0 : Heap) (hWd : OWorld Z a0) (wc : List Jvm.Cond) (O0 : Old Z n0 h0) (p0 : Value) (p1 : Value) (p2 : Value) (p3 : Value) (p4 : Value) (q0 : (p0).isRef = true) (q1 : (p1).isRef = true) (q2 : (p2).isRef = true) (q3 : (p3).isRef = true) (q4 : (p4).isRef = true) :
    OMet l Z own_EL n0 (⟨"com/example/roleward/roleward/model/Role", "ofTenant", "(Ljava/lang/String;Ljava/lang/String;Ljava/lang/String;Ljava/lang/String;Ljava/lang/String;)Lcom/example/roleward/roleward/model/Role;"⟩ : MethodName) (Jvm.Cond.code (⟨"com/example/roleward/roleward/model/Role", "ofTenant", "(Ljava/lang/String;Ljava/lang/String;Ljava/lang/String;Ljava/lang/String;Ljava/lang/String;)Lcom/example/roleward/roleward/model/Role;"⟩ : MethodName) prog_12_method_2_code 5 (some (.object "com/example/roleward/roleward/model/Role")) :: wc) ({ frames := 3, cells := 1, slots := 7, locals := 44 } : Room) #[p0, p1, p2, p3, p4] h0 [] (fun vq hq => ∃ (r : Addr), vq = some (.ref r) ∧ h0.size ≤ r ∧ Exa Z hq r "com/example/roleward/roleward/model/Role" ∧ Fld Z hq r "com/example/roleward/roleward/model/Role" "id" "Ljava/lang/String;" p1 ∧ Fld Z hq r "com/example/roleward/roleward/model/Role" "name" "Ljava/lang/String;" p2 ∧ Fld Z hq r "com/example/roleward/roleward/model/Role" "description" "Ljava/lang/String;" p3 ∧ Fld Z hq r "com/example/roleward/roleward/model/Role" "scope" "Lcom/example/roleward/roleward/model/RoleScope;" (own_stv Z "com/example/roleward/roleward/model/RoleScope" "TENANT" "Lcom/example/roleward/roleward/model/RoleScope;") ∧ Fld Z hq r "com/example/roleward/roleward/model/Role" "tenantId" "Ljava/lang/String;" p0 ∧ Fld Z hq r "com/example/roleward/roleward/model/Role" "communityId" "Ljava/lang/String;" .null ∧ Fld Z hq r "com/example/roleward/roleward/model/Role" "roleTypeId" "Ljava/lang/String;" p4) := by
  refine own_enter #[.val p0, .val p1, .val p2, .val p3, .val p4] pn_com_example_roleward_roleward_model_Role_ofTenant__Ljava_lang_String_Ljava_lang_String_Ljava_lang_String_Ljava_lang_String_Ljava_lang_String__Lcom_example_roleward_roleward_model_Role_ (ef_rm8 p0 p1 p2 p3 p4 q0 q1 q2 q3 q4) hWd.1 O0 all0 ?_
  intro p e s m below meth c T0 X0 hnm hret
  refine own_new X0 3 d8_0 (hw _ (List.mem_of_getElem? (i := 41) rfl)) (hw _ (List.mem_of_getElem? (i := 42) rfl)) (hw _ (List.mem_of_getElem? (i := 39) rfl)) (by decide) (by decide) rfl ?_
  intro T1 h1 b1 X1 K1 G1 U1 E1 D1
  have f2 : Fld Z h1 b1 "com/example/roleward/roleward/model/Role" "id" "Ljava/lang/String;" .null := D1 (Or.inr (hw _ (List.mem_of_getElem? (i := 56) rfl))) (ty := (.object "java/lang/String")) (by decide)
  have f3 : Fld Z h1 b1 "com/example/roleward/roleward/model/Role" "name" "Ljava/lang/String;" .null := D1 (Or.inr (hw _ (List.mem_of_getElem? (i := 58) rfl))) (ty := (.object "java/lang/String")) (by decide)
  have f4 : Fld Z h1 b1 "com/example/roleward/roleward/model/Role" "description" "Ljava/lang/String;" .null := D1 (Or.inr (hw _ (List.mem_of_getElem? (i := 60) rfl))) (ty := (.object "java/lang/String")) (by decide)
  have f5 : Fld Z h1 b1 "com/example/roleward/roleward/model/Role" "scope" "Lcom/example/roleward/roleward/model/RoleScope;" .null := D1 (Or.inr (hw _ (List.mem_of_getElem? (i := 62) rfl))) (ty := (.object "com/example/roleward/roleward/model/RoleScope")) (by decide)
  have f6 : Fld Z h1 b1 "com/example/roleward/roleward/model/Role" "tenantId" "Ljava/lang/String;" .null := D1 (Or.inr (hw _ (List.mem_of_getElem? (i := 64) rfl))) (ty := (.object "java/lang/String")) (by decide)
  have f7 : Fld Z h1 b1 "com/example/roleward/roleward/model/Role" "communityId" "Ljava/lang/String;" .null := D1 (Or.inr (hw _ (List.mem_of_getElem? (i := 66) rfl))) (ty := (.object "java/lang/String")) (by decide)
  have f8 : Fld Z h1 b1 "com/example/roleward/roleward/model/Role" "roleTypeId" "Ljava/lang/String;" .null := D1 (Or.inr (hw _ (List.mem_of_getElem? (i := 68) rfl))) (ty := (.object "java/lang/String")) (by decide)
  refine og_dup X1 4 d8_3 rfl rfl ?_
  refine og_aloadN X1 5 d8_4 rfl q1 rfl ?_
  refine og_aloadN X1 6 d8_5 rfl q2 rfl ?_
  refine og_aloadN X1 7 d8_6 rfl q3 rfl ?_
  refine own_getS X1 10 d8_7 (host := "") (Or.inl (hw _ (List.mem_of_getElem? (i := 43) rfl))) Via.refl hWd.2.2.1 rfl ?_
  intro T9 X10
  refine og_aloadN X10 11 d8_10 rfl q0 rfl ?_
  refine og_aconstNull X10 12 d8_11 rfl ?_
  refine og_aload X10 14 d8_12 rfl q4 rfl ?_
  refine own_spec X10 17 (a := b1) (argsL := [p1, p2, p3, (own_stv Z "com/example/roleward/roleward/model/RoleScope" "TENANT" "Lcom/example/roleward/roleward/model/RoleScope;"), p0, .null, p4]) (rest := [(.ref b1)]) d8_14 rfl (rm9 l Z a0 hw n0 h1 hWd [] X10.old b1 p1 p2 p3 (own_stv Z "com/example/roleward/roleward/model/RoleScope" "TENANT" "Lcom/example/roleward/roleward/model/RoleScope;") p0 .null p4 E1 f2 f3 f4 f5 f6 f7 f8 q1 q2 q3 hWd.2.2.2 q0 rfl q4 (own_svb X10 (List.mem_of_getElem? (i := 0) rfl))) (hw _ (List.mem_of_getElem? (i := 46) rfl)) (hw _ (List.mem_of_getElem? (i := 47) rfl)) (hw _ (List.mem_of_getElem? (i := 39) rfl)) (hw _ (List.mem_of_getElem? (i := 48) rfl)) (by decide) (lenOf pd__28Ljava_2flang_2fString_3bLjava_2flang_2fString_3bLjava_2flang_2fString_3bLcom_2fexample_2froleward_2froleward_2fmodel_2fRoleScope_3bLjava_2flang_2fString_3bLjava_2flang_2fString_3bLjava_2flang_2fString_3b_29V rfl) rfl rfl rfl (W := 1) rfl (by decide) (by decide) (by decide) (by decide) (allS (List.mem_of_getElem? (i := 0) rfl) all0) rfl ?_
  intro T11 h11 v11 X11 K11 hQ11
  obtain ⟨rfl, f12, f13, f14, f15, f16, f17, f18⟩ := hQ11
  show OGo _ _ _ _ T11 (mkF m 17 #[.val p0, .val p1, .val p2, .val p3, .val p4] [(.ref b1)])
  have f19 := E1.keep K11
  refine own_retA X11 d8_17 hret rfl rfl (by decide) (by decide) ?_
  exact ⟨b1, rfl, G1, f19, f12, f13, f14, f15, f16, f17, f18⟩
set_option maxRecDepth 65536 in
set_option maxHeartbeats 40000000 in
theorem rm11 (l : Launch) (Z : State) (a0 : Array Value) (hw : ∀ d ∈ tables_1, d.before a0 Z = true) (n0 : Nat) (h0 : Heap) (hWd : OWorld Z a0) (wc : List Jvm.Cond) (O0 : Old Z n0 h0) (a : Addr) (y : Value) (q0 : Fld Z h0 a "com/example/roleward/roleward/model/Role" "id" "Ljava/lang/String;" y) (q1 : (y).isRef = true) :
    OMet l Z own_EL n0 (⟨"com/example/roleward/roleward/model/Role", "id", "()Ljava/lang/String;"⟩ : MethodName) (Jvm.Cond.code (⟨"com/example/roleward/roleward/model/Role", "id", "()Ljava/lang/String;"⟩ : MethodName) prog_12_method_6_code 1 (some (.object "java/lang/String")) :: wc) ({ frames := 0, cells := 0, slots := 0, locals := 0 } : Room) #[(.ref a)] h0 [] (fun vq hq => vq = some y) := by
  refine own_enter #[.val (.ref a)] pn_com_example_roleward_roleward_model_Role_id___Ljava_lang_String_ (ef_rm11 a y) hWd.1 O0 all0 ?_
  intro p e s m below meth c T0 X0 hnm hret
  refine og_aloadN X0 1 d11_0 rfl rfl rfl ?_
  refine own_get X0 4 d11_1 (host := "") (Or.inl (hw _ (List.mem_of_getElem? (i := 55) rfl))) Via.refl q0 rfl ?_
  intro T1 X2
  refine own_retA X2 d11_4 hret rfl q1 (by decide) (by decide) ?_
  exact rfl
set_option maxRecDepth 65536 in
set_option maxHeartbeats 40000000 in
theorem rm12 (l : Launch) (Z : State) (a0 : Array Value) (hw : ∀ d ∈ tables_1, d.before a0 Z = true) (n0 : Nat) (h0 : Heap) (hWd : OWorld Z a0) (wc : List Jvm.Cond) (O0 : Old Z n0 h0) (a : Addr) (y : Value) (q0 : Fld Z h0 a "com/example/roleward/roleward/model/Role" "name" "Ljava/lang/String;" y) (q1 : (y).isRef = true) :
    OMet l Z own_EL n0 (⟨"com/example/roleward/roleward/model/Role", "name", "()Ljava/lang/String;"⟩ : MethodName) (Jvm.Cond.code (⟨"com/example/roleward/roleward/model/Role", "name", "()Ljava/lang/String;"⟩ : MethodName) prog_12_method_7_code 1 (some (.object "java/lang/String")) :: wc) ({ frames := 0, cells := 0, slots := 0, locals := 0 } : Room) #[(.ref a)] h0 [] (fun vq hq => vq = some y) := by
  refine own_enter #[.val (.ref a)] pn_com_example_roleward_roleward_model_Role_name___Ljava_lang_String_ (ef_rm12 a y) hWd.1 O0 all0 ?_
  intro p e s m below meth c T0 X0 hnm hret
  refine og_aloadN X0 1 d12_0 rfl rfl rfl ?_
  refine own_get X0 4 d12_1 (host := "") (Or.inl (hw _ (List.mem_of_getElem? (i := 57) rfl))) Via.refl q0 rfl ?_
  intro T1 X2
  refine own_retA X2 d12_4 hret rfl q1 (by decide) (by decide) ?_
  exact rfl
set_option maxRecDepth 65536 in
set_option maxHeartbeats 40000000 in
theorem rm13 (l : Launch) (Z : State) (a0 : Array Value) (hw : ∀ d ∈ tables_1, d.before a0 Z = true) (n0 : Nat) (h0 : Heap) (hWd : OWorld Z a0) (wc : List Jvm.Cond) (O0 : Old Z n0 h0) (a : Addr) (y : Value) (q0 : Fld Z h0 a "com/example/roleward/roleward/model/Role" "description" "Ljava/lang/String;" y) (q1 : (y).isRef = true) :
    OMet l Z own_EL n0 (⟨"com/example/roleward/roleward/model/Role", "description", "()Ljava/lang/String;"⟩ : MethodName) (Jvm.Cond.code (⟨"com/example/roleward/roleward/model/Role", "description", "()Ljava/lang/String;"⟩ : MethodName) prog_12_method_8_code 1 (some (.object "java/lang/String")) :: wc) ({ frames := 0, cells := 0, slots := 0, locals := 0 } : Room) #[(.ref a)] h0 [] (fun vq hq => vq = some y) := by
  refine own_enter #[.val (.ref a)] pn_com_example_roleward_roleward_model_Role_description___Ljava_lang_String_ (ef_rm13 a y) hWd.1 O0 all0 ?_
  intro p e s m below meth c T0 X0 hnm hret
  refine og_aloadN X0 1 d13_0 rfl rfl rfl ?_
  refine own_get X0 4 d13_1 (host := "") (Or.inl (hw _ (List.mem_of_getElem? (i := 59) rfl))) Via.refl q0 rfl ?_
  intro T1 X2
  refine own_retA X2 d13_4 hret rfl q1 (by decide) (by decide) ?_
  exact rfl
set_option maxRecDepth 65536 in
set_option maxHeartbeats 40000000 in
theorem rm14 (l : Launch) (Z : State) (a0 : Array Value) (hw : ∀ d ∈ tables_1, d.before a0 Z = true) (n0 : Nat) (h0 : Heap) (hWd : OWorld Z a0) (wc : List Jvm.Cond) (O0 : Old Z n0 h0) (a : Addr) (y : Value) (q0 : Fld Z h0 a "com/example/roleward/roleward/model/Role" "scope" "Lcom/example/roleward/roleward/model/RoleScope;" y) (q1 : (y).isRef = true) :
    OMet l Z own_EL n0 (⟨"com/example/roleward/roleward/model/Role", "scope", "()Lcom/example/roleward/roleward/model/RoleScope;"⟩ : MethodName) (Jvm.Cond.code (⟨"com/example/roleward/roleward/model/Role", "scope", "()Lcom/example/roleward/roleward/model/RoleScope;"⟩ : MethodName) prog_12_method_9_code 1 (some (.object "com/example/roleward/roleward/model/RoleScope")) :: wc) ({ frames := 0, cells := 0, slots := 0, locals := 0 } : Room) #[(.ref a)] h0 [] (fun vq hq => vq = some y) := by
  refine own_enter #[.val (.ref a)] pn_com_example_roleward_roleward_model_Role_scope___Lcom_example_roleward_roleward_model_RoleScope_ (ef_rm14 a y) hWd.1 O0 all0 ?_
  intro p e s m below meth c T0 X0 hnm hret
  refine og_aloadN X0 1 d14_0 rfl rfl rfl ?_
  refine own_get X0 4 d14_1 (host := "") (Or.inl (hw _ (List.mem_of_getElem? (i := 61) rfl))) Via.refl q0 rfl ?_
  intro T1 X2
  refine own_retA X2 d14_4 hret rfl q1 (by decide) (by decide) ?_
  exact rfl
set_option maxRecDepth 65536 in
set_option maxHeartbeats 40000000 in
theorem rm15 (l : Launch) (Z : State) (a0 : Array Value) (hw : ∀ d ∈ tables_1, d.before a0 Z = true) (n0 : Nat) (h0 : Heap) (hWd : OWorld Z a0) (wc : List Jvm.Cond) (O0 : Old Z n0 h0) (a : Addr) (y : Value) (q0 : Fld Z h0 a "com/example/roleward/roleward/model/Role" "tenantId" "Ljava/lang/String;" y) (q1 : (y).isRef = true) :
    OMet l Z own_EL n0 (⟨"com/example/roleward/roleward/model/Role", "tenantId", "()Ljava/lang/String;"⟩ : MethodName) (Jvm.Cond.code (⟨"com/example/roleward/roleward/model/Role", "tenantId", "()Ljava/lang/String;"⟩ : MethodName) prog_12_method_10_code 1 (some (.object "java/lang/String")) :: wc) ({ frames := 0, cells := 0, slots := 0, locals := 0 } : Room) #[(.ref a)] h0 [] (fun vq hq => vq = some y) := by
  refine own_enter #[.val (.ref a)] pn_com_example_roleward_roleward_model_Role_tenantId___Ljava_lang_String_ (ef_rm15 a y) hWd.1 O0 all0 ?_
  intro p e s m below meth c T0 X0 hnm hret
  refine og_aloadN X0 1 d15_0 rfl rfl rfl ?_
  refine own_get X0 4 d15_1 (host := "") (Or.inl (hw _ (List.mem_of_getElem? (i := 63) rfl))) Via.refl q0 rfl ?_
  intro T1 X2
  refine own_retA X2 d15_4 hret rfl q1 (by decide) (by decide) ?_
  exact rfl
set_option maxRecDepth 65536 in
set_option maxHeartbeats 40000000 in
theorem rm16 (l : Launch) (Z : State) (a0 : Array Value) (hw : ∀ d ∈ tables_1, d.before a0 Z = true) (n0 : Nat) (h0 : Heap) (hWd : OWorld Z a0) (wc : List Jvm.Cond) (O0 : Old Z n0 h0) (a : Addr) (y : Value) (q0 : Fld Z h0 a "com/example/roleward/roleward/model/Role" "communityId" "Ljava/lang/String;" y) (q1 : (y).isRef = true) :
    OMet l Z own_EL n0 (⟨"com/example/roleward/roleward/model/Role", "communityId", "()Ljava/lang/String;"⟩ : MethodName) (Jvm.Cond.code (⟨"com/example/roleward/roleward/model/Role", "communityId", "()Ljava/lang/String;"⟩ : MethodName) prog_12_method_11_code 1 (some (.object "java/lang/String")) :: wc) ({ frames := 0, cells := 0, slots := 0, locals := 0 } : Room) #[(.ref a)] h0 [] (fun vq hq => vq = some y) := by
  refine own_enter #[.val (.ref a)] pn_com_example_roleward_roleward_model_Role_communityId___Ljava_lang_String_ (ef_rm16 a y) hWd.1 O0 all0 ?_
  intro p e s m below meth c T0 X0 hnm hret
  refine og_aloadN X0 1 d16_0 rfl rfl rfl ?_
  refine own_get X0 4 d16_1 (host := "") (Or.inl (hw _ (List.mem_of_getElem? (i := 65) rfl))) Via.refl q0 rfl ?_
  intro T1 X2
  refine own_retA X2 d16_4 hret rfl q1 (by decide) (by decide) ?_
  exact rfl
set_option maxRecDepth 65536 in
set_option maxHeartbeats 40000000 in
theorem rm17 (l : Launch) (Z : State) (a0 : Array Value) (hw : ∀ d ∈ tables_1, d.before a0 Z = true) (n0 : Nat) (h0 : Heap) (hWd : OWorld Z a0) (wc : List Jvm.Cond) (O0 : Old Z n0 h0) (a : Addr) (y : Value) (q0 : Fld Z h0 a "com/example/roleward/roleward/model/Role" "roleTypeId" "Ljava/lang/String;" y) (q1 : (y).isRef = true) :
    OMet l Z own_EL n0 (⟨"com/example/roleward/roleward/model/Role", "roleTypeId", "()Ljava/lang/String;"⟩ : MethodName) (Jvm.Cond.code (⟨"com/example/roleward/roleward/model/Role", "roleTypeId", "()Ljava/lang/String;"⟩ : MethodName) prog_12_method_12_code 1 (some (.object "java/lang/String")) :: wc) ({ frames := 0, cells := 0, slots := 0, locals := 0 } : Room) #[(.ref a)] h0 [] (fun vq hq => vq = some y) := by
  refine own_enter #[.val (.ref a)] pn_com_example_roleward_roleward_model_Role_roleTypeId___Ljava_lang_String_ (ef_rm17 a y) hWd.1 O0 all0 ?_
  intro p e s m below meth c T0 X0 hnm hret
  refine og_aloadN X0 1 d17_0 rfl rfl rfl ?_
  refine own_get X0 4 d17_1 (host := "") (Or.inl (hw _ (List.mem_of_getElem? (i := 67) rfl))) Via.refl q0 rfl ?_
  intro T1 X2
  refine own_retA X2 d17_4 hret rfl q1 (by decide) (by decide) ?_
  exact rfl
set_option maxRecDepth 65536 in
set_option maxHeartbeats 40000000 in
theorem rm0 (l : Launch) (Z : State) (a0 : Array Value) (hw : ∀ d ∈ tables_1, d.before a0 Z = true) (n0 : Nat) (h0 : Heap) (hWd : OWorld Z a0) (wc : List Jvm.Cond) (O0 : Old Z n0 h0) (pt : Int32) (pi : Int32) (pn : Int32) (pd : Int32) (pr : Int32) (pf : Int32)  :
    OMet l Z own_EL n0 x (Jvm.Cond.code x code maxLocals ret :: wc) room_1 #[(.int pt), (.int pi), (.int pn), (.int pd), (.int pr), (.int pf)] h0 [] (fun vq hq => vq = some (.int (1 : Int32))) := by
  refine own_enter #[.val (.int pt), .val (.int pi), .val (.int pn), .val (.int pd), .val (.int pr), .val (.int pf), .unset, .unset, .unset, .unset, .unset, .unset, .unset, .unset] pn_com_example_roleward_roleward_model_RoleOfTenantPinLaw_law__IIIIII_Z (ef_rm0 pt pi pn pd pr pf) hWd.1 O0 all0 ?_
  intro p e s m below meth c T0 X0 hnm hret
  refine og_iload X0 2 at_0 rfl rfl ?_
  refine og_iconst X0 3 (1 : Int32) at_2 rfl rfl ?_
  refine og_iand X0 4 at_3 rfl ?_
  by_cases hc1 : (pf &&& (1 : Int32)) = 0
  · -- (pf &&& (1 : Int32)) = 0
    refine og_ifY X0 11 at_4 (XT.i0_eq_t hc1) (by decide) (by decide) ?_
    refine og_iconst X0 12 (0 : Int32) at_11 rfl rfl ?_
    refine og_istore X0 14 #[.val (.int pt), .val (.int pi), .val (.int pn), .val (.int pd), .val (.int pr), .val (.int pf), .val (.int (0 : Int32)), .unset, .unset, .unset, .unset, .unset, .unset, .unset] at_12 rfl rfl ?_
    refine og_iload X0 16 at_14 rfl rfl ?_
    refine og_iconst X0 17 (2 : Int32) at_16 rfl rfl ?_
    refine og_iand X0 18 at_17 rfl ?_
    by_cases hc2 : (pf &&& (2 : Int32)) = 0
    · -- (pf &&& (2 : Int32)) = 0
      refine og_ifY X0 25 at_18 (XT.i0_eq_t hc2) (by decide) (by decide) ?_
      refine og_iconst X0 26 (0 : Int32) at_25 rfl rfl ?_
      refine og_istore X0 28 #[.val (.int pt), .val (.int pi), .val (.int pn), .val (.int pd), .val (.int pr), .val (.int pf), .val (.int (0 : Int32)), .val (.int (0 : Int32)), .unset, .unset, .unset, .unset, .unset, .unset] at_26 rfl rfl ?_
      refine og_iloadN X0 29 at_28 rfl rfl ?_
      refine og_iconst X0 30 (0 : Int32) at_29 rfl rfl ?_
      refine own_stat X0 33 (argsL := [(.int pt), (.int (0 : Int32))]) (rest := []) at_30 (rm1 l Z a0 hw n0 h0 hWd [] X0.old pt (0 : Int32)  ) (hw _ (List.mem_of_getElem? (i := 0) rfl)) (hw _ (List.mem_of_getElem? (i := 1) rfl)) (hw _ (List.mem_of_getElem? (i := 2) rfl)) (hw _ (List.mem_of_getElem? (i := 3) rfl)) (by decide) (lenOf pd__28IZ_29Ljava_2flang_2fString_3b rfl) rfl rfl rfl (W := 0) rfl (by decide) (by decide) (by decide) (by decide) all0 rfl ?_
      intro T3 h3 v3 X3 K3 hQ3
      obtain ⟨r3, rfl, ge_r3, f4⟩ := hQ3
      show OGo _ _ _ _ T3 (mkF m 33 #[.val (.int pt), .val (.int pi), .val (.int pn), .val (.int pd), .val (.int pr), .val (.int pf), .val (.int (0 : Int32)), .val (.int (0 : Int32)), .unset, .unset, .unset, .unset, .unset, .unset] [(.ref r3)])
      refine og_astore X3 35 #[.val (.int pt), .val (.int pi), .val (.int pn), .val (.int pd), .val (.int pr), .val (.int pf), .val (.int (0 : Int32)), .val (.int (0 : Int32)), .val (.ref r3), .unset, .unset, .unset, .unset, .unset] at_33 rfl rfl rfl ?_
      refine og_iloadN X3 36 at_35 rfl rfl ?_
      refine og_iconst X3 37 (0 : Int32) at_36 rfl rfl ?_
      refine own_stat X3 40 (argsL := [(.int pi), (.int (0 : Int32))]) (rest := []) at_37 (rm1 l Z a0 hw n0 h3 hWd [] X3.old pi (0 : Int32)  ) (hw _ (List.mem_of_getElem? (i := 0) rfl)) (hw _ (List.mem_of_getElem? (i := 1) rfl)) (hw _ (List.mem_of_getElem? (i := 2) rfl)) (hw _ (List.mem_of_getElem? (i := 3) rfl)) (by decide) (lenOf pd__28IZ_29Ljava_2flang_2fString_3b rfl) rfl rfl rfl (W := 0) rfl (by decide) (by decide) (by decide) (by decide) all0 rfl ?_
      intro T5 h5 v5 X5 K5 hQ5
      obtain ⟨r5, rfl, ge_r5, f6⟩ := hQ5
      show OGo _ _ _ _ T5 (mkF m 40 #[.val (.int pt), .val (.int pi), .val (.int pn), .val (.int pd), .val (.int pr), .val (.int pf), .val (.int (0 : Int32)), .val (.int (0 : Int32)), .val (.ref r3), .unset, .unset, .unset, .unset, .unset] [(.ref r5)])
      refine og_astore X5 42 #[.val (.int pt), .val (.int pi), .val (.int pn), .val (.int pd), .val (.int pr), .val (.int pf), .val (.int (0 : Int32)), .val (.int (0 : Int32)), .val (.ref r3), .val (.ref r5), .unset, .unset, .unset, .unset] at_40 rfl rfl rfl ?_
      refine og_iloadN X5 43 at_42 rfl rfl ?_
      refine og_iconst X5 44 (0 : Int32) at_43 rfl rfl ?_
      refine own_stat X5 47 (argsL := [(.int pn), (.int (0 : Int32))]) (rest := []) at_44 (rm1 l Z a0 hw n0 h5 hWd [] X5.old pn (0 : Int32)  ) (hw _ (List.mem_of_getElem? (i := 0) rfl)) (hw _ (List.mem_of_getElem? (i := 1) rfl)) (hw _ (List.mem_of_getElem? (i := 2) rfl)) (hw _ (List.mem_of_getElem? (i := 3) rfl)) (by decide) (lenOf pd__28IZ_29Ljava_2flang_2fString_3b rfl) rfl rfl rfl (W := 0) rfl (by decide) (by decide) (by decide) (by decide) all0 rfl ?_
      intro T7 h7 v7 X7 K7 hQ7
      obtain ⟨r7, rfl, ge_r7, f8⟩ := hQ7
      show OGo _ _ _ _ T7 (mkF m 47 #[.val (.int pt), .val (.int pi), .val (.int pn), .val (.int pd), .val (.int pr), .val (.int pf), .val (.int (0 : Int32)), .val (.int (0 : Int32)), .val (.ref r3), .val (.ref r5), .unset, .unset, .unset, .unset] [(.ref r7)])
      refine og_astore X7 49 #[.val (.int pt), .val (.int pi), .val (.int pn), .val (.int pd), .val (.int pr), .val (.int pf), .val (.int (0 : Int32)), .val (.int (0 : Int32)), .val (.ref r3), .val (.ref r5), .val (.ref r7), .unset, .unset, .unset] at_47 rfl rfl rfl ?_
      refine og_iloadN X7 50 at_49 rfl rfl ?_
      refine og_iload X7 52 at_50 rfl rfl ?_
      refine own_stat X7 55 (argsL := [(.int pd), (.int (0 : Int32))]) (rest := []) at_52 (rm1 l Z a0 hw n0 h7 hWd [] X7.old pd (0 : Int32)  ) (hw _ (List.mem_of_getElem? (i := 0) rfl)) (hw _ (List.mem_of_getElem? (i := 1) rfl)) (hw _ (List.mem_of_getElem? (i := 2) rfl)) (hw _ (List.mem_of_getElem? (i := 3) rfl)) (by decide) (lenOf pd__28IZ_29Ljava_2flang_2fString_3b rfl) rfl rfl rfl (W := 0) rfl (by decide) (by decide) (by decide) (by decide) all0 rfl ?_
      intro T9 h9 v9 X9 K9 hQ9
      obtain ⟨r9, rfl, ge_r9, f10⟩ := hQ9
      show OGo _ _ _ _ T9 (mkF m 55 #[.val (.int pt), .val (.int pi), .val (.int pn), .val (.int pd), .val (.int pr), .val (.int pf), .val (.int (0 : Int32)), .val (.int (0 : Int32)), .val (.ref r3), .val (.ref r5), .val (.ref r7), .unset, .unset, .unset] [(.ref r9)])
      refine og_astore X9 57 #[.val (.int pt), .val (.int pi), .val (.int pn), .val (.int pd), .val (.int pr), .val (.int pf), .val (.int (0 : Int32)), .val (.int (0 : Int32)), .val (.ref r3), .val (.ref r5), .val (.ref r7), .val (.ref r9), .unset, .unset] at_55 rfl rfl rfl ?_
      refine og_iload X9 59 at_57 rfl rfl ?_
      refine og_ifY X9 66 at_59 (XT.i0_eq_t (by decide)) (by decide) (by decide) ?_
      refine og_iload X9 68 at_66 rfl rfl ?_
      refine og_iconst X9 69 (0 : Int32) at_68 rfl rfl ?_
      refine own_stat X9 72 (argsL := [(.int pr), (.int (0 : Int32))]) (rest := []) at_69 (rm1 l Z a0 hw n0 h9 hWd [] X9.old pr (0 : Int32)  ) (hw _ (List.mem_of_getElem? (i := 0) rfl)) (hw _ (List.mem_of_getElem? (i := 1) rfl)) (hw _ (List.mem_of_getElem? (i := 2) rfl)) (hw _ (List.mem_of_getElem? (i := 3) rfl)) (by decide) (lenOf pd__28IZ_29Ljava_2flang_2fString_3b rfl) rfl rfl rfl (W := 0) rfl (by decide) (by decide) (by decide) (by decide) all0 rfl ?_
      intro T11 h11 v11 X11 K11 hQ11
      obtain ⟨r11, rfl, ge_r11, f12⟩ := hQ11
      show OGo _ _ _ _ T11 (mkF m 72 #[.val (.int pt), .val (.int pi), .val (.int pn), .val (.int pd), .val (.int pr), .val (.int pf), .val (.int (0 : Int32)), .val (.int (0 : Int32)), .val (.ref r3), .val (.ref r5), .val (.ref r7), .val (.ref r9), .unset, .unset] [(.ref r11)])
      refine og_astore X11 74 #[.val (.int pt), .val (.int pi), .val (.int pn), .val (.int pd), .val (.int pr), .val (.int pf), .val (.int (0 : Int32)), .val (.int (0 : Int32)), .val (.ref r3), .val (.ref r5), .val (.ref r7), .val (.ref r9), .val (.ref r11), .unset] at_72 rfl rfl rfl ?_
      refine og_aload X11 76 at_74 rfl rfl rfl ?_
      refine og_aload X11 78 at_76 rfl rfl rfl ?_
      refine og_aload X11 80 at_78 rfl rfl rfl ?_
      refine og_aload X11 82 at_80 rfl rfl rfl ?_
      refine og_aload X11 84 at_82 rfl rfl rfl ?_
      refine own_stat X11 87 (argsL := [(.ref r3), (.ref r5), (.ref r7), (.ref r9), (.ref r11)]) (rest := []) at_84 (rm8 l Z a0 hw n0 h11 hWd [] X11.old (.ref r3) (.ref r5) (.ref r7) (.ref r9) (.ref r11) rfl rfl rfl rfl rfl ) (hw _ (List.mem_of_getElem? (i := 37) rfl)) (hw _ (List.mem_of_getElem? (i := 38) rfl)) (hw _ (List.mem_of_getElem? (i := 39) rfl)) (hw _ (List.mem_of_getElem? (i := 40) rfl)) (by decide) (lenOf pd__28Ljava_2flang_2fString_3bLjava_2flang_2fString_3bLjava_2flang_2fString_3bLjava_2flang_2fString_3bLjava_2flang_2fString_3b_29Lcom_2fexample_2froleward_2froleward_2fmodel_2fRole_3b rfl) rfl rfl rfl (W := 0) rfl (by decide) (by decide) (by decide) (by decide) all0 rfl ?_
      intro T13 h13 v13 X13 K13 hQ13
      obtain ⟨r13, rfl, ge_r13, f14, f15, f16, f17, f18, f19, f20, f21⟩ := hQ13
      show OGo _ _ _ _ T13 (mkF m 87 #[.val (.int pt), .val (.int pi), .val (.int pn), .val (.int pd), .val (.int pr), .val (.int pf), .val (.int (0 : Int32)), .val (.int (0 : Int32)), .val (.ref r3), .val (.ref r5), .val (.ref r7), .val (.ref r9), .val (.ref r11), .unset] [(.ref r13)])
      refine og_astore X13 89 #[.val (.int pt), .val (.int pi), .val (.int pn), .val (.int pd), .val (.int pr), .val (.int pf), .val (.int (0 : Int32)), .val (.int (0 : Int32)), .val (.ref r3), .val (.ref r5), .val (.ref r7), .val (.ref r9), .val (.ref r11), .val (.ref r13)] at_87 rfl rfl rfl ?_
      refine og_aload X13 91 at_89 rfl rfl rfl ?_
      refine own_virt X13 94 (a := r13) (argsL := []) (rest := []) at_91 f14 (fun _ hZ => notFace_of_selects (args := #[]) (mvT hZ (hw _ (List.mem_of_getElem? (i := 72) rfl)))) (rm11 l Z a0 hw n0 h13 hWd [] X13.old r13 (.ref r5) f15 rfl ) (hw _ (List.mem_of_getElem? (i := 69) rfl)) (hw _ (List.mem_of_getElem? (i := 70) rfl)) (hw _ (List.mem_of_getElem? (i := 72) rfl)) (hw _ (List.mem_of_getElem? (i := 71) rfl)) (hw _ (List.mem_of_getElem? (i := 39) rfl)) (hw _ (List.mem_of_getElem? (i := 73) rfl)) (by decide) (lenOf pd__28_29Ljava_2flang_2fString_3b rfl) rfl rfl rfl (W := 0) rfl (by decide) (by decide) (by decide) (by decide) all0 rfl ?_
      intro T22 h22 v22 X22 K22 hQ22
      obtain rfl := hQ22
      show OGo _ _ _ _ T22 (mkF m 94 #[.val (.int pt), .val (.int pi), .val (.int pn), .val (.int pd), .val (.int pr), .val (.int pf), .val (.int (0 : Int32)), .val (.int (0 : Int32)), .val (.ref r3), .val (.ref r5), .val (.ref r7), .val (.ref r9), .val (.ref r11), .val (.ref r13)] [(.ref r5)])
      refine og_aload X22 96 at_94 rfl rfl rfl ?_
      refine og_acmpN X22 99 at_96 rfl rfl (XT.aa_ne_f rfl) rfl ?_
      refine og_aload X22 101 at_99 rfl rfl rfl ?_
      have f23 := f14.keep K22
      have f24 := f16.keep K22 nin0
      refine own_virt X22 104 (a := r13) (argsL := []) (rest := []) at_101 f23 (fun _ hZ => notFace_of_selects (args := #[]) (mvT hZ (hw _ (List.mem_of_getElem? (i := 77) rfl)))) (rm12 l Z a0 hw n0 h22 hWd [] X22.old r13 (.ref r7) f24 rfl ) (hw _ (List.mem_of_getElem? (i := 74) rfl)) (hw _ (List.mem_of_getElem? (i := 75) rfl)) (hw _ (List.mem_of_getElem? (i := 77) rfl)) (hw _ (List.mem_of_getElem? (i := 76) rfl)) (hw _ (List.mem_of_getElem? (i := 39) rfl)) (hw _ (List.mem_of_getElem? (i := 78) rfl)) (by decide) (lenOf pd__28_29Ljava_2flang_2fString_3b rfl) rfl rfl rfl (W := 0) rfl (by decide) (by decide) (by decide) (by decide) all0 rfl ?_
      intro T25 h25 v25 X25 K25 hQ25
      obtain rfl := hQ25
      show OGo _ _ _ _ T25 (mkF m 104 #[.val (.int pt), .val (.int pi), .val (.int pn), .val (.int pd), .val (.int pr), .val (.int pf), .val (.int (0 : Int32)), .val (.int (0 : Int32)), .val (.ref r3), .val (.ref r5), .val (.ref r7), .val (.ref r9), .val (.ref r11), .val (.ref r13)] [(.ref r7)])
      refine og_aload X25 106 at_104 rfl rfl rfl ?_
      refine og_acmpN X25 109 at_106 rfl rfl (XT.aa_ne_f rfl) rfl ?_
      refine og_aload X25 111 at_109 rfl rfl rfl ?_
      have f26 := f23.keep K25
      have f27 := f17.keep K22 nin0
      have f28 := f27.keep K25 nin0
      refine own_virt X25 114 (a := r13) (argsL := []) (rest := []) at_111 f26 (fun _ hZ => notFace_of_selects (args := #[]) (mvT hZ (hw _ (List.mem_of_getElem? (i := 82) rfl)))) (rm13 l Z a0 hw n0 h25 hWd [] X25.old r13 (.ref r9) f28 rfl ) (hw _ (List.mem_of_getElem? (i := 79) rfl)) (hw _ (List.mem_of_getElem? (i := 80) rfl)) (hw _ (List.mem_of_getElem? (i := 82) rfl)) (hw _ (List.mem_of_getElem? (i := 81) rfl)) (hw _ (List.mem_of_getElem? (i := 39) rfl)) (hw _ (List.mem_of_getElem? (i := 83) rfl)) (by decide) (lenOf pd__28_29Ljava_2flang_2fString_3b rfl) rfl rfl rfl (W := 0) rfl (by decide) (by decide) (by decide) (by decide) all0 rfl ?_
      intro T29 h29 v29 X29 K29 hQ29
      obtain rfl := hQ29
      show OGo _ _ _ _ T29 (mkF m 114 #[.val (.int pt), .val (.int pi), .val (.int pn), .val (.int pd), .val (.int pr), .val (.int pf), .val (.int (0 : Int32)), .val (.int (0 : Int32)), .val (.ref r3), .val (.ref r5), .val (.ref r7), .val (.ref r9), .val (.ref r11), .val (.ref r13)] [(.ref r9)])
      refine og_aload X29 116 at_114 rfl rfl rfl ?_
      refine og_acmpN X29 119 at_116 rfl rfl (XT.aa_ne_f rfl) rfl ?_
      refine og_aload X29 121 at_119 rfl rfl rfl ?_
      have f30 := f26.keep K29
      have f31 := f18.keep K22 nin0
      have f32 := f31.keep K25 nin0
      have f33 := f32.keep K29 nin0
      refine own_virt X29 124 (a := r13) (argsL := []) (rest := []) at_121 f30 (fun _ hZ => notFace_of_selects (args := #[]) (mvT hZ (hw _ (List.mem_of_getElem? (i := 87) rfl)))) (rm14 l Z a0 hw n0 h29 hWd [] X29.old r13 (own_stv Z "com/example/roleward/roleward/model/RoleScope" "TENANT" "Lcom/example/roleward/roleward/model/RoleScope;") f33 hWd.2.2.2 ) (hw _ (List.mem_of_getElem? (i := 84) rfl)) (hw _ (List.mem_of_getElem? (i := 85) rfl)) (hw _ (List.mem_of_getElem? (i := 87) rfl)) (hw _ (List.mem_of_getElem? (i := 86) rfl)) (hw _ (List.mem_of_getElem? (i := 39) rfl)) (hw _ (List.mem_of_getElem? (i := 88) rfl)) (by decide) (lenOf pd__28_29Lcom_2fexample_2froleward_2froleward_2fmodel_2fRoleScope_3b rfl) rfl rfl rfl (W := 0) rfl (by decide) (by decide) (by decide) (by decide) all0 rfl ?_
      intro T34 h34 v34 X34 K34 hQ34
      obtain rfl := hQ34
      show OGo _ _ _ _ T34 (mkF m 124 #[.val (.int pt), .val (.int pi), .val (.int pn), .val (.int pd), .val (.int pr), .val (.int pf), .val (.int (0 : Int32)), .val (.int (0 : Int32)), .val (.ref r3), .val (.ref r5), .val (.ref r7), .val (.ref r9), .val (.ref r11), .val (.ref r13)] [(own_stv Z "com/example/roleward/roleward/model/RoleScope" "TENANT" "Lcom/example/roleward/roleward/model/RoleScope;")])
      refine own_getS X34 127 at_124 (host := "") (Or.inl (hw _ (List.mem_of_getElem? (i := 89) rfl))) Via.refl hWd.2.2.1 rfl ?_
      intro T35 X36
      refine og_acmpN X36 130 at_127 hWd.2.2.2 hWd.2.2.2 (XT.aa_ne_f rfl) rfl ?_
      refine og_aload X36 132 at_130 rfl rfl rfl ?_
      have f37 := f30.keep K34
      have f38 := f19.keep K22 nin0
      have f39 := f38.keep K25 nin0
      have f40 := f39.keep K29 nin0
      have f41 := f40.keep K34 nin0
      refine own_virt X36 135 (a := r13) (argsL := []) (rest := []) at_132 f37 (fun _ hZ => notFace_of_selects (args := #[]) (mvT hZ (hw _ (List.mem_of_getElem? (i := 93) rfl)))) (rm15 l Z a0 hw n0 h34 hWd [] X36.old r13 (.ref r3) f41 rfl ) (hw _ (List.mem_of_getElem? (i := 90) rfl)) (hw _ (List.mem_of_getElem? (i := 91) rfl)) (hw _ (List.mem_of_getElem? (i := 93) rfl)) (hw _ (List.mem_of_getElem? (i := 92) rfl)) (hw _ (List.mem_of_getElem? (i := 39) rfl)) (hw _ (List.mem_of_getElem? (i := 94) rfl)) (by decide) (lenOf pd__28_29Ljava_2flang_2fString_3b rfl) rfl rfl rfl (W := 0) rfl (by decide) (by decide) (by decide) (by decide) all0 rfl ?_
      intro T42 h42 v42 X42 K42 hQ42
      obtain rfl := hQ42
      show OGo _ _ _ _ T42 (mkF m 135 #[.val (.int pt), .val (.int pi), .val (.int pn), .val (.int pd), .val (.int pr), .val (.int pf), .val (.int (0 : Int32)), .val (.int (0 : Int32)), .val (.ref r3), .val (.ref r5), .val (.ref r7), .val (.ref r9), .val (.ref r11), .val (.ref r13)] [(.ref r3)])
      refine og_aload X42 137 at_135 rfl rfl rfl ?_
      refine og_acmpN X42 140 at_137 rfl rfl (XT.aa_ne_f rfl) rfl ?_
      refine og_aload X42 142 at_140 rfl rfl rfl ?_
      have f43 := f37.keep K42
      have f44 := f20.keep K22 nin0
      have f45 := f44.keep K25 nin0
      have f46 := f45.keep K29 nin0
      have f47 := f46.keep K34 nin0
      have f48 := f47.keep K42 nin0
      refine own_virt X42 145 (a := r13) (argsL := []) (rest := []) at_142 f43 (fun _ hZ => notFace_of_selects (args := #[]) (mvT hZ (hw _ (List.mem_of_getElem? (i := 98) rfl)))) (rm16 l Z a0 hw n0 h42 hWd [] X42.old r13 .null f48 rfl ) (hw _ (List.mem_of_getElem? (i := 95) rfl)) (hw _ (List.mem_of_getElem? (i := 96) rfl)) (hw _ (List.mem_of_getElem? (i := 98) rfl)) (hw _ (List.mem_of_getElem? (i := 97) rfl)) (hw _ (List.mem_of_getElem? (i := 39) rfl)) (hw _ (List.mem_of_getElem? (i := 99) rfl)) (by decide) (lenOf pd__28_29Ljava_2flang_2fString_3b rfl) rfl rfl rfl (W := 0) rfl (by decide) (by decide) (by decide) (by decide) all0 rfl ?_
      intro T49 h49 v49 X49 K49 hQ49
      obtain rfl := hQ49
      show OGo _ _ _ _ T49 (mkF m 145 #[.val (.int pt), .val (.int pi), .val (.int pn), .val (.int pd), .val (.int pr), .val (.int pf), .val (.int (0 : Int32)), .val (.int (0 : Int32)), .val (.ref r3), .val (.ref r5), .val (.ref r7), .val (.ref r9), .val (.ref r11), .val (.ref r13)] [.null])
      refine og_nonnullN X49 148 at_145 rfl ?_
      refine og_aload X49 150 at_148 rfl rfl rfl ?_
      have f50 := f43.keep K49
      have f51 := f21.keep K22 nin0
      have f52 := f51.keep K25 nin0
      have f53 := f52.keep K29 nin0
      have f54 := f53.keep K34 nin0
      have f55 := f54.keep K42 nin0
      have f56 := f55.keep K49 nin0
      refine own_virt X49 153 (a := r13) (argsL := []) (rest := []) at_150 f50 (fun _ hZ => notFace_of_selects (args := #[]) (mvT hZ (hw _ (List.mem_of_getElem? (i := 103) rfl)))) (rm17 l Z a0 hw n0 h49 hWd [] X49.old r13 (.ref r11) f56 rfl ) (hw _ (List.mem_of_getElem? (i := 100) rfl)) (hw _ (List.mem_of_getElem? (i := 101) rfl)) (hw _ (List.mem_of_getElem? (i := 103) rfl)) (hw _ (List.mem_of_getElem? (i := 102) rfl)) (hw _ (List.mem_of_getElem? (i := 39) rfl)) (hw _ (List.mem_of_getElem? (i := 104) rfl)) (by decide) (lenOf pd__28_29Ljava_2flang_2fString_3b rfl) rfl rfl rfl (W := 0) rfl (by decide) (by decide) (by decide) (by decide) all0 rfl ?_
      intro T57 h57 v57 X57 K57 hQ57
      obtain rfl := hQ57
      show OGo _ _ _ _ T57 (mkF m 153 #[.val (.int pt), .val (.int pi), .val (.int pn), .val (.int pd), .val (.int pr), .val (.int pf), .val (.int (0 : Int32)), .val (.int (0 : Int32)), .val (.ref r3), .val (.ref r5), .val (.ref r7), .val (.ref r9), .val (.ref r11), .val (.ref r13)] [(.ref r11)])
      refine og_aload X57 155 at_153 rfl rfl rfl ?_
      refine og_acmpN X57 158 at_155 rfl rfl (XT.aa_ne_f rfl) rfl ?_
      refine og_iconst X57 159 (1 : Int32) at_158 rfl rfl ?_
      refine og_goto X57 163 at_159 (by decide) (by decide) ?_
      refine own_retZ X57 at_163 hret rfl (by decide) (by decide) ?_
      exact rfl
    · -- not
      refine og_ifN X0 21 at_18 (XT.i0_eq_f hc2) rfl ?_
      refine og_iconst X0 22 (1 : Int32) at_21 rfl rfl ?_
      refine og_goto X0 26 at_22 (by decide) (by decide) ?_
      refine og_istore X0 28 #[.val (.int pt), .val (.int pi), .val (.int pn), .val (.int pd), .val (.int pr), .val (.int pf), .val (.int (0 : Int32)), .val (.int (1 : Int32)), .unset, .unset, .unset, .unset, .unset, .unset] at_26 rfl rfl ?_
      refine og_iloadN X0 29 at_28 rfl rfl ?_
      refine og_iconst X0 30 (0 : Int32) at_29 rfl rfl ?_
      refine own_stat X0 33 (argsL := [(.int pt), (.int (0 : Int32))]) (rest := []) at_30 (rm1 l Z a0 hw n0 h0 hWd [] X0.old pt (0 : Int32)  ) (hw _ (List.mem_of_getElem? (i := 0) rfl)) (hw _ (List.mem_of_getElem? (i := 1) rfl)) (hw _ (List.mem_of_getElem? (i := 2) rfl)) (hw _ (List.mem_of_getElem? (i := 3) rfl)) (by decide) (lenOf pd__28IZ_29Ljava_2flang_2fString_3b rfl) rfl rfl rfl (W := 0) rfl (by decide) (by decide) (by decide) (by decide) all0 rfl ?_
      intro T58 h58 v58 X58 K58 hQ58
      obtain ⟨r58, rfl, ge_r58, f59⟩ := hQ58
      show OGo _ _ _ _ T58 (mkF m 33 #[.val (.int pt), .val (.int pi), .val (.int pn), .val (.int pd), .val (.int pr), .val (.int pf), .val (.int (0 : Int32)), .val (.int (1 : Int32)), .unset, .unset, .unset, .unset, .unset, .unset] [(.ref r58)])
      refine og_astore X58 35 #[.val (.int pt), .val (.int pi), .val (.int pn), .val (.int pd), .val (.int pr), .val (.int pf), .val (.int (0 : Int32)), .val (.int (1 : Int32)), .val (.ref r58), .unset, .unset, .unset, .unset, .unset] at_33 rfl rfl rfl ?_
      refine og_iloadN X58 36 at_35 rfl rfl ?_
      refine og_iconst X58 37 (0 : Int32) at_36 rfl rfl ?_
      refine own_stat X58 40 (argsL := [(.int pi), (.int (0 : Int32))]) (rest := []) at_37 (rm1 l Z a0 hw n0 h58 hWd [] X58.old pi (0 : Int32)  ) (hw _ (List.mem_of_getElem? (i := 0) rfl)) (hw _ (List.mem_of_getElem? (i := 1) rfl)) (hw _ (List.mem_of_getElem? (i := 2) rfl)) (hw _ (List.mem_of_getElem? (i := 3) rfl)) (by decide) (lenOf pd__28IZ_29Ljava_2flang_2fString_3b rfl) rfl rfl rfl (W := 0) rfl (by decide) (by decide) (by decide) (by decide) all0 rfl ?_
      intro T60 h60 v60 X60 K60 hQ60
      obtain ⟨r60, rfl, ge_r60, f61⟩ := hQ60
      show OGo _ _ _ _ T60 (mkF m 40 #[.val (.int pt), .val (.int pi), .val (.int pn), .val (.int pd), .val (.int pr), .val (.int pf), .val (.int (0 : Int32)), .val (.int (1 : Int32)), .val (.ref r58), .unset, .unset, .unset, .unset, .unset] [(.ref r60)])
      refine og_astore X60 42 #[.val (.int pt), .val (.int pi), .val (.int pn), .val (.int pd), .val (.int pr), .val (.int pf), .val (.int (0 : Int32)), .val (.int (1 : Int32)), .val (.ref r58), .val (.ref r60), .unset, .unset, .unset, .unset] at_40 rfl rfl rfl ?_
      refine og_iloadN X60 43 at_42 rfl rfl ?_
      refine og_iconst X60 44 (0 : Int32) at_43 rfl rfl ?_
      refine own_stat X60 47 (argsL := [(.int pn), (.int (0 : Int32))]) (rest := []) at_44 (rm1 l Z a0 hw n0 h60 hWd [] X60.old pn (0 : Int32)  ) (hw _ (List.mem_of_getElem? (i := 0) rfl)) (hw _ (List.mem_of_getElem? (i := 1) rfl)) (hw _ (List.mem_of_getElem? (i := 2) rfl)) (hw _ (List.mem_of_getElem? (i := 3) rfl)) (by decide) (lenOf pd__28IZ_29Ljava_2flang_2fString_3b rfl) rfl rfl rfl (W := 0) rfl (by decide) (by decide) (by decide) (by decide) all0 rfl ?_
      intro T62 h62 v62 X62 K62 hQ62
      obtain ⟨r62, rfl, ge_r62, f63⟩ := hQ62
      show OGo _ _ _ _ T62 (mkF m 47 #[.val (.int pt), .val (.int pi), .val (.int pn), .val (.int pd), .val (.int pr), .val (.int pf), .val (.int (0 : Int32)), .val (.int (1 : Int32)), .val (.ref r58), .val (.ref r60), .unset, .unset, .unset, .unset] [(.ref r62)])
      refine og_astore X62 49 #[.val (.int pt), .val (.int pi), .val (.int pn), .val (.int pd), .val (.int pr), .val (.int pf), .val (.int (0 : Int32)), .val (.int (1 : Int32)), .val (.ref r58), .val (.ref r60), .val (.ref r62), .unset, .unset, .unset] at_47 rfl rfl rfl ?_
      refine og_iloadN X62 50 at_49 rfl rfl ?_
      refine og_iload X62 52 at_50 rfl rfl ?_
      refine own_stat X62 55 (argsL := [(.int pd), (.int (1 : Int32))]) (rest := []) at_52 (rm1 l Z a0 hw n0 h62 hWd [] X62.old pd (1 : Int32)  ) (hw _ (List.mem_of_getElem? (i := 0) rfl)) (hw _ (List.mem_of_getElem? (i := 1) rfl)) (hw _ (List.mem_of_getElem? (i := 2) rfl)) (hw _ (List.mem_of_getElem? (i := 3) rfl)) (by decide) (lenOf pd__28IZ_29Ljava_2flang_2fString_3b rfl) rfl rfl rfl (W := 0) rfl (by decide) (by decide) (by decide) (by decide) all0 rfl ?_
      intro T64 h64 v64 X64 K64 hQ64
      obtain ⟨r64, rfl, ge_r64, f65⟩ := hQ64
      show OGo _ _ _ _ T64 (mkF m 55 #[.val (.int pt), .val (.int pi), .val (.int pn), .val (.int pd), .val (.int pr), .val (.int pf), .val (.int (0 : Int32)), .val (.int (1 : Int32)), .val (.ref r58), .val (.ref r60), .val (.ref r62), .unset, .unset, .unset] [(.ref r64)])
      refine og_astore X64 57 #[.val (.int pt), .val (.int pi), .val (.int pn), .val (.int pd), .val (.int pr), .val (.int pf), .val (.int (0 : Int32)), .val (.int (1 : Int32)), .val (.ref r58), .val (.ref r60), .val (.ref r62), .val (.ref r64), .unset, .unset] at_55 rfl rfl rfl ?_
      refine og_iload X64 59 at_57 rfl rfl ?_
      refine og_ifY X64 66 at_59 (XT.i0_eq_t (by decide)) (by decide) (by decide) ?_
      refine og_iload X64 68 at_66 rfl rfl ?_
      refine og_iconst X64 69 (0 : Int32) at_68 rfl rfl ?_
      refine own_stat X64 72 (argsL := [(.int pr), (.int (0 : Int32))]) (rest := []) at_69 (rm1 l Z a0 hw n0 h64 hWd [] X64.old pr (0 : Int32)  ) (hw _ (List.mem_of_getElem? (i := 0) rfl)) (hw _ (List.mem_of_getElem? (i := 1) rfl)) (hw _ (List.mem_of_getElem? (i := 2) rfl)) (hw _ (List.mem_of_getElem? (i := 3) rfl)) (by decide) (lenOf pd__28IZ_29Ljava_2flang_2fString_3b rfl) rfl rfl rfl (W := 0) rfl (by decide) (by decide) (by decide) (by decide) all0 rfl ?_
      intro T66 h66 v66 X66 K66 hQ66
      obtain ⟨r66, rfl, ge_r66, f67⟩ := hQ66
      show OGo _ _ _ _ T66 (mkF m 72 #[.val (.int pt), .val (.int pi), .val (.int pn), .val (.int pd), .val (.int pr), .val (.int pf), .val (.int (0 : Int32)), .val (.int (1 : Int32)), .val (.ref r58), .val (.ref r60), .val (.ref r62), .val (.ref r64), .unset, .unset] [(.ref r66)])
      refine og_astore X66 74 #[.val (.int pt), .val (.int pi), .val (.int pn), .val (.int pd), .val (.int pr), .val (.int pf), .val (.int (0 : Int32)), .val (.int (1 : Int32)), .val (.ref r58), .val (.ref r60), .val (.ref r62), .val (.ref r64), .val (.ref r66), .unset] at_72 rfl rfl rfl ?_
      refine og_aload X66 76 at_74 rfl rfl rfl ?_
      refine og_aload X66 78 at_76 rfl rfl rfl ?_
      refine og_aload X66 80 at_78 rfl rfl rfl ?_
      refine og_aload X66 82 at_80 rfl rfl rfl ?_
      refine og_aload X66 84 at_82 rfl rfl rfl ?_
      refine own_stat X66 87 (argsL := [(.ref r58), (.ref r60), (.ref r62), (.ref r64), (.ref r66)]) (rest := []) at_84 (rm8 l Z a0 hw n0 h66 hWd [] X66.old (.ref r58) (.ref r60) (.ref r62) (.ref r64) (.ref r66) rfl rfl rfl rfl rfl ) (hw _ (List.mem_of_getElem? (i := 37) rfl)) (hw _ (List.mem_of_getElem? (i := 38) rfl)) (hw _ (List.mem_of_getElem? (i := 39) rfl)) (hw _ (List.mem_of_getElem? (i := 40) rfl)) (by decide) (lenOf pd__28Ljava_2flang_2fString_3bLjava_2flang_2fString_3bLjava_2flang_2fString_3bLjava_2flang_2fString_3bLjava_2flang_2fString_3b_29Lcom_2fexample_2froleward_2froleward_2fmodel_2fRole_3b rfl) rfl rfl rfl (W := 0) rfl (by decide) (by decide) (by decide) (by decide) all0 rfl ?_
      intro T68 h68 v68 X68 K68 hQ68
      obtain ⟨r68, rfl, ge_r68, f69, f70, f71, f72, f73, f74, f75, f76⟩ := hQ68
      show OGo _ _ _ _ T68 (mkF m 87 #[.val (.int pt), .val (.int pi), .val (.int pn), .val (.int pd), .val (.int pr), .val (.int pf), .val (.int (0 : Int32)), .val (.int (1 : Int32)), .val (.ref r58), .val (.ref r60), .val (.ref r62), .val (.ref r64), .val (.ref r66), .unset] [(.ref r68)])
      refine og_astore X68 89 #[.val (.int pt), .val (.int pi), .val (.int pn), .val (.int pd), .val (.int pr), .val (.int pf), .val (.int (0 : Int32)), .val (.int (1 : Int32)), .val (.ref r58), .val (.ref r60), .val (.ref r62), .val (.ref r64), .val (.ref r66), .val (.ref r68)] at_87 rfl rfl rfl ?_
      refine og_aload X68 91 at_89 rfl rfl rfl ?_
      refine own_virt X68 94 (a := r68) (argsL := []) (rest := []) at_91 f69 (fun _ hZ => notFace_of_selects (args := #[]) (mvT hZ (hw _ (List.mem_of_getElem? (i := 72) rfl)))) (rm11 l Z a0 hw n0 h68 hWd [] X68.old r68 (.ref r60) f70 rfl ) (hw _ (List.mem_of_getElem? (i := 69) rfl)) (hw _ (List.mem_of_getElem? (i := 70) rfl)) (hw _ (List.mem_of_getElem? (i := 72) rfl)) (hw _ (List.mem_of_getElem? (i := 71) rfl)) (hw _ (List.mem_of_getElem? (i := 39) rfl)) (hw _ (List.mem_of_getElem? (i := 73) rfl)) (by decide) (lenOf pd__28_29Ljava_2flang_2fString_3b rfl) rfl rfl rfl (W := 0) rfl (by decide) (by decide) (by decide) (by decide) all0 rfl ?_
      intro T77 h77 v77 X77 K77 hQ77
      obtain rfl := hQ77
      show OGo _ _ _ _ T77 (mkF m 94 #[.val (.int pt), .val (.int pi), .val (.int pn), .val (.int pd), .val (.int pr), .val (.int pf), .val (.int (0 : Int32)), .val (.int (1 : Int32)), .val (.ref r58), .val (.ref r60), .val (.ref r62), .val (.ref r64), .val (.ref r66), .val (.ref r68)] [(.ref r60)])
      refine og_aload X77 96 at_94 rfl rfl rfl ?_
      refine og_acmpN X77 99 at_96 rfl rfl (XT.aa_ne_f rfl) rfl ?_
      refine og_aload X77 101 at_99 rfl rfl rfl ?_
      have f78 := f69.keep K77
      have f79 := f71.keep K77 nin0
      refine own_virt X77 104 (a := r68) (argsL := []) (rest := []) at_101 f78 (fun _ hZ => notFace_of_selects (args := #[]) (mvT hZ (hw _ (List.mem_of_getElem? (i := 77) rfl)))) (rm12 l Z a0 hw n0 h77 hWd [] X77.old r68 (.ref r62) f79 rfl ) (hw _ (List.mem_of_getElem? (i := 74) rfl)) (hw _ (List.mem_of_getElem? (i := 75) rfl)) (hw _ (List.mem_of_getElem? (i := 77) rfl)) (hw _ (List.mem_of_getElem? (i := 76) rfl)) (hw _ (List.mem_of_getElem? (i := 39) rfl)) (hw _ (List.mem_of_getElem? (i := 78) rfl)) (by decide) (lenOf pd__28_29Ljava_2flang_2fString_3b rfl) rfl rfl rfl (W := 0) rfl (by decide) (by decide) (by decide) (by decide) all0 rfl ?_
      intro T80 h80 v80 X80 K80 hQ80
      obtain rfl := hQ80
      show OGo _ _ _ _ T80 (mkF m 104 #[.val (.int pt), .val (.int pi), .val (.int pn), .val (.int pd), .val (.int pr), .val (.int pf), .val (.int (0 : Int32)), .val (.int (1 : Int32)), .val (.ref r58), .val (.ref r60), .val (.ref r62), .val (.ref r64), .val (.ref r66), .val (.ref r68)] [(.ref r62)])
      refine og_aload X80 106 at_104 rfl rfl rfl ?_
      refine og_acmpN X80 109 at_106 rfl rfl (XT.aa_ne_f rfl) rfl ?_
      refine og_aload X80 111 at_109 rfl rfl rfl ?_
      have f81 := f78.keep K80
      have f82 := f72.keep K77 nin0
      have f83 := f82.keep K80 nin0
      refine own_virt X80 114 (a := r68) (argsL := []) (rest := []) at_111 f81 (fun _ hZ => notFace_of_selects (args := #[]) (mvT hZ (hw _ (List.mem_of_getElem? (i := 82) rfl)))) (rm13 l Z a0 hw n0 h80 hWd [] X80.old r68 (.ref r64) f83 rfl ) (hw _ (List.mem_of_getElem? (i := 79) rfl)) (hw _ (List.mem_of_getElem? (i := 80) rfl)) (hw _ (List.mem_of_getElem? (i := 82) rfl)) (hw _ (List.mem_of_getElem? (i := 81) rfl)) (hw _ (List.mem_of_getElem? (i := 39) rfl)) (hw _ (List.mem_of_getElem? (i := 83) rfl)) (by decide) (lenOf pd__28_29Ljava_2flang_2fString_3b rfl) rfl rfl rfl (W := 0) rfl (by decide) (by decide) (by decide) (by decide) all0 rfl ?_
      intro T84 h84 v84 X84 K84 hQ84
      obtain rfl := hQ84
      show OGo _ _ _ _ T84 (mkF m 114 #[.val (.int pt), .val (.int pi), .val (.int pn), .val (.int pd), .val (.int pr), .val (.int pf), .val (.int (0 : Int32)), .val (.int (1 : Int32)), .val (.ref r58), .val (.ref r60), .val (.ref r62), .val (.ref r64), .val (.ref r66), .val (.ref r68)] [(.ref r64)])
      refine og_aload X84 116 at_114 rfl rfl rfl ?_
      refine og_acmpN X84 119 at_116 rfl rfl (XT.aa_ne_f rfl) rfl ?_
      refine og_aload X84 121 at_119 rfl rfl rfl ?_
      have f85 := f81.keep K84
      have f86 := f73.keep K77 nin0
      have f87 := f86.keep K80 nin0
      have f88 := f87.keep K84 nin0
      refine own_virt X84 124 (a := r68) (argsL := []) (rest := []) at_121 f85 (fun _ hZ => notFace_of_selects (args := #[]) (mvT hZ (hw _ (List.mem_of_getElem? (i := 87) rfl)))) (rm14 l Z a0 hw n0 h84 hWd [] X84.old r68 (own_stv Z "com/example/roleward/roleward/model/RoleScope" "TENANT" "Lcom/example/roleward/roleward/model/RoleScope;") f88 hWd.2.2.2 ) (hw _ (List.mem_of_getElem? (i := 84) rfl)) (hw _ (List.mem_of_getElem? (i := 85) rfl)) (hw _ (List.mem_of_getElem? (i := 87) rfl)) (hw _ (List.mem_of_getElem? (i := 86) rfl)) (hw _ (List.mem_of_getElem? (i := 39) rfl)) (hw _ (List.mem_of_getElem? (i := 88) rfl)) (by decide) (lenOf pd__28_29Lcom_2fexample_2froleward_2froleward_2fmodel_2fRoleScope_3b rfl) rfl rfl rfl (W := 0) rfl (by decide) (by decide) (by decide) (by decide) all0 rfl ?_
      intro T89 h89 v89 X89 K89 hQ89
      obtain rfl := hQ89
      show OGo _ _ _ _ T89 (mkF m 124 #[.val (.int pt), .val (.int pi), .val (.int pn), .val (.int pd), .val (.int pr), .val (.int pf), .val (.int (0 : Int32)), .val (.int (1 : Int32)), .val (.ref r58), .val (.ref r60), .val (.ref r62), .val (.ref r64), .val (.ref r66), .val (.ref r68)] [(own_stv Z "com/example/roleward/roleward/model/RoleScope" "TENANT" "Lcom/example/roleward/roleward/model/RoleScope;")])
      refine own_getS X89 127 at_124 (host := "") (Or.inl (hw _ (List.mem_of_getElem? (i := 89) rfl))) Via.refl hWd.2.2.1 rfl ?_
      intro T90 X91
      refine og_acmpN X91 130 at_127 hWd.2.2.2 hWd.2.2.2 (XT.aa_ne_f rfl) rfl ?_
      refine og_aload X91 132 at_130 rfl rfl rfl ?_
      have f92 := f85.keep K89
      have f93 := f74.keep K77 nin0
      have f94 := f93.keep K80 nin0
      have f95 := f94.keep K84 nin0
      have f96 := f95.keep K89 nin0
      refine own_virt X91 135 (a := r68) (argsL := []) (rest := []) at_132 f92 (fun _ hZ => notFace_of_selects (args := #[]) (mvT hZ (hw _ (List.mem_of_getElem? (i := 93) rfl)))) (rm15 l Z a0 hw n0 h89 hWd [] X91.old r68 (.ref r58) f96 rfl ) (hw _ (List.mem_of_getElem? (i := 90) rfl)) (hw _ (List.mem_of_getElem? (i := 91) rfl)) (hw _ (List.mem_of_getElem? (i := 93) rfl)) (hw _ (List.mem_of_getElem? (i := 92) rfl)) (hw _ (List.mem_of_getElem? (i := 39) rfl)) (hw _ (List.mem_of_getElem? (i := 94) rfl)) (by decide) (lenOf pd__28_29Ljava_2flang_2fString_3b rfl) rfl rfl rfl (W := 0) rfl (by decide) (by decide) (by decide) (by decide) all0 rfl ?_
      intro T97 h97 v97 X97 K97 hQ97
      obtain rfl := hQ97
      show OGo _ _ _ _ T97 (mkF m 135 #[.val (.int pt), .val (.int pi), .val (.int pn), .val (.int pd), .val (.int pr), .val (.int pf), .val (.int (0 : Int32)), .val (.int (1 : Int32)), .val (.ref r58), .val (.ref r60), .val (.ref r62), .val (.ref r64), .val (.ref r66), .val (.ref r68)] [(.ref r58)])
      refine og_aload X97 137 at_135 rfl rfl rfl ?_
      refine og_acmpN X97 140 at_137 rfl rfl (XT.aa_ne_f rfl) rfl ?_
      refine og_aload X97 142 at_140 rfl rfl rfl ?_
      have f98 := f92.keep K97
      have f99 := f75.keep K77 nin0
      have f100 := f99.keep K80 nin0
      have f101 := f100.keep K84 nin0
      have f102 := f101.keep K89 nin0
      have f103 := f102.keep K97 nin0
      refine own_virt X97 145 (a := r68) (argsL := []) (rest := []) at_142 f98 (fun _ hZ => notFace_of_selects (args := #[]) (mvT hZ (hw _ (List.mem_of_getElem? (i := 98) rfl)))) (rm16 l Z a0 hw n0 h97 hWd [] X97.old r68 .null f103 rfl ) (hw _ (List.mem_of_getElem? (i := 95) rfl)) (hw _ (List.mem_of_getElem? (i := 96) rfl)) (hw _ (List.mem_of_getElem? (i := 98) rfl)) (hw _ (List.mem_of_getElem? (i := 97) rfl)) (hw _ (List.mem_of_getElem? (i := 39) rfl)) (hw _ (List.mem_of_getElem? (i := 99) rfl)) (by decide) (lenOf pd__28_29Ljava_2flang_2fString_3b rfl) rfl rfl rfl (W := 0) rfl (by decide) (by decide) (by decide) (by decide) all0 rfl ?_
      intro T104 h104 v104 X104 K104 hQ104
      obtain rfl := hQ104
      show OGo _ _ _ _ T104 (mkF m 145 #[.val (.int pt), .val (.int pi), .val (.int pn), .val (.int pd), .val (.int pr), .val (.int pf), .val (.int (0 : Int32)), .val (.int (1 : Int32)), .val (.ref r58), .val (.ref r60), .val (.ref r62), .val (.ref r64), .val (.ref r66), .val (.ref r68)] [.null])
      refine og_nonnullN X104 148 at_145 rfl ?_
      refine og_aload X104 150 at_148 rfl rfl rfl ?_
      have f105 := f98.keep K104
      have f106 := f76.keep K77 nin0
      have f107 := f106.keep K80 nin0
      have f108 := f107.keep K84 nin0
      have f109 := f108.keep K89 nin0
      have f110 := f109.keep K97 nin0
      have f111 := f110.keep K104 nin0
      refine own_virt X104 153 (a := r68) (argsL := []) (rest := []) at_150 f105 (fun _ hZ => notFace_of_selects (args := #[]) (mvT hZ (hw _ (List.mem_of_getElem? (i := 103) rfl)))) (rm17 l Z a0 hw n0 h104 hWd [] X104.old r68 (.ref r66) f111 rfl ) (hw _ (List.mem_of_getElem? (i := 100) rfl)) (hw _ (List.mem_of_getElem? (i := 101) rfl)) (hw _ (List.mem_of_getElem? (i := 103) rfl)) (hw _ (List.mem_of_getElem? (i := 102) rfl)) (hw _ (List.mem_of_getElem? (i := 39) rfl)) (hw _ (List.mem_of_getElem? (i := 104) rfl)) (by decide) (lenOf pd__28_29Ljava_2flang_2fString_3b rfl) rfl rfl rfl (W := 0) rfl (by decide) (by decide) (by decide) (by decide) all0 rfl ?_
      intro T112 h112 v112 X112 K112 hQ112
      obtain rfl := hQ112
      show OGo _ _ _ _ T112 (mkF m 153 #[.val (.int pt), .val (.int pi), .val (.int pn), .val (.int pd), .val (.int pr), .val (.int pf), .val (.int (0 : Int32)), .val (.int (1 : Int32)), .val (.ref r58), .val (.ref r60), .val (.ref r62), .val (.ref r64), .val (.ref r66), .val (.ref r68)] [(.ref r66)])
      refine og_aload X112 155 at_153 rfl rfl rfl ?_
      refine og_acmpN X112 158 at_155 rfl rfl (XT.aa_ne_f rfl) rfl ?_
      refine og_iconst X112 159 (1 : Int32) at_158 rfl rfl ?_
      refine og_goto X112 163 at_159 (by decide) (by decide) ?_
      refine own_retZ X112 at_163 hret rfl (by decide) (by decide) ?_
      exact rfl
  · -- not
    refine og_ifN X0 7 at_4 (XT.i0_eq_f hc1) rfl ?_
    refine og_iconst X0 8 (1 : Int32) at_7 rfl rfl ?_
    refine og_goto X0 12 at_8 (by decide) (by decide) ?_
    refine og_istore X0 14 #[.val (.int pt), .val (.int pi), .val (.int pn), .val (.int pd), .val (.int pr), .val (.int pf), .val (.int (1 : Int32)), .unset, .unset, .unset, .unset, .unset, .unset, .unset] at_12 rfl rfl ?_
    refine og_iload X0 16 at_14 rfl rfl ?_
    refine og_iconst X0 17 (2 : Int32) at_16 rfl rfl ?_
    refine og_iand X0 18 at_17 rfl ?_
    by_cases hc113 : (pf &&& (2 : Int32)) = 0
    · -- (pf &&& (2 : Int32)) = 0
      refine og_ifY X0 25 at_18 (XT.i0_eq_t hc113) (by decide) (by decide) ?_
      refine og_iconst X0 26 (0 : Int32) at_25 rfl rfl ?_
      refine og_istore X0 28 #[.val (.int pt), .val (.int pi), .val (.int pn), .val (.int pd), .val (.int pr), .val (.int pf), .val (.int (1 : Int32)), .val (.int (0 : Int32)), .unset, .unset, .unset, .unset, .unset, .unset] at_26 rfl rfl ?_
      refine og_iloadN X0 29 at_28 rfl rfl ?_
      refine og_iconst X0 30 (0 : Int32) at_29 rfl rfl ?_
      refine own_stat X0 33 (argsL := [(.int pt), (.int (0 : Int32))]) (rest := []) at_30 (rm1 l Z a0 hw n0 h0 hWd [] X0.old pt (0 : Int32)  ) (hw _ (List.mem_of_getElem? (i := 0) rfl)) (hw _ (List.mem_of_getElem? (i := 1) rfl)) (hw _ (List.mem_of_getElem? (i := 2) rfl)) (hw _ (List.mem_of_getElem? (i := 3) rfl)) (by decide) (lenOf pd__28IZ_29Ljava_2flang_2fString_3b rfl) rfl rfl rfl (W := 0) rfl (by decide) (by decide) (by decide) (by decide) all0 rfl ?_
      intro T114 h114 v114 X114 K114 hQ114
      obtain ⟨r114, rfl, ge_r114, f115⟩ := hQ114
      show OGo _ _ _ _ T114 (mkF m 33 #[.val (.int pt), .val (.int pi), .val (.int pn), .val (.int pd), .val (.int pr), .val (.int pf), .val (.int (1 : Int32)), .val (.int (0 : Int32)), .unset, .unset, .unset, .unset, .unset, .unset] [(.ref r114)])
      refine og_astore X114 35 #[.val (.int pt), .val (.int pi), .val (.int pn), .val (.int pd), .val (.int pr), .val (.int pf), .val (.int (1 : Int32)), .val (.int (0 : Int32)), .val (.ref r114), .unset, .unset, .unset, .unset, .unset] at_33 rfl rfl rfl ?_
      refine og_iloadN X114 36 at_35 rfl rfl ?_
      refine og_iconst X114 37 (0 : Int32) at_36 rfl rfl ?_
      refine own_stat X114 40 (argsL := [(.int pi), (.int (0 : Int32))]) (rest := []) at_37 (rm1 l Z a0 hw n0 h114 hWd [] X114.old pi (0 : Int32)  ) (hw _ (List.mem_of_getElem? (i := 0) rfl)) (hw _ (List.mem_of_getElem? (i := 1) rfl)) (hw _ (List.mem_of_getElem? (i := 2) rfl)) (hw _ (List.mem_of_getElem? (i := 3) rfl)) (by decide) (lenOf pd__28IZ_29Ljava_2flang_2fString_3b rfl) rfl rfl rfl (W := 0) rfl (by decide) (by decide) (by decide) (by decide) all0 rfl ?_
      intro T116 h116 v116 X116 K116 hQ116
      obtain ⟨r116, rfl, ge_r116, f117⟩ := hQ116
      show OGo _ _ _ _ T116 (mkF m 40 #[.val (.int pt), .val (.int pi), .val (.int pn), .val (.int pd), .val (.int pr), .val (.int pf), .val (.int (1 : Int32)), .val (.int (0 : Int32)), .val (.ref r114), .unset, .unset, .unset, .unset, .unset] [(.ref r116)])
      refine og_astore X116 42 #[.val (.int pt), .val (.int pi), .val (.int pn), .val (.int pd), .val (.int pr), .val (.int pf), .val (.int (1 : Int32)), .val (.int (0 : Int32)), .val (.ref r114), .val (.ref r116), .unset, .unset, .unset, .unset] at_40 rfl rfl rfl ?_
      refine og_iloadN X116 43 at_42 rfl rfl ?_
      refine og_iconst X116 44 (0 : Int32) at_43 rfl rfl ?_
      refine own_stat X116 47 (argsL := [(.int pn), (.int (0 : Int32))]) (rest := []) at_44 (rm1 l Z a0 hw n0 h116 hWd [] X116.old pn (0 : Int32)  ) (hw _ (List.mem_of_getElem? (i := 0) rfl)) (hw _ (List.mem_of_getElem? (i := 1) rfl)) (hw _ (List.mem_of_getElem? (i := 2) rfl)) (hw _ (List.mem_of_getElem? (i := 3) rfl)) (by decide) (lenOf pd__28IZ_29Ljava_2flang_2fString_3b rfl) rfl rfl rfl (W := 0) rfl (by decide) (by decide) (by decide) (by decide) all0 rfl ?_
      intro T118 h118 v118 X118 K118 hQ118
      obtain ⟨r118, rfl, ge_r118, f119⟩ := hQ118
      show OGo _ _ _ _ T118 (mkF m 47 #[.val (.int pt), .val (.int pi), .val (.int pn), .val (.int pd), .val (.int pr), .val (.int pf), .val (.int (1 : Int32)), .val (.int (0 : Int32)), .val (.ref r114), .val (.ref r116), .unset, .unset, .unset, .unset] [(.ref r118)])
      refine og_astore X118 49 #[.val (.int pt), .val (.int pi), .val (.int pn), .val (.int pd), .val (.int pr), .val (.int pf), .val (.int (1 : Int32)), .val (.int (0 : Int32)), .val (.ref r114), .val (.ref r116), .val (.ref r118), .unset, .unset, .unset] at_47 rfl rfl rfl ?_
      refine og_iloadN X118 50 at_49 rfl rfl ?_
      refine og_iload X118 52 at_50 rfl rfl ?_
      refine own_stat X118 55 (argsL := [(.int pd), (.int (0 : Int32))]) (rest := []) at_52 (rm1 l Z a0 hw n0 h118 hWd [] X118.old pd (0 : Int32)  ) (hw _ (List.mem_of_getElem? (i := 0) rfl)) (hw _ (List.mem_of_getElem? (i := 1) rfl)) (hw _ (List.mem_of_getElem? (i := 2) rfl)) (hw _ (List.mem_of_getElem? (i := 3) rfl)) (by decide) (lenOf pd__28IZ_29Ljava_2flang_2fString_3b rfl) rfl rfl rfl (W := 0) rfl (by decide) (by decide) (by decide) (by decide) all0 rfl ?_
      intro T120 h120 v120 X120 K120 hQ120
      obtain ⟨r120, rfl, ge_r120, f121⟩ := hQ120
      show OGo _ _ _ _ T120 (mkF m 55 #[.val (.int pt), .val (.int pi), .val (.int pn), .val (.int pd), .val (.int pr), .val (.int pf), .val (.int (1 : Int32)), .val (.int (0 : Int32)), .val (.ref r114), .val (.ref r116), .val (.ref r118), .unset, .unset, .unset] [(.ref r120)])
      refine og_astore X120 57 #[.val (.int pt), .val (.int pi), .val (.int pn), .val (.int pd), .val (.int pr), .val (.int pf), .val (.int (1 : Int32)), .val (.int (0 : Int32)), .val (.ref r114), .val (.ref r116), .val (.ref r118), .val (.ref r120), .unset, .unset] at_55 rfl rfl rfl ?_
      refine og_iload X120 59 at_57 rfl rfl ?_
      refine og_ifN X120 62 at_59 (XT.i0_eq_f (by decide)) rfl ?_
      refine og_aconstNull X120 63 at_62 rfl ?_
      refine og_goto X120 72 at_63 (by decide) (by decide) ?_
      refine og_astore X120 74 #[.val (.int pt), .val (.int pi), .val (.int pn), .val (.int pd), .val (.int pr), .val (.int pf), .val (.int (1 : Int32)), .val (.int (0 : Int32)), .val (.ref r114), .val (.ref r116), .val (.ref r118), .val (.ref r120), .val .null, .unset] at_72 rfl rfl rfl ?_
      refine og_aload X120 76 at_74 rfl rfl rfl ?_
      refine og_aload X120 78 at_76 rfl rfl rfl ?_
      refine og_aload X120 80 at_78 rfl rfl rfl ?_
      refine og_aload X120 82 at_80 rfl rfl rfl ?_
      refine og_aload X120 84 at_82 rfl rfl rfl ?_
      refine own_stat X120 87 (argsL := [(.ref r114), (.ref r116), (.ref r118), (.ref r120), .null]) (rest := []) at_84 (rm8 l Z a0 hw n0 h120 hWd [] X120.old (.ref r114) (.ref r116) (.ref r118) (.ref r120) .null rfl rfl rfl rfl rfl ) (hw _ (List.mem_of_getElem? (i := 37) rfl)) (hw _ (List.mem_of_getElem? (i := 38) rfl)) (hw _ (List.mem_of_getElem? (i := 39) rfl)) (hw _ (List.mem_of_getElem? (i := 40) rfl)) (by decide) (lenOf pd__28Ljava_2flang_2fString_3bLjava_2flang_2fString_3bLjava_2flang_2fString_3bLjava_2flang_2fString_3bLjava_2flang_2fString_3b_29Lcom_2fexample_2froleward_2froleward_2fmodel_2fRole_3b rfl) rfl rfl rfl (W := 0) rfl (by decide) (by decide) (by decide) (by decide) all0 rfl ?_
      intro T122 h122 v122 X122 K122 hQ122
      obtain ⟨r122, rfl, ge_r122, f123, f124, f125, f126, f127, f128, f129, f130⟩ := hQ122
      show OGo _ _ _ _ T122 (mkF m 87 #[.val (.int pt), .val (.int pi), .val (.int pn), .val (.int pd), .val (.int pr), .val (.int pf), .val (.int (1 : Int32)), .val (.int (0 : Int32)), .val (.ref r114), .val (.ref r116), .val (.ref r118), .val (.ref r120), .val .null, .unset] [(.ref r122)])
      refine og_astore X122 89 #[.val (.int pt), .val (.int pi), .val (.int pn), .val (.int pd), .val (.int pr), .val (.int pf), .val (.int (1 : Int32)), .val (.int (0 : Int32)), .val (.ref r114), .val (.ref r116), .val (.ref r118), .val (.ref r120), .val .null, .val (.ref r122)] at_87 rfl rfl rfl ?_
      refine og_aload X122 91 at_89 rfl rfl rfl ?_
      refine own_virt X122 94 (a := r122) (argsL := []) (rest := []) at_91 f123 (fun _ hZ => notFace_of_selects (args := #[]) (mvT hZ (hw _ (List.mem_of_getElem? (i := 72) rfl)))) (rm11 l Z a0 hw n0 h122 hWd [] X122.old r122 (.ref r116) f124 rfl ) (hw _ (List.mem_of_getElem? (i := 69) rfl)) (hw _ (List.mem_of_getElem? (i := 70) rfl)) (hw _ (List.mem_of_getElem? (i := 72) rfl)) (hw _ (List.mem_of_getElem? (i := 71) rfl)) (hw _ (List.mem_of_getElem? (i := 39) rfl)) (hw _ (List.mem_of_getElem? (i := 73) rfl)) (by decide) (lenOf pd__28_29Ljava_2flang_2fString_3b rfl) rfl rfl rfl (W := 0) rfl (by decide) (by decide) (by decide) (by decide) all0 rfl ?_
      intro T131 h131 v131 X131 K131 hQ131
      obtain rfl := hQ131
      show OGo _ _ _ _ T131 (mkF m 94 #[.val (.int pt), .val (.int pi), .val (.int pn), .val (.int pd), .val (.int pr), .val (.int pf), .val (.int (1 : Int32)), .val (.int (0 : Int32)), .val (.ref r114), .val (.ref r116), .val (.ref r118), .val (.ref r120), .val .null, .val (.ref r122)] [(.ref r116)])
      refine og_aload X131 96 at_94 rfl rfl rfl ?_
      refine og_acmpN X131 99 at_96 rfl rfl (XT.aa_ne_f rfl) rfl ?_
      refine og_aload X131 101 at_99 rfl rfl rfl ?_
      have f132 := f123.keep K131
      have f133 := f125.keep K131 nin0
      refine own_virt X131 104 (a := r122) (argsL := []) (rest := []) at_101 f132 (fun _ hZ => notFace_of_selects (args := #[]) (mvT hZ (hw _ (List.mem_of_getElem? (i := 77) rfl)))) (rm12 l Z a0 hw n0 h131 hWd [] X131.old r122 (.ref r118) f133 rfl ) (hw _ (List.mem_of_getElem? (i := 74) rfl)) (hw _ (List.mem_of_getElem? (i := 75) rfl)) (hw _ (List.mem_of_getElem? (i := 77) rfl)) (hw _ (List.mem_of_getElem? (i := 76) rfl)) (hw _ (List.mem_of_getElem? (i := 39) rfl)) (hw _ (List.mem_of_getElem? (i := 78) rfl)) (by decide) (lenOf pd__28_29Ljava_2flang_2fString_3b rfl) rfl rfl rfl (W := 0) rfl (by decide) (by decide) (by decide) (by decide) all0 rfl ?_
      intro T134 h134 v134 X134 K134 hQ134
      obtain rfl := hQ134
      show OGo _ _ _ _ T134 (mkF m 104 #[.val (.int pt), .val (.int pi), .val (.int pn), .val (.int pd), .val (.int pr), .val (.int pf), .val (.int (1 : Int32)), .val (.int (0 : Int32)), .val (.ref r114), .val (.ref r116), .val (.ref r118), .val (.ref r120), .val .null, .val (.ref r122)] [(.ref r118)])
      refine og_aload X134 106 at_104 rfl rfl rfl ?_
      refine og_acmpN X134 109 at_106 rfl rfl (XT.aa_ne_f rfl) rfl ?_
      refine og_aload X134 111 at_109 rfl rfl rfl ?_
      have f135 := f132.keep K134
      have f136 := f126.keep K131 nin0
      have f137 := f136.keep K134 nin0
      refine own_virt X134 114 (a := r122) (argsL := []) (rest := []) at_111 f135 (fun _ hZ => notFace_of_selects (args := #[]) (mvT hZ (hw _ (List.mem_of_getElem? (i := 82) rfl)))) (rm13 l Z a0 hw n0 h134 hWd [] X134.old r122 (.ref r120) f137 rfl ) (hw _ (List.mem_of_getElem? (i := 79) rfl)) (hw _ (List.mem_of_getElem? (i := 80) rfl)) (hw _ (List.mem_of_getElem? (i := 82) rfl)) (hw _ (List.mem_of_getElem? (i := 81) rfl)) (hw _ (List.mem_of_getElem? (i := 39) rfl)) (hw _ (List.mem_of_getElem? (i := 83) rfl)) (by decide) (lenOf pd__28_29Ljava_2flang_2fString_3b rfl) rfl rfl rfl (W := 0) rfl (by decide) (by decide) (by decide) (by decide) all0 rfl ?_
      intro T138 h138 v138 X138 K138 hQ138
      obtain rfl := hQ138
      show OGo _ _ _ _ T138 (mkF m 114 #[.val (.int pt), .val (.int pi), .val (.int pn), .val (.int pd), .val (.int pr), .val (.int pf), .val (.int (1 : Int32)), .val (.int (0 : Int32)), .val (.ref r114), .val (.ref r116), .val (.ref r118), .val (.ref r120), .val .null, .val (.ref r122)] [(.ref r120)])
      refine og_aload X138 116 at_114 rfl rfl rfl ?_
      refine og_acmpN X138 119 at_116 rfl rfl (XT.aa_ne_f rfl) rfl ?_
      refine og_aload X138 121 at_119 rfl rfl rfl ?_
      have f139 := f135.keep K138
      have f140 := f127.keep K131 nin0
      have f141 := f140.keep K134 nin0
      have f142 := f141.keep K138 nin0
      refine own_virt X138 124 (a := r122) (argsL := []) (rest := []) at_121 f139 (fun _ hZ => notFace_of_selects (args := #[]) (mvT hZ (hw _ (List.mem_of_getElem? (i := 87) rfl)))) (rm14 l Z a0 hw n0 h138 hWd [] X138.old r122 (own_stv Z "com/example/roleward/roleward/model/RoleScope" "TENANT" "Lcom/example/roleward/roleward/model/RoleScope;") f142 hWd.2.2.2 ) (hw _ (List.mem_of_getElem? (i := 84) rfl)) (hw _ (List.mem_of_getElem? (i := 85) rfl)) (hw _ (List.mem_of_getElem? (i := 87) rfl)) (hw _ (List.mem_of_getElem? (i := 86) rfl)) (hw _ (List.mem_of_getElem? (i := 39) rfl)) (hw _ (List.mem_of_getElem? (i := 88) rfl)) (by decide) (lenOf pd__28_29Lcom_2fexample_2froleward_2froleward_2fmodel_2fRoleScope_3b rfl) rfl rfl rfl (W := 0) rfl (by decide) (by decide) (by decide) (by decide) all0 rfl ?_
      intro T143 h143 v143 X143 K143 hQ143
      obtain rfl := hQ143
      show OGo _ _ _ _ T143 (mkF m 124 #[.val (.int pt), .val (.int pi), .val (.int pn), .val (.int pd), .val (.int pr), .val (.int pf), .val (.int (1 : Int32)), .val (.int (0 : Int32)), .val (.ref r114), .val (.ref r116), .val (.ref r118), .val (.ref r120), .val .null, .val (.ref r122)] [(own_stv Z "com/example/roleward/roleward/model/RoleScope" "TENANT" "Lcom/example/roleward/roleward/model/RoleScope;")])
      refine own_getS X143 127 at_124 (host := "") (Or.inl (hw _ (List.mem_of_getElem? (i := 89) rfl))) Via.refl hWd.2.2.1 rfl ?_
      intro T144 X145
      refine og_acmpN X145 130 at_127 hWd.2.2.2 hWd.2.2.2 (XT.aa_ne_f rfl) rfl ?_
      refine og_aload X145 132 at_130 rfl rfl rfl ?_
      have f146 := f139.keep K143
      have f147 := f128.keep K131 nin0
      have f148 := f147.keep K134 nin0
      have f149 := f148.keep K138 nin0
      have f150 := f149.keep K143 nin0
      refine own_virt X145 135 (a := r122) (argsL := []) (rest := []) at_132 f146 (fun _ hZ => notFace_of_selects (args := #[]) (mvT hZ (hw _ (List.mem_of_getElem? (i := 93) rfl)))) (rm15 l Z a0 hw n0 h143 hWd [] X145.old r122 (.ref r114) f150 rfl ) (hw _ (List.mem_of_getElem? (i := 90) rfl)) (hw _ (List.mem_of_getElem? (i := 91) rfl)) (hw _ (List.mem_of_getElem? (i := 93) rfl)) (hw _ (List.mem_of_getElem? (i := 92) rfl)) (hw _ (List.mem_of_getElem? (i := 39) rfl)) (hw _ (List.mem_of_getElem? (i := 94) rfl)) (by decide) (lenOf pd__28_29Ljava_2flang_2fString_3b rfl) rfl rfl rfl (W := 0) rfl (by decide) (by decide) (by decide) (by decide) all0 rfl ?_
      intro T151 h151 v151 X151 K151 hQ151
      obtain rfl := hQ151
      show OGo _ _ _ _ T151 (mkF m 135 #[.val (.int pt), .val (.int pi), .val (.int pn), .val (.int pd), .val (.int pr), .val (.int pf), .val (.int (1 : Int32)), .val (.int (0 : Int32)), .val (.ref r114), .val (.ref r116), .val (.ref r118), .val (.ref r120), .val .null, .val (.ref r122)] [(.ref r114)])
      refine og_aload X151 137 at_135 rfl rfl rfl ?_
      refine og_acmpN X151 140 at_137 rfl rfl (XT.aa_ne_f rfl) rfl ?_
      refine og_aload X151 142 at_140 rfl rfl rfl ?_
      have f152 := f146.keep K151
      have f153 := f129.keep K131 nin0
      have f154 := f153.keep K134 nin0
      have f155 := f154.keep K138 nin0
      have f156 := f155.keep K143 nin0
      have f157 := f156.keep K151 nin0
      refine own_virt X151 145 (a := r122) (argsL := []) (rest := []) at_142 f152 (fun _ hZ => notFace_of_selects (args := #[]) (mvT hZ (hw _ (List.mem_of_getElem? (i := 98) rfl)))) (rm16 l Z a0 hw n0 h151 hWd [] X151.old r122 .null f157 rfl ) (hw _ (List.mem_of_getElem? (i := 95) rfl)) (hw _ (List.mem_of_getElem? (i := 96) rfl)) (hw _ (List.mem_of_getElem? (i := 98) rfl)) (hw _ (List.mem_of_getElem? (i := 97) rfl)) (hw _ (List.mem_of_getElem? (i := 39) rfl)) (hw _ (List.mem_of_getElem? (i := 99) rfl)) (by decide) (lenOf pd__28_29Ljava_2flang_2fString_3b rfl) rfl rfl rfl (W := 0) rfl (by decide) (by decide) (by decide) (by decide) all0 rfl ?_
      intro T158 h158 v158 X158 K158 hQ158
      obtain rfl := hQ158
      show OGo _ _ _ _ T158 (mkF m 145 #[.val (.int pt), .val (.int pi), .val (.int pn), .val (.int pd), .val (.int pr), .val (.int pf), .val (.int (1 : Int32)), .val (.int (0 : Int32)), .val (.ref r114), .val (.ref r116), .val (.ref r118), .val (.ref r120), .val .null, .val (.ref r122)] [.null])
      refine og_nonnullN X158 148 at_145 rfl ?_
      refine og_aload X158 150 at_148 rfl rfl rfl ?_
      have f159 := f152.keep K158
      have f160 := f130.keep K131 nin0
      have f161 := f160.keep K134 nin0
      have f162 := f161.keep K138 nin0
      have f163 := f162.keep K143 nin0
      have f164 := f163.keep K151 nin0
      have f165 := f164.keep K158 nin0
      refine own_virt X158 153 (a := r122) (argsL := []) (rest := []) at_150 f159 (fun _ hZ => notFace_of_selects (args := #[]) (mvT hZ (hw _ (List.mem_of_getElem? (i := 103) rfl)))) (rm17 l Z a0 hw n0 h158 hWd [] X158.old r122 .null f165 rfl ) (hw _ (List.mem_of_getElem? (i := 100) rfl)) (hw _ (List.mem_of_getElem? (i := 101) rfl)) (hw _ (List.mem_of_getElem? (i := 103) rfl)) (hw _ (List.mem_of_getElem? (i := 102) rfl)) (hw _ (List.mem_of_getElem? (i := 39) rfl)) (hw _ (List.mem_of_getElem? (i := 104) rfl)) (by decide) (lenOf pd__28_29Ljava_2flang_2fString_3b rfl) rfl rfl rfl (W := 0) rfl (by decide) (by decide) (by decide) (by decide) all0 rfl ?_
      intro T166 h166 v166 X166 K166 hQ166
      obtain rfl := hQ166
      show OGo _ _ _ _ T166 (mkF m 153 #[.val (.int pt), .val (.int pi), .val (.int pn), .val (.int pd), .val (.int pr), .val (.int pf), .val (.int (1 : Int32)), .val (.int (0 : Int32)), .val (.ref r114), .val (.ref r116), .val (.ref r118), .val (.ref r120), .val .null, .val (.ref r122)] [.null])
      refine og_aload X166 155 at_153 rfl rfl rfl ?_
      refine og_acmpN X166 158 at_155 rfl rfl (XT.aa_ne_f rfl) rfl ?_
      refine og_iconst X166 159 (1 : Int32) at_158 rfl rfl ?_
      refine og_goto X166 163 at_159 (by decide) (by decide) ?_
      refine own_retZ X166 at_163 hret rfl (by decide) (by decide) ?_
      exact rfl
    · -- not
      refine og_ifN X0 21 at_18 (XT.i0_eq_f hc113) rfl ?_
      refine og_iconst X0 22 (1 : Int32) at_21 rfl rfl ?_
      refine og_goto X0 26 at_22 (by decide) (by decide) ?_
      refine og_istore X0 28 #[.val (.int pt), .val (.int pi), .val (.int pn), .val (.int pd), .val (.int pr), .val (.int pf), .val (.int (1 : Int32)), .val (.int (1 : Int32)), .unset, .unset, .unset, .unset, .unset, .unset] at_26 rfl rfl ?_
      refine og_iloadN X0 29 at_28 rfl rfl ?_
      refine og_iconst X0 30 (0 : Int32) at_29 rfl rfl ?_
      refine own_stat X0 33 (argsL := [(.int pt), (.int (0 : Int32))]) (rest := []) at_30 (rm1 l Z a0 hw n0 h0 hWd [] X0.old pt (0 : Int32)  ) (hw _ (List.mem_of_getElem? (i := 0) rfl)) (hw _ (List.mem_of_getElem? (i := 1) rfl)) (hw _ (List.mem_of_getElem? (i := 2) rfl)) (hw _ (List.mem_of_getElem? (i := 3) rfl)) (by decide) (lenOf pd__28IZ_29Ljava_2flang_2fString_3b rfl) rfl rfl rfl (W := 0) rfl (by decide) (by decide) (by decide) (by decide) all0 rfl ?_
      intro T167 h167 v167 X167 K167 hQ167
      obtain ⟨r167, rfl, ge_r167, f168⟩ := hQ167
      show OGo _ _ _ _ T167 (mkF m 33 #[.val (.int pt), .val (.int pi), .val (.int pn), .val (.int pd), .val (.int pr), .val (.int pf), .val (.int (1 : Int32)), .val (.int (1 : Int32)), .unset, .unset, .unset, .unset, .unset, .unset] [(.ref r167)])
      refine og_astore X167 35 #[.val (.int pt), .val (.int pi), .val (.int pn), .val (.int pd), .val (.int pr), .val (.int pf), .val (.int (1 : Int32)), .val (.int (1 : Int32)), .val (.ref r167), .unset, .unset, .unset, .unset, .unset] at_33 rfl rfl rfl ?_
      refine og_iloadN X167 36 at_35 rfl rfl ?_
      refine og_iconst X167 37 (0 : Int32) at_36 rfl rfl ?_
      refine own_stat X167 40 (argsL := [(.int pi), (.int (0 : Int32))]) (rest := []) at_37 (rm1 l Z a0 hw n0 h167 hWd [] X167.old pi (0 : Int32)  ) (hw _ (List.mem_of_getElem? (i := 0) rfl)) (hw _ (List.mem_of_getElem? (i := 1) rfl)) (hw _ (List.mem_of_getElem? (i := 2) rfl)) (hw _ (List.mem_of_getElem? (i := 3) rfl)) (by decide) (lenOf pd__28IZ_29Ljava_2flang_2fString_3b rfl) rfl rfl rfl (W := 0) rfl (by decide) (by decide) (by decide) (by decide) all0 rfl ?_
      intro T169 h169 v169 X169 K169 hQ169
      obtain ⟨r169, rfl, ge_r169, f170⟩ := hQ169
      show OGo _ _ _ _ T169 (mkF m 40 #[.val (.int pt), .val (.int pi), .val (.int pn), .val (.int pd), .val (.int pr), .val (.int pf), .val (.int (1 : Int32)), .val (.int (1 : Int32)), .val (.ref r167), .unset, .unset, .unset, .unset, .unset] [(.ref r169)])
      refine og_astore X169 42 #[.val (.int pt), .val (.int pi), .val (.int pn), .val (.int pd), .val (.int pr), .val (.int pf), .val (.int (1 : Int32)), .val (.int (1 : Int32)), .val (.ref r167), .val (.ref r169), .unset, .unset, .unset, .unset] at_40 rfl rfl rfl ?_
      refine og_iloadN X169 43 at_42 rfl rfl ?_
      refine og_iconst X169 44 (0 : Int32) at_43 rfl rfl ?_
      refine own_stat X169 47 (argsL := [(.int pn), (.int (0 : Int32))]) (rest := []) at_44 (rm1 l Z a0 hw n0 h169 hWd [] X169.old pn (0 : Int32)  ) (hw _ (List.mem_of_getElem? (i := 0) rfl)) (hw _ (List.mem_of_getElem? (i := 1) rfl)) (hw _ (List.mem_of_getElem? (i := 2) rfl)) (hw _ (List.mem_of_getElem? (i := 3) rfl)) (by decide) (lenOf pd__28IZ_29Ljava_2flang_2fString_3b rfl) rfl rfl rfl (W := 0) rfl (by decide) (by decide) (by decide) (by decide) all0 rfl ?_
      intro T171 h171 v171 X171 K171 hQ171
      obtain ⟨r171, rfl, ge_r171, f172⟩ := hQ171
      show OGo _ _ _ _ T171 (mkF m 47 #[.val (.int pt), .val (.int pi), .val (.int pn), .val (.int pd), .val (.int pr), .val (.int pf), .val (.int (1 : Int32)), .val (.int (1 : Int32)), .val (.ref r167), .val (.ref r169), .unset, .unset, .unset, .unset] [(.ref r171)])
      refine og_astore X171 49 #[.val (.int pt), .val (.int pi), .val (.int pn), .val (.int pd), .val (.int pr), .val (.int pf), .val (.int (1 : Int32)), .val (.int (1 : Int32)), .val (.ref r167), .val (.ref r169), .val (.ref r171), .unset, .unset, .unset] at_47 rfl rfl rfl ?_
      refine og_iloadN X171 50 at_49 rfl rfl ?_
      refine og_iload X171 52 at_50 rfl rfl ?_
      refine own_stat X171 55 (argsL := [(.int pd), (.int (1 : Int32))]) (rest := []) at_52 (rm1 l Z a0 hw n0 h171 hWd [] X171.old pd (1 : Int32)  ) (hw _ (List.mem_of_getElem? (i := 0) rfl)) (hw _ (List.mem_of_getElem? (i := 1) rfl)) (hw _ (List.mem_of_getElem? (i := 2) rfl)) (hw _ (List.mem_of_getElem? (i := 3) rfl)) (by decide) (lenOf pd__28IZ_29Ljava_2flang_2fString_3b rfl) rfl rfl rfl (W := 0) rfl (by decide) (by decide) (by decide) (by decide) all0 rfl ?_
      intro T173 h173 v173 X173 K173 hQ173
      obtain ⟨r173, rfl, ge_r173, f174⟩ := hQ173
      show OGo _ _ _ _ T173 (mkF m 55 #[.val (.int pt), .val (.int pi), .val (.int pn), .val (.int pd), .val (.int pr), .val (.int pf), .val (.int (1 : Int32)), .val (.int (1 : Int32)), .val (.ref r167), .val (.ref r169), .val (.ref r171), .unset, .unset, .unset] [(.ref r173)])
      refine og_astore X173 57 #[.val (.int pt), .val (.int pi), .val (.int pn), .val (.int pd), .val (.int pr), .val (.int pf), .val (.int (1 : Int32)), .val (.int (1 : Int32)), .val (.ref r167), .val (.ref r169), .val (.ref r171), .val (.ref r173), .unset, .unset] at_55 rfl rfl rfl ?_
      refine og_iload X173 59 at_57 rfl rfl ?_
      refine og_ifN X173 62 at_59 (XT.i0_eq_f (by decide)) rfl ?_
      refine og_aconstNull X173 63 at_62 rfl ?_
      refine og_goto X173 72 at_63 (by decide) (by decide) ?_
      refine og_astore X173 74 #[.val (.int pt), .val (.int pi), .val (.int pn), .val (.int pd), .val (.int pr), .val (.int pf), .val (.int (1 : Int32)), .val (.int (1 : Int32)), .val (.ref r167), .val (.ref r169), .val (.ref r171), .val (.ref r173), .val .null, .unset] at_72 rfl rfl rfl ?_
      refine og_aload X173 76 at_74 rfl rfl rfl ?_
      refine og_aload X173 78 at_76 rfl rfl rfl ?_
      refine og_aload X173 80 at_78 rfl rfl rfl ?_
      refine og_aload X173 82 at_80 rfl rfl rfl ?_
      refine og_aload X173 84 at_82 rfl rfl rfl ?_
      refine own_stat X173 87 (argsL := [(.ref r167), (.ref r169), (.ref r171), (.ref r173), .null]) (rest := []) at_84 (rm8 l Z a0 hw n0 h173 hWd [] X173.old (.ref r167) (.ref r169) (.ref r171) (.ref r173) .null rfl rfl rfl rfl rfl ) (hw _ (List.mem_of_getElem? (i := 37) rfl)) (hw _ (List.mem_of_getElem? (i := 38) rfl)) (hw _ (List.mem_of_getElem? (i := 39) rfl)) (hw _ (List.mem_of_getElem? (i := 40) rfl)) (by decide) (lenOf pd__28Ljava_2flang_2fString_3bLjava_2flang_2fString_3bLjava_2flang_2fString_3bLjava_2flang_2fString_3bLjava_2flang_2fString_3b_29Lcom_2fexample_2froleward_2froleward_2fmodel_2fRole_3b rfl) rfl rfl rfl (W := 0) rfl (by decide) (by decide) (by decide) (by decide) all0 rfl ?_
      intro T175 h175 v175 X175 K175 hQ175
      obtain ⟨r175, rfl, ge_r175, f176, f177, f178, f179, f180, f181, f182, f183⟩ := hQ175
      show OGo _ _ _ _ T175 (mkF m 87 #[.val (.int pt), .val (.int pi), .val (.int pn), .val (.int pd), .val (.int pr), .val (.int pf), .val (.int (1 : Int32)), .val (.int (1 : Int32)), .val (.ref r167), .val (.ref r169), .val (.ref r171), .val (.ref r173), .val .null, .unset] [(.ref r175)])
      refine og_astore X175 89 #[.val (.int pt), .val (.int pi), .val (.int pn), .val (.int pd), .val (.int pr), .val (.int pf), .val (.int (1 : Int32)), .val (.int (1 : Int32)), .val (.ref r167), .val (.ref r169), .val (.ref r171), .val (.ref r173), .val .null, .val (.ref r175)] at_87 rfl rfl rfl ?_
      refine og_aload X175 91 at_89 rfl rfl rfl ?_
      refine own_virt X175 94 (a := r175) (argsL := []) (rest := []) at_91 f176 (fun _ hZ => notFace_of_selects (args := #[]) (mvT hZ (hw _ (List.mem_of_getElem? (i := 72) rfl)))) (rm11 l Z a0 hw n0 h175 hWd [] X175.old r175 (.ref r169) f177 rfl ) (hw _ (List.mem_of_getElem? (i := 69) rfl)) (hw _ (List.mem_of_getElem? (i := 70) rfl)) (hw _ (List.mem_of_getElem? (i := 72) rfl)) (hw _ (List.mem_of_getElem? (i := 71) rfl)) (hw _ (List.mem_of_getElem? (i := 39) rfl)) (hw _ (List.mem_of_getElem? (i := 73) rfl)) (by decide) (lenOf pd__28_29Ljava_2flang_2fString_3b rfl) rfl rfl rfl (W := 0) rfl (by decide) (by decide) (by decide) (by decide) all0 rfl ?_
      intro T184 h184 v184 X184 K184 hQ184
      obtain rfl := hQ184
      show OGo _ _ _ _ T184 (mkF m 94 #[.val (.int pt), .val (.int pi), .val (.int pn), .val (.int pd), .val (.int pr), .val (.int pf), .val (.int (1 : Int32)), .val (.int (1 : Int32)), .val (.ref r167), .val (.ref r169), .val (.ref r171), .val (.ref r173), .val .null, .val (.ref r175)] [(.ref r169)])
      refine og_aload X184 96 at_94 rfl rfl rfl ?_
      refine og_acmpN X184 99 at_96 rfl rfl (XT.aa_ne_f rfl) rfl ?_
      refine og_aload X184 101 at_99 rfl rfl rfl ?_
      have f185 := f176.keep K184
      have f186 := f178.keep K184 nin0
      refine own_virt X184 104 (a := r175) (argsL := []) (rest := []) at_101 f185 (fun _ hZ => notFace_of_selects (args := #[]) (mvT hZ (hw _ (List.mem_of_getElem? (i := 77) rfl)))) (rm12 l Z a0 hw n0 h184 hWd [] X184.old r175 (.ref r171) f186 rfl ) (hw _ (List.mem_of_getElem? (i := 74) rfl)) (hw _ (List.mem_of_getElem? (i := 75) rfl)) (hw _ (List.mem_of_getElem? (i := 77) rfl)) (hw _ (List.mem_of_getElem? (i := 76) rfl)) (hw _ (List.mem_of_getElem? (i := 39) rfl)) (hw _ (List.mem_of_getElem? (i := 78) rfl)) (by decide) (lenOf pd__28_29Ljava_2flang_2fString_3b rfl) rfl rfl rfl (W := 0) rfl (by decide) (by decide) (by decide) (by decide) all0 rfl ?_
      intro T187 h187 v187 X187 K187 hQ187
      obtain rfl := hQ187
      show OGo _ _ _ _ T187 (mkF m 104 #[.val (.int pt), .val (.int pi), .val (.int pn), .val (.int pd), .val (.int pr), .val (.int pf), .val (.int (1 : Int32)), .val (.int (1 : Int32)), .val (.ref r167), .val (.ref r169), .val (.ref r171), .val (.ref r173), .val .null, .val (.ref r175)] [(.ref r171)])
      refine og_aload X187 106 at_104 rfl rfl rfl ?_
      refine og_acmpN X187 109 at_106 rfl rfl (XT.aa_ne_f rfl) rfl ?_
      refine og_aload X187 111 at_109 rfl rfl rfl ?_
      have f188 := f185.keep K187
      have f189 := f179.keep K184 nin0
      have f190 := f189.keep K187 nin0
      refine own_virt X187 114 (a := r175) (argsL := []) (rest := []) at_111 f188 (fun _ hZ => notFace_of_selects (args := #[]) (mvT hZ (hw _ (List.mem_of_getElem? (i := 82) rfl)))) (rm13 l Z a0 hw n0 h187 hWd [] X187.old r175 (.ref r173) f190 rfl ) (hw _ (List.mem_of_getElem? (i := 79) rfl)) (hw _ (List.mem_of_getElem? (i := 80) rfl)) (hw _ (List.mem_of_getElem? (i := 82) rfl)) (hw _ (List.mem_of_getElem? (i := 81) rfl)) (hw _ (List.mem_of_getElem? (i := 39) rfl)) (hw _ (List.mem_of_getElem? (i := 83) rfl)) (by decide) (lenOf pd__28_29Ljava_2flang_2fString_3b rfl) rfl rfl rfl (W := 0) rfl (by decide) (by decide) (by decide) (by decide) all0 rfl ?_
      intro T191 h191 v191 X191 K191 hQ191
      obtain rfl := hQ191
      show OGo _ _ _ _ T191 (mkF m 114 #[.val (.int pt), .val (.int pi), .val (.int pn), .val (.int pd), .val (.int pr), .val (.int pf), .val (.int (1 : Int32)), .val (.int (1 : Int32)), .val (.ref r167), .val (.ref r169), .val (.ref r171), .val (.ref r173), .val .null, .val (.ref r175)] [(.ref r173)])
      refine og_aload X191 116 at_114 rfl rfl rfl ?_
      refine og_acmpN X191 119 at_116 rfl rfl (XT.aa_ne_f rfl) rfl ?_
      refine og_aload X191 121 at_119 rfl rfl rfl ?_
      have f192 := f188.keep K191
      have f193 := f180.keep K184 nin0
      have f194 := f193.keep K187 nin0
      have f195 := f194.keep K191 nin0
      refine own_virt X191 124 (a := r175) (argsL := []) (rest := []) at_121 f192 (fun _ hZ => notFace_of_selects (args := #[]) (mvT hZ (hw _ (List.mem_of_getElem? (i := 87) rfl)))) (rm14 l Z a0 hw n0 h191 hWd [] X191.old r175 (own_stv Z "com/example/roleward/roleward/model/RoleScope" "TENANT" "Lcom/example/roleward/roleward/model/RoleScope;") f195 hWd.2.2.2 ) (hw _ (List.mem_of_getElem? (i := 84) rfl)) (hw _ (List.mem_of_getElem? (i := 85) rfl)) (hw _ (List.mem_of_getElem? (i := 87) rfl)) (hw _ (List.mem_of_getElem? (i := 86) rfl)) (hw _ (List.mem_of_getElem? (i := 39) rfl)) (hw _ (List.mem_of_getElem? (i := 88) rfl)) (by decide) (lenOf pd__28_29Lcom_2fexample_2froleward_2froleward_2fmodel_2fRoleScope_3b rfl) rfl rfl rfl (W := 0) rfl (by decide) (by decide) (by decide) (by decide) all0 rfl ?_
      intro T196 h196 v196 X196 K196 hQ196
      obtain rfl := hQ196
      show OGo _ _ _ _ T196 (mkF m 124 #[.val (.int pt), .val (.int pi), .val (.int pn), .val (.int pd), .val (.int pr), .val (.int pf), .val (.int (1 : Int32)), .val (.int (1 : Int32)), .val (.ref r167), .val (.ref r169), .val (.ref r171), .val (.ref r173), .val .null, .val (.ref r175)] [(own_stv Z "com/example/roleward/roleward/model/RoleScope" "TENANT" "Lcom/example/roleward/roleward/model/RoleScope;")])
      refine own_getS X196 127 at_124 (host := "") (Or.inl (hw _ (List.mem_of_getElem? (i := 89) rfl))) Via.refl hWd.2.2.1 rfl ?_
      intro T197 X198
      refine og_acmpN X198 130 at_127 hWd.2.2.2 hWd.2.2.2 (XT.aa_ne_f rfl) rfl ?_
      refine og_aload X198 132 at_130 rfl rfl rfl ?_
      have f199 := f192.keep K196
      have f200 := f181.keep K184 nin0
      have f201 := f200.keep K187 nin0
      have f202 := f201.keep K191 nin0
      have f203 := f202.keep K196 nin0
      refine own_virt X198 135 (a := r175) (argsL := []) (rest := []) at_132 f199 (fun _ hZ => notFace_of_selects (args := #[]) (mvT hZ (hw _ (List.mem_of_getElem? (i := 93) rfl)))) (rm15 l Z a0 hw n0 h196 hWd [] X198.old r175 (.ref r167) f203 rfl ) (hw _ (List.mem_of_getElem? (i := 90) rfl)) (hw _ (List.mem_of_getElem? (i := 91) rfl)) (hw _ (List.mem_of_getElem? (i := 93) rfl)) (hw _ (List.mem_of_getElem? (i := 92) rfl)) (hw _ (List.mem_of_getElem? (i := 39) rfl)) (hw _ (List.mem_of_getElem? (i := 94) rfl)) (by decide) (lenOf pd__28_29Ljava_2flang_2fString_3b rfl) rfl rfl rfl (W := 0) rfl (by decide) (by decide) (by decide) (by decide) all0 rfl ?_
      intro T204 h204 v204 X204 K204 hQ204
      obtain rfl := hQ204
      show OGo _ _ _ _ T204 (mkF m 135 #[.val (.int pt), .val (.int pi), .val (.int pn), .val (.int pd), .val (.int pr), .val (.int pf), .val (.int (1 : Int32)), .val (.int (1 : Int32)), .val (.ref r167), .val (.ref r169), .val (.ref r171), .val (.ref r173), .val .null, .val (.ref r175)] [(.ref r167)])
      refine og_aload X204 137 at_135 rfl rfl rfl ?_
      refine og_acmpN X204 140 at_137 rfl rfl (XT.aa_ne_f rfl) rfl ?_
      refine og_aload X204 142 at_140 rfl rfl rfl ?_
      have f205 := f199.keep K204
      have f206 := f182.keep K184 nin0
      have f207 := f206.keep K187 nin0
      have f208 := f207.keep K191 nin0
      have f209 := f208.keep K196 nin0
      have f210 := f209.keep K204 nin0
      refine own_virt X204 145 (a := r175) (argsL := []) (rest := []) at_142 f205 (fun _ hZ => notFace_of_selects (args := #[]) (mvT hZ (hw _ (List.mem_of_getElem? (i := 98) rfl)))) (rm16 l Z a0 hw n0 h204 hWd [] X204.old r175 .null f210 rfl ) (hw _ (List.mem_of_getElem? (i := 95) rfl)) (hw _ (List.mem_of_getElem? (i := 96) rfl)) (hw _ (List.mem_of_getElem? (i := 98) rfl)) (hw _ (List.mem_of_getElem? (i := 97) rfl)) (hw _ (List.mem_of_getElem? (i := 39) rfl)) (hw _ (List.mem_of_getElem? (i := 99) rfl)) (by decide) (lenOf pd__28_29Ljava_2flang_2fString_3b rfl) rfl rfl rfl (W := 0) rfl (by decide) (by decide) (by decide) (by decide) all0 rfl ?_
      intro T211 h211 v211 X211 K211 hQ211
      obtain rfl := hQ211
      show OGo _ _ _ _ T211 (mkF m 145 #[.val (.int pt), .val (.int pi), .val (.int pn), .val (.int pd), .val (.int pr), .val (.int pf), .val (.int (1 : Int32)), .val (.int (1 : Int32)), .val (.ref r167), .val (.ref r169), .val (.ref r171), .val (.ref r173), .val .null, .val (.ref r175)] [.null])
      refine og_nonnullN X211 148 at_145 rfl ?_
      refine og_aload X211 150 at_148 rfl rfl rfl ?_
      have f212 := f205.keep K211
      have f213 := f183.keep K184 nin0
      have f214 := f213.keep K187 nin0
      have f215 := f214.keep K191 nin0
      have f216 := f215.keep K196 nin0
      have f217 := f216.keep K204 nin0
      have f218 := f217.keep K211 nin0
      refine own_virt X211 153 (a := r175) (argsL := []) (rest := []) at_150 f212 (fun _ hZ => notFace_of_selects (args := #[]) (mvT hZ (hw _ (List.mem_of_getElem? (i := 103) rfl)))) (rm17 l Z a0 hw n0 h211 hWd [] X211.old r175 .null f218 rfl ) (hw _ (List.mem_of_getElem? (i := 100) rfl)) (hw _ (List.mem_of_getElem? (i := 101) rfl)) (hw _ (List.mem_of_getElem? (i := 103) rfl)) (hw _ (List.mem_of_getElem? (i := 102) rfl)) (hw _ (List.mem_of_getElem? (i := 39) rfl)) (hw _ (List.mem_of_getElem? (i := 104) rfl)) (by decide) (lenOf pd__28_29Ljava_2flang_2fString_3b rfl) rfl rfl rfl (W := 0) rfl (by decide) (by decide) (by decide) (by decide) all0 rfl ?_
      intro T219 h219 v219 X219 K219 hQ219
      obtain rfl := hQ219
      show OGo _ _ _ _ T219 (mkF m 153 #[.val (.int pt), .val (.int pi), .val (.int pn), .val (.int pd), .val (.int pr), .val (.int pf), .val (.int (1 : Int32)), .val (.int (1 : Int32)), .val (.ref r167), .val (.ref r169), .val (.ref r171), .val (.ref r173), .val .null, .val (.ref r175)] [.null])
      refine og_aload X219 155 at_153 rfl rfl rfl ?_
      refine og_acmpN X219 158 at_155 rfl rfl (XT.aa_ne_f rfl) rfl ?_
      refine og_iconst X219 159 (1 : Int32) at_158 rfl rfl ?_
      refine og_goto X219 163 at_159 (by decide) (by decide) ?_
      refine own_retZ X219 at_163 hret rfl (by decide) (by decide) ?_
      exact rfl
theorem own_held {s : State} {own : String} {i : Nat} (h : constHeld s own i) : Jvm.Lit.constHeld s own i := h
set_option maxRecDepth 65536 in
set_option maxHeartbeats 40000000 in
theorem comes_1 {Post : Tables → Env → Array Value → State → Outcome → State → Prop} (hpost : ∀ tb e args s v u, (limb_1_1.after args s (.returned v) u = true ∧ limb_1_2.after args s (.returned v) u = true ∧ True) → Jvm.ReturnedEndW s (.returned v) u (Jvm.fieldLocs frame_1_writes args s ++ Jvm.arrayLocs frame_1_arrays args s ++ Jvm.staticLocs frame_1_statics s) 48 1216 → Post tb e args s (.returned v) u) :
    ArmFor flags0 classFile x code maxLocals ret World_1 tables_1 room_1 Calls_1 rest_1 Pre_1 Post := by
  intro l hfl _ _ p e ha hc hk s m args below hf hA hF happ hP
  obtain ⟨hcalls, hrest, hpre⟩ := hP
  obtain ⟨-, -, -, hnamed, -, -, -, hat⟩ := (Spec.applies_iff hf).mp happ
  obtain ⟨hg, hn⟩ := and_e (Cond.before_iff.mp (show (Jvm.Cond.and given_1 narrow_1).before args s = true from hpre))
  obtain ⟨hcount, g0⟩ := and_e hg
  obtain ⟨i0, g1⟩ := and_e g0
  obtain ⟨i1, g2⟩ := and_e g1
  obtain ⟨i2, g3⟩ := and_e g2
  obtain ⟨i3, g4⟩ := and_e g3
  obtain ⟨i4, g5⟩ := and_e g4
  have i5 := g5
  obtain ⟨w0, w1, w2, w3, w4, w5, rfl⟩ : ∃ w0 w1 w2 w3 w4 w5 : Value, args = #[w0, w1, w2, w3, w4, w5] := by
    have hs : args.size = 6 := by simpa [Cond.value, given_1] using hcount
    obtain ⟨L⟩ := args
    match L, hs with
    | [w0, w1, w2, w3, w4, w5], _ => exact ⟨w0, w1, w2, w3, w4, w5, rfl⟩
  have hw := fun d (hd : d ∈ tables_1) => atoms_spec (ws := Jvm.Cond.code x code maxLocals ret :: tables_1) hat d (List.mem_cons_of_mem _ hd)
  obtain ⟨hsets, hown0⟩ := atoms_of _ (rest_1_c_eq ▸ (show rest_1_c.before _ s = true from hrest))
  obtain ⟨x0, e0⟩ := is_v i0
  obtain rfl : w0 = (.int x0) := Option.some.inj e0
  obtain ⟨x1, e1⟩ := is_v i1
  obtain rfl : w1 = (.int x1) := Option.some.inj e1
  obtain ⟨x2, e2⟩ := is_v i2
  obtain rfl : w2 = (.int x2) := Option.some.inj e2
  obtain ⟨x3, e3⟩ := is_v i3
  obtain rfl : w3 = (.int x3) := Option.some.inj e3
  obtain ⟨x4, e4⟩ := is_v i4
  obtain rfl : w4 = (.int x4) := Option.some.inj e4
  obtain ⟨x5, e5⟩ := is_v i5
  obtain rfl : w5 = (.int x5) := Option.some.inj e5
  have hEL : EW s #[(.int x0), (.int x1), (.int x2), (.int x3), (.int x4), (.int x5)] own_EL := (EW.cons (hw _ (List.mem_of_getElem? (i := 34) rfl)) (by decide) EW.nil)
  obtain ⟨r0, f0⟩ := is_v (Cond.before_iff.mp (hsets _ (List.mem_of_getElem? (i := 1) rfl)))
  have t0 : own_sti s "java/lang/String" "COMPACT_STRINGS" "Z" = r0 := own_sti_of f0
  have S0 := Sta.start f0 (Or.inl (hsets _ (List.mem_of_getElem? (i := 0) rfl)))
  have c0 : ¬ (r0 = (0 : Int32)) := gotF (Cond.eq_ints f0 (Term.int_eval (0))) (not_v (Cond.before_iff.mp (hsets _ (List.mem_of_getElem? (i := 2) rfl))))
  obtain ⟨r1, f1⟩ := exa_v hn
  have t1 : own_stv s "com/example/roleward/roleward/model/RoleScope" "TENANT" "Lcom/example/roleward/roleward/model/RoleScope;" = (.ref r1) := own_stv_of f1
  have S1 := Sta.start f1 (Or.inr ⟨(hw _ (List.mem_of_getElem? (i := 44) rfl)), (hw _ (List.mem_of_getElem? (i := 45) rfl))⟩)
  have hWd : OWorld s #[(.int x0), (.int x1), (.int x2), (.int x3), (.int x4), (.int x5)] := ⟨hEL, ⟨by rw [t0]; exact S0, by rw [t0]; exact c0⟩, ⟨by rw [t1]; exact S1, by rw [t1]; rfl⟩⟩
  have hCH : CHv s own_EL s.vm s.heap := CHv.start hEL (fun p hp => own_held (hcalls.1 p hp)) (by have := (hsets _ (List.mem_of_getElem? (i := 2) rfl)); exact this) (hw _ (List.mem_of_getElem? (i := 23) rfl)) (hw _ (List.mem_of_getElem? (i := 6) rfl))
  obtain ⟨n, o, h1, h2, h3, v, L, rfl, ⟨N, -, hQ⟩, -, hqW, hqN⟩ := rm0 l s _ hw s.heap.size s.heap hWd tables_1 (Old.start s) x0 x1 x2 x3 x4 x5 p e ha hc hk s m _ below hf ((Spec.applies_iff_loose hf).mp happ).1 ⟨rfl, State.Warmed39.refl s, rfl, hCH, fun _ q => nomatch q⟩ trivial
  obtain rfl := hQ
  refine ⟨n, _, h1, h2, h3, hpost _ _ _ _ _ _ ⟨Cond.after_iff.mpr rfl, Cond.after_iff.mpr (eq_i res_at (Term.int_eval (1)) rfl), trivial⟩ ⟨hqW.1, hqW.2.1, hqW.2.2.1, (hqW.2.2.2.sift fun y hy => Or.inr (N y hy)).mono (by decide) (by decide)⟩⟩
theorem main_1_1 : Claimed_1_1 := comes_1 fun _ _ _ _ _ _ h hF => ⟨h.1, hF⟩
theorem main_1_2 : Claimed_1_2 := comes_1 fun _ _ _ _ _ _ h hF => ⟨h.2.1, hF⟩
end Jvm.Pilot.@@N@@
namespace Jvm.Pilot.@@N@@
open Jvm Jvm.ClassFile Sem Op Lib Jvm.Free Jvm.Stand Jvm.Pilot.@@N@@.Jvm.D
/-! MADE BY PROGRAM (witnessworld.py) out of the Statement's table words and the real class files: 23 classes; the members and pool entries that the words name. The judged class is class 1, her method 2. -/
namespace start1
open Jvm.ClassFile
def u (s : String) : CpInfo := .utf8 (stringToUtf16 s)
/-- a pool by its gaps: so many unusable entries, then the entry; so many at the end -/
def gap : Nat → List CpInfo → List CpInfo
  | 0, r => r
  | n + 1, r => .unusable :: gap n r
def poolList (es : List (Nat × CpInfo)) (last : Nat) : List CpInfo := es.foldr (fun e r => gap e.1 (e.2 :: r)) (gap last [])
def pool (es : List (Nat × CpInfo)) (last : Nat) : Array CpInfo := ⟨poolList es last⟩
def fileOf (pool : Array CpInfo) (this : Nat) (attrs : Array Attribute := #[]) (ms : Array MethodInfo := #[]) (fl : Nat := 33) (sup : Nat := 0) (ifs : Array Nat := #[]) (fds : Array FieldInfo := #[]) : ClassFile where
  minorVersion := 0
  majorVersion := 65
  constantPool := pool
  accessFlags := fl
  thisClass := this
  superClass := sup
  interfaces := ifs
  fields := fds
  methods := ms
  attributes := attrs
def plain (name : String) (sup : Option ClassId) : Class where
  name := name
  kind := .ordinary
  loader := none
  accessFlags := 33
  super := sup
  interfaces := #[]
  cf := none
  fields := #[]
  methods := #[]
  instanceTypes := #[]
  staticTypes := #[]
  resolved := #[]
  callSites := []
  init := .initialized
  statics := none
  mirror := none

def pool0 : Array CpInfo := pool [(5, u "<init>"), (0, u "()V"), (1, .class_ 10), (1, u "java/lang/Object")] 113

def k0c0 : Code := { maxStack := 0, maxLocals := 1, code := object_method_1_code, exceptionTable := #[], attributes := #[] }
def k0m0 : Method := { name := "<init>", desc := "()V", sig := { parameters := [], returnType := none }, accessFlags := 1, code := some k0c0 }
/-- java/lang/Object -/
def k0 : Class := { plain "java/lang/Object" none with
  accessFlags := 33
  interfaces := #[]
  cf := some (fileOf pool0 8 #[] #[{ accessFlags := 1, nameIndex := 5, descriptorIndex := 6, attributes := #[] }] 33 0 #[] #[])
  fields := #[]
  methods := #[k0m0]
  instanceTypes := #[]
  staticTypes := #[]
  resolved := Array.replicate 124 none
  statics := none }

def pool1 : Array CpInfo := pool [(2, .class_ 4), (1, u "java/lang/Object"), (0, u "<init>"), (0, u "()V"), (0, .class_ 8), (0, u "java/lang/String"), (0, .methodref 7 10), (0, .nameAndType 5 11), (0, u "([C)V"), (0, .methodref 13 14), (0, .class_ 15), (0, .nameAndType 16 17), (0, u "com/example/roleward/roleward/model/RoleOfTenantPinLaw"), (0, u "str"), (0, u "(IZ)Ljava/lang/String;"), (0, .methodref 19 20), (0, .class_ 21), (0, .nameAndType 22 23), (0, u "com/example/roleward/roleward/model/Role"), (0, u "ofTenant"), (0, u "(Ljava/lang/String;Ljava/lang/String;Ljava/lang/String;Ljava/lang/String;Ljava/lang/String;)Lcom/example/roleward/roleward/model/Role;"), (0, .methodref 19 25), (0, .nameAndType 26 27), (0, u "id"), (0, u "()Ljava/lang/String;"), (0, .methodref 19 29), (0, .nameAndType 30 27), (0, u "name"), (0, .methodref 19 32), (0, .nameAndType 33 27), (0, u "description"), (0, .methodref 19 35), (0, .nameAndType 36 37), (0, u "scope"), (0, u "()Lcom/example/roleward/roleward/model/RoleScope;"), (0, .fieldref 39 40), (0, .class_ 41), (0, .nameAndType 42 43), (0, u "com/example/roleward/roleward/model/RoleScope"), (0, u "TENANT"), (0, u "Lcom/example/roleward/roleward/model/RoleScope;"), (0, .methodref 19 45), (0, .nameAndType 46 27), (0, u "tenantId"), (0, .methodref 19 48), (0, .nameAndType 49 27), (0, u "communityId"), (0, .methodref 19 51), (0, .nameAndType 52 27), (0, u "roleTypeId"), (3, u "law"), (0, u "(IIIIII)Z")] 2

def k1m0 : Method := { name := "<init>", desc := "()V", sig := { parameters := [], returnType := none }, accessFlags := 1, code := none }
def k1c1 : Code := { maxStack := 4, maxLocals := 3, code := method_2_code, exceptionTable := #[], attributes := #[] }
def k1m1 : Method := { name := "str", desc := "(IZ)Ljava/lang/String;", sig := { parameters := [.int, .boolean], returnType := some (.object "java/lang/String") }, accessFlags := 10, code := some k1c1 }
def k1c2 : Code := { maxStack := 5, maxLocals := 14, code := code, exceptionTable := #[], attributes := #[] }
def k1m2 : Method := { name := "law", desc := "(IIIIII)Z", sig := { parameters := [.int, .int, .int, .int, .int, .int], returnType := some .boolean }, accessFlags := 9, code := some k1c2 }
/-- com/example/roleward/roleward/model/RoleOfTenantPinLaw -/
def k1 : Class := { plain "com/example/roleward/roleward/model/RoleOfTenantPinLaw" (some 0) with
  accessFlags := 49
  interfaces := #[]
  cf := some (fileOf pool1 13 #[] #[{ accessFlags := 1, nameIndex := 5, descriptorIndex := 6, attributes := #[] }, { accessFlags := 10, nameIndex := 16, descriptorIndex := 17, attributes := #[] }, { accessFlags := 9, nameIndex := 56, descriptorIndex := 57, attributes := #[] }] 49 2 #[] #[])
  fields := #[]
  methods := #[k1m0, k1m1, k1m2]
  instanceTypes := #[]
  staticTypes := #[]
  resolved := Array.replicate 60 none
  statics := none }

def pool2 : Array CpInfo := pool [(1, .class_ 2), (0, u "java/io/Serializable"), (0, .class_ 4), (0, u "java/lang/Object")] 2

/-- java/io/Serializable -/
def k2 : Class := { plain "java/io/Serializable" (some 0) with
  accessFlags := 1537
  interfaces := #[]
  cf := some (fileOf pool2 1 #[] #[] 1537 3 #[] #[])
  fields := #[]
  methods := #[]
  instanceTypes := #[]
  staticTypes := #[]
  resolved := Array.replicate 7 none
  statics := none }

def pool3 : Array CpInfo := pool [(1, .class_ 2), (0, u "java/lang/Comparable"), (0, .class_ 4), (0, u "java/lang/Object")] 7

/-- java/lang/Comparable -/
def k3 : Class := { plain "java/lang/Comparable" (some 0) with
  accessFlags := 1537
  interfaces := #[]
  cf := some (fileOf pool3 1 #[] #[] 1537 3 #[] #[])
  fields := #[]
  methods := #[]
  instanceTypes := #[]
  staticTypes := #[]
  resolved := Array.replicate 12 none
  statics := none }

def pool4 : Array CpInfo := pool [(2, .class_ 4), (1, u "java/lang/CharSequence"), (42, .class_ 48), (0, u "java/lang/CharSequence$1CodePointIterator"), (10, .class_ 60), (0, u "java/lang/CharSequence$1CharIterator"), (5, .class_ 67), (0, u "java/lang/Object")] 63

/-- java/lang/CharSequence -/
def k4 : Class := { plain "java/lang/CharSequence" (some 0) with
  accessFlags := 1537
  interfaces := #[]
  cf := some (fileOf pool4 2 #[.nestMembers #[47, 59]] #[] 1537 66 #[] #[])
  fields := #[]
  methods := #[]
  instanceTypes := #[]
  staticTypes := #[]
  resolved := Array.replicate 131 none
  statics := none }

def pool5 : Array CpInfo := pool [(1, .class_ 2), (0, u "java/lang/constant/Constable"), (0, .class_ 4), (0, u "java/lang/Object")] 6

/-- java/lang/constant/Constable -/
def k5 : Class := { plain "java/lang/constant/Constable" (some 0) with
  accessFlags := 1537
  interfaces := #[]
  cf := some (fileOf pool5 1 #[] #[] 1537 3 #[] #[])
  fields := #[]
  methods := #[]
  instanceTypes := #[]
  staticTypes := #[]
  resolved := Array.replicate 11 none
  statics := none }

def pool6 : Array CpInfo := pool [(1, .class_ 2), (0, u "java/lang/constant/ConstantDesc"), (0, .class_ 4), (0, u "java/lang/Object")] 32

/-- java/lang/constant/ConstantDesc -/
def k6 : Class := { plain "java/lang/constant/ConstantDesc" (some 0) with
  accessFlags := 1537
  interfaces := #[]
  cf := some (fileOf pool6 1 #[] #[] 1537 3 #[] #[])
  fields := #[]
  methods := #[]
  instanceTypes := #[]
  staticTypes := #[]
  resolved := Array.replicate 37 none
  statics := none }

def pool7 : Array CpInfo := pool [(1, .methodref 2 3), (0, .class_ 4), (0, .nameAndType 5 6), (0, u "java/lang/Object"), (0, u "<init>"), (0, u "()V"), (0, .string 8), (0, u ""), (0, .fieldref 10 11), (0, .class_ 12), (0, .nameAndType 13 14), (0, u "java/lang/String"), (0, u "value"), (0, u "[B"), (0, .fieldref 10 16), (0, .nameAndType 17 18), (0, u "coder"), (0, u "B"), (2, u "hash"), (0, u "I"), (2, u "hashIsZero"), (0, u "Z"), (0, .methodref 10 28), (0, .nameAndType 5 29), (0, u "([CIILjava/lang/Void;)V"), (8, .fieldref 10 39), (0, .nameAndType 40 26), (0, u "COMPACT_STRINGS"), (1, .class_ 44), (1, u "java/lang/StringUTF16"), (0, u "compress"), (1, .methodref 42 48), (0, .nameAndType 49 50), (0, u "coderFromArrayLen"), (0, u "([BI)B"), (126, .methodref 42 178), (0, .nameAndType 45 179), (0, u "([CII)[B"), (395, .class_ 576), (0, u "java/lang/CharSequence"), (22, u "CASE_INSENSITIVE_ORDER"), (0, u "Ljava/util/Comparator;"), (409, u "([C)V"), (90, u "serialPersistentFields"), (0, u "[Ljava/io/ObjectStreamField;"), (0, .class_ 1104), (0, u "java/lang/String$CaseInsensitiveComparator"), (1, .class_ 1107), (0, u "java/io/Serializable"), (0, .class_ 1109), (0, u "java/lang/Comparable"), (0, .class_ 1111), (0, u "java/lang/constant/Constable"), (0, .class_ 1113), (0, u "java/lang/constant/ConstantDesc"), (2, u "serialVersionUID"), (0, u "J"), (3, u "REPL"), (0, u "C"), (2, u "LATIN1"), (1, u "UTF16")] 323

def k7m0 : Method := { name := "<init>", desc := "()V", sig := { parameters := [], returnType := none }, accessFlags := 1, code := none }
def k7c1 : Code := { maxStack := 5, maxLocals := 2, code := jdk_42_method_3_code, exceptionTable := #[], attributes := #[] }
def k7m1 : Method := { name := "<init>", desc := "([C)V", sig := { parameters := [(.array .char)], returnType := none }, accessFlags := 1, code := some k7c1 }
def k7c2 : Code := { maxStack := 4, maxLocals := 6, code := jdk_42_method_149_code, exceptionTable := #[], attributes := #[] }
def k7m2 : Method := { name := "<init>", desc := "([CIILjava/lang/Void;)V", sig := { parameters := [(.array .char), .int, .int, (.object "java/lang/Void")], returnType := none }, accessFlags := 2, code := some k7c2 }
/-- java/lang/String -/
def k7 : Class := { plain "java/lang/String" (some 0) with
  accessFlags := 49
  interfaces := #[2, 3, 4, 5, 6]
  cf := some (fileOf pool7 10 #[.nestMembers #[1103]] #[{ accessFlags := 1, nameIndex := 5, descriptorIndex := 6, attributes := #[] }, { accessFlags := 1, nameIndex := 5, descriptorIndex := 1010, attributes := #[] }, { accessFlags := 2, nameIndex := 5, descriptorIndex := 29, attributes := #[] }] 49 2 #[1106, 1108, 575, 1110, 1112] #[{ accessFlags := 18, nameIndex := 13, descriptorIndex := 14, attributes := #[] }, { accessFlags := 18, nameIndex := 17, descriptorIndex := 18, attributes := #[] }, { accessFlags := 2, nameIndex := 21, descriptorIndex := 22, attributes := #[] }, { accessFlags := 2, nameIndex := 25, descriptorIndex := 26, attributes := #[] }, { accessFlags := 26, nameIndex := 1116, descriptorIndex := 1117, attributes := #[] }, { accessFlags := 24, nameIndex := 40, descriptorIndex := 26, attributes := #[] }, { accessFlags := 26, nameIndex := 1101, descriptorIndex := 1102, attributes := #[] }, { accessFlags := 26, nameIndex := 1121, descriptorIndex := 1122, attributes := #[] }, { accessFlags := 25, nameIndex := 599, descriptorIndex := 600, attributes := #[] }, { accessFlags := 24, nameIndex := 1125, descriptorIndex := 18, attributes := #[] }, { accessFlags := 24, nameIndex := 1127, descriptorIndex := 18, attributes := #[] }])
  fields := #[{ name := "value", type := (.array .byte), accessFlags := 18, slot := 0, constantValue := 0 }, { name := "coder", type := .byte, accessFlags := 18, slot := 1, constantValue := 0 }, { name := "hash", type := .int, accessFlags := 2, slot := 2, constantValue := 0 }, { name := "hashIsZero", type := .boolean, accessFlags := 2, slot := 3, constantValue := 0 }, { name := "serialVersionUID", type := .long, accessFlags := 26, slot := 0, constantValue := 0 }, { name := "COMPACT_STRINGS", type := .boolean, accessFlags := 24, slot := 1, constantValue := 0 }, { name := "serialPersistentFields", type := (.array (.object "java/io/ObjectStreamField")), accessFlags := 26, slot := 2, constantValue := 0 }, { name := "REPL", type := .char, accessFlags := 26, slot := 3, constantValue := 0 }, { name := "CASE_INSENSITIVE_ORDER", type := (.object "java/util/Comparator"), accessFlags := 25, slot := 4, constantValue := 0 }, { name := "LATIN1", type := .byte, accessFlags := 24, slot := 5, constantValue := 0 }, { name := "UTF16", type := .byte, accessFlags := 24, slot := 6, constantValue := 0 }]
  methods := #[k7m0, k7m1, k7m2]
  instanceTypes := #[(.array .byte), .byte, .int, .boolean]
  staticTypes := #[.long, .boolean, (.array (.object "java/io/ObjectStreamField")), .char, (.object "java/util/Comparator"), .byte, .byte]
  resolved := Array.replicate 1451 none
  statics := some 0 }

def pool8 : Array CpInfo := pool [(6, .class_ 8), (1, u "java/lang/Object"), (0, u "<init>"), (0, u "()V"), (1, .class_ 14), (1, u "java/lang/StringUTF16"), (31, u "$assertionsDisabled"), (0, u "Z"), (13, u "HI_BYTE_SHIFT"), (0, u "I"), (2, u "LO_BYTE_SHIFT"), (49, .methodref 12 116), (0, .nameAndType 117 118), (0, u "compress"), (0, u "([CI[BII)I"), (3, u "([CII)[B"), (138, u "coderFromArrayLen"), (0, u "([BI)B"), (106, .class_ 371), (1, u "java/lang/StringUTF16$LinesSpliterator"), (58, u "MAX_LENGTH"), (196, .class_ 628), (0, u "java/lang/StringUTF16$CodePointsSpliterator"), (0, .class_ 630), (0, u "java/lang/StringUTF16$CharsSpliterator")] 4

def k8m0 : Method := { name := "<init>", desc := "()V", sig := { parameters := [], returnType := none }, accessFlags := 0, code := none }
def k8c1 : Code := { maxStack := 2, maxLocals := 2, code := jdk_52_method_15_code, exceptionTable := #[], attributes := #[] }
def k8m1 : Method := { name := "coderFromArrayLen", desc := "([BI)B", sig := { parameters := [(.array .byte), .int], returnType := some .byte }, accessFlags := 8, code := some k8c1 }
def k8c2 : Code := { maxStack := 5, maxLocals := 6, code := jdk_52_method_16_code, exceptionTable := #[], attributes := #[] }
def k8m2 : Method := { name := "compress", desc := "([CII)[B", sig := { parameters := [(.array .char), .int, .int], returnType := some (.array .byte) }, accessFlags := 9, code := some k8c2 }
def k8c3 : Code := { maxStack := 3, maxLocals := 7, code := jdk_52_method_21_code, exceptionTable := #[], attributes := #[] }
def k8m3 : Method := { name := "compress", desc := "([CI[BII)I", sig := { parameters := [(.array .char), .int, (.array .byte), .int, .int], returnType := some .int }, accessFlags := 9, code := some k8c3 }
/-- java/lang/StringUTF16 -/
def k8 : Class := { plain "java/lang/StringUTF16" (some 0) with
  accessFlags := 48
  interfaces := #[]
  cf := some (fileOf pool8 12 #[.nestMembers #[627, 629, 369]] #[{ accessFlags := 0, nameIndex := 9, descriptorIndex := 10, attributes := #[] }, { accessFlags := 8, nameIndex := 261, descriptorIndex := 262, attributes := #[] }, { accessFlags := 9, nameIndex := 117, descriptorIndex := 122, attributes := #[] }, { accessFlags := 9, nameIndex := 117, descriptorIndex := 118, attributes := #[] }] 48 6 #[] #[{ accessFlags := 26, nameIndex := 61, descriptorIndex := 62, attributes := #[] }, { accessFlags := 26, nameIndex := 65, descriptorIndex := 62, attributes := #[] }, { accessFlags := 24, nameIndex := 430, descriptorIndex := 62, attributes := #[] }, { accessFlags := 4120, nameIndex := 46, descriptorIndex := 47, attributes := #[] }])
  fields := #[{ name := "HI_BYTE_SHIFT", type := .int, accessFlags := 26, slot := 0, constantValue := 0 }, { name := "LO_BYTE_SHIFT", type := .int, accessFlags := 26, slot := 1, constantValue := 0 }, { name := "MAX_LENGTH", type := .int, accessFlags := 24, slot := 2, constantValue := 0 }, { name := "$assertionsDisabled", type := .boolean, accessFlags := 4120, slot := 3, constantValue := 0 }]
  methods := #[k8m0, k8m1, k8m2, k8m3]
  instanceTypes := #[]
  staticTypes := #[.int, .int, .int, .boolean]
  resolved := Array.replicate 635 none
  statics := none }

def pool9 : Array CpInfo := pool [(1, .methodref 2 3), (0, .class_ 4), (0, .nameAndType 5 6), (0, u "java/lang/Object"), (0, u "<init>"), (0, u "()V"), (0, .class_ 8), (0, u "java/lang/Record")] 13

def k9c0 : Code := { maxStack := 1, maxLocals := 1, code := jdk_30_method_1_code, exceptionTable := #[], attributes := #[] }
def k9m0 : Method := { name := "<init>", desc := "()V", sig := { parameters := [], returnType := none }, accessFlags := 4, code := some k9c0 }
/-- java/lang/Record -/
def k9 : Class := { plain "java/lang/Record" (some 0) with
  accessFlags := 1057
  interfaces := #[]
  cf := some (fileOf pool9 7 #[] #[{ accessFlags := 4, nameIndex := 5, descriptorIndex := 6, attributes := #[] }] 1057 2 #[] #[])
  fields := #[]
  methods := #[k9m0]
  instanceTypes := #[]
  staticTypes := #[]
  resolved := Array.replicate 22 none
  statics := none }

def pool10 : Array CpInfo := pool [(1, .methodref 2 3), (0, .class_ 4), (0, .nameAndType 5 6), (0, u "java/lang/Record"), (0, u "<init>"), (0, u "()V"), (0, .fieldref 8 9), (0, .class_ 10), (0, .nameAndType 11 12), (0, u "com/example/roleward/roleward/model/Role"), (0, u "id"), (0, u "Ljava/lang/String;"), (0, .fieldref 8 14), (0, .nameAndType 15 12), (0, u "name"), (0, .fieldref 8 17), (0, .nameAndType 18 12), (0, u "description"), (0, .fieldref 8 20), (0, .nameAndType 21 22), (0, u "scope"), (0, u "Lcom/example/roleward/roleward/model/RoleScope;"), (0, .fieldref 8 24), (0, .nameAndType 25 12), (0, u "tenantId"), (0, .fieldref 8 27), (0, .nameAndType 28 12), (0, u "communityId"), (0, .fieldref 8 30), (0, .nameAndType 31 12), (0, u "roleTypeId"), (0, .fieldref 33 34), (0, .class_ 35), (0, .nameAndType 36 22), (0, u "com/example/roleward/roleward/model/RoleScope"), (0, u "TENANT"), (0, .methodref 8 38), (0, .nameAndType 5 39), (0, u "(Ljava/lang/String;Ljava/lang/String;Ljava/lang/String;Lcom/example/roleward/roleward/model/RoleScope;Ljava/lang/String;Ljava/lang/String;Ljava/lang/String;)V"), (15, u "ofTenant"), (0, u "(Ljava/lang/String;Ljava/lang/String;Ljava/lang/String;Ljava/lang/String;Ljava/lang/String;)Lcom/example/roleward/roleward/model/Role;"), (0, u "()Ljava/lang/String;"), (2, u "()Lcom/example/roleward/roleward/model/RoleScope;")] 26

def k10c0 : Code := { maxStack := 2, maxLocals := 8, code := prog_12_method_1_code, exceptionTable := #[], attributes := #[] }
def k10m0 : Method := { name := "<init>", desc := "(Ljava/lang/String;Ljava/lang/String;Ljava/lang/String;Lcom/example/roleward/roleward/model/RoleScope;Ljava/lang/String;Ljava/lang/String;Ljava/lang/String;)V", sig := { parameters := [(.object "java/lang/String"), (.object "java/lang/String"), (.object "java/lang/String"), (.object "com/example/roleward/roleward/model/RoleScope"), (.object "java/lang/String"), (.object "java/lang/String"), (.object "java/lang/String")], returnType := none }, accessFlags := 1, code := some k10c0 }
def k10c1 : Code := { maxStack := 9, maxLocals := 5, code := prog_12_method_2_code, exceptionTable := #[], attributes := #[] }
def k10m1 : Method := { name := "ofTenant", desc := "(Ljava/lang/String;Ljava/lang/String;Ljava/lang/String;Ljava/lang/String;Ljava/lang/String;)Lcom/example/roleward/roleward/model/Role;", sig := { parameters := [(.object "java/lang/String"), (.object "java/lang/String"), (.object "java/lang/String"), (.object "java/lang/String"), (.object "java/lang/String")], returnType := some (.object "com/example/roleward/roleward/model/Role") }, accessFlags := 9, code := some k10c1 }
def k10c2 : Code := { maxStack := 1, maxLocals := 1, code := prog_12_method_6_code, exceptionTable := #[], attributes := #[] }
def k10m2 : Method := { name := "id", desc := "()Ljava/lang/String;", sig := { parameters := [], returnType := some (.object "java/lang/String") }, accessFlags := 1, code := some k10c2 }
def k10c3 : Code := { maxStack := 1, maxLocals := 1, code := prog_12_method_7_code, exceptionTable := #[], attributes := #[] }
def k10m3 : Method := { name := "name", desc := "()Ljava/lang/String;", sig := { parameters := [], returnType := some (.object "java/lang/String") }, accessFlags := 1, code := some k10c3 }
def k10c4 : Code := { maxStack := 1, maxLocals := 1, code := prog_12_method_8_code, exceptionTable := #[], attributes := #[] }
def k10m4 : Method := { name := "description", desc := "()Ljava/lang/String;", sig := { parameters := [], returnType := some (.object "java/lang/String") }, accessFlags := 1, code := some k10c4 }
def k10c5 : Code := { maxStack := 1, maxLocals := 1, code := prog_12_method_9_code, exceptionTable := #[], attributes := #[] }
def k10m5 : Method := { name := "scope", desc := "()Lcom/example/roleward/roleward/model/RoleScope;", sig := { parameters := [], returnType := some (.object "com/example/roleward/roleward/model/RoleScope") }, accessFlags := 1, code := some k10c5 }
def k10c6 : Code := { maxStack := 1, maxLocals := 1, code := prog_12_method_10_code, exceptionTable := #[], attributes := #[] }
def k10m6 : Method := { name := "tenantId", desc := "()Ljava/lang/String;", sig := { parameters := [], returnType := some (.object "java/lang/String") }, accessFlags := 1, code := some k10c6 }
def k10c7 : Code := { maxStack := 1, maxLocals := 1, code := prog_12_method_11_code, exceptionTable := #[], attributes := #[] }
def k10m7 : Method := { name := "communityId", desc := "()Ljava/lang/String;", sig := { parameters := [], returnType := some (.object "java/lang/String") }, accessFlags := 1, code := some k10c7 }
def k10c8 : Code := { maxStack := 1, maxLocals := 1, code := prog_12_method_12_code, exceptionTable := #[], attributes := #[] }
def k10m8 : Method := { name := "roleTypeId", desc := "()Ljava/lang/String;", sig := { parameters := [], returnType := some (.object "java/lang/String") }, accessFlags := 1, code := some k10c8 }
/-- com/example/roleward/roleward/model/Role -/
def k10 : Class := { plain "com/example/roleward/roleward/model/Role" (some 9) with
  accessFlags := 49
  interfaces := #[]
  cf := some (fileOf pool10 8 #[] #[{ accessFlags := 1, nameIndex := 5, descriptorIndex := 39, attributes := #[] }, { accessFlags := 9, nameIndex := 55, descriptorIndex := 56, attributes := #[] }, { accessFlags := 1, nameIndex := 11, descriptorIndex := 57, attributes := #[] }, { accessFlags := 1, nameIndex := 15, descriptorIndex := 57, attributes := #[] }, { accessFlags := 1, nameIndex := 18, descriptorIndex := 57, attributes := #[] }, { accessFlags := 1, nameIndex := 21, descriptorIndex := 60, attributes := #[] }, { accessFlags := 1, nameIndex := 25, descriptorIndex := 57, attributes := #[] }, { accessFlags := 1, nameIndex := 28, descriptorIndex := 57, attributes := #[] }, { accessFlags := 1, nameIndex := 31, descriptorIndex := 57, attributes := #[] }] 49 2 #[] #[{ accessFlags := 18, nameIndex := 11, descriptorIndex := 12, attributes := #[] }, { accessFlags := 18, nameIndex := 15, descriptorIndex := 12, attributes := #[] }, { accessFlags := 18, nameIndex := 18, descriptorIndex := 12, attributes := #[] }, { accessFlags := 18, nameIndex := 21, descriptorIndex := 22, attributes := #[] }, { accessFlags := 18, nameIndex := 25, descriptorIndex := 12, attributes := #[] }, { accessFlags := 18, nameIndex := 28, descriptorIndex := 12, attributes := #[] }, { accessFlags := 18, nameIndex := 31, descriptorIndex := 12, attributes := #[] }])
  fields := #[{ name := "id", type := (.object "java/lang/String"), accessFlags := 18, slot := 0, constantValue := 0 }, { name := "name", type := (.object "java/lang/String"), accessFlags := 18, slot := 1, constantValue := 0 }, { name := "description", type := (.object "java/lang/String"), accessFlags := 18, slot := 2, constantValue := 0 }, { name := "scope", type := (.object "com/example/roleward/roleward/model/RoleScope"), accessFlags := 18, slot := 3, constantValue := 0 }, { name := "tenantId", type := (.object "java/lang/String"), accessFlags := 18, slot := 4, constantValue := 0 }, { name := "communityId", type := (.object "java/lang/String"), accessFlags := 18, slot := 5, constantValue := 0 }, { name := "roleTypeId", type := (.object "java/lang/String"), accessFlags := 18, slot := 6, constantValue := 0 }]
  methods := #[k10m0, k10m1, k10m2, k10m3, k10m4, k10m5, k10m6, k10m7, k10m8]
  instanceTypes := #[(.object "java/lang/String"), (.object "java/lang/String"), (.object "java/lang/String"), (.object "com/example/roleward/roleward/model/RoleScope"), (.object "java/lang/String"), (.object "java/lang/String"), (.object "java/lang/String")]
  staticTypes := #[]
  resolved := Array.replicate 87 none
  statics := none }

def pool11 : Array CpInfo := pool [(2, .class_ 4), (1, u "java/lang/Enum"), (0, u "name"), (0, u "Ljava/lang/String;"), (2, u "ordinal"), (0, u "I"), (1, .class_ 14), (1, u "java/lang/Object"), (4, u "hash"), (86, .class_ 108), (1, u "java/lang/Enum$EnumDesc"), (2, .class_ 112), (0, u "java/lang/constant/Constable"), (0, .class_ 114), (0, u "java/lang/Comparable"), (0, .class_ 116), (0, u "java/io/Serializable")] 87

/-- java/lang/Enum -/
def k11 : Class := { plain "java/lang/Enum" (some 0) with
  accessFlags := 1057
  interfaces := #[5, 3, 2]
  cf := some (fileOf pool11 2 #[.nestMembers #[106]] #[] 1057 12 #[111, 113, 115] #[{ accessFlags := 18, nameIndex := 5, descriptorIndex := 6, attributes := #[] }, { accessFlags := 18, nameIndex := 9, descriptorIndex := 10, attributes := #[] }, { accessFlags := 2, nameIndex := 19, descriptorIndex := 10, attributes := #[] }])
  fields := #[{ name := "name", type := (.object "java/lang/String"), accessFlags := 18, slot := 0, constantValue := 0 }, { name := "ordinal", type := .int, accessFlags := 18, slot := 1, constantValue := 0 }, { name := "hash", type := .int, accessFlags := 2, slot := 2, constantValue := 0 }]
  methods := #[]
  instanceTypes := #[(.object "java/lang/String"), .int, .int]
  staticTypes := #[]
  resolved := Array.replicate 204 none
  statics := none }

def pool12 : Array CpInfo := pool [(1, .class_ 2), (0, u "com/example/roleward/roleward/model/RoleScope"), (2, u "NONE"), (0, u "Lcom/example/roleward/roleward/model/RoleScope;"), (2, u "TENANT"), (2, u "COMMUNITY"), (2, u "CLUSTER"), (2, u "$VALUES"), (0, u "[Lcom/example/roleward/roleward/model/RoleScope;"), (6, .class_ 28), (1, u "java/lang/Enum"), (8, u "code"), (0, u "I")] 24

/-- com/example/roleward/roleward/model/RoleScope -/
def k12 : Class := { plain "com/example/roleward/roleward/model/RoleScope" (some 11) with
  accessFlags := 16433
  interfaces := #[]
  cf := some (fileOf pool12 1 #[] #[] 16433 26 #[] #[{ accessFlags := 16409, nameIndex := 5, descriptorIndex := 6, attributes := #[] }, { accessFlags := 16409, nameIndex := 9, descriptorIndex := 6, attributes := #[] }, { accessFlags := 16409, nameIndex := 12, descriptorIndex := 6, attributes := #[] }, { accessFlags := 16409, nameIndex := 15, descriptorIndex := 6, attributes := #[] }, { accessFlags := 18, nameIndex := 37, descriptorIndex := 38, attributes := #[] }, { accessFlags := 4122, nameIndex := 18, descriptorIndex := 19, attributes := #[] }])
  fields := #[{ name := "NONE", type := (.object "com/example/roleward/roleward/model/RoleScope"), accessFlags := 16409, slot := 0, constantValue := 0 }, { name := "TENANT", type := (.object "com/example/roleward/roleward/model/RoleScope"), accessFlags := 16409, slot := 1, constantValue := 0 }, { name := "COMMUNITY", type := (.object "com/example/roleward/roleward/model/RoleScope"), accessFlags := 16409, slot := 2, constantValue := 0 }, { name := "CLUSTER", type := (.object "com/example/roleward/roleward/model/RoleScope"), accessFlags := 16409, slot := 3, constantValue := 0 }, { name := "code", type := .int, accessFlags := 18, slot := 3, constantValue := 0 }, { name := "$VALUES", type := (.array (.object "com/example/roleward/roleward/model/RoleScope")), accessFlags := 4122, slot := 4, constantValue := 0 }]
  methods := #[]
  instanceTypes := #[(.object "java/lang/String"), .int, .int, .int]
  staticTypes := #[(.object "com/example/roleward/roleward/model/RoleScope"), (.object "com/example/roleward/roleward/model/RoleScope"), (.object "com/example/roleward/roleward/model/RoleScope"), (.object "com/example/roleward/roleward/model/RoleScope"), (.array (.object "com/example/roleward/roleward/model/RoleScope"))]
  resolved := Array.replicate 63 none
  statics := some 1 }

def pool13 : Array CpInfo := pool [(4, .class_ 6), (1, u "java/lang/Object"), (0, u "<init>"), (0, u "()V"), (5, .class_ 16), (1, u "java/lang/StringLatin1"), (104, u "$assertionsDisabled"), (0, u "Z"), (98, .class_ 223), (1, u "java/lang/StringLatin1$LinesSpliterator"), (166, .class_ 391), (0, u "java/lang/StringLatin1$CharsSpliterator")] 3

def k13m0 : Method := { name := "<init>", desc := "()V", sig := { parameters := [], returnType := none }, accessFlags := 0, code := none }
/-- java/lang/StringLatin1 -/
def k13 : Class := { plain "java/lang/StringLatin1" (some 0) with
  accessFlags := 48
  interfaces := #[]
  cf := some (fileOf pool13 14 #[.nestMembers #[390, 221]] #[{ accessFlags := 0, nameIndex := 7, descriptorIndex := 8, attributes := #[] }] 48 4 #[] #[{ accessFlags := 4120, nameIndex := 121, descriptorIndex := 122, attributes := #[] }])
  fields := #[{ name := "$assertionsDisabled", type := .boolean, accessFlags := 4120, slot := 0, constantValue := 0 }]
  methods := #[k13m0]
  instanceTypes := #[]
  staticTypes := #[.boolean]
  resolved := Array.replicate 395 none
  statics := none }

def pool14 : Array CpInfo := pool [(2, .class_ 4), (1, u "java/lang/Object"), (0, u "<init>"), (0, u "()V"), (17, .class_ 26), (1, u "jdk/internal/util/Preconditions"), (28, .class_ 56), (0, u "jdk/internal/util/Preconditions$4"), (57, .class_ 115), (0, u "jdk/internal/util/Preconditions$1"), (7, u "SIOOBE_FORMATTER"), (0, u "Ljava/util/function/BiFunction;"), (0, .class_ 126), (0, u "jdk/internal/util/Preconditions$2"), (3, u "AIOOBE_FORMATTER"), (0, .class_ 132), (0, u "jdk/internal/util/Preconditions$3"), (3, u "IOOBE_FORMATTER")] 57

def k14m0 : Method := { name := "<init>", desc := "()V", sig := { parameters := [], returnType := none }, accessFlags := 1, code := none }
/-- jdk/internal/util/Preconditions -/
def k14 : Class := { plain "jdk/internal/util/Preconditions" (some 0) with
  accessFlags := 33
  interfaces := #[]
  cf := some (fileOf pool14 24 #[.nestMembers #[55, 131, 125, 114]] #[{ accessFlags := 1, nameIndex := 5, descriptorIndex := 6, attributes := #[] }] 33 2 #[] #[{ accessFlags := 25, nameIndex := 123, descriptorIndex := 124, attributes := #[] }, { accessFlags := 25, nameIndex := 130, descriptorIndex := 124, attributes := #[] }, { accessFlags := 25, nameIndex := 136, descriptorIndex := 124, attributes := #[] }])
  fields := #[{ name := "SIOOBE_FORMATTER", type := (.object "java/util/function/BiFunction"), accessFlags := 25, slot := 0, constantValue := 0 }, { name := "AIOOBE_FORMATTER", type := (.object "java/util/function/BiFunction"), accessFlags := 25, slot := 1, constantValue := 0 }, { name := "IOOBE_FORMATTER", type := (.object "java/util/function/BiFunction"), accessFlags := 25, slot := 2, constantValue := 0 }]
  methods := #[k14m0]
  instanceTypes := #[]
  staticTypes := #[(.object "java/util/function/BiFunction"), (.object "java/util/function/BiFunction"), (.object "java/util/function/BiFunction")]
  resolved := Array.replicate 194 none
  statics := some 2 }

def pool15 : Array CpInfo := pool [(9, u "<init>"), (6, .class_ 18), (1, u "java/lang/Object"), (0, u "()V"), (1, .class_ 23), (1, u "jdk/internal/util/ArraysSupport"), (0, u "LOG2_ARRAY_LONG_INDEX_SCALE"), (0, u "I"), (2, u "U"), (0, u "Ljdk/internal/misc/Unsafe;"), (8, u "BIG_ENDIAN"), (0, u "Z"), (8, u "LOG2_BYTE_BIT_SIZE"), (4, u "LOG2_ARRAY_INT_INDEX_SCALE"), (54, u "JLA"), (0, u "Ljdk/internal/access/JavaLangAccess;"), (11, u "LOG2_ARRAY_BOOLEAN_INDEX_SCALE"), (9, u "LOG2_ARRAY_BYTE_INDEX_SCALE"), (5, u "LOG2_ARRAY_CHAR_INDEX_SCALE"), (5, u "LOG2_ARRAY_SHORT_INDEX_SCALE"), (18, u "LOG2_ARRAY_FLOAT_INDEX_SCALE"), (24, u "LOG2_ARRAY_DOUBLE_INDEX_SCALE"), (89, u "T_BOOLEAN"), (2, u "T_CHAR"), (1, u "T_FLOAT"), (1, u "T_DOUBLE"), (1, u "T_BYTE"), (1, u "T_SHORT"), (1, u "T_INT"), (1, u "T_LONG"), (1, u "SOFT_MAX_ARRAY_LENGTH")] 83

def k15m0 : Method := { name := "<init>", desc := "()V", sig := { parameters := [], returnType := none }, accessFlags := 2, code := none }
/-- jdk/internal/util/ArraysSupport -/
def k15 : Class := { plain "jdk/internal/util/ArraysSupport" (some 0) with
  accessFlags := 33
  interfaces := #[]
  cf := some (fileOf pool15 21 #[] #[{ accessFlags := 2, nameIndex := 9, descriptorIndex := 19, attributes := #[] }] 33 16 #[] #[{ accessFlags := 24, nameIndex := 28, descriptorIndex := 29, attributes := #[] }, { accessFlags := 26, nameIndex := 38, descriptorIndex := 39, attributes := #[] }, { accessFlags := 25, nameIndex := 121, descriptorIndex := 25, attributes := #[] }, { accessFlags := 25, nameIndex := 131, descriptorIndex := 25, attributes := #[] }, { accessFlags := 25, nameIndex := 137, descriptorIndex := 25, attributes := #[] }, { accessFlags := 25, nameIndex := 143, descriptorIndex := 25, attributes := #[] }, { accessFlags := 25, nameIndex := 53, descriptorIndex := 25, attributes := #[] }, { accessFlags := 25, nameIndex := 24, descriptorIndex := 25, attributes := #[] }, { accessFlags := 25, nameIndex := 162, descriptorIndex := 25, attributes := #[] }, { accessFlags := 25, nameIndex := 187, descriptorIndex := 25, attributes := #[] }, { accessFlags := 26, nameIndex := 48, descriptorIndex := 25, attributes := #[] }, { accessFlags := 25, nameIndex := 277, descriptorIndex := 25, attributes := #[] }, { accessFlags := 25, nameIndex := 280, descriptorIndex := 25, attributes := #[] }, { accessFlags := 25, nameIndex := 282, descriptorIndex := 25, attributes := #[] }, { accessFlags := 25, nameIndex := 284, descriptorIndex := 25, attributes := #[] }, { accessFlags := 25, nameIndex := 286, descriptorIndex := 25, attributes := #[] }, { accessFlags := 25, nameIndex := 288, descriptorIndex := 25, attributes := #[] }, { accessFlags := 25, nameIndex := 290, descriptorIndex := 25, attributes := #[] }, { accessFlags := 25, nameIndex := 292, descriptorIndex := 25, attributes := #[] }, { accessFlags := 26, nameIndex := 108, descriptorIndex := 109, attributes := #[] }, { accessFlags := 25, nameIndex := 294, descriptorIndex := 25, attributes := #[] }])
  fields := #[{ name := "U", type := (.object "jdk/internal/misc/Unsafe"), accessFlags := 24, slot := 0, constantValue := 0 }, { name := "BIG_ENDIAN", type := .boolean, accessFlags := 26, slot := 1, constantValue := 0 }, { name := "LOG2_ARRAY_BOOLEAN_INDEX_SCALE", type := .int, accessFlags := 25, slot := 2, constantValue := 0 }, { name := "LOG2_ARRAY_BYTE_INDEX_SCALE", type := .int, accessFlags := 25, slot := 3, constantValue := 0 }, { name := "LOG2_ARRAY_CHAR_INDEX_SCALE", type := .int, accessFlags := 25, slot := 4, constantValue := 0 }, { name := "LOG2_ARRAY_SHORT_INDEX_SCALE", type := .int, accessFlags := 25, slot := 5, constantValue := 0 }, { name := "LOG2_ARRAY_INT_INDEX_SCALE", type := .int, accessFlags := 25, slot := 6, constantValue := 0 }, { name := "LOG2_ARRAY_LONG_INDEX_SCALE", type := .int, accessFlags := 25, slot := 7, constantValue := 0 }, { name := "LOG2_ARRAY_FLOAT_INDEX_SCALE", type := .int, accessFlags := 25, slot := 8, constantValue := 0 }, { name := "LOG2_ARRAY_DOUBLE_INDEX_SCALE", type := .int, accessFlags := 25, slot := 9, constantValue := 0 }, { name := "LOG2_BYTE_BIT_SIZE", type := .int, accessFlags := 26, slot := 10, constantValue := 0 }, { name := "T_BOOLEAN", type := .int, accessFlags := 25, slot := 11, constantValue := 0 }, { name := "T_CHAR", type := .int, accessFlags := 25, slot := 12, constantValue := 0 }, { name := "T_FLOAT", type := .int, accessFlags := 25, slot := 13, constantValue := 0 }, { name := "T_DOUBLE", type := .int, accessFlags := 25, slot := 14, constantValue := 0 }, { name := "T_BYTE", type := .int, accessFlags := 25, slot := 15, constantValue := 0 }, { name := "T_SHORT", type := .int, accessFlags := 25, slot := 16, constantValue := 0 }, { name := "T_INT", type := .int, accessFlags := 25, slot := 17, constantValue := 0 }, { name := "T_LONG", type := .int, accessFlags := 25, slot := 18, constantValue := 0 }, { name := "JLA", type := (.object "jdk/internal/access/JavaLangAccess"), accessFlags := 26, slot := 19, constantValue := 0 }, { name := "SOFT_MAX_ARRAY_LENGTH", type := .int, accessFlags := 25, slot := 20, constantValue := 0 }]
  methods := #[k15m0]
  instanceTypes := #[]
  staticTypes := #[(.object "jdk/internal/misc/Unsafe"), .boolean, .int, .int, .int, .int, .int, .int, .int, .int, .int, .int, .int, .int, .int, .int, .int, .int, .int, (.object "jdk/internal/access/JavaLangAccess"), .int]
  resolved := Array.replicate 378 none
  statics := none }

def pool16 : Array CpInfo := pool [(1, u "java/lang/Cloneable"), (0, .class_ 1), (0, u "java/lang/Object"), (0, .class_ 3)] 3

/-- java/lang/Cloneable -/
def k16 : Class := { plain "java/lang/Cloneable" (some 0) with
  accessFlags := 1537
  interfaces := #[]
  cf := some (fileOf pool16 2 #[] #[] 1537 4 #[] #[])
  fields := #[]
  methods := #[]
  instanceTypes := #[]
  staticTypes := #[]
  resolved := Array.replicate 8 none
  statics := none }

/-- the primitive byte -/
def k17 : Class := { plain "byte" none with kind := .primitive 'B', accessFlags := 0x411 }
/-- [B -/
def k18 : Class := { plain "[B" (some 0) with kind := .array 17 .byte, interfaces := #[16, 2], accessFlags := 1041 }

/-- the primitive char -/
def k19 : Class := { plain "char" none with kind := .primitive 'C', accessFlags := 0x411 }
/-- [C -/
def k20 : Class := { plain "[C" (some 0) with kind := .array 19 .char, interfaces := #[16, 2], accessFlags := 1041 }

/-- the primitive int -/
def k21 : Class := { plain "int" none with kind := .primitive 'I', accessFlags := 0x411 }
/-- [I -/
def k22 : Class := { plain "[I" (some 0) with kind := .array 21 .int, interfaces := #[16, 2], accessFlags := 1041 }

def heap : Heap := #[{ cls := 7, slots := #[.long 0, .int 1, .null, .int 0, .null, .int 0, .int 0], vm := .statics 7 },
  { cls := 12, slots := #[.null, .ref 3, .null, .null, .null], vm := .statics 12 },
  { cls := 14, slots := #[.null, .null, .null], vm := .statics 14 },
  { cls := 12, slots := #[.null, .int 1, .int 0, .int 1], vm := .none }]
def classes : Array Class := #[k0, k1, k2, k3, k4, k5, k6, k7, k8, k9, k10, k11, k12, k13, k14, k15, k16, k17, k18, k19, k20, k21, k22]
def interned : List (Array UInt16 × Addr) := []
def slotsUsed : Nat := 19
def theMethod : MethodId := ⟨1, 2⟩
def args0 : Array Value := #[.int 5, .int 6, .int 7, .int 8, .int 1, .int 0]
def aboutOver (below : List Frame) : State where
  vm := { classes := classes, interned := interned.toArray }
  heap := heap
  slotsUsed := slotsUsed
  threads := #[{ frames := .invoking theMethod args0 :: below }]
def below0 : List Frame := [.native { method := ⟨0, 0⟩, args := #[] }]
def about1 : State := aboutOver below0
def p0 : Program := .bare "" "" ""
def e0 : Env := launch0.env 0 0 0
theorem w_frames : about1.frames = Frame.invoking theMethod args0 :: below0 := rfl
set_option maxRecDepth 65536 in
theorem w_args : argsFit about1.vm theMethod args0 = true := by decide +kernel
set_option maxRecDepth 65536 in
theorem w_heap : heapFits about1 = true := by decide +kernel
set_option maxRecDepth 65536 in
theorem w_runnable : about1.curStatus? = some .runnable := by decide +kernel
set_option maxRecDepth 65536 in
theorem w_alone : about1.alone = true := by decide +kernel
set_option maxRecDepth 65536 in
theorem w_named : about1.methodNamed? x = some theMethod := by decide +kernel
set_option maxRecDepth 65536 in
theorem w_hears : about1.hears theMethod below0 = true := by decide +kernel
set_option maxRecDepth 65536 in
theorem w_ripe : about1.ripe theMethod args0 below0 = true := by decide +kernel
theorem w_running : about1.status = .running := rfl
set_option maxRecDepth 65536 in
theorem w_room : about1.hasRoom e0.platform room_1 = true :=
  launch0.hasRoom_least _ room_1 (by decide +kernel) (by decide +kernel) (by decide +kernel) (by decide +kernel) (by decide +kernel) (by decide +kernel)
theorem allAtoms_all (ts : List Jvm.Cond) (a : Array Jvm.Value) (st : Jvm.State) : (allAtoms ts).before a st = ts.all (fun c => c.before a st) := by
  induction ts with
  | nil => rfl
  | cons c t ih =>
    show (Jvm.Cond.and c (allAtoms t)).before a st = _
    rw [Jvm.Cond.before_and, ih, List.all_cons]
def words1 : List Jvm.Cond := Jvm.Cond.code x code maxLocals ret :: tables_1
/-- a 'code' word, met by the world's own term for the bytes: nothing is compared byte by byte -/
theorem code_word {y : MethodName} {bytes : ByteArray} {mx : Nat} {rt : Option FieldType} {a : Array Value} {s : State} {m : MethodId} {meth : Method} {c : Code} (h1 : s.methodNamed? y = some m) (h2 : s.vm.method? m = some meth) (h3 : meth.code = some c) (h4 : c.code = bytes)
    (h5 : (c.maxLocals == mx && c.exceptionTable.isEmpty && decide (c.maxStack ≤ mostOperands) && decide (meth.sig.returnType = rt) && !meth.locks && decide (parseMethodDescriptor y.desc = some meth.sig)) = true) : (Jvm.Cond.code y bytes mx rt).before a s = true := by
  simp only [Bool.and_eq_true, beq_iff_eq, Bool.not_eq_true', decide_eq_true_eq] at h5
  obtain ⟨⟨⟨⟨⟨g1, g2⟩, g3⟩, g4⟩, g5⟩, g6⟩ := h5
  simp [Cond.before, Cond.holds, Cond.value, h1, h2, h3, h4, g1, g2, g3, g4, g5, g6]
def isCode : Jvm.Cond → Bool
  | .code _ _ _ _ => true
  | _ => false
theorem all_split {L : List Jvm.Cond} {P : Jvm.Cond → Bool} (h1 : L.all (fun c => isCode c || P c) = true) (h2 : ∀ c ∈ L.filter isCode, P c = true) : L.all P = true := by
  refine List.all_eq_true.mpr fun c hc => ?_
  have h := List.all_eq_true.mp h1 c hc
  rcases Bool.eq_false_or_eq_true (isCode c) with hi | hi
  · exact h2 c (List.mem_filter.mpr ⟨hc, hi⟩)
  · simpa [hi] using h
set_option maxRecDepth 65536 in
theorem w_c0 : (Jvm.Cond.code x code maxLocals ret).before args0 about1 = true := code_word (m := ⟨1, 2⟩) (meth := k1m2) (c := k1c2) (by decide +kernel) rfl rfl rfl (by decide +kernel)
set_option maxRecDepth 65536 in
theorem w_c1 : (Jvm.Cond.code ({ cls := "com/example/roleward/roleward/model/RoleOfTenantPinLaw", name := "str", desc := "(IZ)Ljava/lang/String;" } : Jvm.MethodName) method_2_code (3 : Nat) (Option.some (Jvm.ClassFile.FieldType.object "java/lang/String"))).before args0 about1 = true := code_word (m := ⟨1, 1⟩) (meth := k1m1) (c := k1c1) (by decide +kernel) rfl rfl rfl (by decide +kernel)
set_option maxRecDepth 65536 in
theorem w_c2 : (Jvm.Cond.code ({ cls := "java/lang/String", name := "<init>", desc := "([C)V" } : Jvm.MethodName) jdk_42_method_3_code (2 : Nat) (Option.none : Option Jvm.ClassFile.FieldType)).before args0 about1 = true := code_word (m := ⟨7, 1⟩) (meth := k7m1) (c := k7c1) (by decide +kernel) rfl rfl rfl (by decide +kernel)
set_option maxRecDepth 65536 in
theorem w_c3 : (Jvm.Cond.code ({ cls := "java/lang/String", name := "<init>", desc := "([CIILjava/lang/Void;)V" } : Jvm.MethodName) jdk_42_method_149_code (6 : Nat) (Option.none : Option Jvm.ClassFile.FieldType)).before args0 about1 = true := code_word (m := ⟨7, 2⟩) (meth := k7m2) (c := k7c2) (by decide +kernel) rfl rfl rfl (by decide +kernel)
set_option maxRecDepth 65536 in
theorem w_c4 : (Jvm.Cond.code ({ cls := "java/lang/Object", name := "<init>", desc := "()V" } : Jvm.MethodName) object_method_1_code (1 : Nat) (Option.none : Option Jvm.ClassFile.FieldType)).before args0 about1 = true := code_word (m := ⟨0, 0⟩) (meth := k0m0) (c := k0c0) (by decide +kernel) rfl rfl rfl (by decide +kernel)
set_option maxRecDepth 65536 in
theorem w_c5 : (Jvm.Cond.code ({ cls := "java/lang/StringUTF16", name := "compress", desc := "([CII)[B" } : Jvm.MethodName) jdk_52_method_16_code (6 : Nat) (Option.some (Jvm.ClassFile.FieldType.array Jvm.ClassFile.FieldType.byte))).before args0 about1 = true := code_word (m := ⟨8, 2⟩) (meth := k8m2) (c := k8c2) (by decide +kernel) rfl rfl rfl (by decide +kernel)
set_option maxRecDepth 65536 in
theorem w_c6 : (Jvm.Cond.code ({ cls := "java/lang/StringUTF16", name := "compress", desc := "([CI[BII)I" } : Jvm.MethodName) jdk_52_method_21_code (7 : Nat) (Option.some Jvm.ClassFile.FieldType.int)).before args0 about1 = true := code_word (m := ⟨8, 3⟩) (meth := k8m3) (c := k8c3) (by decide +kernel) rfl rfl rfl (by decide +kernel)
set_option maxRecDepth 65536 in
theorem w_c7 : (Jvm.Cond.code ({ cls := "java/lang/StringUTF16", name := "coderFromArrayLen", desc := "([BI)B" } : Jvm.MethodName) jdk_52_method_15_code (2 : Nat) (Option.some Jvm.ClassFile.FieldType.byte)).before args0 about1 = true := code_word (m := ⟨8, 1⟩) (meth := k8m1) (c := k8c1) (by decide +kernel) rfl rfl rfl (by decide +kernel)
set_option maxRecDepth 65536 in
theorem w_c8 : (Jvm.Cond.code ({ cls := "com/example/roleward/roleward/model/Role", name := "ofTenant", desc := "(Ljava/lang/String;Ljava/lang/String;Ljava/lang/String;Ljava/lang/String;Ljava/lang/String;)Lcom/example/roleward/roleward/model/Role;" } : Jvm.MethodName) prog_12_method_2_code (5 : Nat) (Option.some (Jvm.ClassFile.FieldType.object "com/example/roleward/roleward/model/Role"))).before args0 about1 = true := code_word (m := ⟨10, 1⟩) (meth := k10m1) (c := k10c1) (by decide +kernel) rfl rfl rfl (by decide +kernel)
set_option maxRecDepth 65536 in
theorem w_c9 : (Jvm.Cond.code ({ cls := "com/example/roleward/roleward/model/Role", name := "<init>", desc := "(Ljava/lang/String;Ljava/lang/String;Ljava/lang/String;Lcom/example/roleward/roleward/model/RoleScope;Ljava/lang/String;Ljava/lang/String;Ljava/lang/String;)V" } : Jvm.MethodName) prog_12_method_1_code (8 : Nat) (Option.none : Option Jvm.ClassFile.FieldType)).before args0 about1 = true := code_word (m := ⟨10, 0⟩) (meth := k10m0) (c := k10c0) (by decide +kernel) rfl rfl rfl (by decide +kernel)
set_option maxRecDepth 65536 in
theorem w_c10 : (Jvm.Cond.code ({ cls := "java/lang/Record", name := "<init>", desc := "()V" } : Jvm.MethodName) jdk_30_method_1_code (1 : Nat) (Option.none : Option Jvm.ClassFile.FieldType)).before args0 about1 = true := code_word (m := ⟨9, 0⟩) (meth := k9m0) (c := k9c0) (by decide +kernel) rfl rfl rfl (by decide +kernel)
set_option maxRecDepth 65536 in
theorem w_c11 : (Jvm.Cond.code ({ cls := "com/example/roleward/roleward/model/Role", name := "id", desc := "()Ljava/lang/String;" } : Jvm.MethodName) prog_12_method_6_code (1 : Nat) (Option.some (Jvm.ClassFile.FieldType.object "java/lang/String"))).before args0 about1 = true := code_word (m := ⟨10, 2⟩) (meth := k10m2) (c := k10c2) (by decide +kernel) rfl rfl rfl (by decide +kernel)
set_option maxRecDepth 65536 in
theorem w_c12 : (Jvm.Cond.code ({ cls := "com/example/roleward/roleward/model/Role", name := "name", desc := "()Ljava/lang/String;" } : Jvm.MethodName) prog_12_method_7_code (1 : Nat) (Option.some (Jvm.ClassFile.FieldType.object "java/lang/String"))).before args0 about1 = true := code_word (m := ⟨10, 3⟩) (meth := k10m3) (c := k10c3) (by decide +kernel) rfl rfl rfl (by decide +kernel)
set_option maxRecDepth 65536 in
theorem w_c13 : (Jvm.Cond.code ({ cls := "com/example/roleward/roleward/model/Role", name := "description", desc := "()Ljava/lang/String;" } : Jvm.MethodName) prog_12_method_8_code (1 : Nat) (Option.some (Jvm.ClassFile.FieldType.object "java/lang/String"))).before args0 about1 = true := code_word (m := ⟨10, 4⟩) (meth := k10m4) (c := k10c4) (by decide +kernel) rfl rfl rfl (by decide +kernel)
set_option maxRecDepth 65536 in
theorem w_c14 : (Jvm.Cond.code ({ cls := "com/example/roleward/roleward/model/Role", name := "scope", desc := "()Lcom/example/roleward/roleward/model/RoleScope;" } : Jvm.MethodName) prog_12_method_9_code (1 : Nat) (Option.some (Jvm.ClassFile.FieldType.object "com/example/roleward/roleward/model/RoleScope"))).before args0 about1 = true := code_word (m := ⟨10, 5⟩) (meth := k10m5) (c := k10c5) (by decide +kernel) rfl rfl rfl (by decide +kernel)
set_option maxRecDepth 65536 in
theorem w_c15 : (Jvm.Cond.code ({ cls := "com/example/roleward/roleward/model/Role", name := "tenantId", desc := "()Ljava/lang/String;" } : Jvm.MethodName) prog_12_method_10_code (1 : Nat) (Option.some (Jvm.ClassFile.FieldType.object "java/lang/String"))).before args0 about1 = true := code_word (m := ⟨10, 6⟩) (meth := k10m6) (c := k10c6) (by decide +kernel) rfl rfl rfl (by decide +kernel)
set_option maxRecDepth 65536 in
theorem w_c16 : (Jvm.Cond.code ({ cls := "com/example/roleward/roleward/model/Role", name := "communityId", desc := "()Ljava/lang/String;" } : Jvm.MethodName) prog_12_method_11_code (1 : Nat) (Option.some (Jvm.ClassFile.FieldType.object "java/lang/String"))).before args0 about1 = true := code_word (m := ⟨10, 7⟩) (meth := k10m7) (c := k10c7) (by decide +kernel) rfl rfl rfl (by decide +kernel)
set_option maxRecDepth 65536 in
theorem w_c17 : (Jvm.Cond.code ({ cls := "com/example/roleward/roleward/model/Role", name := "roleTypeId", desc := "()Ljava/lang/String;" } : Jvm.MethodName) prog_12_method_12_code (1 : Nat) (Option.some (Jvm.ClassFile.FieldType.object "java/lang/String"))).before args0 about1 = true := code_word (m := ⟨10, 8⟩) (meth := k10m8) (c := k10c8) (by decide +kernel) rfl rfl rfl (by decide +kernel)
def codes1 : List Jvm.Cond := [Jvm.Cond.code x code maxLocals ret, Jvm.Cond.code ({ cls := "com/example/roleward/roleward/model/RoleOfTenantPinLaw", name := "str", desc := "(IZ)Ljava/lang/String;" } : Jvm.MethodName) method_2_code (3 : Nat) (Option.some (Jvm.ClassFile.FieldType.object "java/lang/String")), Jvm.Cond.code ({ cls := "java/lang/String", name := "<init>", desc := "([C)V" } : Jvm.MethodName) jdk_42_method_3_code (2 : Nat) (Option.none : Option Jvm.ClassFile.FieldType), Jvm.Cond.code ({ cls := "java/lang/String", name := "<init>", desc := "([CIILjava/lang/Void;)V" } : Jvm.MethodName) jdk_42_method_149_code (6 : Nat) (Option.none : Option Jvm.ClassFile.FieldType), Jvm.Cond.code ({ cls := "java/lang/Object", name := "<init>", desc := "()V" } : Jvm.MethodName) object_method_1_code (1 : Nat) (Option.none : Option Jvm.ClassFile.FieldType), Jvm.Cond.code ({ cls := "java/lang/StringUTF16", name := "compress", desc := "([CII)[B" } : Jvm.MethodName) jdk_52_method_16_code (6 : Nat) (Option.some (Jvm.ClassFile.FieldType.array Jvm.ClassFile.FieldType.byte)), Jvm.Cond.code ({ cls := "java/lang/StringUTF16", name := "compress", desc := "([CI[BII)I" } : Jvm.MethodName) jdk_52_method_21_code (7 : Nat) (Option.some Jvm.ClassFile.FieldType.int), Jvm.Cond.code ({ cls := "java/lang/StringUTF16", name := "coderFromArrayLen", desc := "([BI)B" } : Jvm.MethodName) jdk_52_method_15_code (2 : Nat) (Option.some Jvm.ClassFile.FieldType.byte), Jvm.Cond.code ({ cls := "com/example/roleward/roleward/model/Role", name := "ofTenant", desc := "(Ljava/lang/String;Ljava/lang/String;Ljava/lang/String;Ljava/lang/String;Ljava/lang/String;)Lcom/example/roleward/roleward/model/Role;" } : Jvm.MethodName) prog_12_method_2_code (5 : Nat) (Option.some (Jvm.ClassFile.FieldType.object "com/example/roleward/roleward/model/Role")), Jvm.Cond.code ({ cls := "com/example/roleward/roleward/model/Role", name := "<init>", desc := "(Ljava/lang/String;Ljava/lang/String;Ljava/lang/String;Lcom/example/roleward/roleward/model/RoleScope;Ljava/lang/String;Ljava/lang/String;Ljava/lang/String;)V" } : Jvm.MethodName) prog_12_method_1_code (8 : Nat) (Option.none : Option Jvm.ClassFile.FieldType), Jvm.Cond.code ({ cls := "java/lang/Record", name := "<init>", desc := "()V" } : Jvm.MethodName) jdk_30_method_1_code (1 : Nat) (Option.none : Option Jvm.ClassFile.FieldType), Jvm.Cond.code ({ cls := "com/example/roleward/roleward/model/Role", name := "id", desc := "()Ljava/lang/String;" } : Jvm.MethodName) prog_12_method_6_code (1 : Nat) (Option.some (Jvm.ClassFile.FieldType.object "java/lang/String")), Jvm.Cond.code ({ cls := "com/example/roleward/roleward/model/Role", name := "name", desc := "()Ljava/lang/String;" } : Jvm.MethodName) prog_12_method_7_code (1 : Nat) (Option.some (Jvm.ClassFile.FieldType.object "java/lang/String")), Jvm.Cond.code ({ cls := "com/example/roleward/roleward/model/Role", name := "description", desc := "()Ljava/lang/String;" } : Jvm.MethodName) prog_12_method_8_code (1 : Nat) (Option.some (Jvm.ClassFile.FieldType.object "java/lang/String")), Jvm.Cond.code ({ cls := "com/example/roleward/roleward/model/Role", name := "scope", desc := "()Lcom/example/roleward/roleward/model/RoleScope;" } : Jvm.MethodName) prog_12_method_9_code (1 : Nat) (Option.some (Jvm.ClassFile.FieldType.object "com/example/roleward/roleward/model/RoleScope")), Jvm.Cond.code ({ cls := "com/example/roleward/roleward/model/Role", name := "tenantId", desc := "()Ljava/lang/String;" } : Jvm.MethodName) prog_12_method_10_code (1 : Nat) (Option.some (Jvm.ClassFile.FieldType.object "java/lang/String")), Jvm.Cond.code ({ cls := "com/example/roleward/roleward/model/Role", name := "communityId", desc := "()Ljava/lang/String;" } : Jvm.MethodName) prog_12_method_11_code (1 : Nat) (Option.some (Jvm.ClassFile.FieldType.object "java/lang/String")), Jvm.Cond.code ({ cls := "com/example/roleward/roleward/model/Role", name := "roleTypeId", desc := "()Ljava/lang/String;" } : Jvm.MethodName) prog_12_method_12_code (1 : Nat) (Option.some (Jvm.ClassFile.FieldType.object "java/lang/String"))]
set_option maxRecDepth 65536 in
theorem codes_eq : words1.filter isCode = codes1 := rfl
theorem w_codes : ∀ c ∈ words1.filter isCode, c.before args0 about1 = true := by
  rw [codes_eq]
  intro c hc
  simp only [codes1, List.mem_cons, List.not_mem_nil, or_false] at hc
  rcases hc with rfl | rfl | rfl | rfl | rfl | rfl | rfl | rfl | rfl | rfl | rfl | rfl | rfl | rfl | rfl | rfl | rfl | rfl
  · exact w_c0
  · exact w_c1
  · exact w_c2
  · exact w_c3
  · exact w_c4
  · exact w_c5
  · exact w_c6
  · exact w_c7
  · exact w_c8
  · exact w_c9
  · exact w_c10
  · exact w_c11
  · exact w_c12
  · exact w_c13
  · exact w_c14
  · exact w_c15
  · exact w_c16
  · exact w_c17
set_option maxRecDepth 65536 in
theorem w_t1 : (words1.take 24).all (fun c => isCode c || c.before args0 about1) = true := by decide +kernel
set_option maxRecDepth 65536 in
theorem w_t2 : ((words1.drop 24).take 24).all (fun c => isCode c || c.before args0 about1) = true := by decide +kernel
set_option maxRecDepth 65536 in
theorem w_t3 : (((words1.drop 24).drop 24).take 24).all (fun c => isCode c || c.before args0 about1) = true := by decide +kernel
set_option maxRecDepth 65536 in
theorem w_t4 : ((((words1.drop 24).drop 24).drop 24).take 24).all (fun c => isCode c || c.before args0 about1) = true := by decide +kernel
set_option maxRecDepth 65536 in
theorem w_t5 : ((((words1.drop 24).drop 24).drop 24).drop 24).all (fun c => isCode c || c.before args0 about1) = true := by decide +kernel
theorem w_tables : (allAtoms (Jvm.Cond.code x code maxLocals ret :: tables_1)).before args0 about1 = true := by
  rw [allAtoms_all]
  show words1.all (fun c => c.before args0 about1) = true
  refine all_split ?_ w_codes
  rw [← List.take_append_drop 24 words1, List.all_append, w_t1, ← List.take_append_drop 24 (words1.drop 24), List.all_append, w_t2, ← List.take_append_drop 24 ((words1.drop 24).drop 24), List.all_append, w_t3, ← List.take_append_drop 24 (((words1.drop 24).drop 24).drop 24), List.all_append, w_t4, w_t5]
  rfl
set_option maxRecDepth 65536 in
theorem w_rest : rest_1_c.before args0 about1 = true := by decide +kernel
set_option maxRecDepth 65536 in
theorem w_case : (Jvm.Cond.and given_1 narrow_1).before args0 about1 = true := by decide +kernel
set_option maxRecDepth 65536 in
theorem w_consts : constsHeld consts_1 about1 := Jvm.Lit.constsHeldB_iff.mp (by decide +kernel)
theorem w_applies : (headSpec (Jvm.Cond.code x code maxLocals ret :: tables_1) room_1).applies x e0.platform about1 = true :=
  (Spec.applies_iff w_frames).mpr ⟨w_running, w_runnable, w_alone, w_named, w_hears, w_ripe, w_room, w_tables⟩
theorem atStart : AtStart classFile x code maxLocals ret World_1 tables_1 room_1 Calls_1 rest_1 Pre_1 launch0 p0 e0 about1 theMethod args0 below0 :=
  ⟨lists_1, trivial, launch0.admits_env _ _ _, launch0.least_env, fairChoices_fair.cas, fairChoices_fair.clock, w_frames, w_args, w_heap, w_applies, ⟨w_consts, trivial⟩, w_rest, w_case⟩
end start1
theorem witness_1 : WitnessClaimed_1 := ⟨start1.p0, start1.e0, start1.about1, start1.theMethod, start1.args0, start1.below0, start1.atStart⟩
end Jvm.Pilot.@@N@@
